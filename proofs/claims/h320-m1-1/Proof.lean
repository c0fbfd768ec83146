import JvmDerived
import JvmDerived.Pilot.@@N@@Statement
import JvmDerived.Pilot.@@N@@Code
set_option linter.unusedVariables false
set_option linter.unusedSimpArgs false

namespace Jvm.RoadKit
open Sem ClassFile Op Lib Jvm.Stand Jvm.Free Jvm.LawKit
section New
variable {p : Program} {l : Launch} {e : Env} {R : Room} {s : State} {m : MethodId} {args : Array Value} {below : List Frame} {meth : Method} {c : Code} {T : State} {locs : List Loc} {cells slots : Nat}
theorem retI (X : Stand p l e R s m args below meth c T locs cells slots) (hx : p.tables.exec = Jvm.exec) {pc : Nat} {Ls : Array Slot} {z : Int32} {rest : List Value} (hret : meth.sig.returnType = some .int) (hd : decode c.code pc = .ok (.ireturn, 1)) {fs : List Frame}
    (hl : ∀ (f : JFrame) (acts : List Action), f.method = m → f.locked = none → f.entered = [] → (doReturn e (T.setTop f) acts (some (.int z))).1 = T.setFrames fs) : Steps p.tables e below (T.setTop (mkF m pc Ls (.int z :: rest))) (T.setFrames fs) := by
  have hm' : T.vm.method? m = some meth := X.method'
  have hn : narrow .int (.int z) = .int z := rfl
  show Steps p.tables e below (T.setTop { method := m, pc := pc, locals := Ls, stack := _ :: rest, locked := none }) _
  jvm_step X.here [X.here.top, hx, hd, hm', hret, hn]
  first | (intro acts; rw [hl _ acts rfl rfl rfl]) | rw [hl _ _ rfl rfl rfl]
  exact Steps.refl _
theorem own_lrem {g : JFrame} {target : State} (X : Stand p l e R s m args below meth c T locs cells slots) (hx : p.tables.exec = Jvm.exec) (hg : g.method = m) {x y : Int64} {rest : List Value} (hd : decode c.code g.pc = .ok (.lrem, 1)) (hs : g.stack = .long y :: .long x :: rest) (hy : y ≠ 0)
    (hr : Steps p.tables e below (T.setTop { g with pc := g.pc + 1, stack := .long (x % y) :: rest }) target) : Steps p.tables e below (T.setTop g) target := by
  have q : x - x / y * y = x % y := lrem_mod x y
  exact XS.lrem X.here hx hg hd hs hy (by rw [q]; exact hr)
end New
end Jvm.RoadKit

namespace Jvm.Pilot.@@N@@
open Jvm Jvm.ClassFile Sem Op Lib Jvm.Free Jvm.Stand Jvm.LawKit Jvm.RoadKit Bundle Jvm.Pilot.@@N@@.Jvm.D
def own_sh (x : Int64) (k : Int32) : Int64 := ((x.toUInt64 >>> (k &&& 0x3f).toInt64.toUInt64).toInt64)
def own_st (x : Int64) : Int64 := ((x ^^^ (own_sh x (29 : Int32))) * (-4658895280553007687 : Int64))
def own_x0 (r : Int64) (f : Int32) : Int64 := (((r * (6364136223846793005 : Int64)) + (1442695040888963407 : Int64)) + (f.toInt64))
def own_xs (x : Int64) : Nat → Int64
  | 0 => x
  | n + 1 => own_st (own_xs x n)
def own_by (y : Int64) : Int32 := (((((97 : Int64) + ((own_sh y (33 : Int32)) % (26 : Int64))).toInt32).toInt8.toInt32).toInt8.toInt32)
def own_f (x : Int64) (j : Nat) : Int32 := own_by (own_xs x (j + 1))
def own_list (x : Int64) (i : Nat) : List Value := (List.range 32).map fun j => if j < i then Value.int (own_f x j) else Value.int (0 : Int32)
theorem own_len (x : Int64) (i : Nat) : (own_list x i).length = 32 := by simp [own_list]
theorem own_at (x : Int64) (i j : Nat) (h : j < 32) (d : Value) : (own_list x i).getD j d = if j < i then Value.int (own_f x j) else Value.int (0 : Int32) := by
  rw [List.getD_eq_getElem?_getD]
  simp [own_list, h]
theorem own_set (x : Int64) (i : Nat) (h : i < 32) : (own_list x i).set i (Value.int (own_f x i)) = own_list x (i + 1) := by
  apply List.ext_getElem
  · simp [own_list]
  · intro j h1 h2
    rw [List.getElem_set]
    simp only [own_list, List.getElem_map, List.getElem_range]
    by_cases e : i = j
    · subst e; rw [if_pos rfl, if_pos (by omega)]
    · rw [if_neg e]
      by_cases k : j < i
      · rw [if_pos k, if_pos (by omega)]
      · rw [if_neg k, if_neg (by omega)]
theorem own_clamp (i : Nat) (h : i < 32) : (Int32.ofNat i).toNatClampNeg = i := by
  have e : (Int32.ofNat i).toInt = i := len_toInt (by omega)
  simp only [Int32.toNatClampNeg, e]; rfl
theorem own_get (x : Int64) (i : Nat) (h : i < 32) : (own_list x 32).getD (Int32.ofNat i).toNatClampNeg (.int (0 : Int32)) = Value.int (own_f x i) := by
  rw [own_clamp i h, own_at x 32 i h, if_pos h]
theorem own_in (i : Nat) (h : i < 32) : ¬ Int32.ofNat i < 0 ∧ Int32.ofNat i < (32 : Int32) := by
  have e : (Int32.ofNat i).toInt = i := len_toInt (by omega)
  simp only [Int32.lt_iff_toInt_lt, e, Int32.reduceToInt]; omega
theorem own_up (i : Nat) (h : i < 32) : (Int32.ofNat i) + (1 : Int32) = Int32.ofNat (i + 1) := by
  have e : (Int32.ofNat i).toInt = i := len_toInt (by omega)
  have e' : (Int32.ofNat (i + 1)).toInt = ((i + 1 : Nat) : Int) := len_toInt (by omega)
  have a := c_iadd (Int32.ofNat i) 1
  have b := rng32 (Int32.ofNat i + 1)
  rw [← Int32.toInt_inj, e']
  simp only [Int32.reduceToInt] at a
  omega
theorem own_mask (a : Int32) : ∃ n : Nat, n < 32 ∧ (a &&& (31 : Int32)) = Int32.ofNat n := by
  have h1 := c_mask a 31 5 (by decide) (by decide)
  simp only [show ((2 ^ 5 : Nat) : Int) = 32 from rfl] at h1
  refine ⟨(a &&& (31 : Int32)).toInt.toNat, by omega, ?_⟩
  rw [← Int32.toInt_inj, show (Int32.ofNat _).toInt = _ from len_toInt (by omega)]
  omega
theorem own_rem (y : Int64) : 0 ≤ ((own_sh y (33 : Int32)) % (26 : Int64)).toInt ∧ ((own_sh y (33 : Int32)) % (26 : Int64)).toInt < 26 := by
  have h := c_lushr y 33 33 (by decide) (by decide)
  have e : (own_sh y (33 : Int32)).toInt = (y.toInt % 18446744073709551616) / (2 ^ 33 : Nat) := h
  have p : 0 ≤ (own_sh y (33 : Int32)).toInt := by rw [e]; omega
  rw [Int64.toInt_mod, show (26 : Int64).toInt = 26 from rfl, Int.tmod_eq_emod_of_nonneg p]
  omega
theorem own_byv (y : Int64) : (own_by y).toInt = 97 + ((own_sh y (33 : Int32)) % (26 : Int64)).toInt := by
  have h := own_rem y
  have a := c_ladd 97 ((own_sh y (33 : Int32)) % (26 : Int64))
  have b := rng64 ((97 : Int64) + ((own_sh y (33 : Int32)) % (26 : Int64)))
  have d := c_l2i ((97 : Int64) + ((own_sh y (33 : Int32)) % (26 : Int64)))
  have r := rng32 (((97 : Int64) + ((own_sh y (33 : Int32)) % (26 : Int64))).toInt32)
  have i1 := c_i2b (((97 : Int64) + ((own_sh y (33 : Int32)) % (26 : Int64))).toInt32)
  have i2 := c_i2b ((((97 : Int64) + ((own_sh y (33 : Int32)) % (26 : Int64))).toInt32).toInt8.toInt32)
  simp only [Int64.reduceToInt] at a
  unfold own_by
  omega
theorem own_rng (x : Int64) (j : Nat) : ¬ own_f x j < (97 : Int32) ∧ ¬ (122 : Int32) < own_f x j := by
  have h := own_byv (own_xs x (j + 1))
  have k := own_rem (own_xs x (j + 1))
  simp only [own_f, Int32.lt_iff_toInt_lt, Int32.reduceToInt]
  omega
theorem own_first (x : Int64) : own_f x 0 = ((97 : Int32) + (((own_sh (own_st x) (33 : Int32)) % (26 : Int64)).toInt32)) := by
  have h := own_byv (own_st x)
  have k := own_rem (own_st x)
  have a := c_iadd 97 (((own_sh (own_st x) (33 : Int32)) % (26 : Int64)).toInt32)
  have b := rng32 ((97 : Int32) + (((own_sh (own_st x) (33 : Int32)) % (26 : Int64)).toInt32))
  have d := c_l2i ((own_sh (own_st x) (33 : Int32)) % (26 : Int64))
  have r := rng32 (((own_sh (own_st x) (33 : Int32)) % (26 : Int64)).toInt32)
  rw [← Int32.toInt_inj]
  simp only [Int32.reduceToInt] at a
  show (own_by (own_st x)).toInt = _
  omega
theorem own_four (a : Int32) : (a &&& (3 : Int32)) = (0 : Int32) ∨ (a &&& (3 : Int32)) = (1 : Int32) ∨ (a &&& (3 : Int32)) = (2 : Int32) ∨ (a &&& (3 : Int32)) = (3 : Int32) := by
  have h1 := c_mask a 3 2 (by decide) (by decide)
  simp only [show ((2 ^ 2 : Nat) : Int) = 4 from rfl] at h1
  simp only [← Int32.toInt_inj, Int32.reduceToInt]
  omega
def own_ch (w : Int32) : Int32 := (((w &&& (255 : Int32)).toUInt32.toUInt16.toUInt32.toInt32).toUInt32.toUInt16.toUInt32.toInt32)
def own_lit (vs : List Int32) (j : Nat) : Int32 := ((own_ch (vs.getD j 0)).toUInt32.toUInt16.toUInt32.toInt32)
theorem own_map (vs : List Int32) (hl : vs.length = 32) (j : Nat) (h : j < 32) (d : Value) : (vs.map Value.int).getD (Int32.ofNat j).toNatClampNeg d = Value.int (vs.getD j 0) := by
  rw [own_clamp j h, List.getD_eq_getElem?_getD, List.getD_eq_getElem?_getD]
  simp [hl, h]
def own_l0 : List Int32 := [117, 121, 99, 110, 110, 122, 111, 100, 112, 104, 121, 119, 115, 106, 110, 107, 109, 110, 113, 119, 102, 112, 119, 119, 112, 104, 113, 100, 101, 110, 111, 116]
theorem own_pub0 : ∀ j : Nat, j < 32 → own_f (own_x0 (0 : Int64) ((0 : Int32) &&& (1 : Int32))) j = own_lit own_l0 j := by decide +kernel
def own_l1 : List Int32 := [98, 119, 113, 97, 97, 110, 109, 108, 115, 115, 104, 121, 112, 102, 108, 106, 116, 116, 111, 112, 106, 103, 111, 112, 116, 97, 103, 116, 116, 101, 111, 99]
theorem own_pub1 : ∀ j : Nat, j < 32 → own_f (own_x0 (0 : Int64) ((1 : Int32) &&& (1 : Int32))) j = own_lit own_l1 j := by decide +kernel
def own_l2 : List Int32 := [99, 107, 110, 107, 98, 118, 100, 112, 99, 111, 118, 104, 120, 117, 102, 107, 106, 120, 114, 116, 115, 109, 113, 107, 107, 104, 110, 117, 104, 122, 110, 112]
theorem own_pub2 : ∀ j : Nat, j < 32 → own_f (own_x0 (19999999 : Int64) ((2 : Int32) &&& (1 : Int32))) j = own_lit own_l2 j := by decide +kernel
def own_l3 : List Int32 := [108, 106, 102, 119, 98, 120, 109, 116, 107, 121, 99, 115, 114, 103, 113, 114, 120, 109, 110, 106, 97, 110, 116, 105, 105, 116, 99, 119, 108, 112, 98, 122]
theorem own_pub3 : ∀ j : Nat, j < 32 → own_f (own_x0 (19999999 : Int64) ((3 : Int32) &&& (1 : Int32))) j = own_lit own_l3 j := by decide +kernel
theorem pd_0 : parseMethodDescriptor "(IILjava/util/function/BiFunction;)I" = some ⟨[.int, .int, (.object "java/util/function/BiFunction")], some .int⟩ := by decide +kernel
theorem pd_1 : parseMethodDescriptor "(II)V" = some ⟨[.int, .int], none⟩ := by decide +kernel
theorem pd_2 : parseMethodDescriptor "()Z" = some ⟨[], some .boolean⟩ := by decide +kernel
theorem pd_3 : parseMethodDescriptor "([BI)C" = some ⟨[(.array .byte), .int], some .char⟩ := by decide +kernel
theorem pd_4 : parseMethodDescriptor "(JI)[B" = some ⟨[.long, .int], some (.array .byte)⟩ := by decide +kernel
theorem pd_5 : parseMethodDescriptor "(I)C" = some ⟨[.int], some .char⟩ := by decide +kernel
theorem d1_22 : decode prog_2_method_3_code 22 = .ok (.iload 6, 2) := by decide +kernel
theorem d1_24 : decode prog_2_method_3_code 24 = .ok (.bipush 32, 2) := by decide +kernel
theorem d1_26 : decode prog_2_method_3_code 26 = .ok (.if_icmp .ge 41, 3) := by decide +kernel
theorem d1_29 : decode prog_2_method_3_code 29 = .ok (.lload_n 3, 1) := by decide +kernel
theorem d1_30 : decode prog_2_method_3_code 30 = .ok (.lload_n 3, 1) := by decide +kernel
theorem d1_31 : decode prog_2_method_3_code 31 = .ok (.bipush 29, 2) := by decide +kernel
theorem d1_33 : decode prog_2_method_3_code 33 = .ok (.lushr, 1) := by decide +kernel
theorem d1_34 : decode prog_2_method_3_code 34 = .ok (.lxor, 1) := by decide +kernel
theorem d1_35 : decode prog_2_method_3_code 35 = .ok (.lstore_n 3, 1) := by decide +kernel
theorem d1_36 : decode prog_2_method_3_code 36 = .ok (.lload_n 3, 1) := by decide +kernel
theorem d1_37 : decode prog_2_method_3_code 37 = .ok (.ldc2_w 27, 3) := by decide +kernel
theorem d1_40 : decode prog_2_method_3_code 40 = .ok (.lmul, 1) := by decide +kernel
theorem d1_41 : decode prog_2_method_3_code 41 = .ok (.lstore_n 3, 1) := by decide +kernel
theorem d1_42 : decode prog_2_method_3_code 42 = .ok (.aload 5, 2) := by decide +kernel
theorem d1_44 : decode prog_2_method_3_code 44 = .ok (.iload 6, 2) := by decide +kernel
theorem d1_46 : decode prog_2_method_3_code 46 = .ok (.ldc2_w 29, 3) := by decide +kernel
theorem d1_49 : decode prog_2_method_3_code 49 = .ok (.lload_n 3, 1) := by decide +kernel
theorem d1_50 : decode prog_2_method_3_code 50 = .ok (.bipush 33, 2) := by decide +kernel
theorem d1_52 : decode prog_2_method_3_code 52 = .ok (.lushr, 1) := by decide +kernel
theorem d1_53 : decode prog_2_method_3_code 53 = .ok (.ldc2_w 31, 3) := by decide +kernel
theorem d1_56 : decode prog_2_method_3_code 56 = .ok (.lrem, 1) := by decide +kernel
theorem d1_57 : decode prog_2_method_3_code 57 = .ok (.ladd, 1) := by decide +kernel
theorem d1_58 : decode prog_2_method_3_code 58 = .ok (.l2i, 1) := by decide +kernel
theorem d1_59 : decode prog_2_method_3_code 59 = .ok (.i2b, 1) := by decide +kernel
theorem d1_60 : decode prog_2_method_3_code 60 = .ok (.bastore, 1) := by decide +kernel
theorem d1_61 : decode prog_2_method_3_code 61 = .ok (.iinc 6 1, 3) := by decide +kernel
theorem d1_64 : decode prog_2_method_3_code 64 = .ok (.goto (-42), 3) := by decide +kernel
set_option maxRecDepth 65536 in
set_option maxHeartbeats 40000000 in
theorem tn1 {p : Program} {l : Launch} {e : Env} {R : Room} {s : State} {m : MethodId} {args : Array Value} {below : List Frame} {meth : Method} {c : Code} {T0 : State} {locs : List Loc} {cells slots : Nat} {Z : State} {a0 : Array Value} {h0 : Heap} {n0 : Nat} (q0 : Int64) (p1 : Int32) (x : Int64) (b : Addr) (i : Nat) (kb : ClassId) (vs : List Value)
    (X0 : Stand p l e R s m args below meth c T0 locs cells slots) (hx : p.tables.exec = Jvm.exec) (hZ : Z.Warmed39 s.vm) (hw : ∀ d ∈ tables_1, d.before a0 Z = true) (hby : c.code = prog_2_method_3_code) (hml : c.maxLocals = 7) (hown : s.vm.findClass "com/example/brannan/bench/ScanTable" = some m.cls) (e0 : T0.heap = h0) (N0 : Fr n0 locs) (Z0 : n0 ≤ h0.size) (V : Arv Z h0 b kb .byte (32 : Int32) vs (.int (0 : Int32))) (hvl : vs.length = 32) (hi : i < 32) (g_b : n0 ≤ b) :
    ∃ (T' : State) (locs' : List Loc) (h' : Heap), Stand p l e R s m args below meth c T' locs' cells slots ∧ T'.heap = h' ∧ Fr n0 locs' ∧ Keep h0 h' [b] ∧ Arv Z h' b kb .byte (32 : Int32) (vs.set i (.int (own_by (own_st x)))) (.int (0 : Int32)) ∧ ∀ t, Steps p.tables e below (T'.setTop (mkF m 22 #[.val (.long q0), .second, .val (.int p1), .val (.long (own_st x)), .second, .val (.ref b), .val (.int ((Int32.ofNat i) + (1 : Int32)))] [])) t → Steps p.tables e below (T0.setTop (mkF m 22 #[.val (.long q0), .second, .val (.int p1), .val (.long x), .second, .val (.ref b), .val (.int (Int32.ofNat i))] [])) t := by
  have c1 : ∀ t, Steps p.tables e below (T0.setTop (mkF m 42 #[.val (.long q0), .second, .val (.int p1), .val (.long ((x ^^^ ((x.toUInt64 >>> ((29 : Int32) &&& 0x3f).toInt64.toUInt64).toInt64)) * (-4658895280553007687 : Int64))), .second, .val (.ref b), .val (.int (Int32.ofNat i))] [])) t → Steps p.tables e below (T0.setTop (mkF m 22 #[.val (.long q0), .second, .val (.int p1), .val (.long x), .second, .val (.ref b), .val (.int (Int32.ofNat i))] [])) t := by
    intro t kt
    show Steps p.tables e below (T0.setTop (mkF m 22 #[.val (.long q0), .second, .val (.int p1), .val (.long x), .second, .val (.ref b), .val (.int (Int32.ofNat i))] [])) _
    refine XS.iload X0.here hx rfl (hb hby d1_22) rfl ?_
    show Steps p.tables e below (T0.setTop (mkF m 24 #[.val (.long q0), .second, .val (.int p1), .val (.long x), .second, .val (.ref b), .val (.int (Int32.ofNat i))] [(.int (Int32.ofNat i))])) _
    refine XS.bipush X0.here hx rfl (hb hby d1_24) ?_
    show Steps p.tables e below (T0.setTop (mkF m 26 #[.val (.long q0), .second, .val (.int p1), .val (.long x), .second, .val (.ref b), .val (.int (Int32.ofNat i))] [(.int (32 : Int32)), (.int (Int32.ofNat i))])) _
    refine XS.icmpNo X0.here hx rfl (hb hby d1_26) rfl (tlt (own_in i hi).2).2.1 ?_
    show Steps p.tables e below (T0.setTop (mkF m 29 #[.val (.long q0), .second, .val (.int p1), .val (.long x), .second, .val (.ref b), .val (.int (Int32.ofNat i))] [])) _
    refine XS.lloadN X0.here hx rfl (hb hby d1_29) rfl ?_
    show Steps p.tables e below (T0.setTop (mkF m 30 #[.val (.long q0), .second, .val (.int p1), .val (.long x), .second, .val (.ref b), .val (.int (Int32.ofNat i))] [(.long x)])) _
    refine XS.lloadN X0.here hx rfl (hb hby d1_30) rfl ?_
    show Steps p.tables e below (T0.setTop (mkF m 31 #[.val (.long q0), .second, .val (.int p1), .val (.long x), .second, .val (.ref b), .val (.int (Int32.ofNat i))] [(.long x), (.long x)])) _
    refine XS.bipush X0.here hx rfl (hb hby d1_31) ?_
    show Steps p.tables e below (T0.setTop (mkF m 33 #[.val (.long q0), .second, .val (.int p1), .val (.long x), .second, .val (.ref b), .val (.int (Int32.ofNat i))] [(.int (29 : Int32)), (.long x), (.long x)])) _
    refine XS.lushr X0.here hx rfl (hb hby d1_33) rfl ?_
    show Steps p.tables e below (T0.setTop (mkF m 34 #[.val (.long q0), .second, .val (.int p1), .val (.long x), .second, .val (.ref b), .val (.int (Int32.ofNat i))] [(.long ((x.toUInt64 >>> ((29 : Int32) &&& 0x3f).toInt64.toUInt64).toInt64)), (.long x)])) _
    refine XS.lxor X0.here hx rfl (hb hby d1_34) rfl ?_
    show Steps p.tables e below (T0.setTop (mkF m 35 #[.val (.long q0), .second, .val (.int p1), .val (.long x), .second, .val (.ref b), .val (.int (Int32.ofNat i))] [(.long (x ^^^ ((x.toUInt64 >>> ((29 : Int32) &&& 0x3f).toInt64.toUInt64).toInt64)))])) _
    refine XS.lstoreN X0.here hx rfl (hb hby d1_35) rfl (l' := #[.val (.long q0), .second, .val (.int p1), .val (.long (x ^^^ ((x.toUInt64 >>> ((29 : Int32) &&& 0x3f).toInt64.toUInt64).toInt64))), .second, .val (.ref b), .val (.int (Int32.ofNat i))]) rfl ?_
    show Steps p.tables e below (T0.setTop (mkF m 36 #[.val (.long q0), .second, .val (.int p1), .val (.long (x ^^^ ((x.toUInt64 >>> ((29 : Int32) &&& 0x3f).toInt64.toUInt64).toInt64))), .second, .val (.ref b), .val (.int (Int32.ofNat i))] [])) _
    refine XS.lloadN X0.here hx rfl (hb hby d1_36) rfl ?_
    show Steps p.tables e below (T0.setTop (mkF m 37 #[.val (.long q0), .second, .val (.int p1), .val (.long (x ^^^ ((x.toUInt64 >>> ((29 : Int32) &&& 0x3f).toInt64.toUInt64).toInt64))), .second, .val (.ref b), .val (.int (Int32.ofNat i))] [(.long (x ^^^ ((x.toUInt64 >>> ((29 : Int32) &&& 0x3f).toInt64.toUInt64).toInt64)))])) _
    refine X0.ldc2Long hx hown (mvT hZ (hw _ (List.mem_of_getElem? (i := 7) rfl))) (g := (mkF m 37 #[.val (.long q0), .second, .val (.int p1), .val (.long (x ^^^ ((x.toUInt64 >>> ((29 : Int32) &&& 0x3f).toInt64.toUInt64).toInt64))), .second, .val (.ref b), .val (.int (Int32.ofNat i))] [(.long (x ^^^ ((x.toUInt64 >>> ((29 : Int32) &&& 0x3f).toInt64.toUInt64).toInt64)))])) rfl (hb hby d1_37) _ ?_
    show Steps p.tables e below (T0.setTop (mkF m 40 #[.val (.long q0), .second, .val (.int p1), .val (.long (x ^^^ ((x.toUInt64 >>> ((29 : Int32) &&& 0x3f).toInt64.toUInt64).toInt64))), .second, .val (.ref b), .val (.int (Int32.ofNat i))] [(.long (-4658895280553007687 : Int64)), (.long (x ^^^ ((x.toUInt64 >>> ((29 : Int32) &&& 0x3f).toInt64.toUInt64).toInt64)))])) _
    refine XS.lmul X0.here hx rfl (hb hby d1_40) rfl ?_
    show Steps p.tables e below (T0.setTop (mkF m 41 #[.val (.long q0), .second, .val (.int p1), .val (.long (x ^^^ ((x.toUInt64 >>> ((29 : Int32) &&& 0x3f).toInt64.toUInt64).toInt64))), .second, .val (.ref b), .val (.int (Int32.ofNat i))] [(.long ((x ^^^ ((x.toUInt64 >>> ((29 : Int32) &&& 0x3f).toInt64.toUInt64).toInt64)) * (-4658895280553007687 : Int64)))])) _
    refine XS.lstoreN X0.here hx rfl (hb hby d1_41) rfl (l' := #[.val (.long q0), .second, .val (.int p1), .val (.long ((x ^^^ ((x.toUInt64 >>> ((29 : Int32) &&& 0x3f).toInt64.toUInt64).toInt64)) * (-4658895280553007687 : Int64))), .second, .val (.ref b), .val (.int (Int32.ofNat i))]) rfl ?_
    exact kt
  have c2 : ∀ t, Steps p.tables e below (T0.setTop (mkF m 42 #[.val (.long q0), .second, .val (.int p1), .val (.long (own_st x)), .second, .val (.ref b), .val (.int (Int32.ofNat i))] [])) t → Steps p.tables e below (T0.setTop (mkF m 42 #[.val (.long q0), .second, .val (.int p1), .val (.long ((x ^^^ ((x.toUInt64 >>> ((29 : Int32) &&& 0x3f).toInt64.toUInt64).toInt64)) * (-4658895280553007687 : Int64))), .second, .val (.ref b), .val (.int (Int32.ofNat i))] [])) t := fun t kt => by show Steps p.tables e below (T0.setTop (mkF m 42 #[.val (.long q0), .second, .val (.int p1), .val (.long (own_st x)), .second, .val (.ref b), .val (.int (Int32.ofNat i))] [])) t; exact kt
  have c3 : ∀ t, Steps p.tables e below (T0.setTop (mkF m 60 #[.val (.long q0), .second, .val (.int p1), .val (.long (own_st x)), .second, .val (.ref b), .val (.int (Int32.ofNat i))] [(.int ((((97 : Int64) + ((((own_st x).toUInt64 >>> ((33 : Int32) &&& 0x3f).toInt64.toUInt64).toInt64) % (26 : Int64))).toInt32).toInt8.toInt32)), (.int (Int32.ofNat i)), (.ref b)])) t → Steps p.tables e below (T0.setTop (mkF m 42 #[.val (.long q0), .second, .val (.int p1), .val (.long (own_st x)), .second, .val (.ref b), .val (.int (Int32.ofNat i))] [])) t := by
    intro t kt
    show Steps p.tables e below (T0.setTop (mkF m 42 #[.val (.long q0), .second, .val (.int p1), .val (.long (own_st x)), .second, .val (.ref b), .val (.int (Int32.ofNat i))] [])) _
    refine XS.aload X0.here hx rfl (hb hby d1_42) rfl rfl ?_
    show Steps p.tables e below (T0.setTop (mkF m 44 #[.val (.long q0), .second, .val (.int p1), .val (.long (own_st x)), .second, .val (.ref b), .val (.int (Int32.ofNat i))] [(.ref b)])) _
    refine XS.iload X0.here hx rfl (hb hby d1_44) rfl ?_
    show Steps p.tables e below (T0.setTop (mkF m 46 #[.val (.long q0), .second, .val (.int p1), .val (.long (own_st x)), .second, .val (.ref b), .val (.int (Int32.ofNat i))] [(.int (Int32.ofNat i)), (.ref b)])) _
    refine X0.ldc2Long hx hown (mvT hZ (hw _ (List.mem_of_getElem? (i := 8) rfl))) (g := (mkF m 46 #[.val (.long q0), .second, .val (.int p1), .val (.long (own_st x)), .second, .val (.ref b), .val (.int (Int32.ofNat i))] [(.int (Int32.ofNat i)), (.ref b)])) rfl (hb hby d1_46) _ ?_
    show Steps p.tables e below (T0.setTop (mkF m 49 #[.val (.long q0), .second, .val (.int p1), .val (.long (own_st x)), .second, .val (.ref b), .val (.int (Int32.ofNat i))] [(.long (97 : Int64)), (.int (Int32.ofNat i)), (.ref b)])) _
    refine XS.lloadN X0.here hx rfl (hb hby d1_49) rfl ?_
    show Steps p.tables e below (T0.setTop (mkF m 50 #[.val (.long q0), .second, .val (.int p1), .val (.long (own_st x)), .second, .val (.ref b), .val (.int (Int32.ofNat i))] [(.long (own_st x)), (.long (97 : Int64)), (.int (Int32.ofNat i)), (.ref b)])) _
    refine XS.bipush X0.here hx rfl (hb hby d1_50) ?_
    show Steps p.tables e below (T0.setTop (mkF m 52 #[.val (.long q0), .second, .val (.int p1), .val (.long (own_st x)), .second, .val (.ref b), .val (.int (Int32.ofNat i))] [(.int (33 : Int32)), (.long (own_st x)), (.long (97 : Int64)), (.int (Int32.ofNat i)), (.ref b)])) _
    refine XS.lushr X0.here hx rfl (hb hby d1_52) rfl ?_
    show Steps p.tables e below (T0.setTop (mkF m 53 #[.val (.long q0), .second, .val (.int p1), .val (.long (own_st x)), .second, .val (.ref b), .val (.int (Int32.ofNat i))] [(.long (((own_st x).toUInt64 >>> ((33 : Int32) &&& 0x3f).toInt64.toUInt64).toInt64)), (.long (97 : Int64)), (.int (Int32.ofNat i)), (.ref b)])) _
    refine X0.ldc2Long hx hown (mvT hZ (hw _ (List.mem_of_getElem? (i := 9) rfl))) (g := (mkF m 53 #[.val (.long q0), .second, .val (.int p1), .val (.long (own_st x)), .second, .val (.ref b), .val (.int (Int32.ofNat i))] [(.long (((own_st x).toUInt64 >>> ((33 : Int32) &&& 0x3f).toInt64.toUInt64).toInt64)), (.long (97 : Int64)), (.int (Int32.ofNat i)), (.ref b)])) rfl (hb hby d1_53) _ ?_
    show Steps p.tables e below (T0.setTop (mkF m 56 #[.val (.long q0), .second, .val (.int p1), .val (.long (own_st x)), .second, .val (.ref b), .val (.int (Int32.ofNat i))] [(.long (26 : Int64)), (.long (((own_st x).toUInt64 >>> ((33 : Int32) &&& 0x3f).toInt64.toUInt64).toInt64)), (.long (97 : Int64)), (.int (Int32.ofNat i)), (.ref b)])) _
    refine own_lrem X0 hx rfl (hb hby d1_56) rfl (by decide) ?_
    show Steps p.tables e below (T0.setTop (mkF m 57 #[.val (.long q0), .second, .val (.int p1), .val (.long (own_st x)), .second, .val (.ref b), .val (.int (Int32.ofNat i))] [(.long ((((own_st x).toUInt64 >>> ((33 : Int32) &&& 0x3f).toInt64.toUInt64).toInt64) % (26 : Int64))), (.long (97 : Int64)), (.int (Int32.ofNat i)), (.ref b)])) _
    refine XS.ladd X0.here hx rfl (hb hby d1_57) rfl ?_
    show Steps p.tables e below (T0.setTop (mkF m 58 #[.val (.long q0), .second, .val (.int p1), .val (.long (own_st x)), .second, .val (.ref b), .val (.int (Int32.ofNat i))] [(.long ((97 : Int64) + ((((own_st x).toUInt64 >>> ((33 : Int32) &&& 0x3f).toInt64.toUInt64).toInt64) % (26 : Int64)))), (.int (Int32.ofNat i)), (.ref b)])) _
    refine XS.l2i X0.here hx rfl (hb hby d1_58) rfl ?_
    show Steps p.tables e below (T0.setTop (mkF m 59 #[.val (.long q0), .second, .val (.int p1), .val (.long (own_st x)), .second, .val (.ref b), .val (.int (Int32.ofNat i))] [(.int (((97 : Int64) + ((((own_st x).toUInt64 >>> ((33 : Int32) &&& 0x3f).toInt64.toUInt64).toInt64) % (26 : Int64))).toInt32)), (.int (Int32.ofNat i)), (.ref b)])) _
    refine XS.i2b X0.here hx rfl (hb hby d1_59) rfl ?_
    exact kt
  have Vc4 := V
  obtain ⟨cl4, Ar4, qk4, S4, M4, H4, G4⟩ := Vc4
  have hin4 : ¬ ((Int32.ofNat i) < 0 ∨ cl4.slots.size ≤ ((Int32.ofNat i)).toNatClampNeg) := inb_of S4 (own_in i hi)
  obtain ⟨T5, h5, X5, e5, W5, st5⟩ := stB X0 hx hZ e0 Ar4 (j := (Int32.ofNat i)) hin4 (g := (mkF m 60 #[.val (.long q0), .second, .val (.int p1), .val (.long (own_st x)), .second, .val (.ref b), .val (.int (Int32.ofNat i))] [(.int ((((97 : Int64) + ((((own_st x).toUInt64 >>> ((33 : Int32) &&& 0x3f).toInt64.toUInt64).toInt64) % (26 : Int64))).toInt32).toInt8.toInt32)), (.int (Int32.ofNat i)), (.ref b)])) rfl rfl (hb hby d1_60)
  have V5 : Arv Z h5 b kb .byte (32 : Int32) (vs.set i (.int (own_by (own_st x)))) (.int (0 : Int32)) := Arv.set Ar4 qk4 S4 M4 H4 G4 (fits_nar_byte _) W5 i (own_clamp i hi) (by rw [hvl]; exact hi)
  have N5 := Fr.snoc X5 N0 g_b
  have c6 : ∀ t, Steps p.tables e below (T5.setTop (mkF m 22 #[.val (.long q0), .second, .val (.int p1), .val (.long (own_st x)), .second, .val (.ref b), .val (.int ((Int32.ofNat i) + (1 : Int32)))] [])) t → Steps p.tables e below (T5.setTop (mkF m 61 #[.val (.long q0), .second, .val (.int p1), .val (.long (own_st x)), .second, .val (.ref b), .val (.int (Int32.ofNat i))] [])) t := by
    intro t kt
    show Steps p.tables e below (T5.setTop (mkF m 61 #[.val (.long q0), .second, .val (.int p1), .val (.long (own_st x)), .second, .val (.ref b), .val (.int (Int32.ofNat i))] [])) _
    refine XS.iinc X5.here hx rfl (hb hby d1_61) rfl (l' := #[.val (.long q0), .second, .val (.int p1), .val (.long (own_st x)), .second, .val (.ref b), .val (.int ((Int32.ofNat i) + (1 : Int32)))]) rfl ?_
    show Steps p.tables e below (T5.setTop (mkF m 64 #[.val (.long q0), .second, .val (.int p1), .val (.long (own_st x)), .second, .val (.ref b), .val (.int ((Int32.ofNat i) + (1 : Int32)))] [])) _
    refine XS.goto X5.here hx rfl (pc0 := 64) (pc' := 22) rfl (hb hby d1_64) (by decide) (by decide) ?_
    exact kt
  have f7 := ((Keep.refl h0 [b]).wr W5 (Or.inl (List.mem_of_getElem? (i := 0) rfl)))
  exact ⟨T5, _, h5, X5, e5, N5, f7, V5, fun t kt => c1 _ (c2 _ (c3 _ (st5 _ (c6 _ (kt)))))⟩
set_option maxRecDepth 65536 in
set_option maxHeartbeats 40000000 in
theorem tl1 {p : Program} {l : Launch} {e : Env} {R : Room} {s : State} {m : MethodId} {args : Array Value} {below : List Frame} {meth : Method} {c : Code} {T0 : State} {locs : List Loc} {cells slots : Nat} {Z : State} {a0 : Array Value} {h0 : Heap} {n0 : Nat} (q0 : Int64) (p1 : Int32) (x : Int64) (b : Addr) (i : Nat) (kb : ClassId) (vs : List Value)
    (X0 : Stand p l e R s m args below meth c T0 locs cells slots) (hx : p.tables.exec = Jvm.exec) (hZ : Z.Warmed39 s.vm) (hw : ∀ d ∈ tables_1, d.before a0 Z = true) (hby : c.code = prog_2_method_3_code) (hml : c.maxLocals = 7) (hown : s.vm.findClass "com/example/brannan/bench/ScanTable" = some m.cls) (e0 : T0.heap = h0) (N0 : Fr n0 locs) (Z0 : n0 ≤ h0.size) (V : Arv Z h0 b kb .byte (32 : Int32) vs (.int (0 : Int32))) (hi : i = 32) :
    ∃ (T' : State) (locs' : List Loc) (h' : Heap), Stand p l e R s m args below meth c T' locs' cells slots ∧ T'.heap = h' ∧ Fr n0 locs' ∧ Keep h0 h' [b] ∧ Arv Z h' b kb .byte (32 : Int32) vs (.int (0 : Int32)) ∧ ∀ t, Steps p.tables e below (T'.setTop (mkF m 67 #[.val (.long q0), .second, .val (.int p1), .val (.long x), .second, .val (.ref b), .val (.int (Int32.ofNat i))] [])) t → Steps p.tables e below (T0.setTop (mkF m 22 #[.val (.long q0), .second, .val (.int p1), .val (.long x), .second, .val (.ref b), .val (.int (Int32.ofNat i))] [])) t := by
  have c2 : ∀ t, Steps p.tables e below (T0.setTop (mkF m 26 #[.val (.long q0), .second, .val (.int p1), .val (.long x), .second, .val (.ref b), .val (.int (Int32.ofNat i))] [(.int (32 : Int32)), (.int (Int32.ofNat i))])) t → Steps p.tables e below (T0.setTop (mkF m 22 #[.val (.long q0), .second, .val (.int p1), .val (.long x), .second, .val (.ref b), .val (.int (Int32.ofNat i))] [])) t := by
    intro t kt
    show Steps p.tables e below (T0.setTop (mkF m 22 #[.val (.long q0), .second, .val (.int p1), .val (.long x), .second, .val (.ref b), .val (.int (Int32.ofNat i))] [])) _
    refine XS.iload X0.here hx rfl (hb hby d1_22) rfl ?_
    show Steps p.tables e below (T0.setTop (mkF m 24 #[.val (.long q0), .second, .val (.int p1), .val (.long x), .second, .val (.ref b), .val (.int (Int32.ofNat i))] [(.int (Int32.ofNat i))])) _
    refine XS.bipush X0.here hx rfl (hb hby d1_24) ?_
    exact kt
  have hd1 : ¬ ((Int32.ofNat i) < (32 : Int32)) := by rw [hi]; decide
  have c3 : ∀ t, Steps p.tables e below (T0.setTop (mkF m 67 #[.val (.long q0), .second, .val (.int p1), .val (.long x), .second, .val (.ref b), .val (.int (Int32.ofNat i))] [])) t → Steps p.tables e below (T0.setTop (mkF m 26 #[.val (.long q0), .second, .val (.int p1), .val (.long x), .second, .val (.ref b), .val (.int (Int32.ofNat i))] [(.int (32 : Int32)), (.int (Int32.ofNat i))])) t := by
    intro t kt
    show Steps p.tables e below (T0.setTop (mkF m 26 #[.val (.long q0), .second, .val (.int p1), .val (.long x), .second, .val (.ref b), .val (.int (Int32.ofNat i))] [(.int (32 : Int32)), (.int (Int32.ofNat i))])) _
    refine XS.icmpYes X0.here hx rfl (pc0 := 26) (pc' := 67) rfl (hb hby d1_26) rfl (flt hd1).2.1 (by decide) (by decide) ?_
    exact kt
  exact ⟨T0, _, h0, X0, e0, N0, (Keep.refl h0 [b]), V, fun t kt => c2 _ (c3 _ (kt))⟩
set_option maxRecDepth 65536 in
set_option maxHeartbeats 40000000 in
theorem loop1 {p : Program} {l : Launch} {e : Env} {R : Room} {s : State} {m : MethodId} {args : Array Value} {below : List Frame} {meth : Method} {c : Code} {cells slots : Nat} {Z : State} {a0 : Array Value} {n0 : Nat} (q0 : Int64) (p1 : Int32) (x : Int64) (b : Addr) (kb : ClassId)
    (hx : p.tables.exec = Jvm.exec) (hZ : Z.Warmed39 s.vm) (hw : ∀ d ∈ tables_1, d.before a0 Z = true) (hby : c.code = prog_2_method_3_code) (hml : c.maxLocals = 7) (hown : s.vm.findClass "com/example/brannan/bench/ScanTable" = some m.cls) (g_b : n0 ≤ b) :
    ∀ (k i : Nat), i + k = 32 → ∀ (T0 : State) (locs : List Loc) (h0 : Heap), Stand p l e R s m args below meth c T0 locs cells slots → T0.heap = h0 → Fr n0 locs → n0 ≤ h0.size → Arv Z h0 b kb .byte (32 : Int32) (own_list x i) (.int (0 : Int32)) →
      ∃ (T' : State) (locs' : List Loc) (h' : Heap), Stand p l e R s m args below meth c T' locs' cells slots ∧ T'.heap = h' ∧ Fr n0 locs' ∧ Keep h0 h' [b] ∧ Arv Z h' b kb .byte (32 : Int32) (own_list x 32) (.int (0 : Int32)) ∧
        ∀ t, Steps p.tables e below (T'.setTop (mkF m 67 #[.val (.long q0), .second, .val (.int p1), .val (.long (own_xs x 32)), .second, .val (.ref b), .val (.int (Int32.ofNat 32))] [])) t → Steps p.tables e below (T0.setTop (mkF m 22 #[.val (.long q0), .second, .val (.int p1), .val (.long (own_xs x i)), .second, .val (.ref b), .val (.int (Int32.ofNat i))] [])) t := by
  intro k
  induction k with
  | zero =>
    intro i hk T0 locs h0 X e0 N Z0 V
    obtain rfl : i = 32 := by omega
    exact tl1 q0 p1 (own_xs x 32) b 32 kb (own_list x 32) X hx hZ hw hby hml hown e0 N Z0 V rfl
  | succ k ih =>
    intro i hk T0 locs h0 X e0 N Z0 V
    have hi : i < 32 := by omega
    obtain ⟨T1, l1, h1, X1, e1, N1, K1, V1, s1⟩ := tn1 q0 p1 (own_xs x i) b i kb (own_list x i) X hx hZ hw hby hml hown e0 N Z0 V (own_len _ _) hi g_b
    rw [show (own_list x i).set i (.int (own_by (own_st (own_xs x i)))) = own_list x (i + 1) from own_set x i hi] at V1
    obtain ⟨T2, l2, h2, X2, e2, N2, K2, V2, s2⟩ := ih (i + 1) (by omega) T1 l1 h1 X1 e1 N1 (Nat.le_trans Z0 K1.1) V1
    refine ⟨T2, l2, h2, X2, e2, N2, K1.trans K2 (fun _ q => Or.inl q), V2, fun t kt => s1 t ?_⟩
    rw [own_up i hi]
    exact s2 t kt
theorem d1_0 : decode prog_2_method_3_code 0 = .ok (.lload_n 0, 1) := by decide +kernel
theorem d1_1 : decode prog_2_method_3_code 1 = .ok (.ldc2_w 23, 3) := by decide +kernel
theorem d1_4 : decode prog_2_method_3_code 4 = .ok (.lmul, 1) := by decide +kernel
theorem d1_5 : decode prog_2_method_3_code 5 = .ok (.ldc2_w 25, 3) := by decide +kernel
theorem d1_8 : decode prog_2_method_3_code 8 = .ok (.ladd, 1) := by decide +kernel
theorem d1_9 : decode prog_2_method_3_code 9 = .ok (.iload_n 2, 1) := by decide +kernel
theorem d1_10 : decode prog_2_method_3_code 10 = .ok (.i2l, 1) := by decide +kernel
theorem d1_11 : decode prog_2_method_3_code 11 = .ok (.ladd, 1) := by decide +kernel
theorem d1_12 : decode prog_2_method_3_code 12 = .ok (.lstore_n 3, 1) := by decide +kernel
theorem d1_13 : decode prog_2_method_3_code 13 = .ok (.bipush 32, 2) := by decide +kernel
theorem d1_15 : decode prog_2_method_3_code 15 = .ok (.newarray .byte, 2) := by decide +kernel
theorem d1_17 : decode prog_2_method_3_code 17 = .ok (.astore 5, 2) := by decide +kernel
theorem d1_19 : decode prog_2_method_3_code 19 = .ok (.iconst 0, 1) := by decide +kernel
theorem d1_20 : decode prog_2_method_3_code 20 = .ok (.istore 6, 2) := by decide +kernel
theorem d1_67 : decode prog_2_method_3_code 67 = .ok (.aload 5, 2) := by decide +kernel
theorem d1_69 : decode prog_2_method_3_code 69 = .ok (.areturn, 1) := by decide +kernel
theorem pn_1 : plainName "com/example/brannan/bench/ScanTable" = true := by first | (simp [plainName, overriddenIn]; done) | decide +kernel
theorem ef_1 (m : MethodId) (x0 : Int64) (x1 : Int32) : entryFrame m #[(.long x0), (.int x1)] 7 = mkF m 0 #[.val (.long x0), .second, .val (.int x1), .unset, .unset, .unset, .unset] [] := by first | (simp [entryFrame, mkF, argsToLocals, Value.category]; done) | rfl
def Q1 (Z : State) (q0 : Int64) (p1 : Int32) (h0 : Heap) (n0 : Nat) (v : Option Value) (h : Heap) (L : List Loc) : Prop := ∃ (b : Addr) (kk : ClassId), v = some (.ref b) ∧ Fr n0 L ∧ Keep h0 h [] ∧ n0 ≤ b ∧ Arv Z h b kk .byte (32 : Int32) (own_list (own_x0 q0 p1) 32) (.int (0 : Int32))
set_option maxRecDepth 65536 in
set_option maxHeartbeats 40000000 in
theorem rm1 (l : Launch) (Z : State) (a0 : Array Value) (hw : ∀ d ∈ tables_1, d.before a0 Z = true) (ws : List Jvm.Cond) (q0 : Int64) (p1 : Int32)  (h0 : Heap) (n0 : Nat) (Z0 : n0 ≤ h0.size) :
    MetFree l (⟨"com/example/brannan/bench/ScanTable", "value", "(JI)[B"⟩ : MethodName) (head1 (Jvm.Cond.code (⟨"com/example/brannan/bench/ScanTable", "value", "(JI)[B"⟩ : MethodName) prog_2_method_3_code 7 (some (.array .byte)) :: ws) ({ frames := 0, cells := 1, slots := 32, locals := 0 } : Room)) (fun a U => a = #[(.long q0), (.int p1)] ∧ Z.Warmed39 U.vm ∧ U.heap = h0) (fun _ _ _ _ _ => True) (fun _ U o U' => ∃ v L, o = .returned v ∧ Q1 Z q0 p1 h0 n0 v U'.heap L ∧ FrameEnd U o U' L ({ frames := 0, cells := 1, slots := 32, locals := 0 } : Room).cells ({ frames := 0, cells := 1, slots := 32, locals := 0 } : Room).slots) := by
  refine MetFree.of_bodySF (plainFor_of_name pn_1) hisR ?_
  intro p e s m args below meth c s₁ Bd hml0 hP hK
  obtain ⟨rfl, hZ, hh⟩ := hP
  have hx := Bd.exec
  have hby := Bd.bytes
  have hml : c.maxLocals = 7 := hml0
  have hown : s.vm.findClass "com/example/brannan/bench/ScanTable" = some m.cls := findClass_of_methodNamed Bd.named
  have hnm := (name_of_methodNamed Bd.named Bd.method).1
  have X0 : Stand p l e ({ frames := 0, cells := 1, slots := 32, locals := 0 } : Room) s m #[(.long q0), (.int p1)] below meth c s₁ [] 0 0 := Stand.of_body Bd
  have e0 : s₁.heap = h0 := by rw [← hh, Bd.state]; rfl
  have N0 := Fr.nil n0
  have pre0 : ∀ t, Steps p.tables e below (s₁.setTop (mkF m 0 #[.val (.long q0), .second, .val (.int p1), .unset, .unset, .unset, .unset] [])) t → Steps p.tables e below (s₁.setTop (entryFrame m #[(.long q0), (.int p1)] 7)) t := fun t k => castTop (ef_1 m q0 p1) k
  have c1 : ∀ t, Steps p.tables e below (s₁.setTop (mkF m 13 #[.val (.long q0), .second, .val (.int p1), .val (.long (((q0 * (6364136223846793005 : Int64)) + (1442695040888963407 : Int64)) + (p1.toInt64))), .second, .unset, .unset] [])) t → Steps p.tables e below (s₁.setTop (mkF m 0 #[.val (.long q0), .second, .val (.int p1), .unset, .unset, .unset, .unset] [])) t := by
    intro t kt
    show Steps p.tables e below (s₁.setTop (mkF m 0 #[.val (.long q0), .second, .val (.int p1), .unset, .unset, .unset, .unset] [])) _
    refine XS.lloadN X0.here hx rfl (hb hby d1_0) rfl ?_
    show Steps p.tables e below (s₁.setTop (mkF m 1 #[.val (.long q0), .second, .val (.int p1), .unset, .unset, .unset, .unset] [(.long q0)])) _
    refine X0.ldc2Long hx hown (mvT hZ (hw _ (List.mem_of_getElem? (i := 4) rfl))) (g := (mkF m 1 #[.val (.long q0), .second, .val (.int p1), .unset, .unset, .unset, .unset] [(.long q0)])) rfl (hb hby d1_1) _ ?_
    show Steps p.tables e below (s₁.setTop (mkF m 4 #[.val (.long q0), .second, .val (.int p1), .unset, .unset, .unset, .unset] [(.long (6364136223846793005 : Int64)), (.long q0)])) _
    refine XS.lmul X0.here hx rfl (hb hby d1_4) rfl ?_
    show Steps p.tables e below (s₁.setTop (mkF m 5 #[.val (.long q0), .second, .val (.int p1), .unset, .unset, .unset, .unset] [(.long (q0 * (6364136223846793005 : Int64)))])) _
    refine X0.ldc2Long hx hown (mvT hZ (hw _ (List.mem_of_getElem? (i := 5) rfl))) (g := (mkF m 5 #[.val (.long q0), .second, .val (.int p1), .unset, .unset, .unset, .unset] [(.long (q0 * (6364136223846793005 : Int64)))])) rfl (hb hby d1_5) _ ?_
    show Steps p.tables e below (s₁.setTop (mkF m 8 #[.val (.long q0), .second, .val (.int p1), .unset, .unset, .unset, .unset] [(.long (1442695040888963407 : Int64)), (.long (q0 * (6364136223846793005 : Int64)))])) _
    refine XS.ladd X0.here hx rfl (hb hby d1_8) rfl ?_
    show Steps p.tables e below (s₁.setTop (mkF m 9 #[.val (.long q0), .second, .val (.int p1), .unset, .unset, .unset, .unset] [(.long ((q0 * (6364136223846793005 : Int64)) + (1442695040888963407 : Int64)))])) _
    refine XS.iloadN X0.here hx rfl (hb hby d1_9) rfl ?_
    show Steps p.tables e below (s₁.setTop (mkF m 10 #[.val (.long q0), .second, .val (.int p1), .unset, .unset, .unset, .unset] [(.int p1), (.long ((q0 * (6364136223846793005 : Int64)) + (1442695040888963407 : Int64)))])) _
    refine XS.i2l X0.here hx rfl (hb hby d1_10) rfl ?_
    show Steps p.tables e below (s₁.setTop (mkF m 11 #[.val (.long q0), .second, .val (.int p1), .unset, .unset, .unset, .unset] [(.long (p1.toInt64)), (.long ((q0 * (6364136223846793005 : Int64)) + (1442695040888963407 : Int64)))])) _
    refine XS.ladd X0.here hx rfl (hb hby d1_11) rfl ?_
    show Steps p.tables e below (s₁.setTop (mkF m 12 #[.val (.long q0), .second, .val (.int p1), .unset, .unset, .unset, .unset] [(.long (((q0 * (6364136223846793005 : Int64)) + (1442695040888963407 : Int64)) + (p1.toInt64)))])) _
    refine XS.lstoreN X0.here hx rfl (hb hby d1_12) rfl (l' := #[.val (.long q0), .second, .val (.int p1), .val (.long (((q0 * (6364136223846793005 : Int64)) + (1442695040888963407 : Int64)) + (p1.toInt64))), .second, .unset, .unset]) rfl ?_
    exact kt
  have c2 : ∀ t, Steps p.tables e below (s₁.setTop (mkF m 13 #[.val (.long q0), .second, .val (.int p1), .val (.long (own_x0 q0 p1)), .second, .unset, .unset] [])) t → Steps p.tables e below (s₁.setTop (mkF m 13 #[.val (.long q0), .second, .val (.int p1), .val (.long (((q0 * (6364136223846793005 : Int64)) + (1442695040888963407 : Int64)) + (p1.toInt64))), .second, .unset, .unset] [])) t := fun t kt => by show Steps p.tables e below (s₁.setTop (mkF m 13 #[.val (.long q0), .second, .val (.int p1), .val (.long (own_x0 q0 p1)), .second, .unset, .unset] [])) t; exact kt
  have c4 : ∀ t, Steps p.tables e below (s₁.setTop (mkF m 15 #[.val (.long q0), .second, .val (.int p1), .val (.long (own_x0 q0 p1)), .second, .unset, .unset] [(.int (32 : Int32))])) t → Steps p.tables e below (s₁.setTop (mkF m 13 #[.val (.long q0), .second, .val (.int p1), .val (.long (own_x0 q0 p1)), .second, .unset, .unset] [])) t := by
    intro t kt
    show Steps p.tables e below (s₁.setTop (mkF m 13 #[.val (.long q0), .second, .val (.int p1), .val (.long (own_x0 q0 p1)), .second, .unset, .unset] [])) _
    refine XS.bipush X0.here hx rfl (hb hby d1_13) ?_
    exact kt
  obtain ⟨T3, h3, k3, X3, e3, E3, A3, st3⟩ := newP X0 hx hZ (hw _ (List.mem_of_getElem? (i := 6) rfl)) e0 (g := (mkF m 15 #[.val (.long q0), .second, .val (.int p1), .val (.long (own_x0 q0 p1)), .second, .unset, .unset] [(.int (32 : Int32))])) rfl (hb hby d1_15) rfl (by decide) (cap := 32) (by decide) (by decide) (by decide) (by decide)
  obtain ⟨b3, g3⟩ : ∃ z, z = h0.size := ⟨_, rfl⟩
  rw [← g3] at A3 st3
  have g_b3 : n0 ≤ b3 := Nat.le_trans Z0 (Nat.le_of_eq g3.symm)
  have sz_b3 : h0.size ≤ b3 := Nat.le_trans (Keep.refl h0 []).1 (Nat.le_of_eq g3.symm)
  have V3 : Arv Z h3 b3 k3 .byte (32 : Int32) [(.int (0 : Int32)), (.int (0 : Int32)), (.int (0 : Int32)), (.int (0 : Int32)), (.int (0 : Int32)), (.int (0 : Int32)), (.int (0 : Int32)), (.int (0 : Int32)), (.int (0 : Int32)), (.int (0 : Int32)), (.int (0 : Int32)), (.int (0 : Int32)), (.int (0 : Int32)), (.int (0 : Int32)), (.int (0 : Int32)), (.int (0 : Int32)), (.int (0 : Int32)), (.int (0 : Int32)), (.int (0 : Int32)), (.int (0 : Int32)), (.int (0 : Int32)), (.int (0 : Int32)), (.int (0 : Int32)), (.int (0 : Int32)), (.int (0 : Int32)), (.int (0 : Int32)), (.int (0 : Int32)), (.int (0 : Int32)), (.int (0 : Int32)), (.int (0 : Int32)), (.int (0 : Int32)), (.int (0 : Int32))] (.int (0 : Int32)) := (Arv.new A3 (by decide)).pad (pad_rep [] (.int (0 : Int32)) 32)
  have c5 : ∀ t, Steps p.tables e below (T3.setTop (mkF m 22 #[.val (.long q0), .second, .val (.int p1), .val (.long (own_x0 q0 p1)), .second, .val (.ref b3), .val (.int (0 : Int32))] [])) t → Steps p.tables e below (T3.setTop (mkF m 17 #[.val (.long q0), .second, .val (.int p1), .val (.long (own_x0 q0 p1)), .second, .unset, .unset] [(.ref b3)])) t := by
    intro t kt
    show Steps p.tables e below (T3.setTop (mkF m 17 #[.val (.long q0), .second, .val (.int p1), .val (.long (own_x0 q0 p1)), .second, .unset, .unset] [(.ref b3)])) _
    refine XS.astore X3.here hx rfl (hb hby d1_17) rfl rfl (l' := #[.val (.long q0), .second, .val (.int p1), .val (.long (own_x0 q0 p1)), .second, .val (.ref b3), .unset]) rfl ?_
    show Steps p.tables e below (T3.setTop (mkF m 19 #[.val (.long q0), .second, .val (.int p1), .val (.long (own_x0 q0 p1)), .second, .val (.ref b3), .unset] [])) _
    refine XS.iconst X3.here hx rfl (hb hby d1_19) ?_
    show Steps p.tables e below (T3.setTop (mkF m 20 #[.val (.long q0), .second, .val (.int p1), .val (.long (own_x0 q0 p1)), .second, .val (.ref b3), .unset] [(.int (0 : Int32))])) _
    refine XS.istore X3.here hx rfl (hb hby d1_20) rfl (l' := #[.val (.long q0), .second, .val (.int p1), .val (.long (own_x0 q0 p1)), .second, .val (.ref b3), .val (.int (0 : Int32))]) rfl ?_
    exact kt
  have f7 := (Nat.le_trans Z0 E3.1)
  have f8 := ((Keep.refl h0 []).ext E3)
  have VL6 : Arv Z h3 b3 k3 .byte (32 : Int32) (own_list (own_x0 q0 p1) 0) (.int (0 : Int32)) := V3
  obtain ⟨T6, L6, h6, X6, e6, N6, K6, V6, st6⟩ := loop1 q0 p1 (own_x0 q0 p1) b3 k3 hx hZ hw hby hml hown g_b3 32 0 rfl T3 _ h3 X3 e3 N0 f7 VL6
  have c9 : ∀ t, Steps p.tables e below (T6.setTop (mkF m 69 #[.val (.long q0), .second, .val (.int p1), .val (.long (own_xs (own_x0 q0 p1) 32)), .second, .val (.ref b3), .val (.int (Int32.ofNat 32))] [(.ref b3)])) t → Steps p.tables e below (T6.setTop (mkF m 67 #[.val (.long q0), .second, .val (.int p1), .val (.long (own_xs (own_x0 q0 p1) 32)), .second, .val (.ref b3), .val (.int (Int32.ofNat 32))] [])) t := by
    intro t kt
    show Steps p.tables e below (T6.setTop (mkF m 67 #[.val (.long q0), .second, .val (.int p1), .val (.long (own_xs (own_x0 q0 p1) 32)), .second, .val (.ref b3), .val (.int (Int32.ofNat 32))] [])) _
    refine XS.aload X6.here hx rfl (hb hby d1_67) rfl rfl ?_
    exact kt
  obtain ⟨fs, hr, hrun, hended, hW, hsame⟩ := X6.leave (v := some (.ref b3)) (fun h => by rw [Bd.returns] at h; cases h)
  have f11 := (f8.trans K6 (allS (Or.inr sz_b3) all0))
  refine ⟨_, _, pre0 _ (c1 _ (c2 _ (c4 _ (st3 _ (c5 _ (st6 _ (c9 _ (?_)))))))), hrun, hended, _, _, rfl, ?_, ⟨_, rfl⟩, hW, hsame.mono (by decide) (by decide)⟩
  · show Steps p.tables e below (T6.setTop (mkF m 69 #[.val (.long q0), .second, .val (.int p1), .val (.long (own_xs (own_x0 q0 p1) 32)), .second, .val (.ref b3), .val (.int (Int32.ofNat 32))] [(.ref b3)])) _
    jvm_step X6.here [X6.here.top, hx, (hb hby d1_69), X6.method', Bd.returns, Value.isRef, FieldType.isReference]
    first | (intro acts; rw [hr _ acts rfl rfl rfl]) | rw [hr _ _ rfl rfl rfl]
    exact Steps.refl _
  · show Q1 Z q0 p1 h0 n0 _ T6.heap _
    rw [e6]
    exact ⟨b3, k3, rfl, N6, f11, g_b3, V6⟩
theorem d6_0 : decode jdk_41_method_11_code 0 = .ok (.iload_n 0, 1) := by decide +kernel
theorem d6_1 : decode jdk_41_method_11_code 1 = .ok (.ifCond .lt 8, 3) := by decide +kernel
theorem d6_4 : decode jdk_41_method_11_code 4 = .ok (.iload_n 0, 1) := by decide +kernel
theorem d6_5 : decode jdk_41_method_11_code 5 = .ok (.iload_n 1, 1) := by decide +kernel
theorem d6_6 : decode jdk_41_method_11_code 6 = .ok (.if_icmp .lt 10, 3) := by decide +kernel
theorem d6_16 : decode jdk_41_method_11_code 16 = .ok (.iload_n 0, 1) := by decide +kernel
theorem d6_17 : decode jdk_41_method_11_code 17 = .ok (.ireturn, 1) := by decide +kernel
theorem pn_6 : plainName "jdk/internal/util/Preconditions" = true := by first | (simp [plainName, overriddenIn]; done) | decide +kernel
theorem ef_6n (m : MethodId) (x0 : Int32) (x1 : Int32) : entryFrame m #[(.int x0), (.int x1), .null] 3 = mkF m 0 #[.val (.int x0), .val (.int x1), .val .null] [] := by first | (simp [entryFrame, mkF, argsToLocals, Value.category]; done) | rfl
def Q6n (Z : State) (p0 : Int32) (p1 : Int32) (h0 : Heap) (n0 : Nat) (v : Option Value) (h : Heap) (L : List Loc) : Prop := v = some (.int p0) ∧ Fr n0 L ∧ h = h0
set_option maxRecDepth 65536 in
set_option maxHeartbeats 40000000 in
theorem rm6n (l : Launch) (Z : State) (a0 : Array Value) (hw : ∀ d ∈ tables_1, d.before a0 Z = true) (ws : List Jvm.Cond) (p0 : Int32) (p1 : Int32)  (h0 : Heap) (n0 : Nat) (Z0 : n0 ≤ h0.size) (hp0 : ¬ p0 < (0 : Int32)) (hp1 : p0 < p1) :
    MetFree l (⟨"jdk/internal/util/Preconditions", "checkIndex", "(IILjava/util/function/BiFunction;)I"⟩ : MethodName) (head1 (Jvm.Cond.code (⟨"jdk/internal/util/Preconditions", "checkIndex", "(IILjava/util/function/BiFunction;)I"⟩ : MethodName) jdk_41_method_11_code 3 (some .int) :: ws) ({ frames := 0, cells := 0, slots := 0, locals := 0 } : Room)) (fun a U => a = #[(.int p0), (.int p1), .null] ∧ Z.Warmed39 U.vm ∧ U.heap = h0) (fun _ _ _ _ _ => True) (fun _ U o U' => ∃ v L, o = .returned v ∧ Q6n Z p0 p1 h0 n0 v U'.heap L ∧ FrameEnd U o U' L ({ frames := 0, cells := 0, slots := 0, locals := 0 } : Room).cells ({ frames := 0, cells := 0, slots := 0, locals := 0 } : Room).slots) := by
  refine MetFree.of_bodySF (plainFor_of_name pn_6) hisR ?_
  intro p e s m args below meth c s₁ Bd hml0 hP hK
  obtain ⟨rfl, hZ, hh⟩ := hP
  have hx := Bd.exec
  have hby := Bd.bytes
  have hml : c.maxLocals = 3 := hml0
  have hown : s.vm.findClass "jdk/internal/util/Preconditions" = some m.cls := findClass_of_methodNamed Bd.named
  have hnm := (name_of_methodNamed Bd.named Bd.method).1
  have X0 : Stand p l e ({ frames := 0, cells := 0, slots := 0, locals := 0 } : Room) s m #[(.int p0), (.int p1), .null] below meth c s₁ [] 0 0 := Stand.of_body Bd
  have e0 : s₁.heap = h0 := by rw [← hh, Bd.state]; rfl
  have N0 := Fr.nil n0
  have pre0 : ∀ t, Steps p.tables e below (s₁.setTop (mkF m 0 #[.val (.int p0), .val (.int p1), .val .null] [])) t → Steps p.tables e below (s₁.setTop (entryFrame m #[(.int p0), (.int p1), .null] 3)) t := fun t k => castTop (ef_6n m p0 p1) k
  have c2 : ∀ t, Steps p.tables e below (s₁.setTop (mkF m 1 #[.val (.int p0), .val (.int p1), .val .null] [(.int p0)])) t → Steps p.tables e below (s₁.setTop (mkF m 0 #[.val (.int p0), .val (.int p1), .val .null] [])) t := by
    intro t kt
    show Steps p.tables e below (s₁.setTop (mkF m 0 #[.val (.int p0), .val (.int p1), .val .null] [])) _
    refine XS.iloadN X0.here hx rfl (hb hby d6_0) rfl ?_
    exact kt
  have hd1 : ¬ (p0 < (0 : Int32)) := hp0
  have c4 : ∀ t, Steps p.tables e below (s₁.setTop (mkF m 6 #[.val (.int p0), .val (.int p1), .val .null] [(.int p1), (.int p0)])) t → Steps p.tables e below (s₁.setTop (mkF m 1 #[.val (.int p0), .val (.int p1), .val .null] [(.int p0)])) t := by
    intro t kt
    show Steps p.tables e below (s₁.setTop (mkF m 1 #[.val (.int p0), .val (.int p1), .val .null] [(.int p0)])) _
    refine XS.ifNo X0.here hx rfl (hb hby d6_1) rfl ((if0 _ _).trans (flt hd1).1) ?_
    show Steps p.tables e below (s₁.setTop (mkF m 4 #[.val (.int p0), .val (.int p1), .val .null] [])) _
    refine XS.iloadN X0.here hx rfl (hb hby d6_4) rfl ?_
    show Steps p.tables e below (s₁.setTop (mkF m 5 #[.val (.int p0), .val (.int p1), .val .null] [(.int p0)])) _
    refine XS.iloadN X0.here hx rfl (hb hby d6_5) rfl ?_
    exact kt
  have hd3 : p0 < p1 := hp1
  have c5 : ∀ t, Steps p.tables e below (s₁.setTop (mkF m 17 #[.val (.int p0), .val (.int p1), .val .null] [(.int p0)])) t → Steps p.tables e below (s₁.setTop (mkF m 6 #[.val (.int p0), .val (.int p1), .val .null] [(.int p1), (.int p0)])) t := by
    intro t kt
    show Steps p.tables e below (s₁.setTop (mkF m 6 #[.val (.int p0), .val (.int p1), .val .null] [(.int p1), (.int p0)])) _
    refine XS.icmpYes X0.here hx rfl (pc0 := 6) (pc' := 16) rfl (hb hby d6_6) rfl (tlt hd3).1 (by decide) (by decide) ?_
    show Steps p.tables e below (s₁.setTop (mkF m 16 #[.val (.int p0), .val (.int p1), .val .null] [])) _
    refine XS.iloadN X0.here hx rfl (hb hby d6_16) rfl ?_
    exact kt
  obtain ⟨fs, hr, hrun, hended, hW, hsame⟩ := X0.leave (v := some (.int p0)) (fun h => by rw [Bd.returns] at h; cases h)
  refine ⟨_, _, pre0 _ (c2 _ (c4 _ (c5 _ (?_)))), hrun, hended, _, _, rfl, ?_, ⟨_, rfl⟩, hW, hsame.mono (by decide) (by decide)⟩
  · show Steps p.tables e below (s₁.setTop (mkF m 17 #[.val (.int p0), .val (.int p1), .val .null] [(.int p0)])) _
    exact retI X0 hx Bd.returns (hb hby d6_17) hr
  · show Q6n Z p0 p1 h0 n0 _ s₁.heap _
    rw [e0]
    exact ⟨congrArg (fun z => some (Value.int z)) (show p0 = p0 from by rfl), N0, rfl⟩
theorem ef_6 (m : MethodId) (x0 : Int32) (x1 : Int32) (x2 : Addr) : entryFrame m #[(.int x0), (.int x1), (.ref x2)] 3 = mkF m 0 #[.val (.int x0), .val (.int x1), .val (.ref x2)] [] := by first | (simp [entryFrame, mkF, argsToLocals, Value.category]; done) | rfl
def Q6r (Z : State) (p0 : Int32) (p1 : Int32) (r2 : Addr) (h0 : Heap) (n0 : Nat) (v : Option Value) (h : Heap) (L : List Loc) : Prop := v = some (.int p0) ∧ Fr n0 L ∧ h = h0
set_option maxRecDepth 65536 in
set_option maxHeartbeats 40000000 in
theorem rm6r (l : Launch) (Z : State) (a0 : Array Value) (hw : ∀ d ∈ tables_1, d.before a0 Z = true) (ws : List Jvm.Cond) (p0 : Int32) (p1 : Int32) (r2 : Addr)  (h0 : Heap) (n0 : Nat) (Z0 : n0 ≤ h0.size) (hp0 : ¬ p0 < (0 : Int32)) (hp1 : p0 < p1) :
    MetFree l (⟨"jdk/internal/util/Preconditions", "checkIndex", "(IILjava/util/function/BiFunction;)I"⟩ : MethodName) (head1 (Jvm.Cond.code (⟨"jdk/internal/util/Preconditions", "checkIndex", "(IILjava/util/function/BiFunction;)I"⟩ : MethodName) jdk_41_method_11_code 3 (some .int) :: ws) ({ frames := 0, cells := 0, slots := 0, locals := 0 } : Room)) (fun a U => a = #[(.int p0), (.int p1), (.ref r2)] ∧ Z.Warmed39 U.vm ∧ U.heap = h0) (fun _ _ _ _ _ => True) (fun _ U o U' => ∃ v L, o = .returned v ∧ Q6r Z p0 p1 r2 h0 n0 v U'.heap L ∧ FrameEnd U o U' L ({ frames := 0, cells := 0, slots := 0, locals := 0 } : Room).cells ({ frames := 0, cells := 0, slots := 0, locals := 0 } : Room).slots) := by
  refine MetFree.of_bodySF (plainFor_of_name pn_6) hisR ?_
  intro p e s m args below meth c s₁ Bd hml0 hP hK
  obtain ⟨rfl, hZ, hh⟩ := hP
  have hx := Bd.exec
  have hby := Bd.bytes
  have hml : c.maxLocals = 3 := hml0
  have hown : s.vm.findClass "jdk/internal/util/Preconditions" = some m.cls := findClass_of_methodNamed Bd.named
  have hnm := (name_of_methodNamed Bd.named Bd.method).1
  have X0 : Stand p l e ({ frames := 0, cells := 0, slots := 0, locals := 0 } : Room) s m #[(.int p0), (.int p1), (.ref r2)] below meth c s₁ [] 0 0 := Stand.of_body Bd
  have e0 : s₁.heap = h0 := by rw [← hh, Bd.state]; rfl
  have N0 := Fr.nil n0
  have pre0 : ∀ t, Steps p.tables e below (s₁.setTop (mkF m 0 #[.val (.int p0), .val (.int p1), .val (.ref r2)] [])) t → Steps p.tables e below (s₁.setTop (entryFrame m #[(.int p0), (.int p1), (.ref r2)] 3)) t := fun t k => castTop (ef_6 m p0 p1 r2) k
  have c2 : ∀ t, Steps p.tables e below (s₁.setTop (mkF m 1 #[.val (.int p0), .val (.int p1), .val (.ref r2)] [(.int p0)])) t → Steps p.tables e below (s₁.setTop (mkF m 0 #[.val (.int p0), .val (.int p1), .val (.ref r2)] [])) t := by
    intro t kt
    show Steps p.tables e below (s₁.setTop (mkF m 0 #[.val (.int p0), .val (.int p1), .val (.ref r2)] [])) _
    refine XS.iloadN X0.here hx rfl (hb hby d6_0) rfl ?_
    exact kt
  have hd1 : ¬ (p0 < (0 : Int32)) := hp0
  have c4 : ∀ t, Steps p.tables e below (s₁.setTop (mkF m 6 #[.val (.int p0), .val (.int p1), .val (.ref r2)] [(.int p1), (.int p0)])) t → Steps p.tables e below (s₁.setTop (mkF m 1 #[.val (.int p0), .val (.int p1), .val (.ref r2)] [(.int p0)])) t := by
    intro t kt
    show Steps p.tables e below (s₁.setTop (mkF m 1 #[.val (.int p0), .val (.int p1), .val (.ref r2)] [(.int p0)])) _
    refine XS.ifNo X0.here hx rfl (hb hby d6_1) rfl ((if0 _ _).trans (flt hd1).1) ?_
    show Steps p.tables e below (s₁.setTop (mkF m 4 #[.val (.int p0), .val (.int p1), .val (.ref r2)] [])) _
    refine XS.iloadN X0.here hx rfl (hb hby d6_4) rfl ?_
    show Steps p.tables e below (s₁.setTop (mkF m 5 #[.val (.int p0), .val (.int p1), .val (.ref r2)] [(.int p0)])) _
    refine XS.iloadN X0.here hx rfl (hb hby d6_5) rfl ?_
    exact kt
  have hd3 : p0 < p1 := hp1
  have c5 : ∀ t, Steps p.tables e below (s₁.setTop (mkF m 17 #[.val (.int p0), .val (.int p1), .val (.ref r2)] [(.int p0)])) t → Steps p.tables e below (s₁.setTop (mkF m 6 #[.val (.int p0), .val (.int p1), .val (.ref r2)] [(.int p1), (.int p0)])) t := by
    intro t kt
    show Steps p.tables e below (s₁.setTop (mkF m 6 #[.val (.int p0), .val (.int p1), .val (.ref r2)] [(.int p1), (.int p0)])) _
    refine XS.icmpYes X0.here hx rfl (pc0 := 6) (pc' := 16) rfl (hb hby d6_6) rfl (tlt hd3).1 (by decide) (by decide) ?_
    show Steps p.tables e below (s₁.setTop (mkF m 16 #[.val (.int p0), .val (.int p1), .val (.ref r2)] [])) _
    refine XS.iloadN X0.here hx rfl (hb hby d6_16) rfl ?_
    exact kt
  obtain ⟨fs, hr, hrun, hended, hW, hsame⟩ := X0.leave (v := some (.int p0)) (fun h => by rw [Bd.returns] at h; cases h)
  refine ⟨_, _, pre0 _ (c2 _ (c4 _ (c5 _ (?_)))), hrun, hended, _, _, rfl, ?_, ⟨_, rfl⟩, hW, hsame.mono (by decide) (by decide)⟩
  · show Steps p.tables e below (s₁.setTop (mkF m 17 #[.val (.int p0), .val (.int p1), .val (.ref r2)] [(.int p0)])) _
    exact retI X0 hx Bd.returns (hb hby d6_17) hr
  · show Q6r Z p0 p1 r2 h0 n0 _ s₁.heap _
    rw [e0]
    exact ⟨congrArg (fun z => some (Value.int z)) (show p0 = p0 from by rfl), N0, rfl⟩
theorem d5_0 : decode jdk_42_method_155_code 0 = .ok (.iload_n 0, 1) := by decide +kernel
theorem d5_1 : decode jdk_42_method_155_code 1 = .ok (.iload_n 1, 1) := by decide +kernel
theorem d5_2 : decode jdk_42_method_155_code 2 = .ok (.getstatic 1053, 3) := by decide +kernel
theorem d5_5 : decode jdk_42_method_155_code 5 = .ok (.invokestatic 1059, 3) := by decide +kernel
theorem d5_8 : decode jdk_42_method_155_code 8 = .ok (.pop, 1) := by decide +kernel
theorem d5_9 : decode jdk_42_method_155_code 9 = .ok (.return_, 1) := by decide +kernel
theorem pn_5 : plainName "java/lang/String" = true := by first | (simp [plainName, overriddenIn]; done) | decide +kernel
theorem ef_5 (m : MethodId) (x0 : Int32) (x1 : Int32) : entryFrame m #[(.int x0), (.int x1)] 2 = mkF m 0 #[.val (.int x0), .val (.int x1)] [] := by first | (simp [entryFrame, mkF, argsToLocals, Value.category]; done) | rfl
def Q5 (Z : State) (p0 : Int32) (p1 : Int32) (fm : Value) (h0 : Heap) (n0 : Nat) (v : Option Value) (h : Heap) (L : List Loc) : Prop := v = none ∧ Fr n0 L ∧ h = h0
set_option maxRecDepth 65536 in
set_option maxHeartbeats 40000000 in
theorem rm5 (l : Launch) (Z : State) (a0 : Array Value) (hw : ∀ d ∈ tables_1, d.before a0 Z = true) (ws : List Jvm.Cond) (p0 : Int32) (p1 : Int32) (fm : Value) (h0 : Heap) (n0 : Nat) (Z0 : n0 ≤ h0.size) (hp0 : ¬ p0 < (0 : Int32)) (hp1 : p0 < p1) (SF : Sta Z h0 "jdk/internal/util/Preconditions" "SIOOBE_FORMATTER" "Ljava/util/function/BiFunction;" fm) (hfm : fm.isRef = true) :
    MetFree l (⟨"java/lang/String", "checkIndex", "(II)V"⟩ : MethodName) (head1 (Jvm.Cond.code (⟨"java/lang/String", "checkIndex", "(II)V"⟩ : MethodName) jdk_42_method_155_code 2 none :: ws) ({ frames := 1, cells := 0, slots := 0, locals := 14 } : Room)) (fun a U => a = #[(.int p0), (.int p1)] ∧ Z.Warmed39 U.vm ∧ U.heap = h0) (fun _ _ _ _ _ => True) (fun _ U o U' => ∃ v L, o = .returned v ∧ Q5 Z p0 p1 fm h0 n0 v U'.heap L ∧ FrameEnd U o U' L ({ frames := 1, cells := 0, slots := 0, locals := 14 } : Room).cells ({ frames := 1, cells := 0, slots := 0, locals := 14 } : Room).slots) := by
  refine MetFree.of_bodySF (plainFor_of_name pn_5) hisR ?_
  intro p e s m args below meth c s₁ Bd hml0 hP hK
  obtain ⟨rfl, hZ, hh⟩ := hP
  have hx := Bd.exec
  have hby := Bd.bytes
  have hml : c.maxLocals = 2 := hml0
  have hown : s.vm.findClass "java/lang/String" = some m.cls := findClass_of_methodNamed Bd.named
  have hnm := (name_of_methodNamed Bd.named Bd.method).1
  have X0 : Stand p l e ({ frames := 1, cells := 0, slots := 0, locals := 14 } : Room) s m #[(.int p0), (.int p1)] below meth c s₁ [] 0 0 := Stand.of_body Bd
  have e0 : s₁.heap = h0 := by rw [← hh, Bd.state]; rfl
  have N0 := Fr.nil n0
  have pre0 : ∀ t, Steps p.tables e below (s₁.setTop (mkF m 0 #[.val (.int p0), .val (.int p1)] [])) t → Steps p.tables e below (s₁.setTop (entryFrame m #[(.int p0), (.int p1)] 2)) t := fun t k => castTop (ef_5 m p0 p1) k
  rcases ref_cases hfm with rfl | ⟨fa, rfl⟩
  · skip
    have c2 : ∀ t, Steps p.tables e below (s₁.setTop (mkF m 2 #[.val (.int p0), .val (.int p1)] [(.int p1), (.int p0)])) t → Steps p.tables e below (s₁.setTop (mkF m 0 #[.val (.int p0), .val (.int p1)] [])) t := by
      intro t kt
      show Steps p.tables e below (s₁.setTop (mkF m 0 #[.val (.int p0), .val (.int p1)] [])) _
      refine XS.iloadN X0.here hx rfl (hb hby d5_0) rfl ?_
      show Steps p.tables e below (s₁.setTop (mkF m 1 #[.val (.int p0), .val (.int p1)] [(.int p0)])) _
      refine XS.iloadN X0.here hx rfl (hb hby d5_1) rfl ?_
      exact kt
    obtain ⟨T1, X1, e1, st1⟩ := getS2 X0 hx hZ hown (host := "") (Or.inl (hw _ (List.mem_of_getElem? (i := 41) rfl))) Via.refl e0 SF (g := (mkF m 2 #[.val (.int p0), .val (.int p1)] [(.int p1), (.int p0)])) rfl (hb hby d5_2)
    obtain ⟨_, _, ⟨T3, L3, k3, n3⟩, -, X3, ⟨Lc3, hQ3, l3, y3, z3⟩, st3⟩ := Jvm.LawKit.callS X1 hx (y := (⟨"jdk/internal/util/Preconditions", "checkIndex", "(IILjava/util/function/BiFunction;)I"⟩ : MethodName)) hown (mvT hZ (hw _ (List.mem_of_getElem? (i := 43) rfl))) (mvT hZ (hw _ (List.mem_of_getElem? (i := 44) rfl))) (mvT hZ (hw _ (List.mem_of_getElem? (i := 42) rfl))) (mvT hZ (hw _ (List.mem_of_getElem? (i := 45) rfl))) (by decide) (backOf (W := 0) (rm6n l Z a0 hw [] p0 p1  h0 n0 Z0 hp0 hp1) hZ (hw _ (List.mem_of_getElem? (i := 45) rfl)) (hw _ (List.mem_of_getElem? (i := 42) rfl)) (by decide) (by decide)) (g := (mkF m 5 #[.val (.int p0), .val (.int p1)] [.null, (.int p1), (.int p0)])) rfl (by rw [hml]; rfl) (argsL := [(.int p0), (.int p1), .null]) (rest := []) (lenOf pd_0 rfl) rfl (by show 2 * 0 + _ ≤ _; exact Nat.le_of_eq rfl) (hb hby d5_5) (fun _ _ => ⟨rfl, e1, (by decide : 0 + 0 ≤ _), (by decide : 0 + 0 ≤ _)⟩)
    dsimp only [Pt.U, Pt.locs, Pt.cells, Pt.slots] at X3 l3 y3 z3 st3 hQ3
    subst l3 y3 z3
    obtain ⟨rfl, N3q, e3⟩ := hQ3
    have N3 := Fr.app N0 N3q
    have c4 : ∀ t, Steps p.tables e below (T3.setTop (mkF m 9 #[.val (.int p0), .val (.int p1)] [])) t → Steps p.tables e below (T3.setTop (mkF m 8 #[.val (.int p0), .val (.int p1)] [(.int p0)])) t := by
      intro t kt
      show Steps p.tables e below (T3.setTop (mkF m 8 #[.val (.int p0), .val (.int p1)] [(.int p0)])) _
      refine XS.pop X3.here hx rfl (hb hby d5_8) rfl rfl ?_
      exact kt
    obtain ⟨fs, hr, hrun, hended, hW, hsame⟩ := X3.leave (v := none) (fun _ => rfl)
    refine ⟨_, _, pre0 _ (c2 _ (st1 _ (st3 _ (c4 _ (?_))))), hrun, hended, _, _, rfl, ?_, ⟨_, rfl⟩, hW, hsame.mono (by decide) (by decide)⟩
    · show Steps p.tables e below (T3.setTop (mkF m 9 #[.val (.int p0), .val (.int p1)] [])) _
      exact X3.returnOut hx Bd.returns (hb hby d5_9) hr
    · show Q5 Z p0 p1 _ h0 n0 _ T3.heap _
      rw [e3]
      exact ⟨rfl, N3, rfl⟩
  · skip
    have c7 : ∀ t, Steps p.tables e below (s₁.setTop (mkF m 2 #[.val (.int p0), .val (.int p1)] [(.int p1), (.int p0)])) t → Steps p.tables e below (s₁.setTop (mkF m 0 #[.val (.int p0), .val (.int p1)] [])) t := by
      intro t kt
      show Steps p.tables e below (s₁.setTop (mkF m 0 #[.val (.int p0), .val (.int p1)] [])) _
      refine XS.iloadN X0.here hx rfl (hb hby d5_0) rfl ?_
      show Steps p.tables e below (s₁.setTop (mkF m 1 #[.val (.int p0), .val (.int p1)] [(.int p0)])) _
      refine XS.iloadN X0.here hx rfl (hb hby d5_1) rfl ?_
      exact kt
    obtain ⟨T6, X6, e6, st6⟩ := getS2 X0 hx hZ hown (host := "") (Or.inl (hw _ (List.mem_of_getElem? (i := 41) rfl))) Via.refl e0 SF (g := (mkF m 2 #[.val (.int p0), .val (.int p1)] [(.int p1), (.int p0)])) rfl (hb hby d5_2)
    obtain ⟨_, _, ⟨T8, L8, k8, n8⟩, -, X8, ⟨Lc8, hQ8, l8, y8, z8⟩, st8⟩ := Jvm.LawKit.callS X6 hx (y := (⟨"jdk/internal/util/Preconditions", "checkIndex", "(IILjava/util/function/BiFunction;)I"⟩ : MethodName)) hown (mvT hZ (hw _ (List.mem_of_getElem? (i := 43) rfl))) (mvT hZ (hw _ (List.mem_of_getElem? (i := 44) rfl))) (mvT hZ (hw _ (List.mem_of_getElem? (i := 42) rfl))) (mvT hZ (hw _ (List.mem_of_getElem? (i := 45) rfl))) (by decide) (backOf (W := 0) (rm6r l Z a0 hw [] p0 p1 fa  h0 n0 Z0 hp0 hp1) hZ (hw _ (List.mem_of_getElem? (i := 45) rfl)) (hw _ (List.mem_of_getElem? (i := 42) rfl)) (by decide) (by decide)) (g := (mkF m 5 #[.val (.int p0), .val (.int p1)] [(.ref fa), (.int p1), (.int p0)])) rfl (by rw [hml]; rfl) (argsL := [(.int p0), (.int p1), (.ref fa)]) (rest := []) (lenOf pd_0 rfl) rfl (by show 2 * 0 + _ ≤ _; exact Nat.le_of_eq rfl) (hb hby d5_5) (fun _ _ => ⟨rfl, e6, (by decide : 0 + 0 ≤ _), (by decide : 0 + 0 ≤ _)⟩)
    dsimp only [Pt.U, Pt.locs, Pt.cells, Pt.slots] at X8 l8 y8 z8 st8 hQ8
    subst l8 y8 z8
    obtain ⟨rfl, N8q, e8⟩ := hQ8
    have N8 := Fr.app N0 N8q
    have c9 : ∀ t, Steps p.tables e below (T8.setTop (mkF m 9 #[.val (.int p0), .val (.int p1)] [])) t → Steps p.tables e below (T8.setTop (mkF m 8 #[.val (.int p0), .val (.int p1)] [(.int p0)])) t := by
      intro t kt
      show Steps p.tables e below (T8.setTop (mkF m 8 #[.val (.int p0), .val (.int p1)] [(.int p0)])) _
      refine XS.pop X8.here hx rfl (hb hby d5_8) rfl rfl ?_
      exact kt
    obtain ⟨fs, hr, hrun, hended, hW, hsame⟩ := X8.leave (v := none) (fun _ => rfl)
    refine ⟨_, _, pre0 _ (c7 _ (st6 _ (st8 _ (c9 _ (?_))))), hrun, hended, _, _, rfl, ?_, ⟨_, rfl⟩, hW, hsame.mono (by decide) (by decide)⟩
    · show Steps p.tables e below (T8.setTop (mkF m 9 #[.val (.int p0), .val (.int p1)] [])) _
      exact X8.returnOut hx Bd.returns (hb hby d5_9) hr
    · show Q5 Z p0 p1 _ h0 n0 _ T8.heap _
      rw [e8]
      exact ⟨rfl, N8, rfl⟩
theorem d4_0 : decode jdk_43_method_2_code 0 = .ok (.iload_n 1, 1) := by decide +kernel
theorem d4_1 : decode jdk_43_method_2_code 1 = .ok (.aload_n 0, 1) := by decide +kernel
theorem d4_2 : decode jdk_43_method_2_code 2 = .ok (.arraylength, 1) := by decide +kernel
theorem d4_3 : decode jdk_43_method_2_code 3 = .ok (.invokestatic 9, 3) := by decide +kernel
theorem d4_6 : decode jdk_43_method_2_code 6 = .ok (.aload_n 0, 1) := by decide +kernel
theorem d4_7 : decode jdk_43_method_2_code 7 = .ok (.iload_n 1, 1) := by decide +kernel
theorem d4_8 : decode jdk_43_method_2_code 8 = .ok (.baload, 1) := by decide +kernel
theorem d4_9 : decode jdk_43_method_2_code 9 = .ok (.sipush 255, 3) := by decide +kernel
theorem d4_12 : decode jdk_43_method_2_code 12 = .ok (.iand, 1) := by decide +kernel
theorem d4_13 : decode jdk_43_method_2_code 13 = .ok (.i2c, 1) := by decide +kernel
theorem d4_14 : decode jdk_43_method_2_code 14 = .ok (.ireturn, 1) := by decide +kernel
theorem pn_4 : plainName "java/lang/StringLatin1" = true := by first | (simp [plainName, overriddenIn]; done) | decide +kernel
theorem ef_4 (m : MethodId) (x0 : Addr) (x1 : Int32) : entryFrame m #[(.ref x0), (.int x1)] 2 = mkF m 0 #[.val (.ref x0), .val (.int x1)] [] := by first | (simp [entryFrame, mkF, argsToLocals, Value.category]; done) | rfl
def Q4 (Z : State) (r0 : Addr) (p1 : Int32) (kk : ClassId) (zz : Int32) (vs : List Value) (dv : Value) (w0 : Int32) (fm : Value) (h0 : Heap) (n0 : Nat) (v : Option Value) (h : Heap) (L : List Loc) : Prop := v = some (.int (own_ch w0)) ∧ Fr n0 L ∧ h = h0
set_option maxRecDepth 65536 in
set_option maxHeartbeats 40000000 in
theorem rm4 (l : Launch) (Z : State) (a0 : Array Value) (hw : ∀ d ∈ tables_1, d.before a0 Z = true) (ws : List Jvm.Cond) (r0 : Addr) (p1 : Int32) (kk : ClassId) (zz : Int32) (vs : List Value) (dv : Value) (w0 : Int32) (fm : Value) (h0 : Heap) (n0 : Nat) (Z0 : n0 ≤ h0.size) (V : Arv Z h0 r0 kk .byte zz vs dv) (hi0 : ¬ p1 < 0 ∧ p1 < zz) (ha0 : vs.getD p1.toNatClampNeg dv = .int w0) (SF : Sta Z h0 "jdk/internal/util/Preconditions" "SIOOBE_FORMATTER" "Ljava/util/function/BiFunction;" fm) (hfm : fm.isRef = true) :
    MetFree l (⟨"java/lang/StringLatin1", "charAt", "([BI)C"⟩ : MethodName) (head1 (Jvm.Cond.code (⟨"java/lang/StringLatin1", "charAt", "([BI)C"⟩ : MethodName) jdk_43_method_2_code 2 (some .char) :: ws) ({ frames := 2, cells := 0, slots := 0, locals := 27 } : Room)) (fun a U => a = #[(.ref r0), (.int p1)] ∧ Z.Warmed39 U.vm ∧ U.heap = h0) (fun _ _ _ _ _ => True) (fun _ U o U' => ∃ v L, o = .returned v ∧ Q4 Z r0 p1 kk zz vs dv w0 fm h0 n0 v U'.heap L ∧ FrameEnd U o U' L ({ frames := 2, cells := 0, slots := 0, locals := 27 } : Room).cells ({ frames := 2, cells := 0, slots := 0, locals := 27 } : Room).slots) := by
  refine MetFree.of_bodySF (plainFor_of_name pn_4) hisR ?_
  intro p e s m args below meth c s₁ Bd hml0 hP hK
  obtain ⟨rfl, hZ, hh⟩ := hP
  have hx := Bd.exec
  have hby := Bd.bytes
  have hml : c.maxLocals = 2 := hml0
  have hown : s.vm.findClass "java/lang/StringLatin1" = some m.cls := findClass_of_methodNamed Bd.named
  have hnm := (name_of_methodNamed Bd.named Bd.method).1
  have X0 : Stand p l e ({ frames := 2, cells := 0, slots := 0, locals := 27 } : Room) s m #[(.ref r0), (.int p1)] below meth c s₁ [] 0 0 := Stand.of_body Bd
  have e0 : s₁.heap = h0 := by rw [← hh, Bd.state]; rfl
  have N0 := Fr.nil n0
  have pre0 : ∀ t, Steps p.tables e below (s₁.setTop (mkF m 0 #[.val (.ref r0), .val (.int p1)] [])) t → Steps p.tables e below (s₁.setTop (entryFrame m #[(.ref r0), (.int p1)] 2)) t := fun t k => castTop (ef_4 m r0 p1) k
  have Vc1 := V
  obtain ⟨cl1, Ar1, qk1, S1, M1, H1, G1⟩ := Vc1
  have c2 : ∀ t, Steps p.tables e below (s₁.setTop (mkF m 3 #[.val (.ref r0), .val (.int p1)] [(.int zz), (.int p1)])) t → Steps p.tables e below (s₁.setTop (mkF m 0 #[.val (.ref r0), .val (.int p1)] [])) t := by
    intro t kt
    show Steps p.tables e below (s₁.setTop (mkF m 0 #[.val (.ref r0), .val (.int p1)] [])) _
    refine XS.iloadN X0.here hx rfl (hb hby d4_0) rfl ?_
    show Steps p.tables e below (s₁.setTop (mkF m 1 #[.val (.ref r0), .val (.int p1)] [(.int p1)])) _
    refine XS.aloadN X0.here hx rfl (hb hby d4_1) rfl rfl ?_
    show Steps p.tables e below (s₁.setTop (mkF m 2 #[.val (.ref r0), .val (.int p1)] [(.ref r0), (.int p1)])) _
    refine X0.arraylength hx (by rw [e0]; exact Ar1.1) (State.isArrayOf_alike hZ.alike Ar1.2.1) (g := (mkF m 2 #[.val (.ref r0), .val (.int p1)] [(.ref r0), (.int p1)])) rfl rfl (hb hby d4_2) _ ?_
    rw [len_of S1 M1]
    exact kt
  obtain ⟨_, _, ⟨T3, L3, k3, n3⟩, -, X3, ⟨Lc3, hQ3, l3, y3, z3⟩, st3⟩ := Jvm.LawKit.callS X0 hx (y := (⟨"java/lang/String", "checkIndex", "(II)V"⟩ : MethodName)) hown (mvT hZ (hw _ (List.mem_of_getElem? (i := 38) rfl))) (mvT hZ (hw _ (List.mem_of_getElem? (i := 39) rfl))) (mvT hZ (hw _ (List.mem_of_getElem? (i := 15) rfl))) (mvT hZ (hw _ (List.mem_of_getElem? (i := 40) rfl))) (by decide) (backOf (W := 0) (rm5 l Z a0 hw [] p1 zz fm h0 n0 Z0 hi0.1 hi0.2 SF hfm) hZ (hw _ (List.mem_of_getElem? (i := 40) rfl)) (hw _ (List.mem_of_getElem? (i := 15) rfl)) (by decide) (by decide)) (g := (mkF m 3 #[.val (.ref r0), .val (.int p1)] [(.int zz), (.int p1)])) rfl (by rw [hml]; rfl) (argsL := [(.int p1), (.int zz)]) (rest := []) (lenOf pd_1 rfl) rfl (by show 2 * 0 + _ ≤ _; exact Nat.le_of_eq rfl) (hb hby d4_3) (fun _ _ => ⟨rfl, e0, (by decide : 0 + 0 ≤ _), (by decide : 0 + 0 ≤ _)⟩)
  dsimp only [Pt.U, Pt.locs, Pt.cells, Pt.slots] at X3 l3 y3 z3 st3 hQ3
  subst l3 y3 z3
  obtain ⟨rfl, N3q, e3⟩ := hQ3
  have N3 := Fr.app N0 N3q
  have Vc4 := V
  obtain ⟨cl4, Ar4, qk4, S4, M4, H4, G4⟩ := Vc4
  have hin4 : ¬ (p1 < 0 ∨ cl4.slots.size ≤ (p1).toNatClampNeg) := inb_of S4 hi0
  have hat4 : cl4.slots[(p1).toNatClampNeg]? = some (.int w0) := H4.at hin4 ha0
  have c5 : ∀ t, Steps p.tables e below (T3.setTop (mkF m 14 #[.val (.ref r0), .val (.int p1)] [(.int ((w0 &&& (255 : Int32)).toUInt32.toUInt16.toUInt32.toInt32))])) t → Steps p.tables e below (T3.setTop (mkF m 6 #[.val (.ref r0), .val (.int p1)] [])) t := by
    intro t kt
    show Steps p.tables e below (T3.setTop (mkF m 6 #[.val (.ref r0), .val (.int p1)] [])) _
    refine XS.aloadN X3.here hx rfl (hb hby d4_6) rfl rfl ?_
    show Steps p.tables e below (T3.setTop (mkF m 7 #[.val (.ref r0), .val (.int p1)] [(.ref r0)])) _
    refine XS.iloadN X3.here hx rfl (hb hby d4_7) rfl ?_
    show Steps p.tables e below (T3.setTop (mkF m 8 #[.val (.ref r0), .val (.int p1)] [(.int p1), (.ref r0)])) _
    refine X3.baloadBytes hx (j := p1) (v := (.int w0)) (by rw [e3]; exact Ar4.1) (State.isArrayOf_alike hZ.alike Ar4.2.1) Ar4.2.2 hin4 hat4 (g := (mkF m 8 #[.val (.ref r0), .val (.int p1)] [(.int p1), (.ref r0)])) rfl rfl (hb hby d4_8) _ ?_
    show Steps p.tables e below (T3.setTop (mkF m 9 #[.val (.ref r0), .val (.int p1)] [(.int w0)])) _
    refine XS.sipush X3.here hx rfl (hb hby d4_9) ?_
    show Steps p.tables e below (T3.setTop (mkF m 12 #[.val (.ref r0), .val (.int p1)] [(.int (255 : Int32)), (.int w0)])) _
    refine XS.iand X3.here hx rfl (hb hby d4_12) rfl ?_
    show Steps p.tables e below (T3.setTop (mkF m 13 #[.val (.ref r0), .val (.int p1)] [(.int (w0 &&& (255 : Int32)))])) _
    refine XS.i2c X3.here hx rfl (hb hby d4_13) rfl ?_
    exact kt
  obtain ⟨fs, hr, hrun, hended, hW, hsame⟩ := X3.leave (v := some (.int (((w0 &&& (255 : Int32)).toUInt32.toUInt16.toUInt32.toInt32).toUInt32.toUInt16.toUInt32.toInt32))) (fun h => by rw [Bd.returns] at h; cases h)
  refine ⟨_, _, pre0 _ (c2 _ (st3 _ (c5 _ (?_)))), hrun, hended, _, _, rfl, ?_, ⟨_, rfl⟩, hW, hsame.mono (by decide) (by decide)⟩
  · show Steps p.tables e below (T3.setTop (mkF m 14 #[.val (.ref r0), .val (.int p1)] [(.int ((w0 &&& (255 : Int32)).toUInt32.toUInt16.toUInt32.toInt32))])) _
    exact retN X3 hx (t := .char) Bd.returns (by simp) (hb hby d4_14) hr
  · show Q4 Z r0 p1 kk zz vs dv w0 fm h0 n0 _ T3.heap _
    rw [e3]
    exact ⟨congrArg (fun z => some (Value.int z)) (show (((w0 &&& (255 : Int32)).toUInt32.toUInt16.toUInt32.toInt32).toUInt32.toUInt16.toUInt32.toInt32) = (own_ch w0) from by rfl), N3, rfl⟩
theorem d3_0 : decode jdk_42_method_154_code 0 = .ok (.getstatic 38, 3) := by decide +kernel
theorem d3_3 : decode jdk_42_method_154_code 3 = .ok (.ifCond .eq 14, 3) := by decide +kernel
theorem d3_6 : decode jdk_42_method_154_code 6 = .ok (.aload_n 0, 1) := by decide +kernel
theorem d3_7 : decode jdk_42_method_154_code 7 = .ok (.getfield 15, 3) := by decide +kernel
theorem d3_10 : decode jdk_42_method_154_code 10 = .ok (.ifCond .ne 7, 3) := by decide +kernel
theorem d3_13 : decode jdk_42_method_154_code 13 = .ok (.iconst 1, 1) := by decide +kernel
theorem d3_14 : decode jdk_42_method_154_code 14 = .ok (.goto 4, 3) := by decide +kernel
theorem d3_18 : decode jdk_42_method_154_code 18 = .ok (.ireturn, 1) := by decide +kernel
theorem pn_3 : plainName "java/lang/String" = true := by first | (simp [plainName, overriddenIn]; done) | decide +kernel
theorem ef_3 (m : MethodId) (x0 : Addr) : entryFrame m #[(.ref x0)] 1 = mkF m 0 #[.val (.ref x0)] [] := by first | (simp [entryFrame, mkF, argsToLocals, Value.category]; done) | rfl
def Q3 (Z : State) (r0 : Addr) (cs : Int32) (h0 : Heap) (n0 : Nat) (v : Option Value) (h : Heap) (L : List Loc) : Prop := v = some (.int (1 : Int32)) ∧ Fr n0 L ∧ h = h0
set_option maxRecDepth 65536 in
set_option maxHeartbeats 40000000 in
theorem rm3 (l : Launch) (Z : State) (a0 : Array Value) (hw : ∀ d ∈ tables_1, d.before a0 Z = true) (ws : List Jvm.Cond) (r0 : Addr) (cs : Int32) (h0 : Heap) (n0 : Nat) (Z0 : n0 ≤ h0.size) (SC : Sta Z h0 "java/lang/String" "COMPACT_STRINGS" "Z" (.int cs)) (hcs : ¬ cs = (0 : Int32)) (C0 : Fld Z h0 r0 "java/lang/String" "coder" "B" (.int (0 : Int32))) :
    MetFree l (⟨"java/lang/String", "isLatin1", "()Z"⟩ : MethodName) (head1 (Jvm.Cond.code (⟨"java/lang/String", "isLatin1", "()Z"⟩ : MethodName) jdk_42_method_154_code 1 (some .boolean) :: ws) ({ frames := 0, cells := 0, slots := 0, locals := 0 } : Room)) (fun a U => a = #[(.ref r0)] ∧ Z.Warmed39 U.vm ∧ U.heap = h0) (fun _ _ _ _ _ => True) (fun _ U o U' => ∃ v L, o = .returned v ∧ Q3 Z r0 cs h0 n0 v U'.heap L ∧ FrameEnd U o U' L ({ frames := 0, cells := 0, slots := 0, locals := 0 } : Room).cells ({ frames := 0, cells := 0, slots := 0, locals := 0 } : Room).slots) := by
  refine MetFree.of_bodySF (plainFor_of_name pn_3) hisR ?_
  intro p e s m args below meth c s₁ Bd hml0 hP hK
  obtain ⟨rfl, hZ, hh⟩ := hP
  have hx := Bd.exec
  have hby := Bd.bytes
  have hml : c.maxLocals = 1 := hml0
  have hown : s.vm.findClass "java/lang/String" = some m.cls := findClass_of_methodNamed Bd.named
  have hnm := (name_of_methodNamed Bd.named Bd.method).1
  have X0 : Stand p l e ({ frames := 0, cells := 0, slots := 0, locals := 0 } : Room) s m #[(.ref r0)] below meth c s₁ [] 0 0 := Stand.of_body Bd
  have e0 : s₁.heap = h0 := by rw [← hh, Bd.state]; rfl
  have N0 := Fr.nil n0
  have pre0 : ∀ t, Steps p.tables e below (s₁.setTop (mkF m 0 #[.val (.ref r0)] [])) t → Steps p.tables e below (s₁.setTop (entryFrame m #[(.ref r0)] 1)) t := fun t k => castTop (ef_3 m r0) k
  obtain ⟨T1, X1, e1, st1⟩ := getS2 X0 hx hZ hown (host := "") (Or.inl (hw _ (List.mem_of_getElem? (i := 31) rfl))) Via.refl e0 SC (g := (mkF m 0 #[.val (.ref r0)] [])) rfl (hb hby d3_0)
  have hd2 : ¬ (cs = (0 : Int32)) := hcs
  have c4 : ∀ t, Steps p.tables e below (T1.setTop (mkF m 7 #[.val (.ref r0)] [(.ref r0)])) t → Steps p.tables e below (T1.setTop (mkF m 3 #[.val (.ref r0)] [(.int cs)])) t := by
    intro t kt
    show Steps p.tables e below (T1.setTop (mkF m 3 #[.val (.ref r0)] [(.int cs)])) _
    refine XS.ifNo X1.here hx rfl (hb hby d3_3) rfl ((if0 _ _).trans (feq hd2).1) ?_
    show Steps p.tables e below (T1.setTop (mkF m 6 #[.val (.ref r0)] [])) _
    refine XS.aloadN X1.here hx rfl (hb hby d3_6) rfl rfl ?_
    exact kt
  obtain ⟨T3, X3, e3, st3⟩ := getF X1 hx hZ hown (host := "") (Or.inl (hw _ (List.mem_of_getElem? (i := 32) rfl))) Via.refl e1 C0 (g := (mkF m 7 #[.val (.ref r0)] [(.ref r0)])) rfl rfl (hb hby d3_7)
  have c5 : ∀ t, Steps p.tables e below (T3.setTop (mkF m 18 #[.val (.ref r0)] [(.int (1 : Int32))])) t → Steps p.tables e below (T3.setTop (mkF m 10 #[.val (.ref r0)] [(.int (0 : Int32))])) t := by
    intro t kt
    show Steps p.tables e below (T3.setTop (mkF m 10 #[.val (.ref r0)] [(.int (0 : Int32))])) _
    refine XS.ifNo X3.here hx rfl (hb hby d3_10) rfl ((if0 _ _).trans (teq (by decide : (0 : Int32) = (0 : Int32))).2) ?_
    show Steps p.tables e below (T3.setTop (mkF m 13 #[.val (.ref r0)] [])) _
    refine XS.iconst X3.here hx rfl (hb hby d3_13) ?_
    show Steps p.tables e below (T3.setTop (mkF m 14 #[.val (.ref r0)] [(.int (1 : Int32))])) _
    refine XS.goto X3.here hx rfl (pc0 := 14) (pc' := 18) rfl (hb hby d3_14) (by decide) (by decide) ?_
    exact kt
  obtain ⟨fs, hr, hrun, hended, hW, hsame⟩ := X3.leave (v := some (.int (1 : Int32))) (fun h => by rw [Bd.returns] at h; cases h)
  refine ⟨_, _, pre0 _ (st1 _ (c4 _ (st3 _ (c5 _ (?_))))), hrun, hended, _, _, rfl, ?_, ⟨_, rfl⟩, hW, hsame.mono (by decide) (by decide)⟩
  · show Steps p.tables e below (T3.setTop (mkF m 18 #[.val (.ref r0)] [(.int (1 : Int32))])) _
    exact retN X3 hx (t := .boolean) Bd.returns (by simp) (hb hby d3_18) hr
  · show Q3 Z r0 cs h0 n0 _ T3.heap _
    rw [e3]
    exact ⟨congrArg (fun z => some (Value.int z)) (show (1 : Int32) = (1 : Int32) from by rfl), N0, rfl⟩
theorem d2_0 : decode jdk_42_method_56_code 0 = .ok (.aload_n 0, 1) := by decide +kernel
theorem d2_1 : decode jdk_42_method_56_code 1 = .ok (.invokevirtual 492, 3) := by decide +kernel
theorem d2_4 : decode jdk_42_method_56_code 4 = .ok (.ifCond .eq 12, 3) := by decide +kernel
theorem d2_7 : decode jdk_42_method_56_code 7 = .ok (.aload_n 0, 1) := by decide +kernel
theorem d2_8 : decode jdk_42_method_56_code 8 = .ok (.getfield 9, 3) := by decide +kernel
theorem d2_11 : decode jdk_42_method_56_code 11 = .ok (.iload_n 1, 1) := by decide +kernel
theorem d2_12 : decode jdk_42_method_56_code 12 = .ok (.invokestatic 495, 3) := by decide +kernel
theorem d2_15 : decode jdk_42_method_56_code 15 = .ok (.ireturn, 1) := by decide +kernel
theorem pn_2 : plainName "java/lang/String" = true := by first | (simp [plainName, overriddenIn]; done) | decide +kernel
theorem ef_2 (m : MethodId) (x0 : Addr) (x1 : Int32) : entryFrame m #[(.ref x0), (.int x1)] 2 = mkF m 0 #[.val (.ref x0), .val (.int x1)] [] := by first | (simp [entryFrame, mkF, argsToLocals, Value.category]; done) | rfl
def Q2 (Z : State) (r0 : Addr) (p1 : Int32) (rb : Addr) (kk : ClassId) (zz : Int32) (vs : List Value) (dv : Value) (w0 : Int32) (fm : Value) (cs : Int32) (h0 : Heap) (n0 : Nat) (v : Option Value) (h : Heap) (L : List Loc) : Prop := v = some (.int ((own_ch w0).toUInt32.toUInt16.toUInt32.toInt32)) ∧ Fr n0 L ∧ h = h0
set_option maxRecDepth 65536 in
set_option maxHeartbeats 40000000 in
theorem rm2 (l : Launch) (Z : State) (a0 : Array Value) (hw : ∀ d ∈ tables_1, d.before a0 Z = true) (ws : List Jvm.Cond) (r0 : Addr) (p1 : Int32) (rb : Addr) (kk : ClassId) (zz : Int32) (vs : List Value) (dv : Value) (w0 : Int32) (fm : Value) (cs : Int32) (h0 : Heap) (n0 : Nat) (Z0 : n0 ≤ h0.size) (E0 : Exa Z h0 r0 "java/lang/String") (F0 : Fld Z h0 r0 "java/lang/String" "value" "[B" (.ref rb)) (V : Arv Z h0 rb kk .byte zz vs dv) (hi0 : ¬ p1 < 0 ∧ p1 < zz) (ha0 : vs.getD p1.toNatClampNeg dv = .int w0) (SF : Sta Z h0 "jdk/internal/util/Preconditions" "SIOOBE_FORMATTER" "Ljava/util/function/BiFunction;" fm) (hfm : fm.isRef = true) (SC : Sta Z h0 "java/lang/String" "COMPACT_STRINGS" "Z" (.int cs)) (hcs : ¬ cs = (0 : Int32)) (C0 : Fld Z h0 r0 "java/lang/String" "coder" "B" (.int (0 : Int32))) :
    MetFree l (⟨"java/lang/String", "charAt", "(I)C"⟩ : MethodName) (head1 (Jvm.Cond.code (⟨"java/lang/String", "charAt", "(I)C"⟩ : MethodName) jdk_42_method_56_code 2 (some .char) :: ws) ({ frames := 3, cells := 0, slots := 0, locals := 40 } : Room)) (fun a U => a = #[(.ref r0), (.int p1)] ∧ Z.Warmed39 U.vm ∧ U.heap = h0) (fun _ _ _ _ _ => True) (fun _ U o U' => ∃ v L, o = .returned v ∧ Q2 Z r0 p1 rb kk zz vs dv w0 fm cs h0 n0 v U'.heap L ∧ FrameEnd U o U' L ({ frames := 3, cells := 0, slots := 0, locals := 40 } : Room).cells ({ frames := 3, cells := 0, slots := 0, locals := 40 } : Room).slots) := by
  refine MetFree.of_bodySF (plainFor_of_name pn_2) hisR ?_
  intro p e s m args below meth c s₁ Bd hml0 hP hK
  obtain ⟨rfl, hZ, hh⟩ := hP
  have hx := Bd.exec
  have hby := Bd.bytes
  have hml : c.maxLocals = 2 := hml0
  have hown : s.vm.findClass "java/lang/String" = some m.cls := findClass_of_methodNamed Bd.named
  have hnm := (name_of_methodNamed Bd.named Bd.method).1
  have X0 : Stand p l e ({ frames := 3, cells := 0, slots := 0, locals := 40 } : Room) s m #[(.ref r0), (.int p1)] below meth c s₁ [] 0 0 := Stand.of_body Bd
  have e0 : s₁.heap = h0 := by rw [← hh, Bd.state]; rfl
  have N0 := Fr.nil n0
  have pre0 : ∀ t, Steps p.tables e below (s₁.setTop (mkF m 0 #[.val (.ref r0), .val (.int p1)] [])) t → Steps p.tables e below (s₁.setTop (entryFrame m #[(.ref r0), (.int p1)] 2)) t := fun t k => castTop (ef_2 m r0 p1) k
  have c1 : ∀ t, Steps p.tables e below (s₁.setTop (mkF m 1 #[.val (.ref r0), .val (.int p1)] [(.ref r0)])) t → Steps p.tables e below (s₁.setTop (mkF m 0 #[.val (.ref r0), .val (.int p1)] [])) t := by
    intro t kt
    show Steps p.tables e below (s₁.setTop (mkF m 0 #[.val (.ref r0), .val (.int p1)] [])) _
    refine XS.aloadN X0.here hx rfl (hb hby d2_0) rfl rfl ?_
    exact kt
  obtain ⟨cq2, kq2, q2a, q2b, q2c⟩ := isOf hZ e0 E0
  obtain ⟨_, _, ⟨T3, L3, k3, n3⟩, -, X3, ⟨Lc3, hQ3, l3, y3, z3⟩, st3⟩ := X0.virtualBack hx (y := (⟨"java/lang/String", "isLatin1", "()Z"⟩ : MethodName)) (z := (⟨"java/lang/String", "isLatin1", "()Z"⟩ : MethodName)) hown (mvT hZ (hw _ (List.mem_of_getElem? (i := 26) rfl))) (mvT hZ (hw _ (List.mem_of_getElem? (i := 27) rfl))) (notFace_of_selects (args := #[]) (mvT hZ (hw _ (List.mem_of_getElem? (i := 29) rfl)))) (mvT hZ (hw _ (List.mem_of_getElem? (i := 29) rfl))) (mvT hZ (hw _ (List.mem_of_getElem? (i := 28) rfl))) (by decide) (backOf (W := 0) (rm3 l Z a0 hw [] r0 cs h0 n0 Z0 SC hcs C0) hZ (hw _ (List.mem_of_getElem? (i := 30) rfl)) (hw _ (List.mem_of_getElem? (i := 15) rfl)) (by decide) (by decide)) q2a q2c (g := (mkF m 1 #[.val (.ref r0), .val (.int p1)] [(.ref r0)])) rfl (by rw [hml]; rfl) (Steps.refl _) (argsL := []) (rest := []) (lenOf pd_2 rfl) rfl (by show 2 * 0 + _ ≤ _; exact Nat.le_of_eq rfl) (hb hby d2_1) (fun _ _ => ⟨rfl, e0, (by decide : 0 + 0 ≤ _), (by decide : 0 + 0 ≤ _)⟩)
  dsimp only [Pt.U, Pt.locs, Pt.cells, Pt.slots] at X3 l3 y3 z3 st3 hQ3
  subst l3 y3 z3
  obtain ⟨rfl, N3q, e3⟩ := hQ3
  have N3 := Fr.app N0 N3q
  have c5 : ∀ t, Steps p.tables e below (T3.setTop (mkF m 8 #[.val (.ref r0), .val (.int p1)] [(.ref r0)])) t → Steps p.tables e below (T3.setTop (mkF m 4 #[.val (.ref r0), .val (.int p1)] [(.int (1 : Int32))])) t := by
    intro t kt
    show Steps p.tables e below (T3.setTop (mkF m 4 #[.val (.ref r0), .val (.int p1)] [(.int (1 : Int32))])) _
    refine XS.ifNo X3.here hx rfl (hb hby d2_4) rfl ((if0 _ _).trans (feq (by decide : ¬ ((1 : Int32) = (0 : Int32)))).1) ?_
    show Steps p.tables e below (T3.setTop (mkF m 7 #[.val (.ref r0), .val (.int p1)] [])) _
    refine XS.aloadN X3.here hx rfl (hb hby d2_7) rfl rfl ?_
    exact kt
  obtain ⟨T4, X4, e4, st4⟩ := getF X3 hx hZ hown (host := "") (Or.inl (hw _ (List.mem_of_getElem? (i := 33) rfl))) Via.refl e3 F0 (g := (mkF m 8 #[.val (.ref r0), .val (.int p1)] [(.ref r0)])) rfl rfl (hb hby d2_8)
  have c6 : ∀ t, Steps p.tables e below (T4.setTop (mkF m 12 #[.val (.ref r0), .val (.int p1)] [(.int p1), (.ref rb)])) t → Steps p.tables e below (T4.setTop (mkF m 11 #[.val (.ref r0), .val (.int p1)] [(.ref rb)])) t := by
    intro t kt
    show Steps p.tables e below (T4.setTop (mkF m 11 #[.val (.ref r0), .val (.int p1)] [(.ref rb)])) _
    refine XS.iloadN X4.here hx rfl (hb hby d2_11) rfl ?_
    exact kt
  obtain ⟨_, _, ⟨T7, L7, k7, n7⟩, -, X7, ⟨Lc7, hQ7, l7, y7, z7⟩, st7⟩ := Jvm.LawKit.callS X4 hx (y := (⟨"java/lang/StringLatin1", "charAt", "([BI)C"⟩ : MethodName)) hown (mvT hZ (hw _ (List.mem_of_getElem? (i := 34) rfl))) (mvT hZ (hw _ (List.mem_of_getElem? (i := 35) rfl))) (mvT hZ (hw _ (List.mem_of_getElem? (i := 36) rfl))) (mvT hZ (hw _ (List.mem_of_getElem? (i := 37) rfl))) (by decide) (backOf (W := 0) (rm4 l Z a0 hw [] rb p1 kk zz vs dv w0 fm h0 n0 Z0 V hi0 ha0 SF hfm) hZ (hw _ (List.mem_of_getElem? (i := 37) rfl)) (hw _ (List.mem_of_getElem? (i := 36) rfl)) (by decide) (by decide)) (g := (mkF m 12 #[.val (.ref r0), .val (.int p1)] [(.int p1), (.ref rb)])) rfl (by rw [hml]; rfl) (argsL := [(.ref rb), (.int p1)]) (rest := []) (lenOf pd_3 rfl) rfl (by show 2 * 0 + _ ≤ _; exact Nat.le_of_eq rfl) (hb hby d2_12) (fun _ _ => ⟨rfl, e4, (by decide : 0 + 0 ≤ _), (by decide : 0 + 0 ≤ _)⟩)
  dsimp only [Pt.U, Pt.locs, Pt.cells, Pt.slots] at X7 l7 y7 z7 st7 hQ7
  subst l7 y7 z7
  obtain ⟨rfl, N7q, e7⟩ := hQ7
  have N7 := Fr.app N3 N7q
  obtain ⟨fs, hr, hrun, hended, hW, hsame⟩ := X7.leave (v := some (.int ((own_ch w0).toUInt32.toUInt16.toUInt32.toInt32))) (fun h => by rw [Bd.returns] at h; cases h)
  refine ⟨_, _, pre0 _ (c1 _ (st3.trans (c5 _ (st4 _ (c6 _ (st7 _ (?_))))))), hrun, hended, _, _, rfl, ?_, ⟨_, rfl⟩, hW, hsame.mono (by decide) (by decide)⟩
  · show Steps p.tables e below (T7.setTop (mkF m 15 #[.val (.ref r0), .val (.int p1)] [(.int (own_ch w0))])) _
    exact retN X7 hx (t := .char) Bd.returns (by simp) (hb hby d2_15) hr
  · show Q2 Z r0 p1 rb kk zz vs dv w0 fm cs h0 n0 _ T7.heap _
    rw [e7]
    exact ⟨congrArg (fun z => some (Value.int z)) (show ((own_ch w0).toUInt32.toUInt16.toUInt32.toInt32) = ((own_ch w0).toUInt32.toUInt16.toUInt32.toInt32) from by rfl), N7, rfl⟩
theorem pn_0 : plainName "com/example/brannan/bench/ScanTableValuePinLaw" = true := by first | (simp [plainName, overriddenIn]; done) | decide +kernel
theorem ef_0 (m : MethodId) (x0 : Int64) (x1 : Int32) (x2 : Int32) (x3 : Int32) : entryFrame m #[(.long x0), (.int x1), (.int x2), (.int x3)] maxLocals = mkF m 0 #[.val (.long x0), .second, .val (.int x1), .val (.int x2), .val (.int x3), .unset, .unset, .unset, .unset, .unset, .unset, .unset, .unset, .unset, .unset, .unset, .unset, .unset] [] := by first | (simp [entryFrame, mkF, argsToLocals, Value.category, maxLocals]; done) | rfl
def Q0 (Z : State) (q0 : Int64) (p1 : Int32) (p2 : Int32) (p3 : Int32) (cs : Int32) (fm : Value) (h0 : Heap) (n0 : Nat) (v : Option Value) (h : Heap) (L : List Loc) : Prop := v = some (.int 1) ∧ Fr n0 L
set_option maxRecDepth 65536 in
set_option maxHeartbeats 40000000 in
theorem rm0 (l : Launch) (Z : State) (a0 : Array Value) (hw : ∀ d ∈ tables_1, d.before a0 Z = true) (ws : List Jvm.Cond) (q0 : Int64) (p1 : Int32) (p2 : Int32) (p3 : Int32) (cs : Int32) (fm : Value) (h0 : Heap) (n0 : Nat) (Z0 : n0 ≤ h0.size) (O0 : Old Z n0 h0) (SC : Sta Z Z.heap "java/lang/String" "COMPACT_STRINGS" "Z" (.int cs)) (hcs : ¬ cs = (0 : Int32)) (SF : Sta Z Z.heap "jdk/internal/util/Preconditions" "SIOOBE_FORMATTER" "Ljava/util/function/BiFunction;" fm) (hfm : fm.isRef = true) :
    MetFree l x (head1 (Jvm.Cond.code x code maxLocals ret :: ws) room_1) (fun a U => a = #[(.long q0), (.int p1), (.int p2), (.int p3)] ∧ Z.Warmed39 U.vm ∧ U.heap = h0 ∧ CHv Z consts_1 U.vm h0) (fun _ _ _ _ _ => True) (fun _ U o U' => ∃ v L, o = .returned v ∧ Q0 Z q0 p1 p2 p3 cs fm h0 n0 v U'.heap L ∧ ReturnedEndW U o U' L room_1.cells room_1.slots) := by
  refine MetFree.of_bodySF (plainFor_of_name pn_0) hisR ?_
  intro p e s m args below meth c s₁ Bd hml0 hP hK
  obtain ⟨rfl, hZ, hh, hCH⟩ := hP
  have hx := Bd.exec
  have hby := Bd.bytes
  have hml : c.maxLocals = 18 := hml0
  have hown : s.vm.findClass "com/example/brannan/bench/ScanTableValuePinLaw" = some m.cls := findClass_of_methodNamed Bd.named
  have hnm := (name_of_methodNamed Bd.named Bd.method).1
  have X0 : Stand p l e room_1 s m #[(.long q0), (.int p1), (.int p2), (.int p3)] below meth c s₁ [] 0 0 := Stand.of_body Bd
  have e0 : s₁.heap = h0 := by rw [← hh, Bd.state]; rfl
  have N0 := Fr.nil n0
  have pre0 : ∀ t, Steps p.tables e below (s₁.setTop (mkF m 0 #[.val (.long q0), .second, .val (.int p1), .val (.int p2), .val (.int p3), .unset, .unset, .unset, .unset, .unset, .unset, .unset, .unset, .unset, .unset, .unset, .unset, .unset] [])) t → Steps p.tables e below (s₁.setTop (entryFrame m #[(.long q0), (.int p1), (.int p2), (.int p3)] maxLocals)) t := fun t k => castTop (ef_0 m q0 p1 p2 p3) k
  have hS0 : s.Since s.vm 0 := (State.WarmedH.refl s).since 0
  have hEL : EW Z a0 consts_1 := (EW.cons (hw _ (List.mem_of_getElem? (i := 14) rfl)) (by decide) (EW.cons (hw _ (List.mem_of_getElem? (i := 49) rfl)) (by decide) (EW.cons (hw _ (List.mem_of_getElem? (i := 48) rfl)) (by decide) (EW.cons (hw _ (List.mem_of_getElem? (i := 47) rfl)) (by decide) EW.nil))))
  have hwS : ∀ d ∈ Bundle.stringAtoms, d.before a0 Z = true := fun d hd => hw d ((by decide +kernel : ∀ d ∈ Bundle.stringAtoms, d ∈ tables_1) d hd)
  have c1 : ∀ t, Steps p.tables e below (s₁.setTop (mkF m 8 #[.val (.long q0), .second, .val (.int p1), .val (.int p2), .val (.int p3), .val (.int (p1 &&& (1 : Int32))), .unset, .unset, .unset, .unset, .unset, .unset, .unset, .unset, .unset, .unset, .unset, .unset] [(.int (p1 &&& (1 : Int32))), (.long q0)])) t → Steps p.tables e below (s₁.setTop (mkF m 0 #[.val (.long q0), .second, .val (.int p1), .val (.int p2), .val (.int p3), .unset, .unset, .unset, .unset, .unset, .unset, .unset, .unset, .unset, .unset, .unset, .unset, .unset] [])) t := by
    intro t kt
    show Steps p.tables e below (s₁.setTop (mkF m 0 #[.val (.long q0), .second, .val (.int p1), .val (.int p2), .val (.int p3), .unset, .unset, .unset, .unset, .unset, .unset, .unset, .unset, .unset, .unset, .unset, .unset, .unset] [])) _
    refine XS.iloadN X0.here hx rfl (hb hby at_0) rfl ?_
    show Steps p.tables e below (s₁.setTop (mkF m 1 #[.val (.long q0), .second, .val (.int p1), .val (.int p2), .val (.int p3), .unset, .unset, .unset, .unset, .unset, .unset, .unset, .unset, .unset, .unset, .unset, .unset, .unset] [(.int p1)])) _
    refine XS.iconst X0.here hx rfl (hb hby at_1) ?_
    show Steps p.tables e below (s₁.setTop (mkF m 2 #[.val (.long q0), .second, .val (.int p1), .val (.int p2), .val (.int p3), .unset, .unset, .unset, .unset, .unset, .unset, .unset, .unset, .unset, .unset, .unset, .unset, .unset] [(.int (1 : Int32)), (.int p1)])) _
    refine XS.iand X0.here hx rfl (hb hby at_2) rfl ?_
    show Steps p.tables e below (s₁.setTop (mkF m 3 #[.val (.long q0), .second, .val (.int p1), .val (.int p2), .val (.int p3), .unset, .unset, .unset, .unset, .unset, .unset, .unset, .unset, .unset, .unset, .unset, .unset, .unset] [(.int (p1 &&& (1 : Int32)))])) _
    refine XS.istore X0.here hx rfl (hb hby at_3) rfl (l' := #[.val (.long q0), .second, .val (.int p1), .val (.int p2), .val (.int p3), .val (.int (p1 &&& (1 : Int32))), .unset, .unset, .unset, .unset, .unset, .unset, .unset, .unset, .unset, .unset, .unset, .unset]) rfl ?_
    show Steps p.tables e below (s₁.setTop (mkF m 5 #[.val (.long q0), .second, .val (.int p1), .val (.int p2), .val (.int p3), .val (.int (p1 &&& (1 : Int32))), .unset, .unset, .unset, .unset, .unset, .unset, .unset, .unset, .unset, .unset, .unset, .unset] [])) _
    refine XS.lloadN X0.here hx rfl (hb hby at_5) rfl ?_
    show Steps p.tables e below (s₁.setTop (mkF m 6 #[.val (.long q0), .second, .val (.int p1), .val (.int p2), .val (.int p3), .val (.int (p1 &&& (1 : Int32))), .unset, .unset, .unset, .unset, .unset, .unset, .unset, .unset, .unset, .unset, .unset, .unset] [(.long q0)])) _
    refine XS.iload X0.here hx rfl (hb hby at_6) rfl ?_
    exact kt
  obtain ⟨_, _, ⟨T2, L2, k2, n2⟩, -, X2, ⟨Lc2, hQ2, l2, y2, z2⟩, st2⟩ := Jvm.LawKit.callS X0 hx (y := (⟨"com/example/brannan/bench/ScanTable", "value", "(JI)[B"⟩ : MethodName)) hown (mvT hZ (hw _ (List.mem_of_getElem? (i := 0) rfl))) (mvT hZ (hw _ (List.mem_of_getElem? (i := 1) rfl))) (mvT hZ (hw _ (List.mem_of_getElem? (i := 2) rfl))) (mvT hZ (hw _ (List.mem_of_getElem? (i := 3) rfl))) (by decide) (backOf (W := 0) (rm1 l Z a0 hw [] q0 (p1 &&& (1 : Int32))  h0 n0 Z0 ) hZ (hw _ (List.mem_of_getElem? (i := 3) rfl)) (hw _ (List.mem_of_getElem? (i := 2) rfl)) (by decide) (by decide)) (g := (mkF m 8 #[.val (.long q0), .second, .val (.int p1), .val (.int p2), .val (.int p3), .val (.int (p1 &&& (1 : Int32))), .unset, .unset, .unset, .unset, .unset, .unset, .unset, .unset, .unset, .unset, .unset, .unset] [(.int (p1 &&& (1 : Int32))), (.long q0)])) rfl (by rw [hml]; rfl) (argsL := [(.long q0), (.int (p1 &&& (1 : Int32)))]) (rest := []) (lenOf pd_4 rfl) rfl (by show 2 * 0 + _ ≤ _; exact Nat.le_of_eq rfl) (hb hby at_8) (fun _ _ => ⟨rfl, e0, (by decide : 0 + 1 ≤ _), (by decide : 0 + 32 ≤ _)⟩)
  dsimp only [Pt.U, Pt.locs, Pt.cells, Pt.slots] at X2 l2 y2 z2 st2 hQ2
  subst l2 y2 z2
  obtain ⟨ob2, kk2, rfl, N2q, Kq2, g_ob2, Vq2⟩ := hQ2
  have N2 := Fr.app N0 N2q
  have Vc3 := Vq2
  obtain ⟨cl3, Ar3, qk3, S3, M3, H3, G3⟩ := Vc3
  have c4 : ∀ t, Steps p.tables e below (T2.setTop (mkF m 34 #[.val (.long q0), .second, .val (.int p1), .val (.int p2), .val (.int p3), .val (.int (p1 &&& (1 : Int32))), .val (.ref ob2), .val (.int (p2 &&& (31 : Int32))), .unset, .unset, .unset, .unset, .unset, .unset, .unset, .unset, .unset, .unset] [])) t → Steps p.tables e below (T2.setTop (mkF m 11 #[.val (.long q0), .second, .val (.int p1), .val (.int p2), .val (.int p3), .val (.int (p1 &&& (1 : Int32))), .unset, .unset, .unset, .unset, .unset, .unset, .unset, .unset, .unset, .unset, .unset, .unset] [(.ref ob2)])) t := by
    intro t kt
    show Steps p.tables e below (T2.setTop (mkF m 11 #[.val (.long q0), .second, .val (.int p1), .val (.int p2), .val (.int p3), .val (.int (p1 &&& (1 : Int32))), .unset, .unset, .unset, .unset, .unset, .unset, .unset, .unset, .unset, .unset, .unset, .unset] [(.ref ob2)])) _
    refine XS.astore X2.here hx rfl (hb hby at_11) rfl rfl (l' := #[.val (.long q0), .second, .val (.int p1), .val (.int p2), .val (.int p3), .val (.int (p1 &&& (1 : Int32))), .val (.ref ob2), .unset, .unset, .unset, .unset, .unset, .unset, .unset, .unset, .unset, .unset, .unset]) rfl ?_
    show Steps p.tables e below (T2.setTop (mkF m 13 #[.val (.long q0), .second, .val (.int p1), .val (.int p2), .val (.int p3), .val (.int (p1 &&& (1 : Int32))), .val (.ref ob2), .unset, .unset, .unset, .unset, .unset, .unset, .unset, .unset, .unset, .unset, .unset] [])) _
    refine XS.aload X2.here hx rfl (hb hby at_13) rfl rfl ?_
    show Steps p.tables e below (T2.setTop (mkF m 15 #[.val (.long q0), .second, .val (.int p1), .val (.int p2), .val (.int p3), .val (.int (p1 &&& (1 : Int32))), .val (.ref ob2), .unset, .unset, .unset, .unset, .unset, .unset, .unset, .unset, .unset, .unset, .unset] [(.ref ob2)])) _
    refine XS.ifnullNo X2.here hx rfl (hb hby at_15) rfl ?_
    show Steps p.tables e below (T2.setTop (mkF m 18 #[.val (.long q0), .second, .val (.int p1), .val (.int p2), .val (.int p3), .val (.int (p1 &&& (1 : Int32))), .val (.ref ob2), .unset, .unset, .unset, .unset, .unset, .unset, .unset, .unset, .unset, .unset, .unset] [])) _
    refine XS.aload X2.here hx rfl (hb hby at_18) rfl rfl ?_
    show Steps p.tables e below (T2.setTop (mkF m 20 #[.val (.long q0), .second, .val (.int p1), .val (.int p2), .val (.int p3), .val (.int (p1 &&& (1 : Int32))), .val (.ref ob2), .unset, .unset, .unset, .unset, .unset, .unset, .unset, .unset, .unset, .unset, .unset] [(.ref ob2)])) _
    refine X2.arraylength hx Ar3.1 (State.isArrayOf_alike hZ.alike Ar3.2.1) (g := (mkF m 20 #[.val (.long q0), .second, .val (.int p1), .val (.int p2), .val (.int p3), .val (.int (p1 &&& (1 : Int32))), .val (.ref ob2), .unset, .unset, .unset, .unset, .unset, .unset, .unset, .unset, .unset, .unset, .unset] [(.ref ob2)])) rfl rfl (hb hby at_20) _ ?_
    rw [len_of S3 M3]
    show Steps p.tables e below (T2.setTop (mkF m 21 #[.val (.long q0), .second, .val (.int p1), .val (.int p2), .val (.int p3), .val (.int (p1 &&& (1 : Int32))), .val (.ref ob2), .unset, .unset, .unset, .unset, .unset, .unset, .unset, .unset, .unset, .unset, .unset] [(.int (32 : Int32))])) _
    refine XS.bipush X2.here hx rfl (hb hby at_21) ?_
    show Steps p.tables e below (T2.setTop (mkF m 23 #[.val (.long q0), .second, .val (.int p1), .val (.int p2), .val (.int p3), .val (.int (p1 &&& (1 : Int32))), .val (.ref ob2), .unset, .unset, .unset, .unset, .unset, .unset, .unset, .unset, .unset, .unset, .unset] [(.int (32 : Int32)), (.int (32 : Int32))])) _
    refine XS.icmpYes X2.here hx rfl (pc0 := 23) (pc' := 28) rfl (hb hby at_23) rfl (teq (by decide : (32 : Int32) = (32 : Int32))).1 (by decide) (by decide) ?_
    show Steps p.tables e below (T2.setTop (mkF m 28 #[.val (.long q0), .second, .val (.int p1), .val (.int p2), .val (.int p3), .val (.int (p1 &&& (1 : Int32))), .val (.ref ob2), .unset, .unset, .unset, .unset, .unset, .unset, .unset, .unset, .unset, .unset, .unset] [])) _
    refine XS.iloadN X2.here hx rfl (hb hby at_28) rfl ?_
    show Steps p.tables e below (T2.setTop (mkF m 29 #[.val (.long q0), .second, .val (.int p1), .val (.int p2), .val (.int p3), .val (.int (p1 &&& (1 : Int32))), .val (.ref ob2), .unset, .unset, .unset, .unset, .unset, .unset, .unset, .unset, .unset, .unset, .unset] [(.int p2)])) _
    refine XS.bipush X2.here hx rfl (hb hby at_29) ?_
    show Steps p.tables e below (T2.setTop (mkF m 31 #[.val (.long q0), .second, .val (.int p1), .val (.int p2), .val (.int p3), .val (.int (p1 &&& (1 : Int32))), .val (.ref ob2), .unset, .unset, .unset, .unset, .unset, .unset, .unset, .unset, .unset, .unset, .unset] [(.int (31 : Int32)), (.int p2)])) _
    refine XS.iand X2.here hx rfl (hb hby at_31) rfl ?_
    show Steps p.tables e below (T2.setTop (mkF m 32 #[.val (.long q0), .second, .val (.int p1), .val (.int p2), .val (.int p3), .val (.int (p1 &&& (1 : Int32))), .val (.ref ob2), .unset, .unset, .unset, .unset, .unset, .unset, .unset, .unset, .unset, .unset, .unset] [(.int (p2 &&& (31 : Int32)))])) _
    refine XS.istore X2.here hx rfl (hb hby at_32) rfl (l' := #[.val (.long q0), .second, .val (.int p1), .val (.int p2), .val (.int p3), .val (.int (p1 &&& (1 : Int32))), .val (.ref ob2), .val (.int (p2 &&& (31 : Int32))), .unset, .unset, .unset, .unset, .unset, .unset, .unset, .unset, .unset, .unset]) rfl ?_
    exact kt
  obtain ⟨iN, hiN, hie⟩ := own_mask p2
  have c5 : ∀ t, Steps p.tables e below (T2.setTop (mkF m 34 #[.val (.long q0), .second, .val (.int p1), .val (.int p2), .val (.int p3), .val (.int (p1 &&& (1 : Int32))), .val (.ref ob2), .val (.int (Int32.ofNat iN)), .unset, .unset, .unset, .unset, .unset, .unset, .unset, .unset, .unset, .unset] [])) t → Steps p.tables e below (T2.setTop (mkF m 34 #[.val (.long q0), .second, .val (.int p1), .val (.int p2), .val (.int p3), .val (.int (p1 &&& (1 : Int32))), .val (.ref ob2), .val (.int (p2 &&& (31 : Int32))), .unset, .unset, .unset, .unset, .unset, .unset, .unset, .unset, .unset, .unset] [])) t := fun t kt => by rw [hie]; exact kt
  have Vc6 := Vq2
  obtain ⟨cl6, Ar6, qk6, S6, M6, H6, G6⟩ := Vc6
  have hin6 : ¬ ((Int32.ofNat iN) < 0 ∨ cl6.slots.size ≤ ((Int32.ofNat iN)).toNatClampNeg) := inb_of S6 (own_in iN hiN)
  have hat6 : cl6.slots[((Int32.ofNat iN)).toNatClampNeg]? = some (.int (own_f (own_x0 q0 (p1 &&& (1 : Int32))) iN)) := H6.at hin6 (own_get (own_x0 q0 (p1 &&& (1 : Int32))) iN hiN)
  have c8 : ∀ t, Steps p.tables e below (T2.setTop (mkF m 41 #[.val (.long q0), .second, .val (.int p1), .val (.int p2), .val (.int p3), .val (.int (p1 &&& (1 : Int32))), .val (.ref ob2), .val (.int (Int32.ofNat iN)), .unset, .unset, .unset, .unset, .unset, .unset, .unset, .unset, .unset, .unset] [(.int (97 : Int32)), (.int (own_f (own_x0 q0 (p1 &&& (1 : Int32))) iN))])) t → Steps p.tables e below (T2.setTop (mkF m 34 #[.val (.long q0), .second, .val (.int p1), .val (.int p2), .val (.int p3), .val (.int (p1 &&& (1 : Int32))), .val (.ref ob2), .val (.int (Int32.ofNat iN)), .unset, .unset, .unset, .unset, .unset, .unset, .unset, .unset, .unset, .unset] [])) t := by
    intro t kt
    show Steps p.tables e below (T2.setTop (mkF m 34 #[.val (.long q0), .second, .val (.int p1), .val (.int p2), .val (.int p3), .val (.int (p1 &&& (1 : Int32))), .val (.ref ob2), .val (.int (Int32.ofNat iN)), .unset, .unset, .unset, .unset, .unset, .unset, .unset, .unset, .unset, .unset] [])) _
    refine XS.aload X2.here hx rfl (hb hby at_34) rfl rfl ?_
    show Steps p.tables e below (T2.setTop (mkF m 36 #[.val (.long q0), .second, .val (.int p1), .val (.int p2), .val (.int p3), .val (.int (p1 &&& (1 : Int32))), .val (.ref ob2), .val (.int (Int32.ofNat iN)), .unset, .unset, .unset, .unset, .unset, .unset, .unset, .unset, .unset, .unset] [(.ref ob2)])) _
    refine XS.iload X2.here hx rfl (hb hby at_36) rfl ?_
    show Steps p.tables e below (T2.setTop (mkF m 38 #[.val (.long q0), .second, .val (.int p1), .val (.int p2), .val (.int p3), .val (.int (p1 &&& (1 : Int32))), .val (.ref ob2), .val (.int (Int32.ofNat iN)), .unset, .unset, .unset, .unset, .unset, .unset, .unset, .unset, .unset, .unset] [(.int (Int32.ofNat iN)), (.ref ob2)])) _
    refine X2.baloadBytes hx (j := (Int32.ofNat iN)) (v := (.int (own_f (own_x0 q0 (p1 &&& (1 : Int32))) iN))) Ar6.1 (State.isArrayOf_alike hZ.alike Ar6.2.1) Ar6.2.2 hin6 hat6 (g := (mkF m 38 #[.val (.long q0), .second, .val (.int p1), .val (.int p2), .val (.int p3), .val (.int (p1 &&& (1 : Int32))), .val (.ref ob2), .val (.int (Int32.ofNat iN)), .unset, .unset, .unset, .unset, .unset, .unset, .unset, .unset, .unset, .unset] [(.int (Int32.ofNat iN)), (.ref ob2)])) rfl rfl (hb hby at_38) _ ?_
    show Steps p.tables e below (T2.setTop (mkF m 39 #[.val (.long q0), .second, .val (.int p1), .val (.int p2), .val (.int p3), .val (.int (p1 &&& (1 : Int32))), .val (.ref ob2), .val (.int (Int32.ofNat iN)), .unset, .unset, .unset, .unset, .unset, .unset, .unset, .unset, .unset, .unset] [(.int (own_f (own_x0 q0 (p1 &&& (1 : Int32))) iN))])) _
    refine XS.bipush X2.here hx rfl (hb hby at_39) ?_
    exact kt
  have hd7 : ¬ ((own_f (own_x0 q0 (p1 &&& (1 : Int32))) iN) < (97 : Int32)) := (own_rng _ _).1
  have Vc9 := Vq2
  obtain ⟨cl9, Ar9, qk9, S9, M9, H9, G9⟩ := Vc9
  have hin9 : ¬ ((Int32.ofNat iN) < 0 ∨ cl9.slots.size ≤ ((Int32.ofNat iN)).toNatClampNeg) := inb_of S9 (own_in iN hiN)
  have hat9 : cl9.slots[((Int32.ofNat iN)).toNatClampNeg]? = some (.int (own_f (own_x0 q0 (p1 &&& (1 : Int32))) iN)) := H9.at hin9 (own_get (own_x0 q0 (p1 &&& (1 : Int32))) iN hiN)
  have c11 : ∀ t, Steps p.tables e below (T2.setTop (mkF m 51 #[.val (.long q0), .second, .val (.int p1), .val (.int p2), .val (.int p3), .val (.int (p1 &&& (1 : Int32))), .val (.ref ob2), .val (.int (Int32.ofNat iN)), .unset, .unset, .unset, .unset, .unset, .unset, .unset, .unset, .unset, .unset] [(.int (122 : Int32)), (.int (own_f (own_x0 q0 (p1 &&& (1 : Int32))) iN))])) t → Steps p.tables e below (T2.setTop (mkF m 41 #[.val (.long q0), .second, .val (.int p1), .val (.int p2), .val (.int p3), .val (.int (p1 &&& (1 : Int32))), .val (.ref ob2), .val (.int (Int32.ofNat iN)), .unset, .unset, .unset, .unset, .unset, .unset, .unset, .unset, .unset, .unset] [(.int (97 : Int32)), (.int (own_f (own_x0 q0 (p1 &&& (1 : Int32))) iN))])) t := by
    intro t kt
    show Steps p.tables e below (T2.setTop (mkF m 41 #[.val (.long q0), .second, .val (.int p1), .val (.int p2), .val (.int p3), .val (.int (p1 &&& (1 : Int32))), .val (.ref ob2), .val (.int (Int32.ofNat iN)), .unset, .unset, .unset, .unset, .unset, .unset, .unset, .unset, .unset, .unset] [(.int (97 : Int32)), (.int (own_f (own_x0 q0 (p1 &&& (1 : Int32))) iN))])) _
    refine XS.icmpNo X2.here hx rfl (hb hby at_41) rfl (flt (hd7)).1 ?_
    show Steps p.tables e below (T2.setTop (mkF m 44 #[.val (.long q0), .second, .val (.int p1), .val (.int p2), .val (.int p3), .val (.int (p1 &&& (1 : Int32))), .val (.ref ob2), .val (.int (Int32.ofNat iN)), .unset, .unset, .unset, .unset, .unset, .unset, .unset, .unset, .unset, .unset] [])) _
    refine XS.aload X2.here hx rfl (hb hby at_44) rfl rfl ?_
    show Steps p.tables e below (T2.setTop (mkF m 46 #[.val (.long q0), .second, .val (.int p1), .val (.int p2), .val (.int p3), .val (.int (p1 &&& (1 : Int32))), .val (.ref ob2), .val (.int (Int32.ofNat iN)), .unset, .unset, .unset, .unset, .unset, .unset, .unset, .unset, .unset, .unset] [(.ref ob2)])) _
    refine XS.iload X2.here hx rfl (hb hby at_46) rfl ?_
    show Steps p.tables e below (T2.setTop (mkF m 48 #[.val (.long q0), .second, .val (.int p1), .val (.int p2), .val (.int p3), .val (.int (p1 &&& (1 : Int32))), .val (.ref ob2), .val (.int (Int32.ofNat iN)), .unset, .unset, .unset, .unset, .unset, .unset, .unset, .unset, .unset, .unset] [(.int (Int32.ofNat iN)), (.ref ob2)])) _
    refine X2.baloadBytes hx (j := (Int32.ofNat iN)) (v := (.int (own_f (own_x0 q0 (p1 &&& (1 : Int32))) iN))) Ar9.1 (State.isArrayOf_alike hZ.alike Ar9.2.1) Ar9.2.2 hin9 hat9 (g := (mkF m 48 #[.val (.long q0), .second, .val (.int p1), .val (.int p2), .val (.int p3), .val (.int (p1 &&& (1 : Int32))), .val (.ref ob2), .val (.int (Int32.ofNat iN)), .unset, .unset, .unset, .unset, .unset, .unset, .unset, .unset, .unset, .unset] [(.int (Int32.ofNat iN)), (.ref ob2)])) rfl rfl (hb hby at_48) _ ?_
    show Steps p.tables e below (T2.setTop (mkF m 49 #[.val (.long q0), .second, .val (.int p1), .val (.int p2), .val (.int p3), .val (.int (p1 &&& (1 : Int32))), .val (.ref ob2), .val (.int (Int32.ofNat iN)), .unset, .unset, .unset, .unset, .unset, .unset, .unset, .unset, .unset, .unset] [(.int (own_f (own_x0 q0 (p1 &&& (1 : Int32))) iN))])) _
    refine XS.bipush X2.here hx rfl (hb hby at_49) ?_
    exact kt
  have hd10 : ¬ ((122 : Int32) < (own_f (own_x0 q0 (p1 &&& (1 : Int32))) iN)) := (own_rng _ _).2
  have c12 : ∀ t, Steps p.tables e below (T2.setTop (mkF m 89 #[.val (.long q0), .second, .val (.int p1), .val (.int p2), .val (.int p3), .val (.int (p1 &&& (1 : Int32))), .val (.ref ob2), .val (.int (Int32.ofNat iN)), .val (.long (((((q0 * (6364136223846793005 : Int64)) + (1442695040888963407 : Int64)) + ((p1 &&& (1 : Int32)).toInt64)) ^^^ (((((q0 * (6364136223846793005 : Int64)) + (1442695040888963407 : Int64)) + ((p1 &&& (1 : Int32)).toInt64)).toUInt64 >>> ((29 : Int32) &&& 0x3f).toInt64.toUInt64).toInt64)) * (-4658895280553007687 : Int64))), .second, .unset, .unset, .unset, .unset, .unset, .unset, .unset, .unset] [])) t → Steps p.tables e below (T2.setTop (mkF m 51 #[.val (.long q0), .second, .val (.int p1), .val (.int p2), .val (.int p3), .val (.int (p1 &&& (1 : Int32))), .val (.ref ob2), .val (.int (Int32.ofNat iN)), .unset, .unset, .unset, .unset, .unset, .unset, .unset, .unset, .unset, .unset] [(.int (122 : Int32)), (.int (own_f (own_x0 q0 (p1 &&& (1 : Int32))) iN))])) t := by
    intro t kt
    show Steps p.tables e below (T2.setTop (mkF m 51 #[.val (.long q0), .second, .val (.int p1), .val (.int p2), .val (.int p3), .val (.int (p1 &&& (1 : Int32))), .val (.ref ob2), .val (.int (Int32.ofNat iN)), .unset, .unset, .unset, .unset, .unset, .unset, .unset, .unset, .unset, .unset] [(.int (122 : Int32)), (.int (own_f (own_x0 q0 (p1 &&& (1 : Int32))) iN))])) _
    refine XS.icmpYes X2.here hx rfl (pc0 := 51) (pc' := 56) rfl (hb hby at_51) rfl (flt (hd10)).2.2.2 (by decide) (by decide) ?_
    show Steps p.tables e below (T2.setTop (mkF m 56 #[.val (.long q0), .second, .val (.int p1), .val (.int p2), .val (.int p3), .val (.int (p1 &&& (1 : Int32))), .val (.ref ob2), .val (.int (Int32.ofNat iN)), .unset, .unset, .unset, .unset, .unset, .unset, .unset, .unset, .unset, .unset] [])) _
    refine XS.lloadN X2.here hx rfl (hb hby at_56) rfl ?_
    show Steps p.tables e below (T2.setTop (mkF m 57 #[.val (.long q0), .second, .val (.int p1), .val (.int p2), .val (.int p3), .val (.int (p1 &&& (1 : Int32))), .val (.ref ob2), .val (.int (Int32.ofNat iN)), .unset, .unset, .unset, .unset, .unset, .unset, .unset, .unset, .unset, .unset] [(.long q0)])) _
    refine X2.ldc2Long hx hown (mvT hZ (hw _ (List.mem_of_getElem? (i := 10) rfl))) (g := (mkF m 57 #[.val (.long q0), .second, .val (.int p1), .val (.int p2), .val (.int p3), .val (.int (p1 &&& (1 : Int32))), .val (.ref ob2), .val (.int (Int32.ofNat iN)), .unset, .unset, .unset, .unset, .unset, .unset, .unset, .unset, .unset, .unset] [(.long q0)])) rfl (hb hby at_57) _ ?_
    show Steps p.tables e below (T2.setTop (mkF m 60 #[.val (.long q0), .second, .val (.int p1), .val (.int p2), .val (.int p3), .val (.int (p1 &&& (1 : Int32))), .val (.ref ob2), .val (.int (Int32.ofNat iN)), .unset, .unset, .unset, .unset, .unset, .unset, .unset, .unset, .unset, .unset] [(.long (6364136223846793005 : Int64)), (.long q0)])) _
    refine XS.lmul X2.here hx rfl (hb hby at_60) rfl ?_
    show Steps p.tables e below (T2.setTop (mkF m 61 #[.val (.long q0), .second, .val (.int p1), .val (.int p2), .val (.int p3), .val (.int (p1 &&& (1 : Int32))), .val (.ref ob2), .val (.int (Int32.ofNat iN)), .unset, .unset, .unset, .unset, .unset, .unset, .unset, .unset, .unset, .unset] [(.long (q0 * (6364136223846793005 : Int64)))])) _
    refine X2.ldc2Long hx hown (mvT hZ (hw _ (List.mem_of_getElem? (i := 11) rfl))) (g := (mkF m 61 #[.val (.long q0), .second, .val (.int p1), .val (.int p2), .val (.int p3), .val (.int (p1 &&& (1 : Int32))), .val (.ref ob2), .val (.int (Int32.ofNat iN)), .unset, .unset, .unset, .unset, .unset, .unset, .unset, .unset, .unset, .unset] [(.long (q0 * (6364136223846793005 : Int64)))])) rfl (hb hby at_61) _ ?_
    show Steps p.tables e below (T2.setTop (mkF m 64 #[.val (.long q0), .second, .val (.int p1), .val (.int p2), .val (.int p3), .val (.int (p1 &&& (1 : Int32))), .val (.ref ob2), .val (.int (Int32.ofNat iN)), .unset, .unset, .unset, .unset, .unset, .unset, .unset, .unset, .unset, .unset] [(.long (1442695040888963407 : Int64)), (.long (q0 * (6364136223846793005 : Int64)))])) _
    refine XS.ladd X2.here hx rfl (hb hby at_64) rfl ?_
    show Steps p.tables e below (T2.setTop (mkF m 65 #[.val (.long q0), .second, .val (.int p1), .val (.int p2), .val (.int p3), .val (.int (p1 &&& (1 : Int32))), .val (.ref ob2), .val (.int (Int32.ofNat iN)), .unset, .unset, .unset, .unset, .unset, .unset, .unset, .unset, .unset, .unset] [(.long ((q0 * (6364136223846793005 : Int64)) + (1442695040888963407 : Int64)))])) _
    refine XS.iload X2.here hx rfl (hb hby at_65) rfl ?_
    show Steps p.tables e below (T2.setTop (mkF m 67 #[.val (.long q0), .second, .val (.int p1), .val (.int p2), .val (.int p3), .val (.int (p1 &&& (1 : Int32))), .val (.ref ob2), .val (.int (Int32.ofNat iN)), .unset, .unset, .unset, .unset, .unset, .unset, .unset, .unset, .unset, .unset] [(.int (p1 &&& (1 : Int32))), (.long ((q0 * (6364136223846793005 : Int64)) + (1442695040888963407 : Int64)))])) _
    refine XS.i2l X2.here hx rfl (hb hby at_67) rfl ?_
    show Steps p.tables e below (T2.setTop (mkF m 68 #[.val (.long q0), .second, .val (.int p1), .val (.int p2), .val (.int p3), .val (.int (p1 &&& (1 : Int32))), .val (.ref ob2), .val (.int (Int32.ofNat iN)), .unset, .unset, .unset, .unset, .unset, .unset, .unset, .unset, .unset, .unset] [(.long ((p1 &&& (1 : Int32)).toInt64)), (.long ((q0 * (6364136223846793005 : Int64)) + (1442695040888963407 : Int64)))])) _
    refine XS.ladd X2.here hx rfl (hb hby at_68) rfl ?_
    show Steps p.tables e below (T2.setTop (mkF m 69 #[.val (.long q0), .second, .val (.int p1), .val (.int p2), .val (.int p3), .val (.int (p1 &&& (1 : Int32))), .val (.ref ob2), .val (.int (Int32.ofNat iN)), .unset, .unset, .unset, .unset, .unset, .unset, .unset, .unset, .unset, .unset] [(.long (((q0 * (6364136223846793005 : Int64)) + (1442695040888963407 : Int64)) + ((p1 &&& (1 : Int32)).toInt64)))])) _
    refine XS.lstore X2.here hx rfl (hb hby at_69) rfl (l' := #[.val (.long q0), .second, .val (.int p1), .val (.int p2), .val (.int p3), .val (.int (p1 &&& (1 : Int32))), .val (.ref ob2), .val (.int (Int32.ofNat iN)), .val (.long (((q0 * (6364136223846793005 : Int64)) + (1442695040888963407 : Int64)) + ((p1 &&& (1 : Int32)).toInt64))), .second, .unset, .unset, .unset, .unset, .unset, .unset, .unset, .unset]) rfl ?_
    show Steps p.tables e below (T2.setTop (mkF m 71 #[.val (.long q0), .second, .val (.int p1), .val (.int p2), .val (.int p3), .val (.int (p1 &&& (1 : Int32))), .val (.ref ob2), .val (.int (Int32.ofNat iN)), .val (.long (((q0 * (6364136223846793005 : Int64)) + (1442695040888963407 : Int64)) + ((p1 &&& (1 : Int32)).toInt64))), .second, .unset, .unset, .unset, .unset, .unset, .unset, .unset, .unset] [])) _
    refine XS.lload X2.here hx rfl (hb hby at_71) rfl ?_
    show Steps p.tables e below (T2.setTop (mkF m 73 #[.val (.long q0), .second, .val (.int p1), .val (.int p2), .val (.int p3), .val (.int (p1 &&& (1 : Int32))), .val (.ref ob2), .val (.int (Int32.ofNat iN)), .val (.long (((q0 * (6364136223846793005 : Int64)) + (1442695040888963407 : Int64)) + ((p1 &&& (1 : Int32)).toInt64))), .second, .unset, .unset, .unset, .unset, .unset, .unset, .unset, .unset] [(.long (((q0 * (6364136223846793005 : Int64)) + (1442695040888963407 : Int64)) + ((p1 &&& (1 : Int32)).toInt64)))])) _
    refine XS.lload X2.here hx rfl (hb hby at_73) rfl ?_
    show Steps p.tables e below (T2.setTop (mkF m 75 #[.val (.long q0), .second, .val (.int p1), .val (.int p2), .val (.int p3), .val (.int (p1 &&& (1 : Int32))), .val (.ref ob2), .val (.int (Int32.ofNat iN)), .val (.long (((q0 * (6364136223846793005 : Int64)) + (1442695040888963407 : Int64)) + ((p1 &&& (1 : Int32)).toInt64))), .second, .unset, .unset, .unset, .unset, .unset, .unset, .unset, .unset] [(.long (((q0 * (6364136223846793005 : Int64)) + (1442695040888963407 : Int64)) + ((p1 &&& (1 : Int32)).toInt64))), (.long (((q0 * (6364136223846793005 : Int64)) + (1442695040888963407 : Int64)) + ((p1 &&& (1 : Int32)).toInt64)))])) _
    refine XS.bipush X2.here hx rfl (hb hby at_75) ?_
    show Steps p.tables e below (T2.setTop (mkF m 77 #[.val (.long q0), .second, .val (.int p1), .val (.int p2), .val (.int p3), .val (.int (p1 &&& (1 : Int32))), .val (.ref ob2), .val (.int (Int32.ofNat iN)), .val (.long (((q0 * (6364136223846793005 : Int64)) + (1442695040888963407 : Int64)) + ((p1 &&& (1 : Int32)).toInt64))), .second, .unset, .unset, .unset, .unset, .unset, .unset, .unset, .unset] [(.int (29 : Int32)), (.long (((q0 * (6364136223846793005 : Int64)) + (1442695040888963407 : Int64)) + ((p1 &&& (1 : Int32)).toInt64))), (.long (((q0 * (6364136223846793005 : Int64)) + (1442695040888963407 : Int64)) + ((p1 &&& (1 : Int32)).toInt64)))])) _
    refine XS.lushr X2.here hx rfl (hb hby at_77) rfl ?_
    show Steps p.tables e below (T2.setTop (mkF m 78 #[.val (.long q0), .second, .val (.int p1), .val (.int p2), .val (.int p3), .val (.int (p1 &&& (1 : Int32))), .val (.ref ob2), .val (.int (Int32.ofNat iN)), .val (.long (((q0 * (6364136223846793005 : Int64)) + (1442695040888963407 : Int64)) + ((p1 &&& (1 : Int32)).toInt64))), .second, .unset, .unset, .unset, .unset, .unset, .unset, .unset, .unset] [(.long (((((q0 * (6364136223846793005 : Int64)) + (1442695040888963407 : Int64)) + ((p1 &&& (1 : Int32)).toInt64)).toUInt64 >>> ((29 : Int32) &&& 0x3f).toInt64.toUInt64).toInt64)), (.long (((q0 * (6364136223846793005 : Int64)) + (1442695040888963407 : Int64)) + ((p1 &&& (1 : Int32)).toInt64)))])) _
    refine XS.lxor X2.here hx rfl (hb hby at_78) rfl ?_
    show Steps p.tables e below (T2.setTop (mkF m 79 #[.val (.long q0), .second, .val (.int p1), .val (.int p2), .val (.int p3), .val (.int (p1 &&& (1 : Int32))), .val (.ref ob2), .val (.int (Int32.ofNat iN)), .val (.long (((q0 * (6364136223846793005 : Int64)) + (1442695040888963407 : Int64)) + ((p1 &&& (1 : Int32)).toInt64))), .second, .unset, .unset, .unset, .unset, .unset, .unset, .unset, .unset] [(.long ((((q0 * (6364136223846793005 : Int64)) + (1442695040888963407 : Int64)) + ((p1 &&& (1 : Int32)).toInt64)) ^^^ (((((q0 * (6364136223846793005 : Int64)) + (1442695040888963407 : Int64)) + ((p1 &&& (1 : Int32)).toInt64)).toUInt64 >>> ((29 : Int32) &&& 0x3f).toInt64.toUInt64).toInt64)))])) _
    refine XS.lstore X2.here hx rfl (hb hby at_79) rfl (l' := #[.val (.long q0), .second, .val (.int p1), .val (.int p2), .val (.int p3), .val (.int (p1 &&& (1 : Int32))), .val (.ref ob2), .val (.int (Int32.ofNat iN)), .val (.long ((((q0 * (6364136223846793005 : Int64)) + (1442695040888963407 : Int64)) + ((p1 &&& (1 : Int32)).toInt64)) ^^^ (((((q0 * (6364136223846793005 : Int64)) + (1442695040888963407 : Int64)) + ((p1 &&& (1 : Int32)).toInt64)).toUInt64 >>> ((29 : Int32) &&& 0x3f).toInt64.toUInt64).toInt64))), .second, .unset, .unset, .unset, .unset, .unset, .unset, .unset, .unset]) rfl ?_
    show Steps p.tables e below (T2.setTop (mkF m 81 #[.val (.long q0), .second, .val (.int p1), .val (.int p2), .val (.int p3), .val (.int (p1 &&& (1 : Int32))), .val (.ref ob2), .val (.int (Int32.ofNat iN)), .val (.long ((((q0 * (6364136223846793005 : Int64)) + (1442695040888963407 : Int64)) + ((p1 &&& (1 : Int32)).toInt64)) ^^^ (((((q0 * (6364136223846793005 : Int64)) + (1442695040888963407 : Int64)) + ((p1 &&& (1 : Int32)).toInt64)).toUInt64 >>> ((29 : Int32) &&& 0x3f).toInt64.toUInt64).toInt64))), .second, .unset, .unset, .unset, .unset, .unset, .unset, .unset, .unset] [])) _
    refine XS.lload X2.here hx rfl (hb hby at_81) rfl ?_
    show Steps p.tables e below (T2.setTop (mkF m 83 #[.val (.long q0), .second, .val (.int p1), .val (.int p2), .val (.int p3), .val (.int (p1 &&& (1 : Int32))), .val (.ref ob2), .val (.int (Int32.ofNat iN)), .val (.long ((((q0 * (6364136223846793005 : Int64)) + (1442695040888963407 : Int64)) + ((p1 &&& (1 : Int32)).toInt64)) ^^^ (((((q0 * (6364136223846793005 : Int64)) + (1442695040888963407 : Int64)) + ((p1 &&& (1 : Int32)).toInt64)).toUInt64 >>> ((29 : Int32) &&& 0x3f).toInt64.toUInt64).toInt64))), .second, .unset, .unset, .unset, .unset, .unset, .unset, .unset, .unset] [(.long ((((q0 * (6364136223846793005 : Int64)) + (1442695040888963407 : Int64)) + ((p1 &&& (1 : Int32)).toInt64)) ^^^ (((((q0 * (6364136223846793005 : Int64)) + (1442695040888963407 : Int64)) + ((p1 &&& (1 : Int32)).toInt64)).toUInt64 >>> ((29 : Int32) &&& 0x3f).toInt64.toUInt64).toInt64)))])) _
    refine X2.ldc2Long hx hown (mvT hZ (hw _ (List.mem_of_getElem? (i := 12) rfl))) (g := (mkF m 83 #[.val (.long q0), .second, .val (.int p1), .val (.int p2), .val (.int p3), .val (.int (p1 &&& (1 : Int32))), .val (.ref ob2), .val (.int (Int32.ofNat iN)), .val (.long ((((q0 * (6364136223846793005 : Int64)) + (1442695040888963407 : Int64)) + ((p1 &&& (1 : Int32)).toInt64)) ^^^ (((((q0 * (6364136223846793005 : Int64)) + (1442695040888963407 : Int64)) + ((p1 &&& (1 : Int32)).toInt64)).toUInt64 >>> ((29 : Int32) &&& 0x3f).toInt64.toUInt64).toInt64))), .second, .unset, .unset, .unset, .unset, .unset, .unset, .unset, .unset] [(.long ((((q0 * (6364136223846793005 : Int64)) + (1442695040888963407 : Int64)) + ((p1 &&& (1 : Int32)).toInt64)) ^^^ (((((q0 * (6364136223846793005 : Int64)) + (1442695040888963407 : Int64)) + ((p1 &&& (1 : Int32)).toInt64)).toUInt64 >>> ((29 : Int32) &&& 0x3f).toInt64.toUInt64).toInt64)))])) rfl (hb hby at_83) _ ?_
    show Steps p.tables e below (T2.setTop (mkF m 86 #[.val (.long q0), .second, .val (.int p1), .val (.int p2), .val (.int p3), .val (.int (p1 &&& (1 : Int32))), .val (.ref ob2), .val (.int (Int32.ofNat iN)), .val (.long ((((q0 * (6364136223846793005 : Int64)) + (1442695040888963407 : Int64)) + ((p1 &&& (1 : Int32)).toInt64)) ^^^ (((((q0 * (6364136223846793005 : Int64)) + (1442695040888963407 : Int64)) + ((p1 &&& (1 : Int32)).toInt64)).toUInt64 >>> ((29 : Int32) &&& 0x3f).toInt64.toUInt64).toInt64))), .second, .unset, .unset, .unset, .unset, .unset, .unset, .unset, .unset] [(.long (-4658895280553007687 : Int64)), (.long ((((q0 * (6364136223846793005 : Int64)) + (1442695040888963407 : Int64)) + ((p1 &&& (1 : Int32)).toInt64)) ^^^ (((((q0 * (6364136223846793005 : Int64)) + (1442695040888963407 : Int64)) + ((p1 &&& (1 : Int32)).toInt64)).toUInt64 >>> ((29 : Int32) &&& 0x3f).toInt64.toUInt64).toInt64)))])) _
    refine XS.lmul X2.here hx rfl (hb hby at_86) rfl ?_
    show Steps p.tables e below (T2.setTop (mkF m 87 #[.val (.long q0), .second, .val (.int p1), .val (.int p2), .val (.int p3), .val (.int (p1 &&& (1 : Int32))), .val (.ref ob2), .val (.int (Int32.ofNat iN)), .val (.long ((((q0 * (6364136223846793005 : Int64)) + (1442695040888963407 : Int64)) + ((p1 &&& (1 : Int32)).toInt64)) ^^^ (((((q0 * (6364136223846793005 : Int64)) + (1442695040888963407 : Int64)) + ((p1 &&& (1 : Int32)).toInt64)).toUInt64 >>> ((29 : Int32) &&& 0x3f).toInt64.toUInt64).toInt64))), .second, .unset, .unset, .unset, .unset, .unset, .unset, .unset, .unset] [(.long (((((q0 * (6364136223846793005 : Int64)) + (1442695040888963407 : Int64)) + ((p1 &&& (1 : Int32)).toInt64)) ^^^ (((((q0 * (6364136223846793005 : Int64)) + (1442695040888963407 : Int64)) + ((p1 &&& (1 : Int32)).toInt64)).toUInt64 >>> ((29 : Int32) &&& 0x3f).toInt64.toUInt64).toInt64)) * (-4658895280553007687 : Int64)))])) _
    refine XS.lstore X2.here hx rfl (hb hby at_87) rfl (l' := #[.val (.long q0), .second, .val (.int p1), .val (.int p2), .val (.int p3), .val (.int (p1 &&& (1 : Int32))), .val (.ref ob2), .val (.int (Int32.ofNat iN)), .val (.long (((((q0 * (6364136223846793005 : Int64)) + (1442695040888963407 : Int64)) + ((p1 &&& (1 : Int32)).toInt64)) ^^^ (((((q0 * (6364136223846793005 : Int64)) + (1442695040888963407 : Int64)) + ((p1 &&& (1 : Int32)).toInt64)).toUInt64 >>> ((29 : Int32) &&& 0x3f).toInt64.toUInt64).toInt64)) * (-4658895280553007687 : Int64))), .second, .unset, .unset, .unset, .unset, .unset, .unset, .unset, .unset]) rfl ?_
    exact kt
  have c13 : ∀ t, Steps p.tables e below (T2.setTop (mkF m 89 #[.val (.long q0), .second, .val (.int p1), .val (.int p2), .val (.int p3), .val (.int (p1 &&& (1 : Int32))), .val (.ref ob2), .val (.int (Int32.ofNat iN)), .val (.long (own_st (own_x0 q0 (p1 &&& (1 : Int32))))), .second, .unset, .unset, .unset, .unset, .unset, .unset, .unset, .unset] [])) t → Steps p.tables e below (T2.setTop (mkF m 89 #[.val (.long q0), .second, .val (.int p1), .val (.int p2), .val (.int p3), .val (.int (p1 &&& (1 : Int32))), .val (.ref ob2), .val (.int (Int32.ofNat iN)), .val (.long (((((q0 * (6364136223846793005 : Int64)) + (1442695040888963407 : Int64)) + ((p1 &&& (1 : Int32)).toInt64)) ^^^ (((((q0 * (6364136223846793005 : Int64)) + (1442695040888963407 : Int64)) + ((p1 &&& (1 : Int32)).toInt64)).toUInt64 >>> ((29 : Int32) &&& 0x3f).toInt64.toUInt64).toInt64)) * (-4658895280553007687 : Int64))), .second, .unset, .unset, .unset, .unset, .unset, .unset, .unset, .unset] [])) t := fun t kt => by show Steps p.tables e below (T2.setTop (mkF m 89 #[.val (.long q0), .second, .val (.int p1), .val (.int p2), .val (.int p3), .val (.int (p1 &&& (1 : Int32))), .val (.ref ob2), .val (.int (Int32.ofNat iN)), .val (.long (own_st (own_x0 q0 (p1 &&& (1 : Int32))))), .second, .unset, .unset, .unset, .unset, .unset, .unset, .unset, .unset] [])) t; exact kt
  have Vc14 := Vq2
  obtain ⟨cl14, Ar14, qk14, S14, M14, H14, G14⟩ := Vc14
  have hin14 : ¬ ((0 : Int32) < 0 ∨ cl14.slots.size ≤ ((0 : Int32)).toNatClampNeg) := inb_of S14 (own_in 0 (by decide))
  have hat14 : cl14.slots[((0 : Int32)).toNatClampNeg]? = some (.int (own_f (own_x0 q0 (p1 &&& (1 : Int32))) 0)) := H14.at hin14 (own_get (own_x0 q0 (p1 &&& (1 : Int32))) 0 (by decide))
  have c16 : ∀ t, Steps p.tables e below (T2.setTop (mkF m 110 #[.val (.long q0), .second, .val (.int p1), .val (.int p2), .val (.int p3), .val (.int (p1 &&& (1 : Int32))), .val (.ref ob2), .val (.int (Int32.ofNat iN)), .val (.long (own_st (own_x0 q0 (p1 &&& (1 : Int32))))), .second, .val (.int ((97 : Int32) + (((((own_st (own_x0 q0 (p1 &&& (1 : Int32)))).toUInt64 >>> ((33 : Int32) &&& 0x3f).toInt64.toUInt64).toInt64) % (26 : Int64)).toInt32))), .unset, .unset, .unset, .unset, .unset, .unset, .unset] [(.int ((97 : Int32) + (((((own_st (own_x0 q0 (p1 &&& (1 : Int32)))).toUInt64 >>> ((33 : Int32) &&& 0x3f).toInt64.toUInt64).toInt64) % (26 : Int64)).toInt32))), (.int (own_f (own_x0 q0 (p1 &&& (1 : Int32))) 0))])) t → Steps p.tables e below (T2.setTop (mkF m 89 #[.val (.long q0), .second, .val (.int p1), .val (.int p2), .val (.int p3), .val (.int (p1 &&& (1 : Int32))), .val (.ref ob2), .val (.int (Int32.ofNat iN)), .val (.long (own_st (own_x0 q0 (p1 &&& (1 : Int32))))), .second, .unset, .unset, .unset, .unset, .unset, .unset, .unset, .unset] [])) t := by
    intro t kt
    show Steps p.tables e below (T2.setTop (mkF m 89 #[.val (.long q0), .second, .val (.int p1), .val (.int p2), .val (.int p3), .val (.int (p1 &&& (1 : Int32))), .val (.ref ob2), .val (.int (Int32.ofNat iN)), .val (.long (own_st (own_x0 q0 (p1 &&& (1 : Int32))))), .second, .unset, .unset, .unset, .unset, .unset, .unset, .unset, .unset] [])) _
    refine XS.bipush X2.here hx rfl (hb hby at_89) ?_
    show Steps p.tables e below (T2.setTop (mkF m 91 #[.val (.long q0), .second, .val (.int p1), .val (.int p2), .val (.int p3), .val (.int (p1 &&& (1 : Int32))), .val (.ref ob2), .val (.int (Int32.ofNat iN)), .val (.long (own_st (own_x0 q0 (p1 &&& (1 : Int32))))), .second, .unset, .unset, .unset, .unset, .unset, .unset, .unset, .unset] [(.int (97 : Int32))])) _
    refine XS.lload X2.here hx rfl (hb hby at_91) rfl ?_
    show Steps p.tables e below (T2.setTop (mkF m 93 #[.val (.long q0), .second, .val (.int p1), .val (.int p2), .val (.int p3), .val (.int (p1 &&& (1 : Int32))), .val (.ref ob2), .val (.int (Int32.ofNat iN)), .val (.long (own_st (own_x0 q0 (p1 &&& (1 : Int32))))), .second, .unset, .unset, .unset, .unset, .unset, .unset, .unset, .unset] [(.long (own_st (own_x0 q0 (p1 &&& (1 : Int32))))), (.int (97 : Int32))])) _
    refine XS.bipush X2.here hx rfl (hb hby at_93) ?_
    show Steps p.tables e below (T2.setTop (mkF m 95 #[.val (.long q0), .second, .val (.int p1), .val (.int p2), .val (.int p3), .val (.int (p1 &&& (1 : Int32))), .val (.ref ob2), .val (.int (Int32.ofNat iN)), .val (.long (own_st (own_x0 q0 (p1 &&& (1 : Int32))))), .second, .unset, .unset, .unset, .unset, .unset, .unset, .unset, .unset] [(.int (33 : Int32)), (.long (own_st (own_x0 q0 (p1 &&& (1 : Int32))))), (.int (97 : Int32))])) _
    refine XS.lushr X2.here hx rfl (hb hby at_95) rfl ?_
    show Steps p.tables e below (T2.setTop (mkF m 96 #[.val (.long q0), .second, .val (.int p1), .val (.int p2), .val (.int p3), .val (.int (p1 &&& (1 : Int32))), .val (.ref ob2), .val (.int (Int32.ofNat iN)), .val (.long (own_st (own_x0 q0 (p1 &&& (1 : Int32))))), .second, .unset, .unset, .unset, .unset, .unset, .unset, .unset, .unset] [(.long (((own_st (own_x0 q0 (p1 &&& (1 : Int32)))).toUInt64 >>> ((33 : Int32) &&& 0x3f).toInt64.toUInt64).toInt64)), (.int (97 : Int32))])) _
    refine X2.ldc2Long hx hown (mvT hZ (hw _ (List.mem_of_getElem? (i := 13) rfl))) (g := (mkF m 96 #[.val (.long q0), .second, .val (.int p1), .val (.int p2), .val (.int p3), .val (.int (p1 &&& (1 : Int32))), .val (.ref ob2), .val (.int (Int32.ofNat iN)), .val (.long (own_st (own_x0 q0 (p1 &&& (1 : Int32))))), .second, .unset, .unset, .unset, .unset, .unset, .unset, .unset, .unset] [(.long (((own_st (own_x0 q0 (p1 &&& (1 : Int32)))).toUInt64 >>> ((33 : Int32) &&& 0x3f).toInt64.toUInt64).toInt64)), (.int (97 : Int32))])) rfl (hb hby at_96) _ ?_
    show Steps p.tables e below (T2.setTop (mkF m 99 #[.val (.long q0), .second, .val (.int p1), .val (.int p2), .val (.int p3), .val (.int (p1 &&& (1 : Int32))), .val (.ref ob2), .val (.int (Int32.ofNat iN)), .val (.long (own_st (own_x0 q0 (p1 &&& (1 : Int32))))), .second, .unset, .unset, .unset, .unset, .unset, .unset, .unset, .unset] [(.long (26 : Int64)), (.long (((own_st (own_x0 q0 (p1 &&& (1 : Int32)))).toUInt64 >>> ((33 : Int32) &&& 0x3f).toInt64.toUInt64).toInt64)), (.int (97 : Int32))])) _
    refine own_lrem X2 hx rfl (hb hby at_99) rfl (by decide) ?_
    show Steps p.tables e below (T2.setTop (mkF m 100 #[.val (.long q0), .second, .val (.int p1), .val (.int p2), .val (.int p3), .val (.int (p1 &&& (1 : Int32))), .val (.ref ob2), .val (.int (Int32.ofNat iN)), .val (.long (own_st (own_x0 q0 (p1 &&& (1 : Int32))))), .second, .unset, .unset, .unset, .unset, .unset, .unset, .unset, .unset] [(.long ((((own_st (own_x0 q0 (p1 &&& (1 : Int32)))).toUInt64 >>> ((33 : Int32) &&& 0x3f).toInt64.toUInt64).toInt64) % (26 : Int64))), (.int (97 : Int32))])) _
    refine XS.l2i X2.here hx rfl (hb hby at_100) rfl ?_
    show Steps p.tables e below (T2.setTop (mkF m 101 #[.val (.long q0), .second, .val (.int p1), .val (.int p2), .val (.int p3), .val (.int (p1 &&& (1 : Int32))), .val (.ref ob2), .val (.int (Int32.ofNat iN)), .val (.long (own_st (own_x0 q0 (p1 &&& (1 : Int32))))), .second, .unset, .unset, .unset, .unset, .unset, .unset, .unset, .unset] [(.int (((((own_st (own_x0 q0 (p1 &&& (1 : Int32)))).toUInt64 >>> ((33 : Int32) &&& 0x3f).toInt64.toUInt64).toInt64) % (26 : Int64)).toInt32)), (.int (97 : Int32))])) _
    refine XS.iadd X2.here hx rfl (hb hby at_101) rfl ?_
    show Steps p.tables e below (T2.setTop (mkF m 102 #[.val (.long q0), .second, .val (.int p1), .val (.int p2), .val (.int p3), .val (.int (p1 &&& (1 : Int32))), .val (.ref ob2), .val (.int (Int32.ofNat iN)), .val (.long (own_st (own_x0 q0 (p1 &&& (1 : Int32))))), .second, .unset, .unset, .unset, .unset, .unset, .unset, .unset, .unset] [(.int ((97 : Int32) + (((((own_st (own_x0 q0 (p1 &&& (1 : Int32)))).toUInt64 >>> ((33 : Int32) &&& 0x3f).toInt64.toUInt64).toInt64) % (26 : Int64)).toInt32)))])) _
    refine XS.istore X2.here hx rfl (hb hby at_102) rfl (l' := #[.val (.long q0), .second, .val (.int p1), .val (.int p2), .val (.int p3), .val (.int (p1 &&& (1 : Int32))), .val (.ref ob2), .val (.int (Int32.ofNat iN)), .val (.long (own_st (own_x0 q0 (p1 &&& (1 : Int32))))), .second, .val (.int ((97 : Int32) + (((((own_st (own_x0 q0 (p1 &&& (1 : Int32)))).toUInt64 >>> ((33 : Int32) &&& 0x3f).toInt64.toUInt64).toInt64) % (26 : Int64)).toInt32))), .unset, .unset, .unset, .unset, .unset, .unset, .unset]) rfl ?_
    show Steps p.tables e below (T2.setTop (mkF m 104 #[.val (.long q0), .second, .val (.int p1), .val (.int p2), .val (.int p3), .val (.int (p1 &&& (1 : Int32))), .val (.ref ob2), .val (.int (Int32.ofNat iN)), .val (.long (own_st (own_x0 q0 (p1 &&& (1 : Int32))))), .second, .val (.int ((97 : Int32) + (((((own_st (own_x0 q0 (p1 &&& (1 : Int32)))).toUInt64 >>> ((33 : Int32) &&& 0x3f).toInt64.toUInt64).toInt64) % (26 : Int64)).toInt32))), .unset, .unset, .unset, .unset, .unset, .unset, .unset] [])) _
    refine XS.aload X2.here hx rfl (hb hby at_104) rfl rfl ?_
    show Steps p.tables e below (T2.setTop (mkF m 106 #[.val (.long q0), .second, .val (.int p1), .val (.int p2), .val (.int p3), .val (.int (p1 &&& (1 : Int32))), .val (.ref ob2), .val (.int (Int32.ofNat iN)), .val (.long (own_st (own_x0 q0 (p1 &&& (1 : Int32))))), .second, .val (.int ((97 : Int32) + (((((own_st (own_x0 q0 (p1 &&& (1 : Int32)))).toUInt64 >>> ((33 : Int32) &&& 0x3f).toInt64.toUInt64).toInt64) % (26 : Int64)).toInt32))), .unset, .unset, .unset, .unset, .unset, .unset, .unset] [(.ref ob2)])) _
    refine XS.iconst X2.here hx rfl (hb hby at_106) ?_
    show Steps p.tables e below (T2.setTop (mkF m 107 #[.val (.long q0), .second, .val (.int p1), .val (.int p2), .val (.int p3), .val (.int (p1 &&& (1 : Int32))), .val (.ref ob2), .val (.int (Int32.ofNat iN)), .val (.long (own_st (own_x0 q0 (p1 &&& (1 : Int32))))), .second, .val (.int ((97 : Int32) + (((((own_st (own_x0 q0 (p1 &&& (1 : Int32)))).toUInt64 >>> ((33 : Int32) &&& 0x3f).toInt64.toUInt64).toInt64) % (26 : Int64)).toInt32))), .unset, .unset, .unset, .unset, .unset, .unset, .unset] [(.int (0 : Int32)), (.ref ob2)])) _
    refine X2.baloadBytes hx (j := (0 : Int32)) (v := (.int (own_f (own_x0 q0 (p1 &&& (1 : Int32))) 0))) Ar14.1 (State.isArrayOf_alike hZ.alike Ar14.2.1) Ar14.2.2 hin14 hat14 (g := (mkF m 107 #[.val (.long q0), .second, .val (.int p1), .val (.int p2), .val (.int p3), .val (.int (p1 &&& (1 : Int32))), .val (.ref ob2), .val (.int (Int32.ofNat iN)), .val (.long (own_st (own_x0 q0 (p1 &&& (1 : Int32))))), .second, .val (.int ((97 : Int32) + (((((own_st (own_x0 q0 (p1 &&& (1 : Int32)))).toUInt64 >>> ((33 : Int32) &&& 0x3f).toInt64.toUInt64).toInt64) % (26 : Int64)).toInt32))), .unset, .unset, .unset, .unset, .unset, .unset, .unset] [(.int (0 : Int32)), (.ref ob2)])) rfl rfl (hb hby at_107) _ ?_
    show Steps p.tables e below (T2.setTop (mkF m 108 #[.val (.long q0), .second, .val (.int p1), .val (.int p2), .val (.int p3), .val (.int (p1 &&& (1 : Int32))), .val (.ref ob2), .val (.int (Int32.ofNat iN)), .val (.long (own_st (own_x0 q0 (p1 &&& (1 : Int32))))), .second, .val (.int ((97 : Int32) + (((((own_st (own_x0 q0 (p1 &&& (1 : Int32)))).toUInt64 >>> ((33 : Int32) &&& 0x3f).toInt64.toUInt64).toInt64) % (26 : Int64)).toInt32))), .unset, .unset, .unset, .unset, .unset, .unset, .unset] [(.int (own_f (own_x0 q0 (p1 &&& (1 : Int32))) 0))])) _
    refine XS.iload X2.here hx rfl (hb hby at_108) rfl ?_
    exact kt
  have hd15 : (own_f (own_x0 q0 (p1 &&& (1 : Int32))) 0) = ((97 : Int32) + (((((own_st (own_x0 q0 (p1 &&& (1 : Int32)))).toUInt64 >>> ((33 : Int32) &&& 0x3f).toInt64.toUInt64).toInt64) % (26 : Int64)).toInt32)) := own_first _
  have c17 : ∀ t, Steps p.tables e below (T2.setTop (mkF m 121 #[.val (.long q0), .second, .val (.int p1), .val (.int p2), .val (.int p3), .val (.int (p1 &&& (1 : Int32))), .val (.ref ob2), .val (.int (Int32.ofNat iN)), .val (.long (own_st (own_x0 q0 (p1 &&& (1 : Int32))))), .second, .val (.int ((97 : Int32) + (((((own_st (own_x0 q0 (p1 &&& (1 : Int32)))).toUInt64 >>> ((33 : Int32) &&& 0x3f).toInt64.toUInt64).toInt64) % (26 : Int64)).toInt32))), .val (.int (p3 &&& (3 : Int32))), .unset, .unset, .unset, .unset, .unset, .unset] [])) t → Steps p.tables e below (T2.setTop (mkF m 110 #[.val (.long q0), .second, .val (.int p1), .val (.int p2), .val (.int p3), .val (.int (p1 &&& (1 : Int32))), .val (.ref ob2), .val (.int (Int32.ofNat iN)), .val (.long (own_st (own_x0 q0 (p1 &&& (1 : Int32))))), .second, .val (.int ((97 : Int32) + (((((own_st (own_x0 q0 (p1 &&& (1 : Int32)))).toUInt64 >>> ((33 : Int32) &&& 0x3f).toInt64.toUInt64).toInt64) % (26 : Int64)).toInt32))), .unset, .unset, .unset, .unset, .unset, .unset, .unset] [(.int ((97 : Int32) + (((((own_st (own_x0 q0 (p1 &&& (1 : Int32)))).toUInt64 >>> ((33 : Int32) &&& 0x3f).toInt64.toUInt64).toInt64) % (26 : Int64)).toInt32))), (.int (own_f (own_x0 q0 (p1 &&& (1 : Int32))) 0))])) t := by
    intro t kt
    show Steps p.tables e below (T2.setTop (mkF m 110 #[.val (.long q0), .second, .val (.int p1), .val (.int p2), .val (.int p3), .val (.int (p1 &&& (1 : Int32))), .val (.ref ob2), .val (.int (Int32.ofNat iN)), .val (.long (own_st (own_x0 q0 (p1 &&& (1 : Int32))))), .second, .val (.int ((97 : Int32) + (((((own_st (own_x0 q0 (p1 &&& (1 : Int32)))).toUInt64 >>> ((33 : Int32) &&& 0x3f).toInt64.toUInt64).toInt64) % (26 : Int64)).toInt32))), .unset, .unset, .unset, .unset, .unset, .unset, .unset] [(.int ((97 : Int32) + (((((own_st (own_x0 q0 (p1 &&& (1 : Int32)))).toUInt64 >>> ((33 : Int32) &&& 0x3f).toInt64.toUInt64).toInt64) % (26 : Int64)).toInt32))), (.int (own_f (own_x0 q0 (p1 &&& (1 : Int32))) 0))])) _
    refine XS.icmpYes X2.here hx rfl (pc0 := 110) (pc' := 115) rfl (hb hby at_110) rfl (teq (hd15)).1 (by decide) (by decide) ?_
    show Steps p.tables e below (T2.setTop (mkF m 115 #[.val (.long q0), .second, .val (.int p1), .val (.int p2), .val (.int p3), .val (.int (p1 &&& (1 : Int32))), .val (.ref ob2), .val (.int (Int32.ofNat iN)), .val (.long (own_st (own_x0 q0 (p1 &&& (1 : Int32))))), .second, .val (.int ((97 : Int32) + (((((own_st (own_x0 q0 (p1 &&& (1 : Int32)))).toUInt64 >>> ((33 : Int32) &&& 0x3f).toInt64.toUInt64).toInt64) % (26 : Int64)).toInt32))), .unset, .unset, .unset, .unset, .unset, .unset, .unset] [])) _
    refine XS.iload X2.here hx rfl (hb hby at_115) rfl ?_
    show Steps p.tables e below (T2.setTop (mkF m 117 #[.val (.long q0), .second, .val (.int p1), .val (.int p2), .val (.int p3), .val (.int (p1 &&& (1 : Int32))), .val (.ref ob2), .val (.int (Int32.ofNat iN)), .val (.long (own_st (own_x0 q0 (p1 &&& (1 : Int32))))), .second, .val (.int ((97 : Int32) + (((((own_st (own_x0 q0 (p1 &&& (1 : Int32)))).toUInt64 >>> ((33 : Int32) &&& 0x3f).toInt64.toUInt64).toInt64) % (26 : Int64)).toInt32))), .unset, .unset, .unset, .unset, .unset, .unset, .unset] [(.int p3)])) _
    refine XS.iconst X2.here hx rfl (hb hby at_117) ?_
    show Steps p.tables e below (T2.setTop (mkF m 118 #[.val (.long q0), .second, .val (.int p1), .val (.int p2), .val (.int p3), .val (.int (p1 &&& (1 : Int32))), .val (.ref ob2), .val (.int (Int32.ofNat iN)), .val (.long (own_st (own_x0 q0 (p1 &&& (1 : Int32))))), .second, .val (.int ((97 : Int32) + (((((own_st (own_x0 q0 (p1 &&& (1 : Int32)))).toUInt64 >>> ((33 : Int32) &&& 0x3f).toInt64.toUInt64).toInt64) % (26 : Int64)).toInt32))), .unset, .unset, .unset, .unset, .unset, .unset, .unset] [(.int (3 : Int32)), (.int p3)])) _
    refine XS.iand X2.here hx rfl (hb hby at_118) rfl ?_
    show Steps p.tables e below (T2.setTop (mkF m 119 #[.val (.long q0), .second, .val (.int p1), .val (.int p2), .val (.int p3), .val (.int (p1 &&& (1 : Int32))), .val (.ref ob2), .val (.int (Int32.ofNat iN)), .val (.long (own_st (own_x0 q0 (p1 &&& (1 : Int32))))), .second, .val (.int ((97 : Int32) + (((((own_st (own_x0 q0 (p1 &&& (1 : Int32)))).toUInt64 >>> ((33 : Int32) &&& 0x3f).toInt64.toUInt64).toInt64) % (26 : Int64)).toInt32))), .unset, .unset, .unset, .unset, .unset, .unset, .unset] [(.int (p3 &&& (3 : Int32)))])) _
    refine XS.istore X2.here hx rfl (hb hby at_119) rfl (l' := #[.val (.long q0), .second, .val (.int p1), .val (.int p2), .val (.int p3), .val (.int (p1 &&& (1 : Int32))), .val (.ref ob2), .val (.int (Int32.ofNat iN)), .val (.long (own_st (own_x0 q0 (p1 &&& (1 : Int32))))), .second, .val (.int ((97 : Int32) + (((((own_st (own_x0 q0 (p1 &&& (1 : Int32)))).toUInt64 >>> ((33 : Int32) &&& 0x3f).toInt64.toUInt64).toInt64) % (26 : Int64)).toInt32))), .val (.int (p3 &&& (3 : Int32))), .unset, .unset, .unset, .unset, .unset, .unset]) rfl ?_
    exact kt
  rcases own_four p3 with hsl | hsl | hsl | hsl
  · skip
    have c18 : ∀ t, Steps p.tables e below (T2.setTop (mkF m 121 #[.val (.long q0), .second, .val (.int p1), .val (.int p2), .val (.int p3), .val (.int (p1 &&& (1 : Int32))), .val (.ref ob2), .val (.int (Int32.ofNat iN)), .val (.long (own_st (own_x0 q0 (p1 &&& (1 : Int32))))), .second, .val (.int ((97 : Int32) + (((((own_st (own_x0 q0 (p1 &&& (1 : Int32)))).toUInt64 >>> ((33 : Int32) &&& 0x3f).toInt64.toUInt64).toInt64) % (26 : Int64)).toInt32))), .val (.int (0 : Int32)), .unset, .unset, .unset, .unset, .unset, .unset] [])) t → Steps p.tables e below (T2.setTop (mkF m 121 #[.val (.long q0), .second, .val (.int p1), .val (.int p2), .val (.int p3), .val (.int (p1 &&& (1 : Int32))), .val (.ref ob2), .val (.int (Int32.ofNat iN)), .val (.long (own_st (own_x0 q0 (p1 &&& (1 : Int32))))), .second, .val (.int ((97 : Int32) + (((((own_st (own_x0 q0 (p1 &&& (1 : Int32)))).toUInt64 >>> ((33 : Int32) &&& 0x3f).toInt64.toUInt64).toInt64) % (26 : Int64)).toInt32))), .val (.int (p3 &&& (3 : Int32))), .unset, .unset, .unset, .unset, .unset, .unset] [])) t := fun t kt => by rw [hsl]; exact kt
    have c20 : ∀ t, Steps p.tables e below (T2.setTop (mkF m 148 #[.val (.long q0), .second, .val (.int p1), .val (.int p2), .val (.int p3), .val (.int (p1 &&& (1 : Int32))), .val (.ref ob2), .val (.int (Int32.ofNat iN)), .val (.long (own_st (own_x0 q0 (p1 &&& (1 : Int32))))), .second, .val (.int ((97 : Int32) + (((((own_st (own_x0 q0 (p1 &&& (1 : Int32)))).toUInt64 >>> ((33 : Int32) &&& 0x3f).toInt64.toUInt64).toInt64) % (26 : Int64)).toInt32))), .val (.int (0 : Int32)), .val (.long (0 : Int64)), .second, .val (.int ((0 : Int32) &&& (1 : Int32))), .unset, .unset, .unset] [])) t → Steps p.tables e below (T2.setTop (mkF m 121 #[.val (.long q0), .second, .val (.int p1), .val (.int p2), .val (.int p3), .val (.int (p1 &&& (1 : Int32))), .val (.ref ob2), .val (.int (Int32.ofNat iN)), .val (.long (own_st (own_x0 q0 (p1 &&& (1 : Int32))))), .second, .val (.int ((97 : Int32) + (((((own_st (own_x0 q0 (p1 &&& (1 : Int32)))).toUInt64 >>> ((33 : Int32) &&& 0x3f).toInt64.toUInt64).toInt64) % (26 : Int64)).toInt32))), .val (.int (0 : Int32)), .unset, .unset, .unset, .unset, .unset, .unset] [])) t := by
      intro t kt
      show Steps p.tables e below (T2.setTop (mkF m 121 #[.val (.long q0), .second, .val (.int p1), .val (.int p2), .val (.int p3), .val (.int (p1 &&& (1 : Int32))), .val (.ref ob2), .val (.int (Int32.ofNat iN)), .val (.long (own_st (own_x0 q0 (p1 &&& (1 : Int32))))), .second, .val (.int ((97 : Int32) + (((((own_st (own_x0 q0 (p1 &&& (1 : Int32)))).toUInt64 >>> ((33 : Int32) &&& 0x3f).toInt64.toUInt64).toInt64) % (26 : Int64)).toInt32))), .val (.int (0 : Int32)), .unset, .unset, .unset, .unset, .unset, .unset] [])) _
      refine XS.iload X2.here hx rfl (hb hby at_121) rfl ?_
      show Steps p.tables e below (T2.setTop (mkF m 123 #[.val (.long q0), .second, .val (.int p1), .val (.int p2), .val (.int p3), .val (.int (p1 &&& (1 : Int32))), .val (.ref ob2), .val (.int (Int32.ofNat iN)), .val (.long (own_st (own_x0 q0 (p1 &&& (1 : Int32))))), .second, .val (.int ((97 : Int32) + (((((own_st (own_x0 q0 (p1 &&& (1 : Int32)))).toUInt64 >>> ((33 : Int32) &&& 0x3f).toInt64.toUInt64).toInt64) % (26 : Int64)).toInt32))), .val (.int (0 : Int32)), .unset, .unset, .unset, .unset, .unset, .unset] [(.int (0 : Int32))])) _
      refine XS.iconst X2.here hx rfl (hb hby at_123) ?_
      show Steps p.tables e below (T2.setTop (mkF m 124 #[.val (.long q0), .second, .val (.int p1), .val (.int p2), .val (.int p3), .val (.int (p1 &&& (1 : Int32))), .val (.ref ob2), .val (.int (Int32.ofNat iN)), .val (.long (own_st (own_x0 q0 (p1 &&& (1 : Int32))))), .second, .val (.int ((97 : Int32) + (((((own_st (own_x0 q0 (p1 &&& (1 : Int32)))).toUInt64 >>> ((33 : Int32) &&& 0x3f).toInt64.toUInt64).toInt64) % (26 : Int64)).toInt32))), .val (.int (0 : Int32)), .unset, .unset, .unset, .unset, .unset, .unset] [(.int (2 : Int32)), (.int (0 : Int32))])) _
      refine XS.iand X2.here hx rfl (hb hby at_124) rfl ?_
      show Steps p.tables e below (T2.setTop (mkF m 125 #[.val (.long q0), .second, .val (.int p1), .val (.int p2), .val (.int p3), .val (.int (p1 &&& (1 : Int32))), .val (.ref ob2), .val (.int (Int32.ofNat iN)), .val (.long (own_st (own_x0 q0 (p1 &&& (1 : Int32))))), .second, .val (.int ((97 : Int32) + (((((own_st (own_x0 q0 (p1 &&& (1 : Int32)))).toUInt64 >>> ((33 : Int32) &&& 0x3f).toInt64.toUInt64).toInt64) % (26 : Int64)).toInt32))), .val (.int (0 : Int32)), .unset, .unset, .unset, .unset, .unset, .unset] [(.int ((0 : Int32) &&& (2 : Int32)))])) _
      refine XS.ifNo X2.here hx rfl (hb hby at_125) rfl ((if0 _ _).trans (teq (by decide : ((0 : Int32) &&& (2 : Int32)) = (0 : Int32))).2) ?_
      show Steps p.tables e below (T2.setTop (mkF m 128 #[.val (.long q0), .second, .val (.int p1), .val (.int p2), .val (.int p3), .val (.int (p1 &&& (1 : Int32))), .val (.ref ob2), .val (.int (Int32.ofNat iN)), .val (.long (own_st (own_x0 q0 (p1 &&& (1 : Int32))))), .second, .val (.int ((97 : Int32) + (((((own_st (own_x0 q0 (p1 &&& (1 : Int32)))).toUInt64 >>> ((33 : Int32) &&& 0x3f).toInt64.toUInt64).toInt64) % (26 : Int64)).toInt32))), .val (.int (0 : Int32)), .unset, .unset, .unset, .unset, .unset, .unset] [])) _
      refine XS.lconst X2.here hx rfl (hb hby at_128) ?_
      show Steps p.tables e below (T2.setTop (mkF m 129 #[.val (.long q0), .second, .val (.int p1), .val (.int p2), .val (.int p3), .val (.int (p1 &&& (1 : Int32))), .val (.ref ob2), .val (.int (Int32.ofNat iN)), .val (.long (own_st (own_x0 q0 (p1 &&& (1 : Int32))))), .second, .val (.int ((97 : Int32) + (((((own_st (own_x0 q0 (p1 &&& (1 : Int32)))).toUInt64 >>> ((33 : Int32) &&& 0x3f).toInt64.toUInt64).toInt64) % (26 : Int64)).toInt32))), .val (.int (0 : Int32)), .unset, .unset, .unset, .unset, .unset, .unset] [(.long (0 : Int64))])) _
      refine XS.goto X2.here hx rfl (pc0 := 129) (pc' := 135) rfl (hb hby at_129) (by decide) (by decide) ?_
      show Steps p.tables e below (T2.setTop (mkF m 135 #[.val (.long q0), .second, .val (.int p1), .val (.int p2), .val (.int p3), .val (.int (p1 &&& (1 : Int32))), .val (.ref ob2), .val (.int (Int32.ofNat iN)), .val (.long (own_st (own_x0 q0 (p1 &&& (1 : Int32))))), .second, .val (.int ((97 : Int32) + (((((own_st (own_x0 q0 (p1 &&& (1 : Int32)))).toUInt64 >>> ((33 : Int32) &&& 0x3f).toInt64.toUInt64).toInt64) % (26 : Int64)).toInt32))), .val (.int (0 : Int32)), .unset, .unset, .unset, .unset, .unset, .unset] [(.long (0 : Int64))])) _
      refine XS.lstore X2.here hx rfl (hb hby at_135) rfl (l' := #[.val (.long q0), .second, .val (.int p1), .val (.int p2), .val (.int p3), .val (.int (p1 &&& (1 : Int32))), .val (.ref ob2), .val (.int (Int32.ofNat iN)), .val (.long (own_st (own_x0 q0 (p1 &&& (1 : Int32))))), .second, .val (.int ((97 : Int32) + (((((own_st (own_x0 q0 (p1 &&& (1 : Int32)))).toUInt64 >>> ((33 : Int32) &&& 0x3f).toInt64.toUInt64).toInt64) % (26 : Int64)).toInt32))), .val (.int (0 : Int32)), .val (.long (0 : Int64)), .second, .unset, .unset, .unset, .unset]) rfl ?_
      show Steps p.tables e below (T2.setTop (mkF m 137 #[.val (.long q0), .second, .val (.int p1), .val (.int p2), .val (.int p3), .val (.int (p1 &&& (1 : Int32))), .val (.ref ob2), .val (.int (Int32.ofNat iN)), .val (.long (own_st (own_x0 q0 (p1 &&& (1 : Int32))))), .second, .val (.int ((97 : Int32) + (((((own_st (own_x0 q0 (p1 &&& (1 : Int32)))).toUInt64 >>> ((33 : Int32) &&& 0x3f).toInt64.toUInt64).toInt64) % (26 : Int64)).toInt32))), .val (.int (0 : Int32)), .val (.long (0 : Int64)), .second, .unset, .unset, .unset, .unset] [])) _
      refine XS.iload X2.here hx rfl (hb hby at_137) rfl ?_
      show Steps p.tables e below (T2.setTop (mkF m 139 #[.val (.long q0), .second, .val (.int p1), .val (.int p2), .val (.int p3), .val (.int (p1 &&& (1 : Int32))), .val (.ref ob2), .val (.int (Int32.ofNat iN)), .val (.long (own_st (own_x0 q0 (p1 &&& (1 : Int32))))), .second, .val (.int ((97 : Int32) + (((((own_st (own_x0 q0 (p1 &&& (1 : Int32)))).toUInt64 >>> ((33 : Int32) &&& 0x3f).toInt64.toUInt64).toInt64) % (26 : Int64)).toInt32))), .val (.int (0 : Int32)), .val (.long (0 : Int64)), .second, .unset, .unset, .unset, .unset] [(.int (0 : Int32))])) _
      refine XS.iconst X2.here hx rfl (hb hby at_139) ?_
      show Steps p.tables e below (T2.setTop (mkF m 140 #[.val (.long q0), .second, .val (.int p1), .val (.int p2), .val (.int p3), .val (.int (p1 &&& (1 : Int32))), .val (.ref ob2), .val (.int (Int32.ofNat iN)), .val (.long (own_st (own_x0 q0 (p1 &&& (1 : Int32))))), .second, .val (.int ((97 : Int32) + (((((own_st (own_x0 q0 (p1 &&& (1 : Int32)))).toUInt64 >>> ((33 : Int32) &&& 0x3f).toInt64.toUInt64).toInt64) % (26 : Int64)).toInt32))), .val (.int (0 : Int32)), .val (.long (0 : Int64)), .second, .unset, .unset, .unset, .unset] [(.int (1 : Int32)), (.int (0 : Int32))])) _
      refine XS.iand X2.here hx rfl (hb hby at_140) rfl ?_
      show Steps p.tables e below (T2.setTop (mkF m 141 #[.val (.long q0), .second, .val (.int p1), .val (.int p2), .val (.int p3), .val (.int (p1 &&& (1 : Int32))), .val (.ref ob2), .val (.int (Int32.ofNat iN)), .val (.long (own_st (own_x0 q0 (p1 &&& (1 : Int32))))), .second, .val (.int ((97 : Int32) + (((((own_st (own_x0 q0 (p1 &&& (1 : Int32)))).toUInt64 >>> ((33 : Int32) &&& 0x3f).toInt64.toUInt64).toInt64) % (26 : Int64)).toInt32))), .val (.int (0 : Int32)), .val (.long (0 : Int64)), .second, .unset, .unset, .unset, .unset] [(.int ((0 : Int32) &&& (1 : Int32)))])) _
      refine XS.istore X2.here hx rfl (hb hby at_141) rfl (l' := #[.val (.long q0), .second, .val (.int p1), .val (.int p2), .val (.int p3), .val (.int (p1 &&& (1 : Int32))), .val (.ref ob2), .val (.int (Int32.ofNat iN)), .val (.long (own_st (own_x0 q0 (p1 &&& (1 : Int32))))), .second, .val (.int ((97 : Int32) + (((((own_st (own_x0 q0 (p1 &&& (1 : Int32)))).toUInt64 >>> ((33 : Int32) &&& 0x3f).toInt64.toUInt64).toInt64) % (26 : Int64)).toInt32))), .val (.int (0 : Int32)), .val (.long (0 : Int64)), .second, .val (.int ((0 : Int32) &&& (1 : Int32))), .unset, .unset, .unset]) rfl ?_
      show Steps p.tables e below (T2.setTop (mkF m 143 #[.val (.long q0), .second, .val (.int p1), .val (.int p2), .val (.int p3), .val (.int (p1 &&& (1 : Int32))), .val (.ref ob2), .val (.int (Int32.ofNat iN)), .val (.long (own_st (own_x0 q0 (p1 &&& (1 : Int32))))), .second, .val (.int ((97 : Int32) + (((((own_st (own_x0 q0 (p1 &&& (1 : Int32)))).toUInt64 >>> ((33 : Int32) &&& 0x3f).toInt64.toUInt64).toInt64) % (26 : Int64)).toInt32))), .val (.int (0 : Int32)), .val (.long (0 : Int64)), .second, .val (.int ((0 : Int32) &&& (1 : Int32))), .unset, .unset, .unset] [])) _
      refine XS.iload X2.here hx rfl (hb hby at_143) rfl ?_
      show Steps p.tables e below (T2.setTop (mkF m 145 #[.val (.long q0), .second, .val (.int p1), .val (.int p2), .val (.int p3), .val (.int (p1 &&& (1 : Int32))), .val (.ref ob2), .val (.int (Int32.ofNat iN)), .val (.long (own_st (own_x0 q0 (p1 &&& (1 : Int32))))), .second, .val (.int ((97 : Int32) + (((((own_st (own_x0 q0 (p1 &&& (1 : Int32)))).toUInt64 >>> ((33 : Int32) &&& 0x3f).toInt64.toUInt64).toInt64) % (26 : Int64)).toInt32))), .val (.int (0 : Int32)), .val (.long (0 : Int64)), .second, .val (.int ((0 : Int32) &&& (1 : Int32))), .unset, .unset, .unset] [(.int (0 : Int32))])) _
      refine XS.ifNo X2.here hx rfl (hb hby at_145) rfl ((if0 _ _).trans (teq (by decide : (0 : Int32) = (0 : Int32))).2) ?_
      exact kt
    have f21 := (CHv.keep Kq2 (fun x q => nomatch q) hCH)
    have f22 := (Nat.le_trans (Nat.zero_le _) Kq2.1)
    have f23 := (Nat.le_trans Z0 Kq2.1)
    have f24 := ((Keep.refl h0 []).trans Kq2 all0)
    have f25 := (O0.keep Kq2 all0)
    obtain ⟨a19, T19, h19, j19, b19, kb19, X19, e19, E19, hS19, hk19, hZ, hown, Es19, Fc19, Fv19, Va19, la19, lb19, CH19, Lt19, Sf19, st19⟩ := ldcCH (s := s) (vm0 := s.vm) X2 hx hZ hown (hw _ (List.mem_of_getElem? (i := 14) rfl)) hwS rfl hS0 f22 hEL (List.mem_of_getElem? (i := 0) rfl) f21 (vs := [(.int (117 : Int32)), (.int (121 : Int32)), (.int (99 : Int32)), (.int (110 : Int32)), (.int (110 : Int32)), (.int (122 : Int32)), (.int (111 : Int32)), (.int (100 : Int32)), (.int (112 : Int32)), (.int (104 : Int32)), (.int (121 : Int32)), (.int (119 : Int32)), (.int (115 : Int32)), (.int (106 : Int32)), (.int (110 : Int32)), (.int (107 : Int32)), (.int (109 : Int32)), (.int (110 : Int32)), (.int (113 : Int32)), (.int (119 : Int32)), (.int (102 : Int32)), (.int (112 : Int32)), (.int (119 : Int32)), (.int (119 : Int32)), (.int (112 : Int32)), (.int (104 : Int32)), (.int (113 : Int32)), (.int (100 : Int32)), (.int (101 : Int32)), (.int (110 : Int32)), (.int (111 : Int32)), (.int (116 : Int32))]) (z := (32 : Int32)) ⟨by decide, rfl⟩ (by decide) rfl (g := (mkF m 148 #[.val (.long q0), .second, .val (.int p1), .val (.int p2), .val (.int p3), .val (.int (p1 &&& (1 : Int32))), .val (.ref ob2), .val (.int (Int32.ofNat iN)), .val (.long (own_st (own_x0 q0 (p1 &&& (1 : Int32))))), .second, .val (.int ((97 : Int32) + (((((own_st (own_x0 q0 (p1 &&& (1 : Int32)))).toUInt64 >>> ((33 : Int32) &&& 0x3f).toInt64.toUInt64).toInt64) % (26 : Int64)).toInt32))), .val (.int (0 : Int32)), .val (.long (0 : Int64)), .second, .val (.int ((0 : Int32) &&& (1 : Int32))), .unset, .unset, .unset] [])) rfl (hb hby at_148) (n := 128) (by decide) (by decide) (by decide) (by decide)
    have c26 : ∀ t, Steps p.tables e below (T19.setTop (mkF m 183 #[.val (.long q0), .second, .val (.int p1), .val (.int p2), .val (.int p3), .val (.int (p1 &&& (1 : Int32))), .val (.ref ob2), .val (.int (Int32.ofNat iN)), .val (.long (own_st (own_x0 q0 (p1 &&& (1 : Int32))))), .second, .val (.int ((97 : Int32) + (((((own_st (own_x0 q0 (p1 &&& (1 : Int32)))).toUInt64 >>> ((33 : Int32) &&& 0x3f).toInt64.toUInt64).toInt64) % (26 : Int64)).toInt32))), .val (.int (0 : Int32)), .val (.long (0 : Int64)), .second, .val (.int ((0 : Int32) &&& (1 : Int32))), .val (.ref a19), .unset, .unset] [(.int ((0 : Int32) &&& (1 : Int32))), (.long (0 : Int64))])) t → Steps p.tables e below (T19.setTop (mkF m 150 #[.val (.long q0), .second, .val (.int p1), .val (.int p2), .val (.int p3), .val (.int (p1 &&& (1 : Int32))), .val (.ref ob2), .val (.int (Int32.ofNat iN)), .val (.long (own_st (own_x0 q0 (p1 &&& (1 : Int32))))), .second, .val (.int ((97 : Int32) + (((((own_st (own_x0 q0 (p1 &&& (1 : Int32)))).toUInt64 >>> ((33 : Int32) &&& 0x3f).toInt64.toUInt64).toInt64) % (26 : Int64)).toInt32))), .val (.int (0 : Int32)), .val (.long (0 : Int64)), .second, .val (.int ((0 : Int32) &&& (1 : Int32))), .unset, .unset, .unset] [(.ref a19)])) t := by
      intro t kt
      show Steps p.tables e below (T19.setTop (mkF m 150 #[.val (.long q0), .second, .val (.int p1), .val (.int p2), .val (.int p3), .val (.int (p1 &&& (1 : Int32))), .val (.ref ob2), .val (.int (Int32.ofNat iN)), .val (.long (own_st (own_x0 q0 (p1 &&& (1 : Int32))))), .second, .val (.int ((97 : Int32) + (((((own_st (own_x0 q0 (p1 &&& (1 : Int32)))).toUInt64 >>> ((33 : Int32) &&& 0x3f).toInt64.toUInt64).toInt64) % (26 : Int64)).toInt32))), .val (.int (0 : Int32)), .val (.long (0 : Int64)), .second, .val (.int ((0 : Int32) &&& (1 : Int32))), .unset, .unset, .unset] [(.ref a19)])) _
      refine XS.goto X19.here hx rfl (pc0 := 150) (pc' := 177) rfl (hb hby at_150) (by decide) (by decide) ?_
      show Steps p.tables e below (T19.setTop (mkF m 177 #[.val (.long q0), .second, .val (.int p1), .val (.int p2), .val (.int p3), .val (.int (p1 &&& (1 : Int32))), .val (.ref ob2), .val (.int (Int32.ofNat iN)), .val (.long (own_st (own_x0 q0 (p1 &&& (1 : Int32))))), .second, .val (.int ((97 : Int32) + (((((own_st (own_x0 q0 (p1 &&& (1 : Int32)))).toUInt64 >>> ((33 : Int32) &&& 0x3f).toInt64.toUInt64).toInt64) % (26 : Int64)).toInt32))), .val (.int (0 : Int32)), .val (.long (0 : Int64)), .second, .val (.int ((0 : Int32) &&& (1 : Int32))), .unset, .unset, .unset] [(.ref a19)])) _
      refine XS.astore X19.here hx rfl (hb hby at_177) rfl rfl (l' := #[.val (.long q0), .second, .val (.int p1), .val (.int p2), .val (.int p3), .val (.int (p1 &&& (1 : Int32))), .val (.ref ob2), .val (.int (Int32.ofNat iN)), .val (.long (own_st (own_x0 q0 (p1 &&& (1 : Int32))))), .second, .val (.int ((97 : Int32) + (((((own_st (own_x0 q0 (p1 &&& (1 : Int32)))).toUInt64 >>> ((33 : Int32) &&& 0x3f).toInt64.toUInt64).toInt64) % (26 : Int64)).toInt32))), .val (.int (0 : Int32)), .val (.long (0 : Int64)), .second, .val (.int ((0 : Int32) &&& (1 : Int32))), .val (.ref a19), .unset, .unset]) rfl ?_
      show Steps p.tables e below (T19.setTop (mkF m 179 #[.val (.long q0), .second, .val (.int p1), .val (.int p2), .val (.int p3), .val (.int (p1 &&& (1 : Int32))), .val (.ref ob2), .val (.int (Int32.ofNat iN)), .val (.long (own_st (own_x0 q0 (p1 &&& (1 : Int32))))), .second, .val (.int ((97 : Int32) + (((((own_st (own_x0 q0 (p1 &&& (1 : Int32)))).toUInt64 >>> ((33 : Int32) &&& 0x3f).toInt64.toUInt64).toInt64) % (26 : Int64)).toInt32))), .val (.int (0 : Int32)), .val (.long (0 : Int64)), .second, .val (.int ((0 : Int32) &&& (1 : Int32))), .val (.ref a19), .unset, .unset] [])) _
      refine XS.lload X19.here hx rfl (hb hby at_179) rfl ?_
      show Steps p.tables e below (T19.setTop (mkF m 181 #[.val (.long q0), .second, .val (.int p1), .val (.int p2), .val (.int p3), .val (.int (p1 &&& (1 : Int32))), .val (.ref ob2), .val (.int (Int32.ofNat iN)), .val (.long (own_st (own_x0 q0 (p1 &&& (1 : Int32))))), .second, .val (.int ((97 : Int32) + (((((own_st (own_x0 q0 (p1 &&& (1 : Int32)))).toUInt64 >>> ((33 : Int32) &&& 0x3f).toInt64.toUInt64).toInt64) % (26 : Int64)).toInt32))), .val (.int (0 : Int32)), .val (.long (0 : Int64)), .second, .val (.int ((0 : Int32) &&& (1 : Int32))), .val (.ref a19), .unset, .unset] [(.long (0 : Int64))])) _
      refine XS.iload X19.here hx rfl (hb hby at_181) rfl ?_
      exact kt
    have f27 := (Nat.le_trans f23 E19.1)
    obtain ⟨_, _, ⟨T28, L28, k28, n28⟩, -, X28, ⟨Lc28, hQ28, l28, y28, z28⟩, st28⟩ := Jvm.LawKit.callS X19 hx (y := (⟨"com/example/brannan/bench/ScanTable", "value", "(JI)[B"⟩ : MethodName)) hown (mvT hZ (hw _ (List.mem_of_getElem? (i := 0) rfl))) (mvT hZ (hw _ (List.mem_of_getElem? (i := 1) rfl))) (mvT hZ (hw _ (List.mem_of_getElem? (i := 2) rfl))) (mvT hZ (hw _ (List.mem_of_getElem? (i := 3) rfl))) (by decide) (backOf (W := 0) (rm1 l Z a0 hw [] (0 : Int64) ((0 : Int32) &&& (1 : Int32))  h19 n0 f27 ) hZ (hw _ (List.mem_of_getElem? (i := 3) rfl)) (hw _ (List.mem_of_getElem? (i := 2) rfl)) (by decide) (by decide)) (g := (mkF m 183 #[.val (.long q0), .second, .val (.int p1), .val (.int p2), .val (.int p3), .val (.int (p1 &&& (1 : Int32))), .val (.ref ob2), .val (.int (Int32.ofNat iN)), .val (.long (own_st (own_x0 q0 (p1 &&& (1 : Int32))))), .second, .val (.int ((97 : Int32) + (((((own_st (own_x0 q0 (p1 &&& (1 : Int32)))).toUInt64 >>> ((33 : Int32) &&& 0x3f).toInt64.toUInt64).toInt64) % (26 : Int64)).toInt32))), .val (.int (0 : Int32)), .val (.long (0 : Int64)), .second, .val (.int ((0 : Int32) &&& (1 : Int32))), .val (.ref a19), .unset, .unset] [(.int ((0 : Int32) &&& (1 : Int32))), (.long (0 : Int64))])) rfl (by rw [hml]; rfl) (argsL := [(.long (0 : Int64)), (.int ((0 : Int32) &&& (1 : Int32)))]) (rest := []) (lenOf pd_4 rfl) rfl (by show 2 * 0 + _ ≤ _; exact Nat.le_of_eq rfl) (hb hby at_183) (fun _ _ => ⟨rfl, e19, (by decide : 3 + 1 ≤ _), (by decide : 164 + 32 ≤ _)⟩)
    dsimp only [Pt.U, Pt.locs, Pt.cells, Pt.slots] at X28 l28 y28 z28 st28 hQ28
    subst l28 y28 z28
    obtain ⟨ob28, kk28, rfl, N28q, Kq28, g_ob28, Vq28⟩ := hQ28
    have N28 := Fr.app N2 N28q
    have Vc29 := Vq28
    obtain ⟨cl29, Ar29, qk29, S29, M29, H29, G29⟩ := Vc29
    have c30 : ∀ t, Steps p.tables e below (T28.setTop (mkF m 211 #[.val (.long q0), .second, .val (.int p1), .val (.int p2), .val (.int p3), .val (.int (p1 &&& (1 : Int32))), .val (.ref ob2), .val (.int (Int32.ofNat iN)), .val (.long (own_st (own_x0 q0 (p1 &&& (1 : Int32))))), .second, .val (.int ((97 : Int32) + (((((own_st (own_x0 q0 (p1 &&& (1 : Int32)))).toUInt64 >>> ((33 : Int32) &&& 0x3f).toInt64.toUInt64).toInt64) % (26 : Int64)).toInt32))), .val (.int (0 : Int32)), .val (.long (0 : Int64)), .second, .val (.int ((0 : Int32) &&& (1 : Int32))), .val (.ref a19), .val (.ref ob28), .val (.int (((p2.toUInt32 >>> ((5 : Int32) &&& 31).toUInt32).toInt32) &&& (31 : Int32)))] [])) t → Steps p.tables e below (T28.setTop (mkF m 186 #[.val (.long q0), .second, .val (.int p1), .val (.int p2), .val (.int p3), .val (.int (p1 &&& (1 : Int32))), .val (.ref ob2), .val (.int (Int32.ofNat iN)), .val (.long (own_st (own_x0 q0 (p1 &&& (1 : Int32))))), .second, .val (.int ((97 : Int32) + (((((own_st (own_x0 q0 (p1 &&& (1 : Int32)))).toUInt64 >>> ((33 : Int32) &&& 0x3f).toInt64.toUInt64).toInt64) % (26 : Int64)).toInt32))), .val (.int (0 : Int32)), .val (.long (0 : Int64)), .second, .val (.int ((0 : Int32) &&& (1 : Int32))), .val (.ref a19), .unset, .unset] [(.ref ob28)])) t := by
      intro t kt
      show Steps p.tables e below (T28.setTop (mkF m 186 #[.val (.long q0), .second, .val (.int p1), .val (.int p2), .val (.int p3), .val (.int (p1 &&& (1 : Int32))), .val (.ref ob2), .val (.int (Int32.ofNat iN)), .val (.long (own_st (own_x0 q0 (p1 &&& (1 : Int32))))), .second, .val (.int ((97 : Int32) + (((((own_st (own_x0 q0 (p1 &&& (1 : Int32)))).toUInt64 >>> ((33 : Int32) &&& 0x3f).toInt64.toUInt64).toInt64) % (26 : Int64)).toInt32))), .val (.int (0 : Int32)), .val (.long (0 : Int64)), .second, .val (.int ((0 : Int32) &&& (1 : Int32))), .val (.ref a19), .unset, .unset] [(.ref ob28)])) _
      refine XS.astore X28.here hx rfl (hb hby at_186) rfl rfl (l' := #[.val (.long q0), .second, .val (.int p1), .val (.int p2), .val (.int p3), .val (.int (p1 &&& (1 : Int32))), .val (.ref ob2), .val (.int (Int32.ofNat iN)), .val (.long (own_st (own_x0 q0 (p1 &&& (1 : Int32))))), .second, .val (.int ((97 : Int32) + (((((own_st (own_x0 q0 (p1 &&& (1 : Int32)))).toUInt64 >>> ((33 : Int32) &&& 0x3f).toInt64.toUInt64).toInt64) % (26 : Int64)).toInt32))), .val (.int (0 : Int32)), .val (.long (0 : Int64)), .second, .val (.int ((0 : Int32) &&& (1 : Int32))), .val (.ref a19), .val (.ref ob28), .unset]) rfl ?_
      show Steps p.tables e below (T28.setTop (mkF m 188 #[.val (.long q0), .second, .val (.int p1), .val (.int p2), .val (.int p3), .val (.int (p1 &&& (1 : Int32))), .val (.ref ob2), .val (.int (Int32.ofNat iN)), .val (.long (own_st (own_x0 q0 (p1 &&& (1 : Int32))))), .second, .val (.int ((97 : Int32) + (((((own_st (own_x0 q0 (p1 &&& (1 : Int32)))).toUInt64 >>> ((33 : Int32) &&& 0x3f).toInt64.toUInt64).toInt64) % (26 : Int64)).toInt32))), .val (.int (0 : Int32)), .val (.long (0 : Int64)), .second, .val (.int ((0 : Int32) &&& (1 : Int32))), .val (.ref a19), .val (.ref ob28), .unset] [])) _
      refine XS.aload X28.here hx rfl (hb hby at_188) rfl rfl ?_
      show Steps p.tables e below (T28.setTop (mkF m 190 #[.val (.long q0), .second, .val (.int p1), .val (.int p2), .val (.int p3), .val (.int (p1 &&& (1 : Int32))), .val (.ref ob2), .val (.int (Int32.ofNat iN)), .val (.long (own_st (own_x0 q0 (p1 &&& (1 : Int32))))), .second, .val (.int ((97 : Int32) + (((((own_st (own_x0 q0 (p1 &&& (1 : Int32)))).toUInt64 >>> ((33 : Int32) &&& 0x3f).toInt64.toUInt64).toInt64) % (26 : Int64)).toInt32))), .val (.int (0 : Int32)), .val (.long (0 : Int64)), .second, .val (.int ((0 : Int32) &&& (1 : Int32))), .val (.ref a19), .val (.ref ob28), .unset] [(.ref ob28)])) _
      refine XS.ifnullNo X28.here hx rfl (hb hby at_190) rfl ?_
      show Steps p.tables e below (T28.setTop (mkF m 193 #[.val (.long q0), .second, .val (.int p1), .val (.int p2), .val (.int p3), .val (.int (p1 &&& (1 : Int32))), .val (.ref ob2), .val (.int (Int32.ofNat iN)), .val (.long (own_st (own_x0 q0 (p1 &&& (1 : Int32))))), .second, .val (.int ((97 : Int32) + (((((own_st (own_x0 q0 (p1 &&& (1 : Int32)))).toUInt64 >>> ((33 : Int32) &&& 0x3f).toInt64.toUInt64).toInt64) % (26 : Int64)).toInt32))), .val (.int (0 : Int32)), .val (.long (0 : Int64)), .second, .val (.int ((0 : Int32) &&& (1 : Int32))), .val (.ref a19), .val (.ref ob28), .unset] [])) _
      refine XS.aload X28.here hx rfl (hb hby at_193) rfl rfl ?_
      show Steps p.tables e below (T28.setTop (mkF m 195 #[.val (.long q0), .second, .val (.int p1), .val (.int p2), .val (.int p3), .val (.int (p1 &&& (1 : Int32))), .val (.ref ob2), .val (.int (Int32.ofNat iN)), .val (.long (own_st (own_x0 q0 (p1 &&& (1 : Int32))))), .second, .val (.int ((97 : Int32) + (((((own_st (own_x0 q0 (p1 &&& (1 : Int32)))).toUInt64 >>> ((33 : Int32) &&& 0x3f).toInt64.toUInt64).toInt64) % (26 : Int64)).toInt32))), .val (.int (0 : Int32)), .val (.long (0 : Int64)), .second, .val (.int ((0 : Int32) &&& (1 : Int32))), .val (.ref a19), .val (.ref ob28), .unset] [(.ref ob28)])) _
      refine X28.arraylength hx Ar29.1 (State.isArrayOf_alike hZ.alike Ar29.2.1) (g := (mkF m 195 #[.val (.long q0), .second, .val (.int p1), .val (.int p2), .val (.int p3), .val (.int (p1 &&& (1 : Int32))), .val (.ref ob2), .val (.int (Int32.ofNat iN)), .val (.long (own_st (own_x0 q0 (p1 &&& (1 : Int32))))), .second, .val (.int ((97 : Int32) + (((((own_st (own_x0 q0 (p1 &&& (1 : Int32)))).toUInt64 >>> ((33 : Int32) &&& 0x3f).toInt64.toUInt64).toInt64) % (26 : Int64)).toInt32))), .val (.int (0 : Int32)), .val (.long (0 : Int64)), .second, .val (.int ((0 : Int32) &&& (1 : Int32))), .val (.ref a19), .val (.ref ob28), .unset] [(.ref ob28)])) rfl rfl (hb hby at_195) _ ?_
      rw [len_of S29 M29]
      show Steps p.tables e below (T28.setTop (mkF m 196 #[.val (.long q0), .second, .val (.int p1), .val (.int p2), .val (.int p3), .val (.int (p1 &&& (1 : Int32))), .val (.ref ob2), .val (.int (Int32.ofNat iN)), .val (.long (own_st (own_x0 q0 (p1 &&& (1 : Int32))))), .second, .val (.int ((97 : Int32) + (((((own_st (own_x0 q0 (p1 &&& (1 : Int32)))).toUInt64 >>> ((33 : Int32) &&& 0x3f).toInt64.toUInt64).toInt64) % (26 : Int64)).toInt32))), .val (.int (0 : Int32)), .val (.long (0 : Int64)), .second, .val (.int ((0 : Int32) &&& (1 : Int32))), .val (.ref a19), .val (.ref ob28), .unset] [(.int (32 : Int32))])) _
      refine XS.bipush X28.here hx rfl (hb hby at_196) ?_
      show Steps p.tables e below (T28.setTop (mkF m 198 #[.val (.long q0), .second, .val (.int p1), .val (.int p2), .val (.int p3), .val (.int (p1 &&& (1 : Int32))), .val (.ref ob2), .val (.int (Int32.ofNat iN)), .val (.long (own_st (own_x0 q0 (p1 &&& (1 : Int32))))), .second, .val (.int ((97 : Int32) + (((((own_st (own_x0 q0 (p1 &&& (1 : Int32)))).toUInt64 >>> ((33 : Int32) &&& 0x3f).toInt64.toUInt64).toInt64) % (26 : Int64)).toInt32))), .val (.int (0 : Int32)), .val (.long (0 : Int64)), .second, .val (.int ((0 : Int32) &&& (1 : Int32))), .val (.ref a19), .val (.ref ob28), .unset] [(.int (32 : Int32)), (.int (32 : Int32))])) _
      refine XS.icmpYes X28.here hx rfl (pc0 := 198) (pc' := 203) rfl (hb hby at_198) rfl (teq (by decide : (32 : Int32) = (32 : Int32))).1 (by decide) (by decide) ?_
      show Steps p.tables e below (T28.setTop (mkF m 203 #[.val (.long q0), .second, .val (.int p1), .val (.int p2), .val (.int p3), .val (.int (p1 &&& (1 : Int32))), .val (.ref ob2), .val (.int (Int32.ofNat iN)), .val (.long (own_st (own_x0 q0 (p1 &&& (1 : Int32))))), .second, .val (.int ((97 : Int32) + (((((own_st (own_x0 q0 (p1 &&& (1 : Int32)))).toUInt64 >>> ((33 : Int32) &&& 0x3f).toInt64.toUInt64).toInt64) % (26 : Int64)).toInt32))), .val (.int (0 : Int32)), .val (.long (0 : Int64)), .second, .val (.int ((0 : Int32) &&& (1 : Int32))), .val (.ref a19), .val (.ref ob28), .unset] [])) _
      refine XS.iloadN X28.here hx rfl (hb hby at_203) rfl ?_
      show Steps p.tables e below (T28.setTop (mkF m 204 #[.val (.long q0), .second, .val (.int p1), .val (.int p2), .val (.int p3), .val (.int (p1 &&& (1 : Int32))), .val (.ref ob2), .val (.int (Int32.ofNat iN)), .val (.long (own_st (own_x0 q0 (p1 &&& (1 : Int32))))), .second, .val (.int ((97 : Int32) + (((((own_st (own_x0 q0 (p1 &&& (1 : Int32)))).toUInt64 >>> ((33 : Int32) &&& 0x3f).toInt64.toUInt64).toInt64) % (26 : Int64)).toInt32))), .val (.int (0 : Int32)), .val (.long (0 : Int64)), .second, .val (.int ((0 : Int32) &&& (1 : Int32))), .val (.ref a19), .val (.ref ob28), .unset] [(.int p2)])) _
      refine XS.iconst X28.here hx rfl (hb hby at_204) ?_
      show Steps p.tables e below (T28.setTop (mkF m 205 #[.val (.long q0), .second, .val (.int p1), .val (.int p2), .val (.int p3), .val (.int (p1 &&& (1 : Int32))), .val (.ref ob2), .val (.int (Int32.ofNat iN)), .val (.long (own_st (own_x0 q0 (p1 &&& (1 : Int32))))), .second, .val (.int ((97 : Int32) + (((((own_st (own_x0 q0 (p1 &&& (1 : Int32)))).toUInt64 >>> ((33 : Int32) &&& 0x3f).toInt64.toUInt64).toInt64) % (26 : Int64)).toInt32))), .val (.int (0 : Int32)), .val (.long (0 : Int64)), .second, .val (.int ((0 : Int32) &&& (1 : Int32))), .val (.ref a19), .val (.ref ob28), .unset] [(.int (5 : Int32)), (.int p2)])) _
      refine XS.iushr X28.here hx rfl (hb hby at_205) rfl ?_
      show Steps p.tables e below (T28.setTop (mkF m 206 #[.val (.long q0), .second, .val (.int p1), .val (.int p2), .val (.int p3), .val (.int (p1 &&& (1 : Int32))), .val (.ref ob2), .val (.int (Int32.ofNat iN)), .val (.long (own_st (own_x0 q0 (p1 &&& (1 : Int32))))), .second, .val (.int ((97 : Int32) + (((((own_st (own_x0 q0 (p1 &&& (1 : Int32)))).toUInt64 >>> ((33 : Int32) &&& 0x3f).toInt64.toUInt64).toInt64) % (26 : Int64)).toInt32))), .val (.int (0 : Int32)), .val (.long (0 : Int64)), .second, .val (.int ((0 : Int32) &&& (1 : Int32))), .val (.ref a19), .val (.ref ob28), .unset] [(.int ((p2.toUInt32 >>> ((5 : Int32) &&& 31).toUInt32).toInt32))])) _
      refine XS.bipush X28.here hx rfl (hb hby at_206) ?_
      show Steps p.tables e below (T28.setTop (mkF m 208 #[.val (.long q0), .second, .val (.int p1), .val (.int p2), .val (.int p3), .val (.int (p1 &&& (1 : Int32))), .val (.ref ob2), .val (.int (Int32.ofNat iN)), .val (.long (own_st (own_x0 q0 (p1 &&& (1 : Int32))))), .second, .val (.int ((97 : Int32) + (((((own_st (own_x0 q0 (p1 &&& (1 : Int32)))).toUInt64 >>> ((33 : Int32) &&& 0x3f).toInt64.toUInt64).toInt64) % (26 : Int64)).toInt32))), .val (.int (0 : Int32)), .val (.long (0 : Int64)), .second, .val (.int ((0 : Int32) &&& (1 : Int32))), .val (.ref a19), .val (.ref ob28), .unset] [(.int (31 : Int32)), (.int ((p2.toUInt32 >>> ((5 : Int32) &&& 31).toUInt32).toInt32))])) _
      refine XS.iand X28.here hx rfl (hb hby at_208) rfl ?_
      show Steps p.tables e below (T28.setTop (mkF m 209 #[.val (.long q0), .second, .val (.int p1), .val (.int p2), .val (.int p3), .val (.int (p1 &&& (1 : Int32))), .val (.ref ob2), .val (.int (Int32.ofNat iN)), .val (.long (own_st (own_x0 q0 (p1 &&& (1 : Int32))))), .second, .val (.int ((97 : Int32) + (((((own_st (own_x0 q0 (p1 &&& (1 : Int32)))).toUInt64 >>> ((33 : Int32) &&& 0x3f).toInt64.toUInt64).toInt64) % (26 : Int64)).toInt32))), .val (.int (0 : Int32)), .val (.long (0 : Int64)), .second, .val (.int ((0 : Int32) &&& (1 : Int32))), .val (.ref a19), .val (.ref ob28), .unset] [(.int (((p2.toUInt32 >>> ((5 : Int32) &&& 31).toUInt32).toInt32) &&& (31 : Int32)))])) _
      refine XS.istore X28.here hx rfl (hb hby at_209) rfl (l' := #[.val (.long q0), .second, .val (.int p1), .val (.int p2), .val (.int p3), .val (.int (p1 &&& (1 : Int32))), .val (.ref ob2), .val (.int (Int32.ofNat iN)), .val (.long (own_st (own_x0 q0 (p1 &&& (1 : Int32))))), .second, .val (.int ((97 : Int32) + (((((own_st (own_x0 q0 (p1 &&& (1 : Int32)))).toUInt64 >>> ((33 : Int32) &&& 0x3f).toInt64.toUInt64).toInt64) % (26 : Int64)).toInt32))), .val (.int (0 : Int32)), .val (.long (0 : Int64)), .second, .val (.int ((0 : Int32) &&& (1 : Int32))), .val (.ref a19), .val (.ref ob28), .val (.int (((p2.toUInt32 >>> ((5 : Int32) &&& 31).toUInt32).toInt32) &&& (31 : Int32)))]) rfl ?_
      exact kt
    obtain ⟨jn, hjn, hje⟩ := own_mask ((p2.toUInt32 >>> ((5 : Int32) &&& 31).toUInt32).toInt32)
    have c31 : ∀ t, Steps p.tables e below (T28.setTop (mkF m 211 #[.val (.long q0), .second, .val (.int p1), .val (.int p2), .val (.int p3), .val (.int (p1 &&& (1 : Int32))), .val (.ref ob2), .val (.int (Int32.ofNat iN)), .val (.long (own_st (own_x0 q0 (p1 &&& (1 : Int32))))), .second, .val (.int ((97 : Int32) + (((((own_st (own_x0 q0 (p1 &&& (1 : Int32)))).toUInt64 >>> ((33 : Int32) &&& 0x3f).toInt64.toUInt64).toInt64) % (26 : Int64)).toInt32))), .val (.int (0 : Int32)), .val (.long (0 : Int64)), .second, .val (.int ((0 : Int32) &&& (1 : Int32))), .val (.ref a19), .val (.ref ob28), .val (.int (Int32.ofNat jn))] [])) t → Steps p.tables e below (T28.setTop (mkF m 211 #[.val (.long q0), .second, .val (.int p1), .val (.int p2), .val (.int p3), .val (.int (p1 &&& (1 : Int32))), .val (.ref ob2), .val (.int (Int32.ofNat iN)), .val (.long (own_st (own_x0 q0 (p1 &&& (1 : Int32))))), .second, .val (.int ((97 : Int32) + (((((own_st (own_x0 q0 (p1 &&& (1 : Int32)))).toUInt64 >>> ((33 : Int32) &&& 0x3f).toInt64.toUInt64).toInt64) % (26 : Int64)).toInt32))), .val (.int (0 : Int32)), .val (.long (0 : Int64)), .second, .val (.int ((0 : Int32) &&& (1 : Int32))), .val (.ref a19), .val (.ref ob28), .val (.int (((p2.toUInt32 >>> ((5 : Int32) &&& 31).toUInt32).toInt32) &&& (31 : Int32)))] [])) t := fun t kt => by rw [hje]; exact kt
    have Vc32 := Vq28
    obtain ⟨cl32, Ar32, qk32, S32, M32, H32, G32⟩ := Vc32
    have hin32 : ¬ ((Int32.ofNat jn) < 0 ∨ cl32.slots.size ≤ ((Int32.ofNat jn)).toNatClampNeg) := inb_of S32 (own_in jn hjn)
    have hat32 : cl32.slots[((Int32.ofNat jn)).toNatClampNeg]? = some (.int (own_f (own_x0 (0 : Int64) ((0 : Int32) &&& (1 : Int32))) jn)) := H32.at hin32 (own_get (own_x0 (0 : Int64) ((0 : Int32) &&& (1 : Int32))) jn hjn)
    have c33 : ∀ t, Steps p.tables e below (T28.setTop (mkF m 220 #[.val (.long q0), .second, .val (.int p1), .val (.int p2), .val (.int p3), .val (.int (p1 &&& (1 : Int32))), .val (.ref ob2), .val (.int (Int32.ofNat iN)), .val (.long (own_st (own_x0 q0 (p1 &&& (1 : Int32))))), .second, .val (.int ((97 : Int32) + (((((own_st (own_x0 q0 (p1 &&& (1 : Int32)))).toUInt64 >>> ((33 : Int32) &&& 0x3f).toInt64.toUInt64).toInt64) % (26 : Int64)).toInt32))), .val (.int (0 : Int32)), .val (.long (0 : Int64)), .second, .val (.int ((0 : Int32) &&& (1 : Int32))), .val (.ref a19), .val (.ref ob28), .val (.int (Int32.ofNat jn))] [(.int (Int32.ofNat jn)), (.ref a19), (.int (own_f (own_x0 (0 : Int64) ((0 : Int32) &&& (1 : Int32))) jn))])) t → Steps p.tables e below (T28.setTop (mkF m 211 #[.val (.long q0), .second, .val (.int p1), .val (.int p2), .val (.int p3), .val (.int (p1 &&& (1 : Int32))), .val (.ref ob2), .val (.int (Int32.ofNat iN)), .val (.long (own_st (own_x0 q0 (p1 &&& (1 : Int32))))), .second, .val (.int ((97 : Int32) + (((((own_st (own_x0 q0 (p1 &&& (1 : Int32)))).toUInt64 >>> ((33 : Int32) &&& 0x3f).toInt64.toUInt64).toInt64) % (26 : Int64)).toInt32))), .val (.int (0 : Int32)), .val (.long (0 : Int64)), .second, .val (.int ((0 : Int32) &&& (1 : Int32))), .val (.ref a19), .val (.ref ob28), .val (.int (Int32.ofNat jn))] [])) t := by
      intro t kt
      show Steps p.tables e below (T28.setTop (mkF m 211 #[.val (.long q0), .second, .val (.int p1), .val (.int p2), .val (.int p3), .val (.int (p1 &&& (1 : Int32))), .val (.ref ob2), .val (.int (Int32.ofNat iN)), .val (.long (own_st (own_x0 q0 (p1 &&& (1 : Int32))))), .second, .val (.int ((97 : Int32) + (((((own_st (own_x0 q0 (p1 &&& (1 : Int32)))).toUInt64 >>> ((33 : Int32) &&& 0x3f).toInt64.toUInt64).toInt64) % (26 : Int64)).toInt32))), .val (.int (0 : Int32)), .val (.long (0 : Int64)), .second, .val (.int ((0 : Int32) &&& (1 : Int32))), .val (.ref a19), .val (.ref ob28), .val (.int (Int32.ofNat jn))] [])) _
      refine XS.aload X28.here hx rfl (hb hby at_211) rfl rfl ?_
      show Steps p.tables e below (T28.setTop (mkF m 213 #[.val (.long q0), .second, .val (.int p1), .val (.int p2), .val (.int p3), .val (.int (p1 &&& (1 : Int32))), .val (.ref ob2), .val (.int (Int32.ofNat iN)), .val (.long (own_st (own_x0 q0 (p1 &&& (1 : Int32))))), .second, .val (.int ((97 : Int32) + (((((own_st (own_x0 q0 (p1 &&& (1 : Int32)))).toUInt64 >>> ((33 : Int32) &&& 0x3f).toInt64.toUInt64).toInt64) % (26 : Int64)).toInt32))), .val (.int (0 : Int32)), .val (.long (0 : Int64)), .second, .val (.int ((0 : Int32) &&& (1 : Int32))), .val (.ref a19), .val (.ref ob28), .val (.int (Int32.ofNat jn))] [(.ref ob28)])) _
      refine XS.iload X28.here hx rfl (hb hby at_213) rfl ?_
      show Steps p.tables e below (T28.setTop (mkF m 215 #[.val (.long q0), .second, .val (.int p1), .val (.int p2), .val (.int p3), .val (.int (p1 &&& (1 : Int32))), .val (.ref ob2), .val (.int (Int32.ofNat iN)), .val (.long (own_st (own_x0 q0 (p1 &&& (1 : Int32))))), .second, .val (.int ((97 : Int32) + (((((own_st (own_x0 q0 (p1 &&& (1 : Int32)))).toUInt64 >>> ((33 : Int32) &&& 0x3f).toInt64.toUInt64).toInt64) % (26 : Int64)).toInt32))), .val (.int (0 : Int32)), .val (.long (0 : Int64)), .second, .val (.int ((0 : Int32) &&& (1 : Int32))), .val (.ref a19), .val (.ref ob28), .val (.int (Int32.ofNat jn))] [(.int (Int32.ofNat jn)), (.ref ob28)])) _
      refine X28.baloadBytes hx (j := (Int32.ofNat jn)) (v := (.int (own_f (own_x0 (0 : Int64) ((0 : Int32) &&& (1 : Int32))) jn))) Ar32.1 (State.isArrayOf_alike hZ.alike Ar32.2.1) Ar32.2.2 hin32 hat32 (g := (mkF m 215 #[.val (.long q0), .second, .val (.int p1), .val (.int p2), .val (.int p3), .val (.int (p1 &&& (1 : Int32))), .val (.ref ob2), .val (.int (Int32.ofNat iN)), .val (.long (own_st (own_x0 q0 (p1 &&& (1 : Int32))))), .second, .val (.int ((97 : Int32) + (((((own_st (own_x0 q0 (p1 &&& (1 : Int32)))).toUInt64 >>> ((33 : Int32) &&& 0x3f).toInt64.toUInt64).toInt64) % (26 : Int64)).toInt32))), .val (.int (0 : Int32)), .val (.long (0 : Int64)), .second, .val (.int ((0 : Int32) &&& (1 : Int32))), .val (.ref a19), .val (.ref ob28), .val (.int (Int32.ofNat jn))] [(.int (Int32.ofNat jn)), (.ref ob28)])) rfl rfl (hb hby at_215) _ ?_
      show Steps p.tables e below (T28.setTop (mkF m 216 #[.val (.long q0), .second, .val (.int p1), .val (.int p2), .val (.int p3), .val (.int (p1 &&& (1 : Int32))), .val (.ref ob2), .val (.int (Int32.ofNat iN)), .val (.long (own_st (own_x0 q0 (p1 &&& (1 : Int32))))), .second, .val (.int ((97 : Int32) + (((((own_st (own_x0 q0 (p1 &&& (1 : Int32)))).toUInt64 >>> ((33 : Int32) &&& 0x3f).toInt64.toUInt64).toInt64) % (26 : Int64)).toInt32))), .val (.int (0 : Int32)), .val (.long (0 : Int64)), .second, .val (.int ((0 : Int32) &&& (1 : Int32))), .val (.ref a19), .val (.ref ob28), .val (.int (Int32.ofNat jn))] [(.int (own_f (own_x0 (0 : Int64) ((0 : Int32) &&& (1 : Int32))) jn))])) _
      refine XS.aload X28.here hx rfl (hb hby at_216) rfl rfl ?_
      show Steps p.tables e below (T28.setTop (mkF m 218 #[.val (.long q0), .second, .val (.int p1), .val (.int p2), .val (.int p3), .val (.int (p1 &&& (1 : Int32))), .val (.ref ob2), .val (.int (Int32.ofNat iN)), .val (.long (own_st (own_x0 q0 (p1 &&& (1 : Int32))))), .second, .val (.int ((97 : Int32) + (((((own_st (own_x0 q0 (p1 &&& (1 : Int32)))).toUInt64 >>> ((33 : Int32) &&& 0x3f).toInt64.toUInt64).toInt64) % (26 : Int64)).toInt32))), .val (.int (0 : Int32)), .val (.long (0 : Int64)), .second, .val (.int ((0 : Int32) &&& (1 : Int32))), .val (.ref a19), .val (.ref ob28), .val (.int (Int32.ofNat jn))] [(.ref a19), (.int (own_f (own_x0 (0 : Int64) ((0 : Int32) &&& (1 : Int32))) jn))])) _
      refine XS.iload X28.here hx rfl (hb hby at_218) rfl ?_
      exact kt
    have f34 := (Nat.le_trans f27 Kq28.1)
    have f35 := (Es19.keep Kq28)
    have f36 := (Fv19.keep Kq28 nin0)
    have f37 := (Va19.keep Kq28 nin0)
    have f38 := ((f25.ext E19).keep Kq28 all0)
    have f39 := (Fc19.keep Kq28 nin0)
    obtain ⟨cq40, kq40, q40a, q40b, q40c⟩ := isOf hZ rfl f35
    obtain ⟨_, _, ⟨T41, L41, k41, n41⟩, -, X41, ⟨Lc41, hQ41, l41, y41, z41⟩, st41⟩ := X28.virtualBack hx (y := (⟨"java/lang/String", "charAt", "(I)C"⟩ : MethodName)) (z := (⟨"java/lang/String", "charAt", "(I)C"⟩ : MethodName)) hown (mvT hZ (hw _ (List.mem_of_getElem? (i := 21) rfl))) (mvT hZ (hw _ (List.mem_of_getElem? (i := 22) rfl))) (notFace_of_selects (args := #[]) (mvT hZ (hw _ (List.mem_of_getElem? (i := 24) rfl)))) (mvT hZ (hw _ (List.mem_of_getElem? (i := 24) rfl))) (mvT hZ (hw _ (List.mem_of_getElem? (i := 23) rfl))) (by decide) (backOf (W := 1) (rm2 l Z a0 hw [] a19 (Int32.ofNat jn) b19 kb19 (32 : Int32) (own_l0.map Value.int) (.int 0) (own_l0.getD jn 0) fm cs T28.heap n0 f34 f35 f36 f37 (own_in jn hjn) (own_map own_l0 rfl jn hjn _) (SF.ext f38.2) hfm (SC.ext f38.2) hcs f39) hZ (hw _ (List.mem_of_getElem? (i := 25) rfl)) (hw _ (List.mem_of_getElem? (i := 15) rfl)) (by decide) (by decide)) q40a q40c (g := (mkF m 220 #[.val (.long q0), .second, .val (.int p1), .val (.int p2), .val (.int p3), .val (.int (p1 &&& (1 : Int32))), .val (.ref ob2), .val (.int (Int32.ofNat iN)), .val (.long (own_st (own_x0 q0 (p1 &&& (1 : Int32))))), .second, .val (.int ((97 : Int32) + (((((own_st (own_x0 q0 (p1 &&& (1 : Int32)))).toUInt64 >>> ((33 : Int32) &&& 0x3f).toInt64.toUInt64).toInt64) % (26 : Int64)).toInt32))), .val (.int (0 : Int32)), .val (.long (0 : Int64)), .second, .val (.int ((0 : Int32) &&& (1 : Int32))), .val (.ref a19), .val (.ref ob28), .val (.int (Int32.ofNat jn))] [(.int (Int32.ofNat jn)), (.ref a19), (.int (own_f (own_x0 (0 : Int64) ((0 : Int32) &&& (1 : Int32))) jn))])) rfl (by rw [hml]; rfl) (Steps.refl _) (argsL := [(.int (Int32.ofNat jn))]) (rest := [(.int (own_f (own_x0 (0 : Int64) ((0 : Int32) &&& (1 : Int32))) jn))]) (lenOf pd_5 rfl) rfl (by show 2 * 0 + _ ≤ _; exact Nat.le_of_eq rfl) (hb hby at_220) (fun _ _ => ⟨rfl, rfl, (by decide : 4 + 0 ≤ _), (by decide : 196 + 0 ≤ _)⟩)
    dsimp only [Pt.U, Pt.locs, Pt.cells, Pt.slots] at X41 l41 y41 z41 st41 hQ41
    subst l41 y41 z41
    obtain ⟨rfl, N41q, e41⟩ := hQ41
    have N41 := Fr.app N28 N41q
    have hd42 : (own_f (own_x0 (0 : Int64) ((0 : Int32) &&& (1 : Int32))) jn) = (own_lit own_l0 jn) := own_pub0 jn hjn
    have c43 : ∀ t, Steps p.tables e below (T41.setTop (mkF m 231 #[.val (.long q0), .second, .val (.int p1), .val (.int p2), .val (.int p3), .val (.int (p1 &&& (1 : Int32))), .val (.ref ob2), .val (.int (Int32.ofNat iN)), .val (.long (own_st (own_x0 q0 (p1 &&& (1 : Int32))))), .second, .val (.int ((97 : Int32) + (((((own_st (own_x0 q0 (p1 &&& (1 : Int32)))).toUInt64 >>> ((33 : Int32) &&& 0x3f).toInt64.toUInt64).toInt64) % (26 : Int64)).toInt32))), .val (.int (0 : Int32)), .val (.long (0 : Int64)), .second, .val (.int ((0 : Int32) &&& (1 : Int32))), .val (.ref a19), .val (.ref ob28), .val (.int (Int32.ofNat jn))] [(.int (1 : Int32))])) t → Steps p.tables e below (T41.setTop (mkF m 223 #[.val (.long q0), .second, .val (.int p1), .val (.int p2), .val (.int p3), .val (.int (p1 &&& (1 : Int32))), .val (.ref ob2), .val (.int (Int32.ofNat iN)), .val (.long (own_st (own_x0 q0 (p1 &&& (1 : Int32))))), .second, .val (.int ((97 : Int32) + (((((own_st (own_x0 q0 (p1 &&& (1 : Int32)))).toUInt64 >>> ((33 : Int32) &&& 0x3f).toInt64.toUInt64).toInt64) % (26 : Int64)).toInt32))), .val (.int (0 : Int32)), .val (.long (0 : Int64)), .second, .val (.int ((0 : Int32) &&& (1 : Int32))), .val (.ref a19), .val (.ref ob28), .val (.int (Int32.ofNat jn))] [(.int (own_lit own_l0 jn)), (.int (own_f (own_x0 (0 : Int64) ((0 : Int32) &&& (1 : Int32))) jn))])) t := by
      intro t kt
      show Steps p.tables e below (T41.setTop (mkF m 223 #[.val (.long q0), .second, .val (.int p1), .val (.int p2), .val (.int p3), .val (.int (p1 &&& (1 : Int32))), .val (.ref ob2), .val (.int (Int32.ofNat iN)), .val (.long (own_st (own_x0 q0 (p1 &&& (1 : Int32))))), .second, .val (.int ((97 : Int32) + (((((own_st (own_x0 q0 (p1 &&& (1 : Int32)))).toUInt64 >>> ((33 : Int32) &&& 0x3f).toInt64.toUInt64).toInt64) % (26 : Int64)).toInt32))), .val (.int (0 : Int32)), .val (.long (0 : Int64)), .second, .val (.int ((0 : Int32) &&& (1 : Int32))), .val (.ref a19), .val (.ref ob28), .val (.int (Int32.ofNat jn))] [(.int (own_lit own_l0 jn)), (.int (own_f (own_x0 (0 : Int64) ((0 : Int32) &&& (1 : Int32))) jn))])) _
      refine XS.icmpNo X41.here hx rfl (hb hby at_223) rfl (teq (hd42)).2 ?_
      show Steps p.tables e below (T41.setTop (mkF m 226 #[.val (.long q0), .second, .val (.int p1), .val (.int p2), .val (.int p3), .val (.int (p1 &&& (1 : Int32))), .val (.ref ob2), .val (.int (Int32.ofNat iN)), .val (.long (own_st (own_x0 q0 (p1 &&& (1 : Int32))))), .second, .val (.int ((97 : Int32) + (((((own_st (own_x0 q0 (p1 &&& (1 : Int32)))).toUInt64 >>> ((33 : Int32) &&& 0x3f).toInt64.toUInt64).toInt64) % (26 : Int64)).toInt32))), .val (.int (0 : Int32)), .val (.long (0 : Int64)), .second, .val (.int ((0 : Int32) &&& (1 : Int32))), .val (.ref a19), .val (.ref ob28), .val (.int (Int32.ofNat jn))] [])) _
      refine XS.iconst X41.here hx rfl (hb hby at_226) ?_
      show Steps p.tables e below (T41.setTop (mkF m 227 #[.val (.long q0), .second, .val (.int p1), .val (.int p2), .val (.int p3), .val (.int (p1 &&& (1 : Int32))), .val (.ref ob2), .val (.int (Int32.ofNat iN)), .val (.long (own_st (own_x0 q0 (p1 &&& (1 : Int32))))), .second, .val (.int ((97 : Int32) + (((((own_st (own_x0 q0 (p1 &&& (1 : Int32)))).toUInt64 >>> ((33 : Int32) &&& 0x3f).toInt64.toUInt64).toInt64) % (26 : Int64)).toInt32))), .val (.int (0 : Int32)), .val (.long (0 : Int64)), .second, .val (.int ((0 : Int32) &&& (1 : Int32))), .val (.ref a19), .val (.ref ob28), .val (.int (Int32.ofNat jn))] [(.int (1 : Int32))])) _
      refine XS.goto X41.here hx rfl (pc0 := 227) (pc' := 231) rfl (hb hby at_227) (by decide) (by decide) ?_
      exact kt
    have f45 := (Nat.le_trans hk19 Kq28.1)
    obtain ⟨fs, hr, hrun, hended, hwd⟩ := Stand.leaveW (s := s) X41 hS19 (by rw [e41]; exact f45) (v := some (.int (1 : Int32))) (fun h => by rw [Bd.returns] at h; cases h)
    refine ⟨_, _, pre0 _ (c1 _ (st2 _ (c4 _ (c5 _ (c8 _ (c11 _ (c12 _ (c13 _ (c16 _ (c17 _ (c18 _ (c20 _ (st19 _ (c26 _ (st28 _ (c30 _ (c31 _ (c33 _ (st41.trans (c43 _ (?_))))))))))))))))))))), hrun, hended, _, _, rfl, ?_, hwd.1, hwd.2.1, hwd.2.2.1, hwd.2.2.2.mono (by decide) (by decide)⟩
    · show Steps p.tables e below (T41.setTop (mkF m 231 #[.val (.long q0), .second, .val (.int p1), .val (.int p2), .val (.int p3), .val (.int (p1 &&& (1 : Int32))), .val (.ref ob2), .val (.int (Int32.ofNat iN)), .val (.long (own_st (own_x0 q0 (p1 &&& (1 : Int32))))), .second, .val (.int ((97 : Int32) + (((((own_st (own_x0 q0 (p1 &&& (1 : Int32)))).toUInt64 >>> ((33 : Int32) &&& 0x3f).toInt64.toUInt64).toInt64) % (26 : Int64)).toInt32))), .val (.int (0 : Int32)), .val (.long (0 : Int64)), .second, .val (.int ((0 : Int32) &&& (1 : Int32))), .val (.ref a19), .val (.ref ob28), .val (.int (Int32.ofNat jn))] [(.int (1 : Int32))])) _
      exact retN X41 hx (t := .boolean) Bd.returns (by simp) (hb hby at_231) hr
    · show Q0 Z q0 p1 p2 p3 cs fm h0 n0 _ T41.heap _
      rw [e41]
      exact ⟨congrArg (fun z => some (Value.int z)) (show (1 : Int32) = (1 : Int32) from by rfl), N41⟩
  · skip
    have c46 : ∀ t, Steps p.tables e below (T2.setTop (mkF m 121 #[.val (.long q0), .second, .val (.int p1), .val (.int p2), .val (.int p3), .val (.int (p1 &&& (1 : Int32))), .val (.ref ob2), .val (.int (Int32.ofNat iN)), .val (.long (own_st (own_x0 q0 (p1 &&& (1 : Int32))))), .second, .val (.int ((97 : Int32) + (((((own_st (own_x0 q0 (p1 &&& (1 : Int32)))).toUInt64 >>> ((33 : Int32) &&& 0x3f).toInt64.toUInt64).toInt64) % (26 : Int64)).toInt32))), .val (.int (1 : Int32)), .unset, .unset, .unset, .unset, .unset, .unset] [])) t → Steps p.tables e below (T2.setTop (mkF m 121 #[.val (.long q0), .second, .val (.int p1), .val (.int p2), .val (.int p3), .val (.int (p1 &&& (1 : Int32))), .val (.ref ob2), .val (.int (Int32.ofNat iN)), .val (.long (own_st (own_x0 q0 (p1 &&& (1 : Int32))))), .second, .val (.int ((97 : Int32) + (((((own_st (own_x0 q0 (p1 &&& (1 : Int32)))).toUInt64 >>> ((33 : Int32) &&& 0x3f).toInt64.toUInt64).toInt64) % (26 : Int64)).toInt32))), .val (.int (p3 &&& (3 : Int32))), .unset, .unset, .unset, .unset, .unset, .unset] [])) t := fun t kt => by rw [hsl]; exact kt
    have c48 : ∀ t, Steps p.tables e below (T2.setTop (mkF m 159 #[.val (.long q0), .second, .val (.int p1), .val (.int p2), .val (.int p3), .val (.int (p1 &&& (1 : Int32))), .val (.ref ob2), .val (.int (Int32.ofNat iN)), .val (.long (own_st (own_x0 q0 (p1 &&& (1 : Int32))))), .second, .val (.int ((97 : Int32) + (((((own_st (own_x0 q0 (p1 &&& (1 : Int32)))).toUInt64 >>> ((33 : Int32) &&& 0x3f).toInt64.toUInt64).toInt64) % (26 : Int64)).toInt32))), .val (.int (1 : Int32)), .val (.long (0 : Int64)), .second, .val (.int ((1 : Int32) &&& (1 : Int32))), .unset, .unset, .unset] [])) t → Steps p.tables e below (T2.setTop (mkF m 121 #[.val (.long q0), .second, .val (.int p1), .val (.int p2), .val (.int p3), .val (.int (p1 &&& (1 : Int32))), .val (.ref ob2), .val (.int (Int32.ofNat iN)), .val (.long (own_st (own_x0 q0 (p1 &&& (1 : Int32))))), .second, .val (.int ((97 : Int32) + (((((own_st (own_x0 q0 (p1 &&& (1 : Int32)))).toUInt64 >>> ((33 : Int32) &&& 0x3f).toInt64.toUInt64).toInt64) % (26 : Int64)).toInt32))), .val (.int (1 : Int32)), .unset, .unset, .unset, .unset, .unset, .unset] [])) t := by
      intro t kt
      show Steps p.tables e below (T2.setTop (mkF m 121 #[.val (.long q0), .second, .val (.int p1), .val (.int p2), .val (.int p3), .val (.int (p1 &&& (1 : Int32))), .val (.ref ob2), .val (.int (Int32.ofNat iN)), .val (.long (own_st (own_x0 q0 (p1 &&& (1 : Int32))))), .second, .val (.int ((97 : Int32) + (((((own_st (own_x0 q0 (p1 &&& (1 : Int32)))).toUInt64 >>> ((33 : Int32) &&& 0x3f).toInt64.toUInt64).toInt64) % (26 : Int64)).toInt32))), .val (.int (1 : Int32)), .unset, .unset, .unset, .unset, .unset, .unset] [])) _
      refine XS.iload X2.here hx rfl (hb hby at_121) rfl ?_
      show Steps p.tables e below (T2.setTop (mkF m 123 #[.val (.long q0), .second, .val (.int p1), .val (.int p2), .val (.int p3), .val (.int (p1 &&& (1 : Int32))), .val (.ref ob2), .val (.int (Int32.ofNat iN)), .val (.long (own_st (own_x0 q0 (p1 &&& (1 : Int32))))), .second, .val (.int ((97 : Int32) + (((((own_st (own_x0 q0 (p1 &&& (1 : Int32)))).toUInt64 >>> ((33 : Int32) &&& 0x3f).toInt64.toUInt64).toInt64) % (26 : Int64)).toInt32))), .val (.int (1 : Int32)), .unset, .unset, .unset, .unset, .unset, .unset] [(.int (1 : Int32))])) _
      refine XS.iconst X2.here hx rfl (hb hby at_123) ?_
      show Steps p.tables e below (T2.setTop (mkF m 124 #[.val (.long q0), .second, .val (.int p1), .val (.int p2), .val (.int p3), .val (.int (p1 &&& (1 : Int32))), .val (.ref ob2), .val (.int (Int32.ofNat iN)), .val (.long (own_st (own_x0 q0 (p1 &&& (1 : Int32))))), .second, .val (.int ((97 : Int32) + (((((own_st (own_x0 q0 (p1 &&& (1 : Int32)))).toUInt64 >>> ((33 : Int32) &&& 0x3f).toInt64.toUInt64).toInt64) % (26 : Int64)).toInt32))), .val (.int (1 : Int32)), .unset, .unset, .unset, .unset, .unset, .unset] [(.int (2 : Int32)), (.int (1 : Int32))])) _
      refine XS.iand X2.here hx rfl (hb hby at_124) rfl ?_
      show Steps p.tables e below (T2.setTop (mkF m 125 #[.val (.long q0), .second, .val (.int p1), .val (.int p2), .val (.int p3), .val (.int (p1 &&& (1 : Int32))), .val (.ref ob2), .val (.int (Int32.ofNat iN)), .val (.long (own_st (own_x0 q0 (p1 &&& (1 : Int32))))), .second, .val (.int ((97 : Int32) + (((((own_st (own_x0 q0 (p1 &&& (1 : Int32)))).toUInt64 >>> ((33 : Int32) &&& 0x3f).toInt64.toUInt64).toInt64) % (26 : Int64)).toInt32))), .val (.int (1 : Int32)), .unset, .unset, .unset, .unset, .unset, .unset] [(.int ((1 : Int32) &&& (2 : Int32)))])) _
      refine XS.ifNo X2.here hx rfl (hb hby at_125) rfl ((if0 _ _).trans (teq (by decide : ((1 : Int32) &&& (2 : Int32)) = (0 : Int32))).2) ?_
      show Steps p.tables e below (T2.setTop (mkF m 128 #[.val (.long q0), .second, .val (.int p1), .val (.int p2), .val (.int p3), .val (.int (p1 &&& (1 : Int32))), .val (.ref ob2), .val (.int (Int32.ofNat iN)), .val (.long (own_st (own_x0 q0 (p1 &&& (1 : Int32))))), .second, .val (.int ((97 : Int32) + (((((own_st (own_x0 q0 (p1 &&& (1 : Int32)))).toUInt64 >>> ((33 : Int32) &&& 0x3f).toInt64.toUInt64).toInt64) % (26 : Int64)).toInt32))), .val (.int (1 : Int32)), .unset, .unset, .unset, .unset, .unset, .unset] [])) _
      refine XS.lconst X2.here hx rfl (hb hby at_128) ?_
      show Steps p.tables e below (T2.setTop (mkF m 129 #[.val (.long q0), .second, .val (.int p1), .val (.int p2), .val (.int p3), .val (.int (p1 &&& (1 : Int32))), .val (.ref ob2), .val (.int (Int32.ofNat iN)), .val (.long (own_st (own_x0 q0 (p1 &&& (1 : Int32))))), .second, .val (.int ((97 : Int32) + (((((own_st (own_x0 q0 (p1 &&& (1 : Int32)))).toUInt64 >>> ((33 : Int32) &&& 0x3f).toInt64.toUInt64).toInt64) % (26 : Int64)).toInt32))), .val (.int (1 : Int32)), .unset, .unset, .unset, .unset, .unset, .unset] [(.long (0 : Int64))])) _
      refine XS.goto X2.here hx rfl (pc0 := 129) (pc' := 135) rfl (hb hby at_129) (by decide) (by decide) ?_
      show Steps p.tables e below (T2.setTop (mkF m 135 #[.val (.long q0), .second, .val (.int p1), .val (.int p2), .val (.int p3), .val (.int (p1 &&& (1 : Int32))), .val (.ref ob2), .val (.int (Int32.ofNat iN)), .val (.long (own_st (own_x0 q0 (p1 &&& (1 : Int32))))), .second, .val (.int ((97 : Int32) + (((((own_st (own_x0 q0 (p1 &&& (1 : Int32)))).toUInt64 >>> ((33 : Int32) &&& 0x3f).toInt64.toUInt64).toInt64) % (26 : Int64)).toInt32))), .val (.int (1 : Int32)), .unset, .unset, .unset, .unset, .unset, .unset] [(.long (0 : Int64))])) _
      refine XS.lstore X2.here hx rfl (hb hby at_135) rfl (l' := #[.val (.long q0), .second, .val (.int p1), .val (.int p2), .val (.int p3), .val (.int (p1 &&& (1 : Int32))), .val (.ref ob2), .val (.int (Int32.ofNat iN)), .val (.long (own_st (own_x0 q0 (p1 &&& (1 : Int32))))), .second, .val (.int ((97 : Int32) + (((((own_st (own_x0 q0 (p1 &&& (1 : Int32)))).toUInt64 >>> ((33 : Int32) &&& 0x3f).toInt64.toUInt64).toInt64) % (26 : Int64)).toInt32))), .val (.int (1 : Int32)), .val (.long (0 : Int64)), .second, .unset, .unset, .unset, .unset]) rfl ?_
      show Steps p.tables e below (T2.setTop (mkF m 137 #[.val (.long q0), .second, .val (.int p1), .val (.int p2), .val (.int p3), .val (.int (p1 &&& (1 : Int32))), .val (.ref ob2), .val (.int (Int32.ofNat iN)), .val (.long (own_st (own_x0 q0 (p1 &&& (1 : Int32))))), .second, .val (.int ((97 : Int32) + (((((own_st (own_x0 q0 (p1 &&& (1 : Int32)))).toUInt64 >>> ((33 : Int32) &&& 0x3f).toInt64.toUInt64).toInt64) % (26 : Int64)).toInt32))), .val (.int (1 : Int32)), .val (.long (0 : Int64)), .second, .unset, .unset, .unset, .unset] [])) _
      refine XS.iload X2.here hx rfl (hb hby at_137) rfl ?_
      show Steps p.tables e below (T2.setTop (mkF m 139 #[.val (.long q0), .second, .val (.int p1), .val (.int p2), .val (.int p3), .val (.int (p1 &&& (1 : Int32))), .val (.ref ob2), .val (.int (Int32.ofNat iN)), .val (.long (own_st (own_x0 q0 (p1 &&& (1 : Int32))))), .second, .val (.int ((97 : Int32) + (((((own_st (own_x0 q0 (p1 &&& (1 : Int32)))).toUInt64 >>> ((33 : Int32) &&& 0x3f).toInt64.toUInt64).toInt64) % (26 : Int64)).toInt32))), .val (.int (1 : Int32)), .val (.long (0 : Int64)), .second, .unset, .unset, .unset, .unset] [(.int (1 : Int32))])) _
      refine XS.iconst X2.here hx rfl (hb hby at_139) ?_
      show Steps p.tables e below (T2.setTop (mkF m 140 #[.val (.long q0), .second, .val (.int p1), .val (.int p2), .val (.int p3), .val (.int (p1 &&& (1 : Int32))), .val (.ref ob2), .val (.int (Int32.ofNat iN)), .val (.long (own_st (own_x0 q0 (p1 &&& (1 : Int32))))), .second, .val (.int ((97 : Int32) + (((((own_st (own_x0 q0 (p1 &&& (1 : Int32)))).toUInt64 >>> ((33 : Int32) &&& 0x3f).toInt64.toUInt64).toInt64) % (26 : Int64)).toInt32))), .val (.int (1 : Int32)), .val (.long (0 : Int64)), .second, .unset, .unset, .unset, .unset] [(.int (1 : Int32)), (.int (1 : Int32))])) _
      refine XS.iand X2.here hx rfl (hb hby at_140) rfl ?_
      show Steps p.tables e below (T2.setTop (mkF m 141 #[.val (.long q0), .second, .val (.int p1), .val (.int p2), .val (.int p3), .val (.int (p1 &&& (1 : Int32))), .val (.ref ob2), .val (.int (Int32.ofNat iN)), .val (.long (own_st (own_x0 q0 (p1 &&& (1 : Int32))))), .second, .val (.int ((97 : Int32) + (((((own_st (own_x0 q0 (p1 &&& (1 : Int32)))).toUInt64 >>> ((33 : Int32) &&& 0x3f).toInt64.toUInt64).toInt64) % (26 : Int64)).toInt32))), .val (.int (1 : Int32)), .val (.long (0 : Int64)), .second, .unset, .unset, .unset, .unset] [(.int ((1 : Int32) &&& (1 : Int32)))])) _
      refine XS.istore X2.here hx rfl (hb hby at_141) rfl (l' := #[.val (.long q0), .second, .val (.int p1), .val (.int p2), .val (.int p3), .val (.int (p1 &&& (1 : Int32))), .val (.ref ob2), .val (.int (Int32.ofNat iN)), .val (.long (own_st (own_x0 q0 (p1 &&& (1 : Int32))))), .second, .val (.int ((97 : Int32) + (((((own_st (own_x0 q0 (p1 &&& (1 : Int32)))).toUInt64 >>> ((33 : Int32) &&& 0x3f).toInt64.toUInt64).toInt64) % (26 : Int64)).toInt32))), .val (.int (1 : Int32)), .val (.long (0 : Int64)), .second, .val (.int ((1 : Int32) &&& (1 : Int32))), .unset, .unset, .unset]) rfl ?_
      show Steps p.tables e below (T2.setTop (mkF m 143 #[.val (.long q0), .second, .val (.int p1), .val (.int p2), .val (.int p3), .val (.int (p1 &&& (1 : Int32))), .val (.ref ob2), .val (.int (Int32.ofNat iN)), .val (.long (own_st (own_x0 q0 (p1 &&& (1 : Int32))))), .second, .val (.int ((97 : Int32) + (((((own_st (own_x0 q0 (p1 &&& (1 : Int32)))).toUInt64 >>> ((33 : Int32) &&& 0x3f).toInt64.toUInt64).toInt64) % (26 : Int64)).toInt32))), .val (.int (1 : Int32)), .val (.long (0 : Int64)), .second, .val (.int ((1 : Int32) &&& (1 : Int32))), .unset, .unset, .unset] [])) _
      refine XS.iload X2.here hx rfl (hb hby at_143) rfl ?_
      show Steps p.tables e below (T2.setTop (mkF m 145 #[.val (.long q0), .second, .val (.int p1), .val (.int p2), .val (.int p3), .val (.int (p1 &&& (1 : Int32))), .val (.ref ob2), .val (.int (Int32.ofNat iN)), .val (.long (own_st (own_x0 q0 (p1 &&& (1 : Int32))))), .second, .val (.int ((97 : Int32) + (((((own_st (own_x0 q0 (p1 &&& (1 : Int32)))).toUInt64 >>> ((33 : Int32) &&& 0x3f).toInt64.toUInt64).toInt64) % (26 : Int64)).toInt32))), .val (.int (1 : Int32)), .val (.long (0 : Int64)), .second, .val (.int ((1 : Int32) &&& (1 : Int32))), .unset, .unset, .unset] [(.int (1 : Int32))])) _
      refine XS.ifYes X2.here hx rfl (pc0 := 145) (pc' := 153) rfl (hb hby at_145) rfl ((if0 _ _).trans (feq (by decide : ¬ ((1 : Int32) = (0 : Int32)))).2) (by decide) (by decide) ?_
      show Steps p.tables e below (T2.setTop (mkF m 153 #[.val (.long q0), .second, .val (.int p1), .val (.int p2), .val (.int p3), .val (.int (p1 &&& (1 : Int32))), .val (.ref ob2), .val (.int (Int32.ofNat iN)), .val (.long (own_st (own_x0 q0 (p1 &&& (1 : Int32))))), .second, .val (.int ((97 : Int32) + (((((own_st (own_x0 q0 (p1 &&& (1 : Int32)))).toUInt64 >>> ((33 : Int32) &&& 0x3f).toInt64.toUInt64).toInt64) % (26 : Int64)).toInt32))), .val (.int (1 : Int32)), .val (.long (0 : Int64)), .second, .val (.int ((1 : Int32) &&& (1 : Int32))), .unset, .unset, .unset] [])) _
      refine XS.iload X2.here hx rfl (hb hby at_153) rfl ?_
      show Steps p.tables e below (T2.setTop (mkF m 155 #[.val (.long q0), .second, .val (.int p1), .val (.int p2), .val (.int p3), .val (.int (p1 &&& (1 : Int32))), .val (.ref ob2), .val (.int (Int32.ofNat iN)), .val (.long (own_st (own_x0 q0 (p1 &&& (1 : Int32))))), .second, .val (.int ((97 : Int32) + (((((own_st (own_x0 q0 (p1 &&& (1 : Int32)))).toUInt64 >>> ((33 : Int32) &&& 0x3f).toInt64.toUInt64).toInt64) % (26 : Int64)).toInt32))), .val (.int (1 : Int32)), .val (.long (0 : Int64)), .second, .val (.int ((1 : Int32) &&& (1 : Int32))), .unset, .unset, .unset] [(.int (1 : Int32))])) _
      refine XS.iconst X2.here hx rfl (hb hby at_155) ?_
      show Steps p.tables e below (T2.setTop (mkF m 156 #[.val (.long q0), .second, .val (.int p1), .val (.int p2), .val (.int p3), .val (.int (p1 &&& (1 : Int32))), .val (.ref ob2), .val (.int (Int32.ofNat iN)), .val (.long (own_st (own_x0 q0 (p1 &&& (1 : Int32))))), .second, .val (.int ((97 : Int32) + (((((own_st (own_x0 q0 (p1 &&& (1 : Int32)))).toUInt64 >>> ((33 : Int32) &&& 0x3f).toInt64.toUInt64).toInt64) % (26 : Int64)).toInt32))), .val (.int (1 : Int32)), .val (.long (0 : Int64)), .second, .val (.int ((1 : Int32) &&& (1 : Int32))), .unset, .unset, .unset] [(.int (1 : Int32)), (.int (1 : Int32))])) _
      refine XS.icmpNo X2.here hx rfl (hb hby at_156) rfl (teq (by decide : (1 : Int32) = (1 : Int32))).2 ?_
      exact kt
    have f49 := (CHv.keep Kq2 (fun x q => nomatch q) hCH)
    have f50 := (Nat.le_trans (Nat.zero_le _) Kq2.1)
    have f51 := (Nat.le_trans Z0 Kq2.1)
    have f52 := ((Keep.refl h0 []).trans Kq2 all0)
    have f53 := (O0.keep Kq2 all0)
    obtain ⟨a47, T47, h47, j47, b47, kb47, X47, e47, E47, hS47, hk47, hZ, hown, Es47, Fc47, Fv47, Va47, la47, lb47, CH47, Lt47, Sf47, st47⟩ := ldcCH (s := s) (vm0 := s.vm) X2 hx hZ hown (hw _ (List.mem_of_getElem? (i := 49) rfl)) hwS rfl hS0 f50 hEL (List.mem_of_getElem? (i := 1) rfl) f49 (vs := [(.int (98 : Int32)), (.int (119 : Int32)), (.int (113 : Int32)), (.int (97 : Int32)), (.int (97 : Int32)), (.int (110 : Int32)), (.int (109 : Int32)), (.int (108 : Int32)), (.int (115 : Int32)), (.int (115 : Int32)), (.int (104 : Int32)), (.int (121 : Int32)), (.int (112 : Int32)), (.int (102 : Int32)), (.int (108 : Int32)), (.int (106 : Int32)), (.int (116 : Int32)), (.int (116 : Int32)), (.int (111 : Int32)), (.int (112 : Int32)), (.int (106 : Int32)), (.int (103 : Int32)), (.int (111 : Int32)), (.int (112 : Int32)), (.int (116 : Int32)), (.int (97 : Int32)), (.int (103 : Int32)), (.int (116 : Int32)), (.int (116 : Int32)), (.int (101 : Int32)), (.int (111 : Int32)), (.int (99 : Int32))]) (z := (32 : Int32)) ⟨by decide, rfl⟩ (by decide) rfl (g := (mkF m 159 #[.val (.long q0), .second, .val (.int p1), .val (.int p2), .val (.int p3), .val (.int (p1 &&& (1 : Int32))), .val (.ref ob2), .val (.int (Int32.ofNat iN)), .val (.long (own_st (own_x0 q0 (p1 &&& (1 : Int32))))), .second, .val (.int ((97 : Int32) + (((((own_st (own_x0 q0 (p1 &&& (1 : Int32)))).toUInt64 >>> ((33 : Int32) &&& 0x3f).toInt64.toUInt64).toInt64) % (26 : Int64)).toInt32))), .val (.int (1 : Int32)), .val (.long (0 : Int64)), .second, .val (.int ((1 : Int32) &&& (1 : Int32))), .unset, .unset, .unset] [])) rfl (hb hby at_159) (n := 128) (by decide) (by decide) (by decide) (by decide)
    have c54 : ∀ t, Steps p.tables e below (T47.setTop (mkF m 183 #[.val (.long q0), .second, .val (.int p1), .val (.int p2), .val (.int p3), .val (.int (p1 &&& (1 : Int32))), .val (.ref ob2), .val (.int (Int32.ofNat iN)), .val (.long (own_st (own_x0 q0 (p1 &&& (1 : Int32))))), .second, .val (.int ((97 : Int32) + (((((own_st (own_x0 q0 (p1 &&& (1 : Int32)))).toUInt64 >>> ((33 : Int32) &&& 0x3f).toInt64.toUInt64).toInt64) % (26 : Int64)).toInt32))), .val (.int (1 : Int32)), .val (.long (0 : Int64)), .second, .val (.int ((1 : Int32) &&& (1 : Int32))), .val (.ref a47), .unset, .unset] [(.int ((1 : Int32) &&& (1 : Int32))), (.long (0 : Int64))])) t → Steps p.tables e below (T47.setTop (mkF m 161 #[.val (.long q0), .second, .val (.int p1), .val (.int p2), .val (.int p3), .val (.int (p1 &&& (1 : Int32))), .val (.ref ob2), .val (.int (Int32.ofNat iN)), .val (.long (own_st (own_x0 q0 (p1 &&& (1 : Int32))))), .second, .val (.int ((97 : Int32) + (((((own_st (own_x0 q0 (p1 &&& (1 : Int32)))).toUInt64 >>> ((33 : Int32) &&& 0x3f).toInt64.toUInt64).toInt64) % (26 : Int64)).toInt32))), .val (.int (1 : Int32)), .val (.long (0 : Int64)), .second, .val (.int ((1 : Int32) &&& (1 : Int32))), .unset, .unset, .unset] [(.ref a47)])) t := by
      intro t kt
      show Steps p.tables e below (T47.setTop (mkF m 161 #[.val (.long q0), .second, .val (.int p1), .val (.int p2), .val (.int p3), .val (.int (p1 &&& (1 : Int32))), .val (.ref ob2), .val (.int (Int32.ofNat iN)), .val (.long (own_st (own_x0 q0 (p1 &&& (1 : Int32))))), .second, .val (.int ((97 : Int32) + (((((own_st (own_x0 q0 (p1 &&& (1 : Int32)))).toUInt64 >>> ((33 : Int32) &&& 0x3f).toInt64.toUInt64).toInt64) % (26 : Int64)).toInt32))), .val (.int (1 : Int32)), .val (.long (0 : Int64)), .second, .val (.int ((1 : Int32) &&& (1 : Int32))), .unset, .unset, .unset] [(.ref a47)])) _
      refine XS.goto X47.here hx rfl (pc0 := 161) (pc' := 177) rfl (hb hby at_161) (by decide) (by decide) ?_
      show Steps p.tables e below (T47.setTop (mkF m 177 #[.val (.long q0), .second, .val (.int p1), .val (.int p2), .val (.int p3), .val (.int (p1 &&& (1 : Int32))), .val (.ref ob2), .val (.int (Int32.ofNat iN)), .val (.long (own_st (own_x0 q0 (p1 &&& (1 : Int32))))), .second, .val (.int ((97 : Int32) + (((((own_st (own_x0 q0 (p1 &&& (1 : Int32)))).toUInt64 >>> ((33 : Int32) &&& 0x3f).toInt64.toUInt64).toInt64) % (26 : Int64)).toInt32))), .val (.int (1 : Int32)), .val (.long (0 : Int64)), .second, .val (.int ((1 : Int32) &&& (1 : Int32))), .unset, .unset, .unset] [(.ref a47)])) _
      refine XS.astore X47.here hx rfl (hb hby at_177) rfl rfl (l' := #[.val (.long q0), .second, .val (.int p1), .val (.int p2), .val (.int p3), .val (.int (p1 &&& (1 : Int32))), .val (.ref ob2), .val (.int (Int32.ofNat iN)), .val (.long (own_st (own_x0 q0 (p1 &&& (1 : Int32))))), .second, .val (.int ((97 : Int32) + (((((own_st (own_x0 q0 (p1 &&& (1 : Int32)))).toUInt64 >>> ((33 : Int32) &&& 0x3f).toInt64.toUInt64).toInt64) % (26 : Int64)).toInt32))), .val (.int (1 : Int32)), .val (.long (0 : Int64)), .second, .val (.int ((1 : Int32) &&& (1 : Int32))), .val (.ref a47), .unset, .unset]) rfl ?_
      show Steps p.tables e below (T47.setTop (mkF m 179 #[.val (.long q0), .second, .val (.int p1), .val (.int p2), .val (.int p3), .val (.int (p1 &&& (1 : Int32))), .val (.ref ob2), .val (.int (Int32.ofNat iN)), .val (.long (own_st (own_x0 q0 (p1 &&& (1 : Int32))))), .second, .val (.int ((97 : Int32) + (((((own_st (own_x0 q0 (p1 &&& (1 : Int32)))).toUInt64 >>> ((33 : Int32) &&& 0x3f).toInt64.toUInt64).toInt64) % (26 : Int64)).toInt32))), .val (.int (1 : Int32)), .val (.long (0 : Int64)), .second, .val (.int ((1 : Int32) &&& (1 : Int32))), .val (.ref a47), .unset, .unset] [])) _
      refine XS.lload X47.here hx rfl (hb hby at_179) rfl ?_
      show Steps p.tables e below (T47.setTop (mkF m 181 #[.val (.long q0), .second, .val (.int p1), .val (.int p2), .val (.int p3), .val (.int (p1 &&& (1 : Int32))), .val (.ref ob2), .val (.int (Int32.ofNat iN)), .val (.long (own_st (own_x0 q0 (p1 &&& (1 : Int32))))), .second, .val (.int ((97 : Int32) + (((((own_st (own_x0 q0 (p1 &&& (1 : Int32)))).toUInt64 >>> ((33 : Int32) &&& 0x3f).toInt64.toUInt64).toInt64) % (26 : Int64)).toInt32))), .val (.int (1 : Int32)), .val (.long (0 : Int64)), .second, .val (.int ((1 : Int32) &&& (1 : Int32))), .val (.ref a47), .unset, .unset] [(.long (0 : Int64))])) _
      refine XS.iload X47.here hx rfl (hb hby at_181) rfl ?_
      exact kt
    have f55 := (Nat.le_trans f51 E47.1)
    obtain ⟨_, _, ⟨T56, L56, k56, n56⟩, -, X56, ⟨Lc56, hQ56, l56, y56, z56⟩, st56⟩ := Jvm.LawKit.callS X47 hx (y := (⟨"com/example/brannan/bench/ScanTable", "value", "(JI)[B"⟩ : MethodName)) hown (mvT hZ (hw _ (List.mem_of_getElem? (i := 0) rfl))) (mvT hZ (hw _ (List.mem_of_getElem? (i := 1) rfl))) (mvT hZ (hw _ (List.mem_of_getElem? (i := 2) rfl))) (mvT hZ (hw _ (List.mem_of_getElem? (i := 3) rfl))) (by decide) (backOf (W := 0) (rm1 l Z a0 hw [] (0 : Int64) ((1 : Int32) &&& (1 : Int32))  h47 n0 f55 ) hZ (hw _ (List.mem_of_getElem? (i := 3) rfl)) (hw _ (List.mem_of_getElem? (i := 2) rfl)) (by decide) (by decide)) (g := (mkF m 183 #[.val (.long q0), .second, .val (.int p1), .val (.int p2), .val (.int p3), .val (.int (p1 &&& (1 : Int32))), .val (.ref ob2), .val (.int (Int32.ofNat iN)), .val (.long (own_st (own_x0 q0 (p1 &&& (1 : Int32))))), .second, .val (.int ((97 : Int32) + (((((own_st (own_x0 q0 (p1 &&& (1 : Int32)))).toUInt64 >>> ((33 : Int32) &&& 0x3f).toInt64.toUInt64).toInt64) % (26 : Int64)).toInt32))), .val (.int (1 : Int32)), .val (.long (0 : Int64)), .second, .val (.int ((1 : Int32) &&& (1 : Int32))), .val (.ref a47), .unset, .unset] [(.int ((1 : Int32) &&& (1 : Int32))), (.long (0 : Int64))])) rfl (by rw [hml]; rfl) (argsL := [(.long (0 : Int64)), (.int ((1 : Int32) &&& (1 : Int32)))]) (rest := []) (lenOf pd_4 rfl) rfl (by show 2 * 0 + _ ≤ _; exact Nat.le_of_eq rfl) (hb hby at_183) (fun _ _ => ⟨rfl, e47, (by decide : 3 + 1 ≤ _), (by decide : 164 + 32 ≤ _)⟩)
    dsimp only [Pt.U, Pt.locs, Pt.cells, Pt.slots] at X56 l56 y56 z56 st56 hQ56
    subst l56 y56 z56
    obtain ⟨ob56, kk56, rfl, N56q, Kq56, g_ob56, Vq56⟩ := hQ56
    have N56 := Fr.app N2 N56q
    have Vc57 := Vq56
    obtain ⟨cl57, Ar57, qk57, S57, M57, H57, G57⟩ := Vc57
    have c58 : ∀ t, Steps p.tables e below (T56.setTop (mkF m 211 #[.val (.long q0), .second, .val (.int p1), .val (.int p2), .val (.int p3), .val (.int (p1 &&& (1 : Int32))), .val (.ref ob2), .val (.int (Int32.ofNat iN)), .val (.long (own_st (own_x0 q0 (p1 &&& (1 : Int32))))), .second, .val (.int ((97 : Int32) + (((((own_st (own_x0 q0 (p1 &&& (1 : Int32)))).toUInt64 >>> ((33 : Int32) &&& 0x3f).toInt64.toUInt64).toInt64) % (26 : Int64)).toInt32))), .val (.int (1 : Int32)), .val (.long (0 : Int64)), .second, .val (.int ((1 : Int32) &&& (1 : Int32))), .val (.ref a47), .val (.ref ob56), .val (.int (((p2.toUInt32 >>> ((5 : Int32) &&& 31).toUInt32).toInt32) &&& (31 : Int32)))] [])) t → Steps p.tables e below (T56.setTop (mkF m 186 #[.val (.long q0), .second, .val (.int p1), .val (.int p2), .val (.int p3), .val (.int (p1 &&& (1 : Int32))), .val (.ref ob2), .val (.int (Int32.ofNat iN)), .val (.long (own_st (own_x0 q0 (p1 &&& (1 : Int32))))), .second, .val (.int ((97 : Int32) + (((((own_st (own_x0 q0 (p1 &&& (1 : Int32)))).toUInt64 >>> ((33 : Int32) &&& 0x3f).toInt64.toUInt64).toInt64) % (26 : Int64)).toInt32))), .val (.int (1 : Int32)), .val (.long (0 : Int64)), .second, .val (.int ((1 : Int32) &&& (1 : Int32))), .val (.ref a47), .unset, .unset] [(.ref ob56)])) t := by
      intro t kt
      show Steps p.tables e below (T56.setTop (mkF m 186 #[.val (.long q0), .second, .val (.int p1), .val (.int p2), .val (.int p3), .val (.int (p1 &&& (1 : Int32))), .val (.ref ob2), .val (.int (Int32.ofNat iN)), .val (.long (own_st (own_x0 q0 (p1 &&& (1 : Int32))))), .second, .val (.int ((97 : Int32) + (((((own_st (own_x0 q0 (p1 &&& (1 : Int32)))).toUInt64 >>> ((33 : Int32) &&& 0x3f).toInt64.toUInt64).toInt64) % (26 : Int64)).toInt32))), .val (.int (1 : Int32)), .val (.long (0 : Int64)), .second, .val (.int ((1 : Int32) &&& (1 : Int32))), .val (.ref a47), .unset, .unset] [(.ref ob56)])) _
      refine XS.astore X56.here hx rfl (hb hby at_186) rfl rfl (l' := #[.val (.long q0), .second, .val (.int p1), .val (.int p2), .val (.int p3), .val (.int (p1 &&& (1 : Int32))), .val (.ref ob2), .val (.int (Int32.ofNat iN)), .val (.long (own_st (own_x0 q0 (p1 &&& (1 : Int32))))), .second, .val (.int ((97 : Int32) + (((((own_st (own_x0 q0 (p1 &&& (1 : Int32)))).toUInt64 >>> ((33 : Int32) &&& 0x3f).toInt64.toUInt64).toInt64) % (26 : Int64)).toInt32))), .val (.int (1 : Int32)), .val (.long (0 : Int64)), .second, .val (.int ((1 : Int32) &&& (1 : Int32))), .val (.ref a47), .val (.ref ob56), .unset]) rfl ?_
      show Steps p.tables e below (T56.setTop (mkF m 188 #[.val (.long q0), .second, .val (.int p1), .val (.int p2), .val (.int p3), .val (.int (p1 &&& (1 : Int32))), .val (.ref ob2), .val (.int (Int32.ofNat iN)), .val (.long (own_st (own_x0 q0 (p1 &&& (1 : Int32))))), .second, .val (.int ((97 : Int32) + (((((own_st (own_x0 q0 (p1 &&& (1 : Int32)))).toUInt64 >>> ((33 : Int32) &&& 0x3f).toInt64.toUInt64).toInt64) % (26 : Int64)).toInt32))), .val (.int (1 : Int32)), .val (.long (0 : Int64)), .second, .val (.int ((1 : Int32) &&& (1 : Int32))), .val (.ref a47), .val (.ref ob56), .unset] [])) _
      refine XS.aload X56.here hx rfl (hb hby at_188) rfl rfl ?_
      show Steps p.tables e below (T56.setTop (mkF m 190 #[.val (.long q0), .second, .val (.int p1), .val (.int p2), .val (.int p3), .val (.int (p1 &&& (1 : Int32))), .val (.ref ob2), .val (.int (Int32.ofNat iN)), .val (.long (own_st (own_x0 q0 (p1 &&& (1 : Int32))))), .second, .val (.int ((97 : Int32) + (((((own_st (own_x0 q0 (p1 &&& (1 : Int32)))).toUInt64 >>> ((33 : Int32) &&& 0x3f).toInt64.toUInt64).toInt64) % (26 : Int64)).toInt32))), .val (.int (1 : Int32)), .val (.long (0 : Int64)), .second, .val (.int ((1 : Int32) &&& (1 : Int32))), .val (.ref a47), .val (.ref ob56), .unset] [(.ref ob56)])) _
      refine XS.ifnullNo X56.here hx rfl (hb hby at_190) rfl ?_
      show Steps p.tables e below (T56.setTop (mkF m 193 #[.val (.long q0), .second, .val (.int p1), .val (.int p2), .val (.int p3), .val (.int (p1 &&& (1 : Int32))), .val (.ref ob2), .val (.int (Int32.ofNat iN)), .val (.long (own_st (own_x0 q0 (p1 &&& (1 : Int32))))), .second, .val (.int ((97 : Int32) + (((((own_st (own_x0 q0 (p1 &&& (1 : Int32)))).toUInt64 >>> ((33 : Int32) &&& 0x3f).toInt64.toUInt64).toInt64) % (26 : Int64)).toInt32))), .val (.int (1 : Int32)), .val (.long (0 : Int64)), .second, .val (.int ((1 : Int32) &&& (1 : Int32))), .val (.ref a47), .val (.ref ob56), .unset] [])) _
      refine XS.aload X56.here hx rfl (hb hby at_193) rfl rfl ?_
      show Steps p.tables e below (T56.setTop (mkF m 195 #[.val (.long q0), .second, .val (.int p1), .val (.int p2), .val (.int p3), .val (.int (p1 &&& (1 : Int32))), .val (.ref ob2), .val (.int (Int32.ofNat iN)), .val (.long (own_st (own_x0 q0 (p1 &&& (1 : Int32))))), .second, .val (.int ((97 : Int32) + (((((own_st (own_x0 q0 (p1 &&& (1 : Int32)))).toUInt64 >>> ((33 : Int32) &&& 0x3f).toInt64.toUInt64).toInt64) % (26 : Int64)).toInt32))), .val (.int (1 : Int32)), .val (.long (0 : Int64)), .second, .val (.int ((1 : Int32) &&& (1 : Int32))), .val (.ref a47), .val (.ref ob56), .unset] [(.ref ob56)])) _
      refine X56.arraylength hx Ar57.1 (State.isArrayOf_alike hZ.alike Ar57.2.1) (g := (mkF m 195 #[.val (.long q0), .second, .val (.int p1), .val (.int p2), .val (.int p3), .val (.int (p1 &&& (1 : Int32))), .val (.ref ob2), .val (.int (Int32.ofNat iN)), .val (.long (own_st (own_x0 q0 (p1 &&& (1 : Int32))))), .second, .val (.int ((97 : Int32) + (((((own_st (own_x0 q0 (p1 &&& (1 : Int32)))).toUInt64 >>> ((33 : Int32) &&& 0x3f).toInt64.toUInt64).toInt64) % (26 : Int64)).toInt32))), .val (.int (1 : Int32)), .val (.long (0 : Int64)), .second, .val (.int ((1 : Int32) &&& (1 : Int32))), .val (.ref a47), .val (.ref ob56), .unset] [(.ref ob56)])) rfl rfl (hb hby at_195) _ ?_
      rw [len_of S57 M57]
      show Steps p.tables e below (T56.setTop (mkF m 196 #[.val (.long q0), .second, .val (.int p1), .val (.int p2), .val (.int p3), .val (.int (p1 &&& (1 : Int32))), .val (.ref ob2), .val (.int (Int32.ofNat iN)), .val (.long (own_st (own_x0 q0 (p1 &&& (1 : Int32))))), .second, .val (.int ((97 : Int32) + (((((own_st (own_x0 q0 (p1 &&& (1 : Int32)))).toUInt64 >>> ((33 : Int32) &&& 0x3f).toInt64.toUInt64).toInt64) % (26 : Int64)).toInt32))), .val (.int (1 : Int32)), .val (.long (0 : Int64)), .second, .val (.int ((1 : Int32) &&& (1 : Int32))), .val (.ref a47), .val (.ref ob56), .unset] [(.int (32 : Int32))])) _
      refine XS.bipush X56.here hx rfl (hb hby at_196) ?_
      show Steps p.tables e below (T56.setTop (mkF m 198 #[.val (.long q0), .second, .val (.int p1), .val (.int p2), .val (.int p3), .val (.int (p1 &&& (1 : Int32))), .val (.ref ob2), .val (.int (Int32.ofNat iN)), .val (.long (own_st (own_x0 q0 (p1 &&& (1 : Int32))))), .second, .val (.int ((97 : Int32) + (((((own_st (own_x0 q0 (p1 &&& (1 : Int32)))).toUInt64 >>> ((33 : Int32) &&& 0x3f).toInt64.toUInt64).toInt64) % (26 : Int64)).toInt32))), .val (.int (1 : Int32)), .val (.long (0 : Int64)), .second, .val (.int ((1 : Int32) &&& (1 : Int32))), .val (.ref a47), .val (.ref ob56), .unset] [(.int (32 : Int32)), (.int (32 : Int32))])) _
      refine XS.icmpYes X56.here hx rfl (pc0 := 198) (pc' := 203) rfl (hb hby at_198) rfl (teq (by decide : (32 : Int32) = (32 : Int32))).1 (by decide) (by decide) ?_
      show Steps p.tables e below (T56.setTop (mkF m 203 #[.val (.long q0), .second, .val (.int p1), .val (.int p2), .val (.int p3), .val (.int (p1 &&& (1 : Int32))), .val (.ref ob2), .val (.int (Int32.ofNat iN)), .val (.long (own_st (own_x0 q0 (p1 &&& (1 : Int32))))), .second, .val (.int ((97 : Int32) + (((((own_st (own_x0 q0 (p1 &&& (1 : Int32)))).toUInt64 >>> ((33 : Int32) &&& 0x3f).toInt64.toUInt64).toInt64) % (26 : Int64)).toInt32))), .val (.int (1 : Int32)), .val (.long (0 : Int64)), .second, .val (.int ((1 : Int32) &&& (1 : Int32))), .val (.ref a47), .val (.ref ob56), .unset] [])) _
      refine XS.iloadN X56.here hx rfl (hb hby at_203) rfl ?_
      show Steps p.tables e below (T56.setTop (mkF m 204 #[.val (.long q0), .second, .val (.int p1), .val (.int p2), .val (.int p3), .val (.int (p1 &&& (1 : Int32))), .val (.ref ob2), .val (.int (Int32.ofNat iN)), .val (.long (own_st (own_x0 q0 (p1 &&& (1 : Int32))))), .second, .val (.int ((97 : Int32) + (((((own_st (own_x0 q0 (p1 &&& (1 : Int32)))).toUInt64 >>> ((33 : Int32) &&& 0x3f).toInt64.toUInt64).toInt64) % (26 : Int64)).toInt32))), .val (.int (1 : Int32)), .val (.long (0 : Int64)), .second, .val (.int ((1 : Int32) &&& (1 : Int32))), .val (.ref a47), .val (.ref ob56), .unset] [(.int p2)])) _
      refine XS.iconst X56.here hx rfl (hb hby at_204) ?_
      show Steps p.tables e below (T56.setTop (mkF m 205 #[.val (.long q0), .second, .val (.int p1), .val (.int p2), .val (.int p3), .val (.int (p1 &&& (1 : Int32))), .val (.ref ob2), .val (.int (Int32.ofNat iN)), .val (.long (own_st (own_x0 q0 (p1 &&& (1 : Int32))))), .second, .val (.int ((97 : Int32) + (((((own_st (own_x0 q0 (p1 &&& (1 : Int32)))).toUInt64 >>> ((33 : Int32) &&& 0x3f).toInt64.toUInt64).toInt64) % (26 : Int64)).toInt32))), .val (.int (1 : Int32)), .val (.long (0 : Int64)), .second, .val (.int ((1 : Int32) &&& (1 : Int32))), .val (.ref a47), .val (.ref ob56), .unset] [(.int (5 : Int32)), (.int p2)])) _
      refine XS.iushr X56.here hx rfl (hb hby at_205) rfl ?_
      show Steps p.tables e below (T56.setTop (mkF m 206 #[.val (.long q0), .second, .val (.int p1), .val (.int p2), .val (.int p3), .val (.int (p1 &&& (1 : Int32))), .val (.ref ob2), .val (.int (Int32.ofNat iN)), .val (.long (own_st (own_x0 q0 (p1 &&& (1 : Int32))))), .second, .val (.int ((97 : Int32) + (((((own_st (own_x0 q0 (p1 &&& (1 : Int32)))).toUInt64 >>> ((33 : Int32) &&& 0x3f).toInt64.toUInt64).toInt64) % (26 : Int64)).toInt32))), .val (.int (1 : Int32)), .val (.long (0 : Int64)), .second, .val (.int ((1 : Int32) &&& (1 : Int32))), .val (.ref a47), .val (.ref ob56), .unset] [(.int ((p2.toUInt32 >>> ((5 : Int32) &&& 31).toUInt32).toInt32))])) _
      refine XS.bipush X56.here hx rfl (hb hby at_206) ?_
      show Steps p.tables e below (T56.setTop (mkF m 208 #[.val (.long q0), .second, .val (.int p1), .val (.int p2), .val (.int p3), .val (.int (p1 &&& (1 : Int32))), .val (.ref ob2), .val (.int (Int32.ofNat iN)), .val (.long (own_st (own_x0 q0 (p1 &&& (1 : Int32))))), .second, .val (.int ((97 : Int32) + (((((own_st (own_x0 q0 (p1 &&& (1 : Int32)))).toUInt64 >>> ((33 : Int32) &&& 0x3f).toInt64.toUInt64).toInt64) % (26 : Int64)).toInt32))), .val (.int (1 : Int32)), .val (.long (0 : Int64)), .second, .val (.int ((1 : Int32) &&& (1 : Int32))), .val (.ref a47), .val (.ref ob56), .unset] [(.int (31 : Int32)), (.int ((p2.toUInt32 >>> ((5 : Int32) &&& 31).toUInt32).toInt32))])) _
      refine XS.iand X56.here hx rfl (hb hby at_208) rfl ?_
      show Steps p.tables e below (T56.setTop (mkF m 209 #[.val (.long q0), .second, .val (.int p1), .val (.int p2), .val (.int p3), .val (.int (p1 &&& (1 : Int32))), .val (.ref ob2), .val (.int (Int32.ofNat iN)), .val (.long (own_st (own_x0 q0 (p1 &&& (1 : Int32))))), .second, .val (.int ((97 : Int32) + (((((own_st (own_x0 q0 (p1 &&& (1 : Int32)))).toUInt64 >>> ((33 : Int32) &&& 0x3f).toInt64.toUInt64).toInt64) % (26 : Int64)).toInt32))), .val (.int (1 : Int32)), .val (.long (0 : Int64)), .second, .val (.int ((1 : Int32) &&& (1 : Int32))), .val (.ref a47), .val (.ref ob56), .unset] [(.int (((p2.toUInt32 >>> ((5 : Int32) &&& 31).toUInt32).toInt32) &&& (31 : Int32)))])) _
      refine XS.istore X56.here hx rfl (hb hby at_209) rfl (l' := #[.val (.long q0), .second, .val (.int p1), .val (.int p2), .val (.int p3), .val (.int (p1 &&& (1 : Int32))), .val (.ref ob2), .val (.int (Int32.ofNat iN)), .val (.long (own_st (own_x0 q0 (p1 &&& (1 : Int32))))), .second, .val (.int ((97 : Int32) + (((((own_st (own_x0 q0 (p1 &&& (1 : Int32)))).toUInt64 >>> ((33 : Int32) &&& 0x3f).toInt64.toUInt64).toInt64) % (26 : Int64)).toInt32))), .val (.int (1 : Int32)), .val (.long (0 : Int64)), .second, .val (.int ((1 : Int32) &&& (1 : Int32))), .val (.ref a47), .val (.ref ob56), .val (.int (((p2.toUInt32 >>> ((5 : Int32) &&& 31).toUInt32).toInt32) &&& (31 : Int32)))]) rfl ?_
      exact kt
    obtain ⟨jn, hjn, hje⟩ := own_mask ((p2.toUInt32 >>> ((5 : Int32) &&& 31).toUInt32).toInt32)
    have c59 : ∀ t, Steps p.tables e below (T56.setTop (mkF m 211 #[.val (.long q0), .second, .val (.int p1), .val (.int p2), .val (.int p3), .val (.int (p1 &&& (1 : Int32))), .val (.ref ob2), .val (.int (Int32.ofNat iN)), .val (.long (own_st (own_x0 q0 (p1 &&& (1 : Int32))))), .second, .val (.int ((97 : Int32) + (((((own_st (own_x0 q0 (p1 &&& (1 : Int32)))).toUInt64 >>> ((33 : Int32) &&& 0x3f).toInt64.toUInt64).toInt64) % (26 : Int64)).toInt32))), .val (.int (1 : Int32)), .val (.long (0 : Int64)), .second, .val (.int ((1 : Int32) &&& (1 : Int32))), .val (.ref a47), .val (.ref ob56), .val (.int (Int32.ofNat jn))] [])) t → Steps p.tables e below (T56.setTop (mkF m 211 #[.val (.long q0), .second, .val (.int p1), .val (.int p2), .val (.int p3), .val (.int (p1 &&& (1 : Int32))), .val (.ref ob2), .val (.int (Int32.ofNat iN)), .val (.long (own_st (own_x0 q0 (p1 &&& (1 : Int32))))), .second, .val (.int ((97 : Int32) + (((((own_st (own_x0 q0 (p1 &&& (1 : Int32)))).toUInt64 >>> ((33 : Int32) &&& 0x3f).toInt64.toUInt64).toInt64) % (26 : Int64)).toInt32))), .val (.int (1 : Int32)), .val (.long (0 : Int64)), .second, .val (.int ((1 : Int32) &&& (1 : Int32))), .val (.ref a47), .val (.ref ob56), .val (.int (((p2.toUInt32 >>> ((5 : Int32) &&& 31).toUInt32).toInt32) &&& (31 : Int32)))] [])) t := fun t kt => by rw [hje]; exact kt
    have Vc60 := Vq56
    obtain ⟨cl60, Ar60, qk60, S60, M60, H60, G60⟩ := Vc60
    have hin60 : ¬ ((Int32.ofNat jn) < 0 ∨ cl60.slots.size ≤ ((Int32.ofNat jn)).toNatClampNeg) := inb_of S60 (own_in jn hjn)
    have hat60 : cl60.slots[((Int32.ofNat jn)).toNatClampNeg]? = some (.int (own_f (own_x0 (0 : Int64) ((1 : Int32) &&& (1 : Int32))) jn)) := H60.at hin60 (own_get (own_x0 (0 : Int64) ((1 : Int32) &&& (1 : Int32))) jn hjn)
    have c61 : ∀ t, Steps p.tables e below (T56.setTop (mkF m 220 #[.val (.long q0), .second, .val (.int p1), .val (.int p2), .val (.int p3), .val (.int (p1 &&& (1 : Int32))), .val (.ref ob2), .val (.int (Int32.ofNat iN)), .val (.long (own_st (own_x0 q0 (p1 &&& (1 : Int32))))), .second, .val (.int ((97 : Int32) + (((((own_st (own_x0 q0 (p1 &&& (1 : Int32)))).toUInt64 >>> ((33 : Int32) &&& 0x3f).toInt64.toUInt64).toInt64) % (26 : Int64)).toInt32))), .val (.int (1 : Int32)), .val (.long (0 : Int64)), .second, .val (.int ((1 : Int32) &&& (1 : Int32))), .val (.ref a47), .val (.ref ob56), .val (.int (Int32.ofNat jn))] [(.int (Int32.ofNat jn)), (.ref a47), (.int (own_f (own_x0 (0 : Int64) ((1 : Int32) &&& (1 : Int32))) jn))])) t → Steps p.tables e below (T56.setTop (mkF m 211 #[.val (.long q0), .second, .val (.int p1), .val (.int p2), .val (.int p3), .val (.int (p1 &&& (1 : Int32))), .val (.ref ob2), .val (.int (Int32.ofNat iN)), .val (.long (own_st (own_x0 q0 (p1 &&& (1 : Int32))))), .second, .val (.int ((97 : Int32) + (((((own_st (own_x0 q0 (p1 &&& (1 : Int32)))).toUInt64 >>> ((33 : Int32) &&& 0x3f).toInt64.toUInt64).toInt64) % (26 : Int64)).toInt32))), .val (.int (1 : Int32)), .val (.long (0 : Int64)), .second, .val (.int ((1 : Int32) &&& (1 : Int32))), .val (.ref a47), .val (.ref ob56), .val (.int (Int32.ofNat jn))] [])) t := by
      intro t kt
      show Steps p.tables e below (T56.setTop (mkF m 211 #[.val (.long q0), .second, .val (.int p1), .val (.int p2), .val (.int p3), .val (.int (p1 &&& (1 : Int32))), .val (.ref ob2), .val (.int (Int32.ofNat iN)), .val (.long (own_st (own_x0 q0 (p1 &&& (1 : Int32))))), .second, .val (.int ((97 : Int32) + (((((own_st (own_x0 q0 (p1 &&& (1 : Int32)))).toUInt64 >>> ((33 : Int32) &&& 0x3f).toInt64.toUInt64).toInt64) % (26 : Int64)).toInt32))), .val (.int (1 : Int32)), .val (.long (0 : Int64)), .second, .val (.int ((1 : Int32) &&& (1 : Int32))), .val (.ref a47), .val (.ref ob56), .val (.int (Int32.ofNat jn))] [])) _
      refine XS.aload X56.here hx rfl (hb hby at_211) rfl rfl ?_
      show Steps p.tables e below (T56.setTop (mkF m 213 #[.val (.long q0), .second, .val (.int p1), .val (.int p2), .val (.int p3), .val (.int (p1 &&& (1 : Int32))), .val (.ref ob2), .val (.int (Int32.ofNat iN)), .val (.long (own_st (own_x0 q0 (p1 &&& (1 : Int32))))), .second, .val (.int ((97 : Int32) + (((((own_st (own_x0 q0 (p1 &&& (1 : Int32)))).toUInt64 >>> ((33 : Int32) &&& 0x3f).toInt64.toUInt64).toInt64) % (26 : Int64)).toInt32))), .val (.int (1 : Int32)), .val (.long (0 : Int64)), .second, .val (.int ((1 : Int32) &&& (1 : Int32))), .val (.ref a47), .val (.ref ob56), .val (.int (Int32.ofNat jn))] [(.ref ob56)])) _
      refine XS.iload X56.here hx rfl (hb hby at_213) rfl ?_
      show Steps p.tables e below (T56.setTop (mkF m 215 #[.val (.long q0), .second, .val (.int p1), .val (.int p2), .val (.int p3), .val (.int (p1 &&& (1 : Int32))), .val (.ref ob2), .val (.int (Int32.ofNat iN)), .val (.long (own_st (own_x0 q0 (p1 &&& (1 : Int32))))), .second, .val (.int ((97 : Int32) + (((((own_st (own_x0 q0 (p1 &&& (1 : Int32)))).toUInt64 >>> ((33 : Int32) &&& 0x3f).toInt64.toUInt64).toInt64) % (26 : Int64)).toInt32))), .val (.int (1 : Int32)), .val (.long (0 : Int64)), .second, .val (.int ((1 : Int32) &&& (1 : Int32))), .val (.ref a47), .val (.ref ob56), .val (.int (Int32.ofNat jn))] [(.int (Int32.ofNat jn)), (.ref ob56)])) _
      refine X56.baloadBytes hx (j := (Int32.ofNat jn)) (v := (.int (own_f (own_x0 (0 : Int64) ((1 : Int32) &&& (1 : Int32))) jn))) Ar60.1 (State.isArrayOf_alike hZ.alike Ar60.2.1) Ar60.2.2 hin60 hat60 (g := (mkF m 215 #[.val (.long q0), .second, .val (.int p1), .val (.int p2), .val (.int p3), .val (.int (p1 &&& (1 : Int32))), .val (.ref ob2), .val (.int (Int32.ofNat iN)), .val (.long (own_st (own_x0 q0 (p1 &&& (1 : Int32))))), .second, .val (.int ((97 : Int32) + (((((own_st (own_x0 q0 (p1 &&& (1 : Int32)))).toUInt64 >>> ((33 : Int32) &&& 0x3f).toInt64.toUInt64).toInt64) % (26 : Int64)).toInt32))), .val (.int (1 : Int32)), .val (.long (0 : Int64)), .second, .val (.int ((1 : Int32) &&& (1 : Int32))), .val (.ref a47), .val (.ref ob56), .val (.int (Int32.ofNat jn))] [(.int (Int32.ofNat jn)), (.ref ob56)])) rfl rfl (hb hby at_215) _ ?_
      show Steps p.tables e below (T56.setTop (mkF m 216 #[.val (.long q0), .second, .val (.int p1), .val (.int p2), .val (.int p3), .val (.int (p1 &&& (1 : Int32))), .val (.ref ob2), .val (.int (Int32.ofNat iN)), .val (.long (own_st (own_x0 q0 (p1 &&& (1 : Int32))))), .second, .val (.int ((97 : Int32) + (((((own_st (own_x0 q0 (p1 &&& (1 : Int32)))).toUInt64 >>> ((33 : Int32) &&& 0x3f).toInt64.toUInt64).toInt64) % (26 : Int64)).toInt32))), .val (.int (1 : Int32)), .val (.long (0 : Int64)), .second, .val (.int ((1 : Int32) &&& (1 : Int32))), .val (.ref a47), .val (.ref ob56), .val (.int (Int32.ofNat jn))] [(.int (own_f (own_x0 (0 : Int64) ((1 : Int32) &&& (1 : Int32))) jn))])) _
      refine XS.aload X56.here hx rfl (hb hby at_216) rfl rfl ?_
      show Steps p.tables e below (T56.setTop (mkF m 218 #[.val (.long q0), .second, .val (.int p1), .val (.int p2), .val (.int p3), .val (.int (p1 &&& (1 : Int32))), .val (.ref ob2), .val (.int (Int32.ofNat iN)), .val (.long (own_st (own_x0 q0 (p1 &&& (1 : Int32))))), .second, .val (.int ((97 : Int32) + (((((own_st (own_x0 q0 (p1 &&& (1 : Int32)))).toUInt64 >>> ((33 : Int32) &&& 0x3f).toInt64.toUInt64).toInt64) % (26 : Int64)).toInt32))), .val (.int (1 : Int32)), .val (.long (0 : Int64)), .second, .val (.int ((1 : Int32) &&& (1 : Int32))), .val (.ref a47), .val (.ref ob56), .val (.int (Int32.ofNat jn))] [(.ref a47), (.int (own_f (own_x0 (0 : Int64) ((1 : Int32) &&& (1 : Int32))) jn))])) _
      refine XS.iload X56.here hx rfl (hb hby at_218) rfl ?_
      exact kt
    have f62 := (Nat.le_trans f55 Kq56.1)
    have f63 := (Es47.keep Kq56)
    have f64 := (Fv47.keep Kq56 nin0)
    have f65 := (Va47.keep Kq56 nin0)
    have f66 := ((f53.ext E47).keep Kq56 all0)
    have f67 := (Fc47.keep Kq56 nin0)
    obtain ⟨cq68, kq68, q68a, q68b, q68c⟩ := isOf hZ rfl f63
    obtain ⟨_, _, ⟨T69, L69, k69, n69⟩, -, X69, ⟨Lc69, hQ69, l69, y69, z69⟩, st69⟩ := X56.virtualBack hx (y := (⟨"java/lang/String", "charAt", "(I)C"⟩ : MethodName)) (z := (⟨"java/lang/String", "charAt", "(I)C"⟩ : MethodName)) hown (mvT hZ (hw _ (List.mem_of_getElem? (i := 21) rfl))) (mvT hZ (hw _ (List.mem_of_getElem? (i := 22) rfl))) (notFace_of_selects (args := #[]) (mvT hZ (hw _ (List.mem_of_getElem? (i := 24) rfl)))) (mvT hZ (hw _ (List.mem_of_getElem? (i := 24) rfl))) (mvT hZ (hw _ (List.mem_of_getElem? (i := 23) rfl))) (by decide) (backOf (W := 1) (rm2 l Z a0 hw [] a47 (Int32.ofNat jn) b47 kb47 (32 : Int32) (own_l1.map Value.int) (.int 0) (own_l1.getD jn 0) fm cs T56.heap n0 f62 f63 f64 f65 (own_in jn hjn) (own_map own_l1 rfl jn hjn _) (SF.ext f66.2) hfm (SC.ext f66.2) hcs f67) hZ (hw _ (List.mem_of_getElem? (i := 25) rfl)) (hw _ (List.mem_of_getElem? (i := 15) rfl)) (by decide) (by decide)) q68a q68c (g := (mkF m 220 #[.val (.long q0), .second, .val (.int p1), .val (.int p2), .val (.int p3), .val (.int (p1 &&& (1 : Int32))), .val (.ref ob2), .val (.int (Int32.ofNat iN)), .val (.long (own_st (own_x0 q0 (p1 &&& (1 : Int32))))), .second, .val (.int ((97 : Int32) + (((((own_st (own_x0 q0 (p1 &&& (1 : Int32)))).toUInt64 >>> ((33 : Int32) &&& 0x3f).toInt64.toUInt64).toInt64) % (26 : Int64)).toInt32))), .val (.int (1 : Int32)), .val (.long (0 : Int64)), .second, .val (.int ((1 : Int32) &&& (1 : Int32))), .val (.ref a47), .val (.ref ob56), .val (.int (Int32.ofNat jn))] [(.int (Int32.ofNat jn)), (.ref a47), (.int (own_f (own_x0 (0 : Int64) ((1 : Int32) &&& (1 : Int32))) jn))])) rfl (by rw [hml]; rfl) (Steps.refl _) (argsL := [(.int (Int32.ofNat jn))]) (rest := [(.int (own_f (own_x0 (0 : Int64) ((1 : Int32) &&& (1 : Int32))) jn))]) (lenOf pd_5 rfl) rfl (by show 2 * 0 + _ ≤ _; exact Nat.le_of_eq rfl) (hb hby at_220) (fun _ _ => ⟨rfl, rfl, (by decide : 4 + 0 ≤ _), (by decide : 196 + 0 ≤ _)⟩)
    dsimp only [Pt.U, Pt.locs, Pt.cells, Pt.slots] at X69 l69 y69 z69 st69 hQ69
    subst l69 y69 z69
    obtain ⟨rfl, N69q, e69⟩ := hQ69
    have N69 := Fr.app N56 N69q
    have hd70 : (own_f (own_x0 (0 : Int64) ((1 : Int32) &&& (1 : Int32))) jn) = (own_lit own_l1 jn) := own_pub1 jn hjn
    have c71 : ∀ t, Steps p.tables e below (T69.setTop (mkF m 231 #[.val (.long q0), .second, .val (.int p1), .val (.int p2), .val (.int p3), .val (.int (p1 &&& (1 : Int32))), .val (.ref ob2), .val (.int (Int32.ofNat iN)), .val (.long (own_st (own_x0 q0 (p1 &&& (1 : Int32))))), .second, .val (.int ((97 : Int32) + (((((own_st (own_x0 q0 (p1 &&& (1 : Int32)))).toUInt64 >>> ((33 : Int32) &&& 0x3f).toInt64.toUInt64).toInt64) % (26 : Int64)).toInt32))), .val (.int (1 : Int32)), .val (.long (0 : Int64)), .second, .val (.int ((1 : Int32) &&& (1 : Int32))), .val (.ref a47), .val (.ref ob56), .val (.int (Int32.ofNat jn))] [(.int (1 : Int32))])) t → Steps p.tables e below (T69.setTop (mkF m 223 #[.val (.long q0), .second, .val (.int p1), .val (.int p2), .val (.int p3), .val (.int (p1 &&& (1 : Int32))), .val (.ref ob2), .val (.int (Int32.ofNat iN)), .val (.long (own_st (own_x0 q0 (p1 &&& (1 : Int32))))), .second, .val (.int ((97 : Int32) + (((((own_st (own_x0 q0 (p1 &&& (1 : Int32)))).toUInt64 >>> ((33 : Int32) &&& 0x3f).toInt64.toUInt64).toInt64) % (26 : Int64)).toInt32))), .val (.int (1 : Int32)), .val (.long (0 : Int64)), .second, .val (.int ((1 : Int32) &&& (1 : Int32))), .val (.ref a47), .val (.ref ob56), .val (.int (Int32.ofNat jn))] [(.int (own_lit own_l1 jn)), (.int (own_f (own_x0 (0 : Int64) ((1 : Int32) &&& (1 : Int32))) jn))])) t := by
      intro t kt
      show Steps p.tables e below (T69.setTop (mkF m 223 #[.val (.long q0), .second, .val (.int p1), .val (.int p2), .val (.int p3), .val (.int (p1 &&& (1 : Int32))), .val (.ref ob2), .val (.int (Int32.ofNat iN)), .val (.long (own_st (own_x0 q0 (p1 &&& (1 : Int32))))), .second, .val (.int ((97 : Int32) + (((((own_st (own_x0 q0 (p1 &&& (1 : Int32)))).toUInt64 >>> ((33 : Int32) &&& 0x3f).toInt64.toUInt64).toInt64) % (26 : Int64)).toInt32))), .val (.int (1 : Int32)), .val (.long (0 : Int64)), .second, .val (.int ((1 : Int32) &&& (1 : Int32))), .val (.ref a47), .val (.ref ob56), .val (.int (Int32.ofNat jn))] [(.int (own_lit own_l1 jn)), (.int (own_f (own_x0 (0 : Int64) ((1 : Int32) &&& (1 : Int32))) jn))])) _
      refine XS.icmpNo X69.here hx rfl (hb hby at_223) rfl (teq (hd70)).2 ?_
      show Steps p.tables e below (T69.setTop (mkF m 226 #[.val (.long q0), .second, .val (.int p1), .val (.int p2), .val (.int p3), .val (.int (p1 &&& (1 : Int32))), .val (.ref ob2), .val (.int (Int32.ofNat iN)), .val (.long (own_st (own_x0 q0 (p1 &&& (1 : Int32))))), .second, .val (.int ((97 : Int32) + (((((own_st (own_x0 q0 (p1 &&& (1 : Int32)))).toUInt64 >>> ((33 : Int32) &&& 0x3f).toInt64.toUInt64).toInt64) % (26 : Int64)).toInt32))), .val (.int (1 : Int32)), .val (.long (0 : Int64)), .second, .val (.int ((1 : Int32) &&& (1 : Int32))), .val (.ref a47), .val (.ref ob56), .val (.int (Int32.ofNat jn))] [])) _
      refine XS.iconst X69.here hx rfl (hb hby at_226) ?_
      show Steps p.tables e below (T69.setTop (mkF m 227 #[.val (.long q0), .second, .val (.int p1), .val (.int p2), .val (.int p3), .val (.int (p1 &&& (1 : Int32))), .val (.ref ob2), .val (.int (Int32.ofNat iN)), .val (.long (own_st (own_x0 q0 (p1 &&& (1 : Int32))))), .second, .val (.int ((97 : Int32) + (((((own_st (own_x0 q0 (p1 &&& (1 : Int32)))).toUInt64 >>> ((33 : Int32) &&& 0x3f).toInt64.toUInt64).toInt64) % (26 : Int64)).toInt32))), .val (.int (1 : Int32)), .val (.long (0 : Int64)), .second, .val (.int ((1 : Int32) &&& (1 : Int32))), .val (.ref a47), .val (.ref ob56), .val (.int (Int32.ofNat jn))] [(.int (1 : Int32))])) _
      refine XS.goto X69.here hx rfl (pc0 := 227) (pc' := 231) rfl (hb hby at_227) (by decide) (by decide) ?_
      exact kt
    have f73 := (Nat.le_trans hk47 Kq56.1)
    obtain ⟨fs, hr, hrun, hended, hwd⟩ := Stand.leaveW (s := s) X69 hS47 (by rw [e69]; exact f73) (v := some (.int (1 : Int32))) (fun h => by rw [Bd.returns] at h; cases h)
    refine ⟨_, _, pre0 _ (c1 _ (st2 _ (c4 _ (c5 _ (c8 _ (c11 _ (c12 _ (c13 _ (c16 _ (c17 _ (c46 _ (c48 _ (st47 _ (c54 _ (st56 _ (c58 _ (c59 _ (c61 _ (st69.trans (c71 _ (?_))))))))))))))))))))), hrun, hended, _, _, rfl, ?_, hwd.1, hwd.2.1, hwd.2.2.1, hwd.2.2.2.mono (by decide) (by decide)⟩
    · show Steps p.tables e below (T69.setTop (mkF m 231 #[.val (.long q0), .second, .val (.int p1), .val (.int p2), .val (.int p3), .val (.int (p1 &&& (1 : Int32))), .val (.ref ob2), .val (.int (Int32.ofNat iN)), .val (.long (own_st (own_x0 q0 (p1 &&& (1 : Int32))))), .second, .val (.int ((97 : Int32) + (((((own_st (own_x0 q0 (p1 &&& (1 : Int32)))).toUInt64 >>> ((33 : Int32) &&& 0x3f).toInt64.toUInt64).toInt64) % (26 : Int64)).toInt32))), .val (.int (1 : Int32)), .val (.long (0 : Int64)), .second, .val (.int ((1 : Int32) &&& (1 : Int32))), .val (.ref a47), .val (.ref ob56), .val (.int (Int32.ofNat jn))] [(.int (1 : Int32))])) _
      exact retN X69 hx (t := .boolean) Bd.returns (by simp) (hb hby at_231) hr
    · show Q0 Z q0 p1 p2 p3 cs fm h0 n0 _ T69.heap _
      rw [e69]
      exact ⟨congrArg (fun z => some (Value.int z)) (show (1 : Int32) = (1 : Int32) from by rfl), N69⟩
  · skip
    have c74 : ∀ t, Steps p.tables e below (T2.setTop (mkF m 121 #[.val (.long q0), .second, .val (.int p1), .val (.int p2), .val (.int p3), .val (.int (p1 &&& (1 : Int32))), .val (.ref ob2), .val (.int (Int32.ofNat iN)), .val (.long (own_st (own_x0 q0 (p1 &&& (1 : Int32))))), .second, .val (.int ((97 : Int32) + (((((own_st (own_x0 q0 (p1 &&& (1 : Int32)))).toUInt64 >>> ((33 : Int32) &&& 0x3f).toInt64.toUInt64).toInt64) % (26 : Int64)).toInt32))), .val (.int (2 : Int32)), .unset, .unset, .unset, .unset, .unset, .unset] [])) t → Steps p.tables e below (T2.setTop (mkF m 121 #[.val (.long q0), .second, .val (.int p1), .val (.int p2), .val (.int p3), .val (.int (p1 &&& (1 : Int32))), .val (.ref ob2), .val (.int (Int32.ofNat iN)), .val (.long (own_st (own_x0 q0 (p1 &&& (1 : Int32))))), .second, .val (.int ((97 : Int32) + (((((own_st (own_x0 q0 (p1 &&& (1 : Int32)))).toUInt64 >>> ((33 : Int32) &&& 0x3f).toInt64.toUInt64).toInt64) % (26 : Int64)).toInt32))), .val (.int (p3 &&& (3 : Int32))), .unset, .unset, .unset, .unset, .unset, .unset] [])) t := fun t kt => by rw [hsl]; exact kt
    have c76 : ∀ t, Steps p.tables e below (T2.setTop (mkF m 170 #[.val (.long q0), .second, .val (.int p1), .val (.int p2), .val (.int p3), .val (.int (p1 &&& (1 : Int32))), .val (.ref ob2), .val (.int (Int32.ofNat iN)), .val (.long (own_st (own_x0 q0 (p1 &&& (1 : Int32))))), .second, .val (.int ((97 : Int32) + (((((own_st (own_x0 q0 (p1 &&& (1 : Int32)))).toUInt64 >>> ((33 : Int32) &&& 0x3f).toInt64.toUInt64).toInt64) % (26 : Int64)).toInt32))), .val (.int (2 : Int32)), .val (.long (19999999 : Int64)), .second, .val (.int ((2 : Int32) &&& (1 : Int32))), .unset, .unset, .unset] [])) t → Steps p.tables e below (T2.setTop (mkF m 121 #[.val (.long q0), .second, .val (.int p1), .val (.int p2), .val (.int p3), .val (.int (p1 &&& (1 : Int32))), .val (.ref ob2), .val (.int (Int32.ofNat iN)), .val (.long (own_st (own_x0 q0 (p1 &&& (1 : Int32))))), .second, .val (.int ((97 : Int32) + (((((own_st (own_x0 q0 (p1 &&& (1 : Int32)))).toUInt64 >>> ((33 : Int32) &&& 0x3f).toInt64.toUInt64).toInt64) % (26 : Int64)).toInt32))), .val (.int (2 : Int32)), .unset, .unset, .unset, .unset, .unset, .unset] [])) t := by
      intro t kt
      show Steps p.tables e below (T2.setTop (mkF m 121 #[.val (.long q0), .second, .val (.int p1), .val (.int p2), .val (.int p3), .val (.int (p1 &&& (1 : Int32))), .val (.ref ob2), .val (.int (Int32.ofNat iN)), .val (.long (own_st (own_x0 q0 (p1 &&& (1 : Int32))))), .second, .val (.int ((97 : Int32) + (((((own_st (own_x0 q0 (p1 &&& (1 : Int32)))).toUInt64 >>> ((33 : Int32) &&& 0x3f).toInt64.toUInt64).toInt64) % (26 : Int64)).toInt32))), .val (.int (2 : Int32)), .unset, .unset, .unset, .unset, .unset, .unset] [])) _
      refine XS.iload X2.here hx rfl (hb hby at_121) rfl ?_
      show Steps p.tables e below (T2.setTop (mkF m 123 #[.val (.long q0), .second, .val (.int p1), .val (.int p2), .val (.int p3), .val (.int (p1 &&& (1 : Int32))), .val (.ref ob2), .val (.int (Int32.ofNat iN)), .val (.long (own_st (own_x0 q0 (p1 &&& (1 : Int32))))), .second, .val (.int ((97 : Int32) + (((((own_st (own_x0 q0 (p1 &&& (1 : Int32)))).toUInt64 >>> ((33 : Int32) &&& 0x3f).toInt64.toUInt64).toInt64) % (26 : Int64)).toInt32))), .val (.int (2 : Int32)), .unset, .unset, .unset, .unset, .unset, .unset] [(.int (2 : Int32))])) _
      refine XS.iconst X2.here hx rfl (hb hby at_123) ?_
      show Steps p.tables e below (T2.setTop (mkF m 124 #[.val (.long q0), .second, .val (.int p1), .val (.int p2), .val (.int p3), .val (.int (p1 &&& (1 : Int32))), .val (.ref ob2), .val (.int (Int32.ofNat iN)), .val (.long (own_st (own_x0 q0 (p1 &&& (1 : Int32))))), .second, .val (.int ((97 : Int32) + (((((own_st (own_x0 q0 (p1 &&& (1 : Int32)))).toUInt64 >>> ((33 : Int32) &&& 0x3f).toInt64.toUInt64).toInt64) % (26 : Int64)).toInt32))), .val (.int (2 : Int32)), .unset, .unset, .unset, .unset, .unset, .unset] [(.int (2 : Int32)), (.int (2 : Int32))])) _
      refine XS.iand X2.here hx rfl (hb hby at_124) rfl ?_
      show Steps p.tables e below (T2.setTop (mkF m 125 #[.val (.long q0), .second, .val (.int p1), .val (.int p2), .val (.int p3), .val (.int (p1 &&& (1 : Int32))), .val (.ref ob2), .val (.int (Int32.ofNat iN)), .val (.long (own_st (own_x0 q0 (p1 &&& (1 : Int32))))), .second, .val (.int ((97 : Int32) + (((((own_st (own_x0 q0 (p1 &&& (1 : Int32)))).toUInt64 >>> ((33 : Int32) &&& 0x3f).toInt64.toUInt64).toInt64) % (26 : Int64)).toInt32))), .val (.int (2 : Int32)), .unset, .unset, .unset, .unset, .unset, .unset] [(.int ((2 : Int32) &&& (2 : Int32)))])) _
      refine XS.ifYes X2.here hx rfl (pc0 := 125) (pc' := 132) rfl (hb hby at_125) rfl ((if0 _ _).trans (feq (by decide : ¬ (((2 : Int32) &&& (2 : Int32)) = (0 : Int32)))).2) (by decide) (by decide) ?_
      show Steps p.tables e below (T2.setTop (mkF m 132 #[.val (.long q0), .second, .val (.int p1), .val (.int p2), .val (.int p3), .val (.int (p1 &&& (1 : Int32))), .val (.ref ob2), .val (.int (Int32.ofNat iN)), .val (.long (own_st (own_x0 q0 (p1 &&& (1 : Int32))))), .second, .val (.int ((97 : Int32) + (((((own_st (own_x0 q0 (p1 &&& (1 : Int32)))).toUInt64 >>> ((33 : Int32) &&& 0x3f).toInt64.toUInt64).toInt64) % (26 : Int64)).toInt32))), .val (.int (2 : Int32)), .unset, .unset, .unset, .unset, .unset, .unset] [])) _
      refine X2.ldc2Long hx hown (mvT hZ (hw _ (List.mem_of_getElem? (i := 46) rfl))) (g := (mkF m 132 #[.val (.long q0), .second, .val (.int p1), .val (.int p2), .val (.int p3), .val (.int (p1 &&& (1 : Int32))), .val (.ref ob2), .val (.int (Int32.ofNat iN)), .val (.long (own_st (own_x0 q0 (p1 &&& (1 : Int32))))), .second, .val (.int ((97 : Int32) + (((((own_st (own_x0 q0 (p1 &&& (1 : Int32)))).toUInt64 >>> ((33 : Int32) &&& 0x3f).toInt64.toUInt64).toInt64) % (26 : Int64)).toInt32))), .val (.int (2 : Int32)), .unset, .unset, .unset, .unset, .unset, .unset] [])) rfl (hb hby at_132) _ ?_
      show Steps p.tables e below (T2.setTop (mkF m 135 #[.val (.long q0), .second, .val (.int p1), .val (.int p2), .val (.int p3), .val (.int (p1 &&& (1 : Int32))), .val (.ref ob2), .val (.int (Int32.ofNat iN)), .val (.long (own_st (own_x0 q0 (p1 &&& (1 : Int32))))), .second, .val (.int ((97 : Int32) + (((((own_st (own_x0 q0 (p1 &&& (1 : Int32)))).toUInt64 >>> ((33 : Int32) &&& 0x3f).toInt64.toUInt64).toInt64) % (26 : Int64)).toInt32))), .val (.int (2 : Int32)), .unset, .unset, .unset, .unset, .unset, .unset] [(.long (19999999 : Int64))])) _
      refine XS.lstore X2.here hx rfl (hb hby at_135) rfl (l' := #[.val (.long q0), .second, .val (.int p1), .val (.int p2), .val (.int p3), .val (.int (p1 &&& (1 : Int32))), .val (.ref ob2), .val (.int (Int32.ofNat iN)), .val (.long (own_st (own_x0 q0 (p1 &&& (1 : Int32))))), .second, .val (.int ((97 : Int32) + (((((own_st (own_x0 q0 (p1 &&& (1 : Int32)))).toUInt64 >>> ((33 : Int32) &&& 0x3f).toInt64.toUInt64).toInt64) % (26 : Int64)).toInt32))), .val (.int (2 : Int32)), .val (.long (19999999 : Int64)), .second, .unset, .unset, .unset, .unset]) rfl ?_
      show Steps p.tables e below (T2.setTop (mkF m 137 #[.val (.long q0), .second, .val (.int p1), .val (.int p2), .val (.int p3), .val (.int (p1 &&& (1 : Int32))), .val (.ref ob2), .val (.int (Int32.ofNat iN)), .val (.long (own_st (own_x0 q0 (p1 &&& (1 : Int32))))), .second, .val (.int ((97 : Int32) + (((((own_st (own_x0 q0 (p1 &&& (1 : Int32)))).toUInt64 >>> ((33 : Int32) &&& 0x3f).toInt64.toUInt64).toInt64) % (26 : Int64)).toInt32))), .val (.int (2 : Int32)), .val (.long (19999999 : Int64)), .second, .unset, .unset, .unset, .unset] [])) _
      refine XS.iload X2.here hx rfl (hb hby at_137) rfl ?_
      show Steps p.tables e below (T2.setTop (mkF m 139 #[.val (.long q0), .second, .val (.int p1), .val (.int p2), .val (.int p3), .val (.int (p1 &&& (1 : Int32))), .val (.ref ob2), .val (.int (Int32.ofNat iN)), .val (.long (own_st (own_x0 q0 (p1 &&& (1 : Int32))))), .second, .val (.int ((97 : Int32) + (((((own_st (own_x0 q0 (p1 &&& (1 : Int32)))).toUInt64 >>> ((33 : Int32) &&& 0x3f).toInt64.toUInt64).toInt64) % (26 : Int64)).toInt32))), .val (.int (2 : Int32)), .val (.long (19999999 : Int64)), .second, .unset, .unset, .unset, .unset] [(.int (2 : Int32))])) _
      refine XS.iconst X2.here hx rfl (hb hby at_139) ?_
      show Steps p.tables e below (T2.setTop (mkF m 140 #[.val (.long q0), .second, .val (.int p1), .val (.int p2), .val (.int p3), .val (.int (p1 &&& (1 : Int32))), .val (.ref ob2), .val (.int (Int32.ofNat iN)), .val (.long (own_st (own_x0 q0 (p1 &&& (1 : Int32))))), .second, .val (.int ((97 : Int32) + (((((own_st (own_x0 q0 (p1 &&& (1 : Int32)))).toUInt64 >>> ((33 : Int32) &&& 0x3f).toInt64.toUInt64).toInt64) % (26 : Int64)).toInt32))), .val (.int (2 : Int32)), .val (.long (19999999 : Int64)), .second, .unset, .unset, .unset, .unset] [(.int (1 : Int32)), (.int (2 : Int32))])) _
      refine XS.iand X2.here hx rfl (hb hby at_140) rfl ?_
      show Steps p.tables e below (T2.setTop (mkF m 141 #[.val (.long q0), .second, .val (.int p1), .val (.int p2), .val (.int p3), .val (.int (p1 &&& (1 : Int32))), .val (.ref ob2), .val (.int (Int32.ofNat iN)), .val (.long (own_st (own_x0 q0 (p1 &&& (1 : Int32))))), .second, .val (.int ((97 : Int32) + (((((own_st (own_x0 q0 (p1 &&& (1 : Int32)))).toUInt64 >>> ((33 : Int32) &&& 0x3f).toInt64.toUInt64).toInt64) % (26 : Int64)).toInt32))), .val (.int (2 : Int32)), .val (.long (19999999 : Int64)), .second, .unset, .unset, .unset, .unset] [(.int ((2 : Int32) &&& (1 : Int32)))])) _
      refine XS.istore X2.here hx rfl (hb hby at_141) rfl (l' := #[.val (.long q0), .second, .val (.int p1), .val (.int p2), .val (.int p3), .val (.int (p1 &&& (1 : Int32))), .val (.ref ob2), .val (.int (Int32.ofNat iN)), .val (.long (own_st (own_x0 q0 (p1 &&& (1 : Int32))))), .second, .val (.int ((97 : Int32) + (((((own_st (own_x0 q0 (p1 &&& (1 : Int32)))).toUInt64 >>> ((33 : Int32) &&& 0x3f).toInt64.toUInt64).toInt64) % (26 : Int64)).toInt32))), .val (.int (2 : Int32)), .val (.long (19999999 : Int64)), .second, .val (.int ((2 : Int32) &&& (1 : Int32))), .unset, .unset, .unset]) rfl ?_
      show Steps p.tables e below (T2.setTop (mkF m 143 #[.val (.long q0), .second, .val (.int p1), .val (.int p2), .val (.int p3), .val (.int (p1 &&& (1 : Int32))), .val (.ref ob2), .val (.int (Int32.ofNat iN)), .val (.long (own_st (own_x0 q0 (p1 &&& (1 : Int32))))), .second, .val (.int ((97 : Int32) + (((((own_st (own_x0 q0 (p1 &&& (1 : Int32)))).toUInt64 >>> ((33 : Int32) &&& 0x3f).toInt64.toUInt64).toInt64) % (26 : Int64)).toInt32))), .val (.int (2 : Int32)), .val (.long (19999999 : Int64)), .second, .val (.int ((2 : Int32) &&& (1 : Int32))), .unset, .unset, .unset] [])) _
      refine XS.iload X2.here hx rfl (hb hby at_143) rfl ?_
      show Steps p.tables e below (T2.setTop (mkF m 145 #[.val (.long q0), .second, .val (.int p1), .val (.int p2), .val (.int p3), .val (.int (p1 &&& (1 : Int32))), .val (.ref ob2), .val (.int (Int32.ofNat iN)), .val (.long (own_st (own_x0 q0 (p1 &&& (1 : Int32))))), .second, .val (.int ((97 : Int32) + (((((own_st (own_x0 q0 (p1 &&& (1 : Int32)))).toUInt64 >>> ((33 : Int32) &&& 0x3f).toInt64.toUInt64).toInt64) % (26 : Int64)).toInt32))), .val (.int (2 : Int32)), .val (.long (19999999 : Int64)), .second, .val (.int ((2 : Int32) &&& (1 : Int32))), .unset, .unset, .unset] [(.int (2 : Int32))])) _
      refine XS.ifYes X2.here hx rfl (pc0 := 145) (pc' := 153) rfl (hb hby at_145) rfl ((if0 _ _).trans (feq (by decide : ¬ ((2 : Int32) = (0 : Int32)))).2) (by decide) (by decide) ?_
      show Steps p.tables e below (T2.setTop (mkF m 153 #[.val (.long q0), .second, .val (.int p1), .val (.int p2), .val (.int p3), .val (.int (p1 &&& (1 : Int32))), .val (.ref ob2), .val (.int (Int32.ofNat iN)), .val (.long (own_st (own_x0 q0 (p1 &&& (1 : Int32))))), .second, .val (.int ((97 : Int32) + (((((own_st (own_x0 q0 (p1 &&& (1 : Int32)))).toUInt64 >>> ((33 : Int32) &&& 0x3f).toInt64.toUInt64).toInt64) % (26 : Int64)).toInt32))), .val (.int (2 : Int32)), .val (.long (19999999 : Int64)), .second, .val (.int ((2 : Int32) &&& (1 : Int32))), .unset, .unset, .unset] [])) _
      refine XS.iload X2.here hx rfl (hb hby at_153) rfl ?_
      show Steps p.tables e below (T2.setTop (mkF m 155 #[.val (.long q0), .second, .val (.int p1), .val (.int p2), .val (.int p3), .val (.int (p1 &&& (1 : Int32))), .val (.ref ob2), .val (.int (Int32.ofNat iN)), .val (.long (own_st (own_x0 q0 (p1 &&& (1 : Int32))))), .second, .val (.int ((97 : Int32) + (((((own_st (own_x0 q0 (p1 &&& (1 : Int32)))).toUInt64 >>> ((33 : Int32) &&& 0x3f).toInt64.toUInt64).toInt64) % (26 : Int64)).toInt32))), .val (.int (2 : Int32)), .val (.long (19999999 : Int64)), .second, .val (.int ((2 : Int32) &&& (1 : Int32))), .unset, .unset, .unset] [(.int (2 : Int32))])) _
      refine XS.iconst X2.here hx rfl (hb hby at_155) ?_
      show Steps p.tables e below (T2.setTop (mkF m 156 #[.val (.long q0), .second, .val (.int p1), .val (.int p2), .val (.int p3), .val (.int (p1 &&& (1 : Int32))), .val (.ref ob2), .val (.int (Int32.ofNat iN)), .val (.long (own_st (own_x0 q0 (p1 &&& (1 : Int32))))), .second, .val (.int ((97 : Int32) + (((((own_st (own_x0 q0 (p1 &&& (1 : Int32)))).toUInt64 >>> ((33 : Int32) &&& 0x3f).toInt64.toUInt64).toInt64) % (26 : Int64)).toInt32))), .val (.int (2 : Int32)), .val (.long (19999999 : Int64)), .second, .val (.int ((2 : Int32) &&& (1 : Int32))), .unset, .unset, .unset] [(.int (1 : Int32)), (.int (2 : Int32))])) _
      refine XS.icmpYes X2.here hx rfl (pc0 := 156) (pc' := 164) rfl (hb hby at_156) rfl (feq (by decide : ¬ ((2 : Int32) = (1 : Int32)))).2 (by decide) (by decide) ?_
      show Steps p.tables e below (T2.setTop (mkF m 164 #[.val (.long q0), .second, .val (.int p1), .val (.int p2), .val (.int p3), .val (.int (p1 &&& (1 : Int32))), .val (.ref ob2), .val (.int (Int32.ofNat iN)), .val (.long (own_st (own_x0 q0 (p1 &&& (1 : Int32))))), .second, .val (.int ((97 : Int32) + (((((own_st (own_x0 q0 (p1 &&& (1 : Int32)))).toUInt64 >>> ((33 : Int32) &&& 0x3f).toInt64.toUInt64).toInt64) % (26 : Int64)).toInt32))), .val (.int (2 : Int32)), .val (.long (19999999 : Int64)), .second, .val (.int ((2 : Int32) &&& (1 : Int32))), .unset, .unset, .unset] [])) _
      refine XS.iload X2.here hx rfl (hb hby at_164) rfl ?_
      show Steps p.tables e below (T2.setTop (mkF m 166 #[.val (.long q0), .second, .val (.int p1), .val (.int p2), .val (.int p3), .val (.int (p1 &&& (1 : Int32))), .val (.ref ob2), .val (.int (Int32.ofNat iN)), .val (.long (own_st (own_x0 q0 (p1 &&& (1 : Int32))))), .second, .val (.int ((97 : Int32) + (((((own_st (own_x0 q0 (p1 &&& (1 : Int32)))).toUInt64 >>> ((33 : Int32) &&& 0x3f).toInt64.toUInt64).toInt64) % (26 : Int64)).toInt32))), .val (.int (2 : Int32)), .val (.long (19999999 : Int64)), .second, .val (.int ((2 : Int32) &&& (1 : Int32))), .unset, .unset, .unset] [(.int (2 : Int32))])) _
      refine XS.iconst X2.here hx rfl (hb hby at_166) ?_
      show Steps p.tables e below (T2.setTop (mkF m 167 #[.val (.long q0), .second, .val (.int p1), .val (.int p2), .val (.int p3), .val (.int (p1 &&& (1 : Int32))), .val (.ref ob2), .val (.int (Int32.ofNat iN)), .val (.long (own_st (own_x0 q0 (p1 &&& (1 : Int32))))), .second, .val (.int ((97 : Int32) + (((((own_st (own_x0 q0 (p1 &&& (1 : Int32)))).toUInt64 >>> ((33 : Int32) &&& 0x3f).toInt64.toUInt64).toInt64) % (26 : Int64)).toInt32))), .val (.int (2 : Int32)), .val (.long (19999999 : Int64)), .second, .val (.int ((2 : Int32) &&& (1 : Int32))), .unset, .unset, .unset] [(.int (2 : Int32)), (.int (2 : Int32))])) _
      refine XS.icmpNo X2.here hx rfl (hb hby at_167) rfl (teq (by decide : (2 : Int32) = (2 : Int32))).2 ?_
      exact kt
    have f77 := (CHv.keep Kq2 (fun x q => nomatch q) hCH)
    have f78 := (Nat.le_trans (Nat.zero_le _) Kq2.1)
    have f79 := (Nat.le_trans Z0 Kq2.1)
    have f80 := ((Keep.refl h0 []).trans Kq2 all0)
    have f81 := (O0.keep Kq2 all0)
    obtain ⟨a75, T75, h75, j75, b75, kb75, X75, e75, E75, hS75, hk75, hZ, hown, Es75, Fc75, Fv75, Va75, la75, lb75, CH75, Lt75, Sf75, st75⟩ := ldcCH (s := s) (vm0 := s.vm) X2 hx hZ hown (hw _ (List.mem_of_getElem? (i := 48) rfl)) hwS rfl hS0 f78 hEL (List.mem_of_getElem? (i := 2) rfl) f77 (vs := [(.int (99 : Int32)), (.int (107 : Int32)), (.int (110 : Int32)), (.int (107 : Int32)), (.int (98 : Int32)), (.int (118 : Int32)), (.int (100 : Int32)), (.int (112 : Int32)), (.int (99 : Int32)), (.int (111 : Int32)), (.int (118 : Int32)), (.int (104 : Int32)), (.int (120 : Int32)), (.int (117 : Int32)), (.int (102 : Int32)), (.int (107 : Int32)), (.int (106 : Int32)), (.int (120 : Int32)), (.int (114 : Int32)), (.int (116 : Int32)), (.int (115 : Int32)), (.int (109 : Int32)), (.int (113 : Int32)), (.int (107 : Int32)), (.int (107 : Int32)), (.int (104 : Int32)), (.int (110 : Int32)), (.int (117 : Int32)), (.int (104 : Int32)), (.int (122 : Int32)), (.int (110 : Int32)), (.int (112 : Int32))]) (z := (32 : Int32)) ⟨by decide, rfl⟩ (by decide) rfl (g := (mkF m 170 #[.val (.long q0), .second, .val (.int p1), .val (.int p2), .val (.int p3), .val (.int (p1 &&& (1 : Int32))), .val (.ref ob2), .val (.int (Int32.ofNat iN)), .val (.long (own_st (own_x0 q0 (p1 &&& (1 : Int32))))), .second, .val (.int ((97 : Int32) + (((((own_st (own_x0 q0 (p1 &&& (1 : Int32)))).toUInt64 >>> ((33 : Int32) &&& 0x3f).toInt64.toUInt64).toInt64) % (26 : Int64)).toInt32))), .val (.int (2 : Int32)), .val (.long (19999999 : Int64)), .second, .val (.int ((2 : Int32) &&& (1 : Int32))), .unset, .unset, .unset] [])) rfl (hb hby at_170) (n := 128) (by decide) (by decide) (by decide) (by decide)
    have c82 : ∀ t, Steps p.tables e below (T75.setTop (mkF m 183 #[.val (.long q0), .second, .val (.int p1), .val (.int p2), .val (.int p3), .val (.int (p1 &&& (1 : Int32))), .val (.ref ob2), .val (.int (Int32.ofNat iN)), .val (.long (own_st (own_x0 q0 (p1 &&& (1 : Int32))))), .second, .val (.int ((97 : Int32) + (((((own_st (own_x0 q0 (p1 &&& (1 : Int32)))).toUInt64 >>> ((33 : Int32) &&& 0x3f).toInt64.toUInt64).toInt64) % (26 : Int64)).toInt32))), .val (.int (2 : Int32)), .val (.long (19999999 : Int64)), .second, .val (.int ((2 : Int32) &&& (1 : Int32))), .val (.ref a75), .unset, .unset] [(.int ((2 : Int32) &&& (1 : Int32))), (.long (19999999 : Int64))])) t → Steps p.tables e below (T75.setTop (mkF m 172 #[.val (.long q0), .second, .val (.int p1), .val (.int p2), .val (.int p3), .val (.int (p1 &&& (1 : Int32))), .val (.ref ob2), .val (.int (Int32.ofNat iN)), .val (.long (own_st (own_x0 q0 (p1 &&& (1 : Int32))))), .second, .val (.int ((97 : Int32) + (((((own_st (own_x0 q0 (p1 &&& (1 : Int32)))).toUInt64 >>> ((33 : Int32) &&& 0x3f).toInt64.toUInt64).toInt64) % (26 : Int64)).toInt32))), .val (.int (2 : Int32)), .val (.long (19999999 : Int64)), .second, .val (.int ((2 : Int32) &&& (1 : Int32))), .unset, .unset, .unset] [(.ref a75)])) t := by
      intro t kt
      show Steps p.tables e below (T75.setTop (mkF m 172 #[.val (.long q0), .second, .val (.int p1), .val (.int p2), .val (.int p3), .val (.int (p1 &&& (1 : Int32))), .val (.ref ob2), .val (.int (Int32.ofNat iN)), .val (.long (own_st (own_x0 q0 (p1 &&& (1 : Int32))))), .second, .val (.int ((97 : Int32) + (((((own_st (own_x0 q0 (p1 &&& (1 : Int32)))).toUInt64 >>> ((33 : Int32) &&& 0x3f).toInt64.toUInt64).toInt64) % (26 : Int64)).toInt32))), .val (.int (2 : Int32)), .val (.long (19999999 : Int64)), .second, .val (.int ((2 : Int32) &&& (1 : Int32))), .unset, .unset, .unset] [(.ref a75)])) _
      refine XS.goto X75.here hx rfl (pc0 := 172) (pc' := 177) rfl (hb hby at_172) (by decide) (by decide) ?_
      show Steps p.tables e below (T75.setTop (mkF m 177 #[.val (.long q0), .second, .val (.int p1), .val (.int p2), .val (.int p3), .val (.int (p1 &&& (1 : Int32))), .val (.ref ob2), .val (.int (Int32.ofNat iN)), .val (.long (own_st (own_x0 q0 (p1 &&& (1 : Int32))))), .second, .val (.int ((97 : Int32) + (((((own_st (own_x0 q0 (p1 &&& (1 : Int32)))).toUInt64 >>> ((33 : Int32) &&& 0x3f).toInt64.toUInt64).toInt64) % (26 : Int64)).toInt32))), .val (.int (2 : Int32)), .val (.long (19999999 : Int64)), .second, .val (.int ((2 : Int32) &&& (1 : Int32))), .unset, .unset, .unset] [(.ref a75)])) _
      refine XS.astore X75.here hx rfl (hb hby at_177) rfl rfl (l' := #[.val (.long q0), .second, .val (.int p1), .val (.int p2), .val (.int p3), .val (.int (p1 &&& (1 : Int32))), .val (.ref ob2), .val (.int (Int32.ofNat iN)), .val (.long (own_st (own_x0 q0 (p1 &&& (1 : Int32))))), .second, .val (.int ((97 : Int32) + (((((own_st (own_x0 q0 (p1 &&& (1 : Int32)))).toUInt64 >>> ((33 : Int32) &&& 0x3f).toInt64.toUInt64).toInt64) % (26 : Int64)).toInt32))), .val (.int (2 : Int32)), .val (.long (19999999 : Int64)), .second, .val (.int ((2 : Int32) &&& (1 : Int32))), .val (.ref a75), .unset, .unset]) rfl ?_
      show Steps p.tables e below (T75.setTop (mkF m 179 #[.val (.long q0), .second, .val (.int p1), .val (.int p2), .val (.int p3), .val (.int (p1 &&& (1 : Int32))), .val (.ref ob2), .val (.int (Int32.ofNat iN)), .val (.long (own_st (own_x0 q0 (p1 &&& (1 : Int32))))), .second, .val (.int ((97 : Int32) + (((((own_st (own_x0 q0 (p1 &&& (1 : Int32)))).toUInt64 >>> ((33 : Int32) &&& 0x3f).toInt64.toUInt64).toInt64) % (26 : Int64)).toInt32))), .val (.int (2 : Int32)), .val (.long (19999999 : Int64)), .second, .val (.int ((2 : Int32) &&& (1 : Int32))), .val (.ref a75), .unset, .unset] [])) _
      refine XS.lload X75.here hx rfl (hb hby at_179) rfl ?_
      show Steps p.tables e below (T75.setTop (mkF m 181 #[.val (.long q0), .second, .val (.int p1), .val (.int p2), .val (.int p3), .val (.int (p1 &&& (1 : Int32))), .val (.ref ob2), .val (.int (Int32.ofNat iN)), .val (.long (own_st (own_x0 q0 (p1 &&& (1 : Int32))))), .second, .val (.int ((97 : Int32) + (((((own_st (own_x0 q0 (p1 &&& (1 : Int32)))).toUInt64 >>> ((33 : Int32) &&& 0x3f).toInt64.toUInt64).toInt64) % (26 : Int64)).toInt32))), .val (.int (2 : Int32)), .val (.long (19999999 : Int64)), .second, .val (.int ((2 : Int32) &&& (1 : Int32))), .val (.ref a75), .unset, .unset] [(.long (19999999 : Int64))])) _
      refine XS.iload X75.here hx rfl (hb hby at_181) rfl ?_
      exact kt
    have f83 := (Nat.le_trans f79 E75.1)
    obtain ⟨_, _, ⟨T84, L84, k84, n84⟩, -, X84, ⟨Lc84, hQ84, l84, y84, z84⟩, st84⟩ := Jvm.LawKit.callS X75 hx (y := (⟨"com/example/brannan/bench/ScanTable", "value", "(JI)[B"⟩ : MethodName)) hown (mvT hZ (hw _ (List.mem_of_getElem? (i := 0) rfl))) (mvT hZ (hw _ (List.mem_of_getElem? (i := 1) rfl))) (mvT hZ (hw _ (List.mem_of_getElem? (i := 2) rfl))) (mvT hZ (hw _ (List.mem_of_getElem? (i := 3) rfl))) (by decide) (backOf (W := 0) (rm1 l Z a0 hw [] (19999999 : Int64) ((2 : Int32) &&& (1 : Int32))  h75 n0 f83 ) hZ (hw _ (List.mem_of_getElem? (i := 3) rfl)) (hw _ (List.mem_of_getElem? (i := 2) rfl)) (by decide) (by decide)) (g := (mkF m 183 #[.val (.long q0), .second, .val (.int p1), .val (.int p2), .val (.int p3), .val (.int (p1 &&& (1 : Int32))), .val (.ref ob2), .val (.int (Int32.ofNat iN)), .val (.long (own_st (own_x0 q0 (p1 &&& (1 : Int32))))), .second, .val (.int ((97 : Int32) + (((((own_st (own_x0 q0 (p1 &&& (1 : Int32)))).toUInt64 >>> ((33 : Int32) &&& 0x3f).toInt64.toUInt64).toInt64) % (26 : Int64)).toInt32))), .val (.int (2 : Int32)), .val (.long (19999999 : Int64)), .second, .val (.int ((2 : Int32) &&& (1 : Int32))), .val (.ref a75), .unset, .unset] [(.int ((2 : Int32) &&& (1 : Int32))), (.long (19999999 : Int64))])) rfl (by rw [hml]; rfl) (argsL := [(.long (19999999 : Int64)), (.int ((2 : Int32) &&& (1 : Int32)))]) (rest := []) (lenOf pd_4 rfl) rfl (by show 2 * 0 + _ ≤ _; exact Nat.le_of_eq rfl) (hb hby at_183) (fun _ _ => ⟨rfl, e75, (by decide : 3 + 1 ≤ _), (by decide : 164 + 32 ≤ _)⟩)
    dsimp only [Pt.U, Pt.locs, Pt.cells, Pt.slots] at X84 l84 y84 z84 st84 hQ84
    subst l84 y84 z84
    obtain ⟨ob84, kk84, rfl, N84q, Kq84, g_ob84, Vq84⟩ := hQ84
    have N84 := Fr.app N2 N84q
    have Vc85 := Vq84
    obtain ⟨cl85, Ar85, qk85, S85, M85, H85, G85⟩ := Vc85
    have c86 : ∀ t, Steps p.tables e below (T84.setTop (mkF m 211 #[.val (.long q0), .second, .val (.int p1), .val (.int p2), .val (.int p3), .val (.int (p1 &&& (1 : Int32))), .val (.ref ob2), .val (.int (Int32.ofNat iN)), .val (.long (own_st (own_x0 q0 (p1 &&& (1 : Int32))))), .second, .val (.int ((97 : Int32) + (((((own_st (own_x0 q0 (p1 &&& (1 : Int32)))).toUInt64 >>> ((33 : Int32) &&& 0x3f).toInt64.toUInt64).toInt64) % (26 : Int64)).toInt32))), .val (.int (2 : Int32)), .val (.long (19999999 : Int64)), .second, .val (.int ((2 : Int32) &&& (1 : Int32))), .val (.ref a75), .val (.ref ob84), .val (.int (((p2.toUInt32 >>> ((5 : Int32) &&& 31).toUInt32).toInt32) &&& (31 : Int32)))] [])) t → Steps p.tables e below (T84.setTop (mkF m 186 #[.val (.long q0), .second, .val (.int p1), .val (.int p2), .val (.int p3), .val (.int (p1 &&& (1 : Int32))), .val (.ref ob2), .val (.int (Int32.ofNat iN)), .val (.long (own_st (own_x0 q0 (p1 &&& (1 : Int32))))), .second, .val (.int ((97 : Int32) + (((((own_st (own_x0 q0 (p1 &&& (1 : Int32)))).toUInt64 >>> ((33 : Int32) &&& 0x3f).toInt64.toUInt64).toInt64) % (26 : Int64)).toInt32))), .val (.int (2 : Int32)), .val (.long (19999999 : Int64)), .second, .val (.int ((2 : Int32) &&& (1 : Int32))), .val (.ref a75), .unset, .unset] [(.ref ob84)])) t := by
      intro t kt
      show Steps p.tables e below (T84.setTop (mkF m 186 #[.val (.long q0), .second, .val (.int p1), .val (.int p2), .val (.int p3), .val (.int (p1 &&& (1 : Int32))), .val (.ref ob2), .val (.int (Int32.ofNat iN)), .val (.long (own_st (own_x0 q0 (p1 &&& (1 : Int32))))), .second, .val (.int ((97 : Int32) + (((((own_st (own_x0 q0 (p1 &&& (1 : Int32)))).toUInt64 >>> ((33 : Int32) &&& 0x3f).toInt64.toUInt64).toInt64) % (26 : Int64)).toInt32))), .val (.int (2 : Int32)), .val (.long (19999999 : Int64)), .second, .val (.int ((2 : Int32) &&& (1 : Int32))), .val (.ref a75), .unset, .unset] [(.ref ob84)])) _
      refine XS.astore X84.here hx rfl (hb hby at_186) rfl rfl (l' := #[.val (.long q0), .second, .val (.int p1), .val (.int p2), .val (.int p3), .val (.int (p1 &&& (1 : Int32))), .val (.ref ob2), .val (.int (Int32.ofNat iN)), .val (.long (own_st (own_x0 q0 (p1 &&& (1 : Int32))))), .second, .val (.int ((97 : Int32) + (((((own_st (own_x0 q0 (p1 &&& (1 : Int32)))).toUInt64 >>> ((33 : Int32) &&& 0x3f).toInt64.toUInt64).toInt64) % (26 : Int64)).toInt32))), .val (.int (2 : Int32)), .val (.long (19999999 : Int64)), .second, .val (.int ((2 : Int32) &&& (1 : Int32))), .val (.ref a75), .val (.ref ob84), .unset]) rfl ?_
      show Steps p.tables e below (T84.setTop (mkF m 188 #[.val (.long q0), .second, .val (.int p1), .val (.int p2), .val (.int p3), .val (.int (p1 &&& (1 : Int32))), .val (.ref ob2), .val (.int (Int32.ofNat iN)), .val (.long (own_st (own_x0 q0 (p1 &&& (1 : Int32))))), .second, .val (.int ((97 : Int32) + (((((own_st (own_x0 q0 (p1 &&& (1 : Int32)))).toUInt64 >>> ((33 : Int32) &&& 0x3f).toInt64.toUInt64).toInt64) % (26 : Int64)).toInt32))), .val (.int (2 : Int32)), .val (.long (19999999 : Int64)), .second, .val (.int ((2 : Int32) &&& (1 : Int32))), .val (.ref a75), .val (.ref ob84), .unset] [])) _
      refine XS.aload X84.here hx rfl (hb hby at_188) rfl rfl ?_
      show Steps p.tables e below (T84.setTop (mkF m 190 #[.val (.long q0), .second, .val (.int p1), .val (.int p2), .val (.int p3), .val (.int (p1 &&& (1 : Int32))), .val (.ref ob2), .val (.int (Int32.ofNat iN)), .val (.long (own_st (own_x0 q0 (p1 &&& (1 : Int32))))), .second, .val (.int ((97 : Int32) + (((((own_st (own_x0 q0 (p1 &&& (1 : Int32)))).toUInt64 >>> ((33 : Int32) &&& 0x3f).toInt64.toUInt64).toInt64) % (26 : Int64)).toInt32))), .val (.int (2 : Int32)), .val (.long (19999999 : Int64)), .second, .val (.int ((2 : Int32) &&& (1 : Int32))), .val (.ref a75), .val (.ref ob84), .unset] [(.ref ob84)])) _
      refine XS.ifnullNo X84.here hx rfl (hb hby at_190) rfl ?_
      show Steps p.tables e below (T84.setTop (mkF m 193 #[.val (.long q0), .second, .val (.int p1), .val (.int p2), .val (.int p3), .val (.int (p1 &&& (1 : Int32))), .val (.ref ob2), .val (.int (Int32.ofNat iN)), .val (.long (own_st (own_x0 q0 (p1 &&& (1 : Int32))))), .second, .val (.int ((97 : Int32) + (((((own_st (own_x0 q0 (p1 &&& (1 : Int32)))).toUInt64 >>> ((33 : Int32) &&& 0x3f).toInt64.toUInt64).toInt64) % (26 : Int64)).toInt32))), .val (.int (2 : Int32)), .val (.long (19999999 : Int64)), .second, .val (.int ((2 : Int32) &&& (1 : Int32))), .val (.ref a75), .val (.ref ob84), .unset] [])) _
      refine XS.aload X84.here hx rfl (hb hby at_193) rfl rfl ?_
      show Steps p.tables e below (T84.setTop (mkF m 195 #[.val (.long q0), .second, .val (.int p1), .val (.int p2), .val (.int p3), .val (.int (p1 &&& (1 : Int32))), .val (.ref ob2), .val (.int (Int32.ofNat iN)), .val (.long (own_st (own_x0 q0 (p1 &&& (1 : Int32))))), .second, .val (.int ((97 : Int32) + (((((own_st (own_x0 q0 (p1 &&& (1 : Int32)))).toUInt64 >>> ((33 : Int32) &&& 0x3f).toInt64.toUInt64).toInt64) % (26 : Int64)).toInt32))), .val (.int (2 : Int32)), .val (.long (19999999 : Int64)), .second, .val (.int ((2 : Int32) &&& (1 : Int32))), .val (.ref a75), .val (.ref ob84), .unset] [(.ref ob84)])) _
      refine X84.arraylength hx Ar85.1 (State.isArrayOf_alike hZ.alike Ar85.2.1) (g := (mkF m 195 #[.val (.long q0), .second, .val (.int p1), .val (.int p2), .val (.int p3), .val (.int (p1 &&& (1 : Int32))), .val (.ref ob2), .val (.int (Int32.ofNat iN)), .val (.long (own_st (own_x0 q0 (p1 &&& (1 : Int32))))), .second, .val (.int ((97 : Int32) + (((((own_st (own_x0 q0 (p1 &&& (1 : Int32)))).toUInt64 >>> ((33 : Int32) &&& 0x3f).toInt64.toUInt64).toInt64) % (26 : Int64)).toInt32))), .val (.int (2 : Int32)), .val (.long (19999999 : Int64)), .second, .val (.int ((2 : Int32) &&& (1 : Int32))), .val (.ref a75), .val (.ref ob84), .unset] [(.ref ob84)])) rfl rfl (hb hby at_195) _ ?_
      rw [len_of S85 M85]
      show Steps p.tables e below (T84.setTop (mkF m 196 #[.val (.long q0), .second, .val (.int p1), .val (.int p2), .val (.int p3), .val (.int (p1 &&& (1 : Int32))), .val (.ref ob2), .val (.int (Int32.ofNat iN)), .val (.long (own_st (own_x0 q0 (p1 &&& (1 : Int32))))), .second, .val (.int ((97 : Int32) + (((((own_st (own_x0 q0 (p1 &&& (1 : Int32)))).toUInt64 >>> ((33 : Int32) &&& 0x3f).toInt64.toUInt64).toInt64) % (26 : Int64)).toInt32))), .val (.int (2 : Int32)), .val (.long (19999999 : Int64)), .second, .val (.int ((2 : Int32) &&& (1 : Int32))), .val (.ref a75), .val (.ref ob84), .unset] [(.int (32 : Int32))])) _
      refine XS.bipush X84.here hx rfl (hb hby at_196) ?_
      show Steps p.tables e below (T84.setTop (mkF m 198 #[.val (.long q0), .second, .val (.int p1), .val (.int p2), .val (.int p3), .val (.int (p1 &&& (1 : Int32))), .val (.ref ob2), .val (.int (Int32.ofNat iN)), .val (.long (own_st (own_x0 q0 (p1 &&& (1 : Int32))))), .second, .val (.int ((97 : Int32) + (((((own_st (own_x0 q0 (p1 &&& (1 : Int32)))).toUInt64 >>> ((33 : Int32) &&& 0x3f).toInt64.toUInt64).toInt64) % (26 : Int64)).toInt32))), .val (.int (2 : Int32)), .val (.long (19999999 : Int64)), .second, .val (.int ((2 : Int32) &&& (1 : Int32))), .val (.ref a75), .val (.ref ob84), .unset] [(.int (32 : Int32)), (.int (32 : Int32))])) _
      refine XS.icmpYes X84.here hx rfl (pc0 := 198) (pc' := 203) rfl (hb hby at_198) rfl (teq (by decide : (32 : Int32) = (32 : Int32))).1 (by decide) (by decide) ?_
      show Steps p.tables e below (T84.setTop (mkF m 203 #[.val (.long q0), .second, .val (.int p1), .val (.int p2), .val (.int p3), .val (.int (p1 &&& (1 : Int32))), .val (.ref ob2), .val (.int (Int32.ofNat iN)), .val (.long (own_st (own_x0 q0 (p1 &&& (1 : Int32))))), .second, .val (.int ((97 : Int32) + (((((own_st (own_x0 q0 (p1 &&& (1 : Int32)))).toUInt64 >>> ((33 : Int32) &&& 0x3f).toInt64.toUInt64).toInt64) % (26 : Int64)).toInt32))), .val (.int (2 : Int32)), .val (.long (19999999 : Int64)), .second, .val (.int ((2 : Int32) &&& (1 : Int32))), .val (.ref a75), .val (.ref ob84), .unset] [])) _
      refine XS.iloadN X84.here hx rfl (hb hby at_203) rfl ?_
      show Steps p.tables e below (T84.setTop (mkF m 204 #[.val (.long q0), .second, .val (.int p1), .val (.int p2), .val (.int p3), .val (.int (p1 &&& (1 : Int32))), .val (.ref ob2), .val (.int (Int32.ofNat iN)), .val (.long (own_st (own_x0 q0 (p1 &&& (1 : Int32))))), .second, .val (.int ((97 : Int32) + (((((own_st (own_x0 q0 (p1 &&& (1 : Int32)))).toUInt64 >>> ((33 : Int32) &&& 0x3f).toInt64.toUInt64).toInt64) % (26 : Int64)).toInt32))), .val (.int (2 : Int32)), .val (.long (19999999 : Int64)), .second, .val (.int ((2 : Int32) &&& (1 : Int32))), .val (.ref a75), .val (.ref ob84), .unset] [(.int p2)])) _
      refine XS.iconst X84.here hx rfl (hb hby at_204) ?_
      show Steps p.tables e below (T84.setTop (mkF m 205 #[.val (.long q0), .second, .val (.int p1), .val (.int p2), .val (.int p3), .val (.int (p1 &&& (1 : Int32))), .val (.ref ob2), .val (.int (Int32.ofNat iN)), .val (.long (own_st (own_x0 q0 (p1 &&& (1 : Int32))))), .second, .val (.int ((97 : Int32) + (((((own_st (own_x0 q0 (p1 &&& (1 : Int32)))).toUInt64 >>> ((33 : Int32) &&& 0x3f).toInt64.toUInt64).toInt64) % (26 : Int64)).toInt32))), .val (.int (2 : Int32)), .val (.long (19999999 : Int64)), .second, .val (.int ((2 : Int32) &&& (1 : Int32))), .val (.ref a75), .val (.ref ob84), .unset] [(.int (5 : Int32)), (.int p2)])) _
      refine XS.iushr X84.here hx rfl (hb hby at_205) rfl ?_
      show Steps p.tables e below (T84.setTop (mkF m 206 #[.val (.long q0), .second, .val (.int p1), .val (.int p2), .val (.int p3), .val (.int (p1 &&& (1 : Int32))), .val (.ref ob2), .val (.int (Int32.ofNat iN)), .val (.long (own_st (own_x0 q0 (p1 &&& (1 : Int32))))), .second, .val (.int ((97 : Int32) + (((((own_st (own_x0 q0 (p1 &&& (1 : Int32)))).toUInt64 >>> ((33 : Int32) &&& 0x3f).toInt64.toUInt64).toInt64) % (26 : Int64)).toInt32))), .val (.int (2 : Int32)), .val (.long (19999999 : Int64)), .second, .val (.int ((2 : Int32) &&& (1 : Int32))), .val (.ref a75), .val (.ref ob84), .unset] [(.int ((p2.toUInt32 >>> ((5 : Int32) &&& 31).toUInt32).toInt32))])) _
      refine XS.bipush X84.here hx rfl (hb hby at_206) ?_
      show Steps p.tables e below (T84.setTop (mkF m 208 #[.val (.long q0), .second, .val (.int p1), .val (.int p2), .val (.int p3), .val (.int (p1 &&& (1 : Int32))), .val (.ref ob2), .val (.int (Int32.ofNat iN)), .val (.long (own_st (own_x0 q0 (p1 &&& (1 : Int32))))), .second, .val (.int ((97 : Int32) + (((((own_st (own_x0 q0 (p1 &&& (1 : Int32)))).toUInt64 >>> ((33 : Int32) &&& 0x3f).toInt64.toUInt64).toInt64) % (26 : Int64)).toInt32))), .val (.int (2 : Int32)), .val (.long (19999999 : Int64)), .second, .val (.int ((2 : Int32) &&& (1 : Int32))), .val (.ref a75), .val (.ref ob84), .unset] [(.int (31 : Int32)), (.int ((p2.toUInt32 >>> ((5 : Int32) &&& 31).toUInt32).toInt32))])) _
      refine XS.iand X84.here hx rfl (hb hby at_208) rfl ?_
      show Steps p.tables e below (T84.setTop (mkF m 209 #[.val (.long q0), .second, .val (.int p1), .val (.int p2), .val (.int p3), .val (.int (p1 &&& (1 : Int32))), .val (.ref ob2), .val (.int (Int32.ofNat iN)), .val (.long (own_st (own_x0 q0 (p1 &&& (1 : Int32))))), .second, .val (.int ((97 : Int32) + (((((own_st (own_x0 q0 (p1 &&& (1 : Int32)))).toUInt64 >>> ((33 : Int32) &&& 0x3f).toInt64.toUInt64).toInt64) % (26 : Int64)).toInt32))), .val (.int (2 : Int32)), .val (.long (19999999 : Int64)), .second, .val (.int ((2 : Int32) &&& (1 : Int32))), .val (.ref a75), .val (.ref ob84), .unset] [(.int (((p2.toUInt32 >>> ((5 : Int32) &&& 31).toUInt32).toInt32) &&& (31 : Int32)))])) _
      refine XS.istore X84.here hx rfl (hb hby at_209) rfl (l' := #[.val (.long q0), .second, .val (.int p1), .val (.int p2), .val (.int p3), .val (.int (p1 &&& (1 : Int32))), .val (.ref ob2), .val (.int (Int32.ofNat iN)), .val (.long (own_st (own_x0 q0 (p1 &&& (1 : Int32))))), .second, .val (.int ((97 : Int32) + (((((own_st (own_x0 q0 (p1 &&& (1 : Int32)))).toUInt64 >>> ((33 : Int32) &&& 0x3f).toInt64.toUInt64).toInt64) % (26 : Int64)).toInt32))), .val (.int (2 : Int32)), .val (.long (19999999 : Int64)), .second, .val (.int ((2 : Int32) &&& (1 : Int32))), .val (.ref a75), .val (.ref ob84), .val (.int (((p2.toUInt32 >>> ((5 : Int32) &&& 31).toUInt32).toInt32) &&& (31 : Int32)))]) rfl ?_
      exact kt
    obtain ⟨jn, hjn, hje⟩ := own_mask ((p2.toUInt32 >>> ((5 : Int32) &&& 31).toUInt32).toInt32)
    have c87 : ∀ t, Steps p.tables e below (T84.setTop (mkF m 211 #[.val (.long q0), .second, .val (.int p1), .val (.int p2), .val (.int p3), .val (.int (p1 &&& (1 : Int32))), .val (.ref ob2), .val (.int (Int32.ofNat iN)), .val (.long (own_st (own_x0 q0 (p1 &&& (1 : Int32))))), .second, .val (.int ((97 : Int32) + (((((own_st (own_x0 q0 (p1 &&& (1 : Int32)))).toUInt64 >>> ((33 : Int32) &&& 0x3f).toInt64.toUInt64).toInt64) % (26 : Int64)).toInt32))), .val (.int (2 : Int32)), .val (.long (19999999 : Int64)), .second, .val (.int ((2 : Int32) &&& (1 : Int32))), .val (.ref a75), .val (.ref ob84), .val (.int (Int32.ofNat jn))] [])) t → Steps p.tables e below (T84.setTop (mkF m 211 #[.val (.long q0), .second, .val (.int p1), .val (.int p2), .val (.int p3), .val (.int (p1 &&& (1 : Int32))), .val (.ref ob2), .val (.int (Int32.ofNat iN)), .val (.long (own_st (own_x0 q0 (p1 &&& (1 : Int32))))), .second, .val (.int ((97 : Int32) + (((((own_st (own_x0 q0 (p1 &&& (1 : Int32)))).toUInt64 >>> ((33 : Int32) &&& 0x3f).toInt64.toUInt64).toInt64) % (26 : Int64)).toInt32))), .val (.int (2 : Int32)), .val (.long (19999999 : Int64)), .second, .val (.int ((2 : Int32) &&& (1 : Int32))), .val (.ref a75), .val (.ref ob84), .val (.int (((p2.toUInt32 >>> ((5 : Int32) &&& 31).toUInt32).toInt32) &&& (31 : Int32)))] [])) t := fun t kt => by rw [hje]; exact kt
    have Vc88 := Vq84
    obtain ⟨cl88, Ar88, qk88, S88, M88, H88, G88⟩ := Vc88
    have hin88 : ¬ ((Int32.ofNat jn) < 0 ∨ cl88.slots.size ≤ ((Int32.ofNat jn)).toNatClampNeg) := inb_of S88 (own_in jn hjn)
    have hat88 : cl88.slots[((Int32.ofNat jn)).toNatClampNeg]? = some (.int (own_f (own_x0 (19999999 : Int64) ((2 : Int32) &&& (1 : Int32))) jn)) := H88.at hin88 (own_get (own_x0 (19999999 : Int64) ((2 : Int32) &&& (1 : Int32))) jn hjn)
    have c89 : ∀ t, Steps p.tables e below (T84.setTop (mkF m 220 #[.val (.long q0), .second, .val (.int p1), .val (.int p2), .val (.int p3), .val (.int (p1 &&& (1 : Int32))), .val (.ref ob2), .val (.int (Int32.ofNat iN)), .val (.long (own_st (own_x0 q0 (p1 &&& (1 : Int32))))), .second, .val (.int ((97 : Int32) + (((((own_st (own_x0 q0 (p1 &&& (1 : Int32)))).toUInt64 >>> ((33 : Int32) &&& 0x3f).toInt64.toUInt64).toInt64) % (26 : Int64)).toInt32))), .val (.int (2 : Int32)), .val (.long (19999999 : Int64)), .second, .val (.int ((2 : Int32) &&& (1 : Int32))), .val (.ref a75), .val (.ref ob84), .val (.int (Int32.ofNat jn))] [(.int (Int32.ofNat jn)), (.ref a75), (.int (own_f (own_x0 (19999999 : Int64) ((2 : Int32) &&& (1 : Int32))) jn))])) t → Steps p.tables e below (T84.setTop (mkF m 211 #[.val (.long q0), .second, .val (.int p1), .val (.int p2), .val (.int p3), .val (.int (p1 &&& (1 : Int32))), .val (.ref ob2), .val (.int (Int32.ofNat iN)), .val (.long (own_st (own_x0 q0 (p1 &&& (1 : Int32))))), .second, .val (.int ((97 : Int32) + (((((own_st (own_x0 q0 (p1 &&& (1 : Int32)))).toUInt64 >>> ((33 : Int32) &&& 0x3f).toInt64.toUInt64).toInt64) % (26 : Int64)).toInt32))), .val (.int (2 : Int32)), .val (.long (19999999 : Int64)), .second, .val (.int ((2 : Int32) &&& (1 : Int32))), .val (.ref a75), .val (.ref ob84), .val (.int (Int32.ofNat jn))] [])) t := by
      intro t kt
      show Steps p.tables e below (T84.setTop (mkF m 211 #[.val (.long q0), .second, .val (.int p1), .val (.int p2), .val (.int p3), .val (.int (p1 &&& (1 : Int32))), .val (.ref ob2), .val (.int (Int32.ofNat iN)), .val (.long (own_st (own_x0 q0 (p1 &&& (1 : Int32))))), .second, .val (.int ((97 : Int32) + (((((own_st (own_x0 q0 (p1 &&& (1 : Int32)))).toUInt64 >>> ((33 : Int32) &&& 0x3f).toInt64.toUInt64).toInt64) % (26 : Int64)).toInt32))), .val (.int (2 : Int32)), .val (.long (19999999 : Int64)), .second, .val (.int ((2 : Int32) &&& (1 : Int32))), .val (.ref a75), .val (.ref ob84), .val (.int (Int32.ofNat jn))] [])) _
      refine XS.aload X84.here hx rfl (hb hby at_211) rfl rfl ?_
      show Steps p.tables e below (T84.setTop (mkF m 213 #[.val (.long q0), .second, .val (.int p1), .val (.int p2), .val (.int p3), .val (.int (p1 &&& (1 : Int32))), .val (.ref ob2), .val (.int (Int32.ofNat iN)), .val (.long (own_st (own_x0 q0 (p1 &&& (1 : Int32))))), .second, .val (.int ((97 : Int32) + (((((own_st (own_x0 q0 (p1 &&& (1 : Int32)))).toUInt64 >>> ((33 : Int32) &&& 0x3f).toInt64.toUInt64).toInt64) % (26 : Int64)).toInt32))), .val (.int (2 : Int32)), .val (.long (19999999 : Int64)), .second, .val (.int ((2 : Int32) &&& (1 : Int32))), .val (.ref a75), .val (.ref ob84), .val (.int (Int32.ofNat jn))] [(.ref ob84)])) _
      refine XS.iload X84.here hx rfl (hb hby at_213) rfl ?_
      show Steps p.tables e below (T84.setTop (mkF m 215 #[.val (.long q0), .second, .val (.int p1), .val (.int p2), .val (.int p3), .val (.int (p1 &&& (1 : Int32))), .val (.ref ob2), .val (.int (Int32.ofNat iN)), .val (.long (own_st (own_x0 q0 (p1 &&& (1 : Int32))))), .second, .val (.int ((97 : Int32) + (((((own_st (own_x0 q0 (p1 &&& (1 : Int32)))).toUInt64 >>> ((33 : Int32) &&& 0x3f).toInt64.toUInt64).toInt64) % (26 : Int64)).toInt32))), .val (.int (2 : Int32)), .val (.long (19999999 : Int64)), .second, .val (.int ((2 : Int32) &&& (1 : Int32))), .val (.ref a75), .val (.ref ob84), .val (.int (Int32.ofNat jn))] [(.int (Int32.ofNat jn)), (.ref ob84)])) _
      refine X84.baloadBytes hx (j := (Int32.ofNat jn)) (v := (.int (own_f (own_x0 (19999999 : Int64) ((2 : Int32) &&& (1 : Int32))) jn))) Ar88.1 (State.isArrayOf_alike hZ.alike Ar88.2.1) Ar88.2.2 hin88 hat88 (g := (mkF m 215 #[.val (.long q0), .second, .val (.int p1), .val (.int p2), .val (.int p3), .val (.int (p1 &&& (1 : Int32))), .val (.ref ob2), .val (.int (Int32.ofNat iN)), .val (.long (own_st (own_x0 q0 (p1 &&& (1 : Int32))))), .second, .val (.int ((97 : Int32) + (((((own_st (own_x0 q0 (p1 &&& (1 : Int32)))).toUInt64 >>> ((33 : Int32) &&& 0x3f).toInt64.toUInt64).toInt64) % (26 : Int64)).toInt32))), .val (.int (2 : Int32)), .val (.long (19999999 : Int64)), .second, .val (.int ((2 : Int32) &&& (1 : Int32))), .val (.ref a75), .val (.ref ob84), .val (.int (Int32.ofNat jn))] [(.int (Int32.ofNat jn)), (.ref ob84)])) rfl rfl (hb hby at_215) _ ?_
      show Steps p.tables e below (T84.setTop (mkF m 216 #[.val (.long q0), .second, .val (.int p1), .val (.int p2), .val (.int p3), .val (.int (p1 &&& (1 : Int32))), .val (.ref ob2), .val (.int (Int32.ofNat iN)), .val (.long (own_st (own_x0 q0 (p1 &&& (1 : Int32))))), .second, .val (.int ((97 : Int32) + (((((own_st (own_x0 q0 (p1 &&& (1 : Int32)))).toUInt64 >>> ((33 : Int32) &&& 0x3f).toInt64.toUInt64).toInt64) % (26 : Int64)).toInt32))), .val (.int (2 : Int32)), .val (.long (19999999 : Int64)), .second, .val (.int ((2 : Int32) &&& (1 : Int32))), .val (.ref a75), .val (.ref ob84), .val (.int (Int32.ofNat jn))] [(.int (own_f (own_x0 (19999999 : Int64) ((2 : Int32) &&& (1 : Int32))) jn))])) _
      refine XS.aload X84.here hx rfl (hb hby at_216) rfl rfl ?_
      show Steps p.tables e below (T84.setTop (mkF m 218 #[.val (.long q0), .second, .val (.int p1), .val (.int p2), .val (.int p3), .val (.int (p1 &&& (1 : Int32))), .val (.ref ob2), .val (.int (Int32.ofNat iN)), .val (.long (own_st (own_x0 q0 (p1 &&& (1 : Int32))))), .second, .val (.int ((97 : Int32) + (((((own_st (own_x0 q0 (p1 &&& (1 : Int32)))).toUInt64 >>> ((33 : Int32) &&& 0x3f).toInt64.toUInt64).toInt64) % (26 : Int64)).toInt32))), .val (.int (2 : Int32)), .val (.long (19999999 : Int64)), .second, .val (.int ((2 : Int32) &&& (1 : Int32))), .val (.ref a75), .val (.ref ob84), .val (.int (Int32.ofNat jn))] [(.ref a75), (.int (own_f (own_x0 (19999999 : Int64) ((2 : Int32) &&& (1 : Int32))) jn))])) _
      refine XS.iload X84.here hx rfl (hb hby at_218) rfl ?_
      exact kt
    have f90 := (Nat.le_trans f83 Kq84.1)
    have f91 := (Es75.keep Kq84)
    have f92 := (Fv75.keep Kq84 nin0)
    have f93 := (Va75.keep Kq84 nin0)
    have f94 := ((f81.ext E75).keep Kq84 all0)
    have f95 := (Fc75.keep Kq84 nin0)
    obtain ⟨cq96, kq96, q96a, q96b, q96c⟩ := isOf hZ rfl f91
    obtain ⟨_, _, ⟨T97, L97, k97, n97⟩, -, X97, ⟨Lc97, hQ97, l97, y97, z97⟩, st97⟩ := X84.virtualBack hx (y := (⟨"java/lang/String", "charAt", "(I)C"⟩ : MethodName)) (z := (⟨"java/lang/String", "charAt", "(I)C"⟩ : MethodName)) hown (mvT hZ (hw _ (List.mem_of_getElem? (i := 21) rfl))) (mvT hZ (hw _ (List.mem_of_getElem? (i := 22) rfl))) (notFace_of_selects (args := #[]) (mvT hZ (hw _ (List.mem_of_getElem? (i := 24) rfl)))) (mvT hZ (hw _ (List.mem_of_getElem? (i := 24) rfl))) (mvT hZ (hw _ (List.mem_of_getElem? (i := 23) rfl))) (by decide) (backOf (W := 1) (rm2 l Z a0 hw [] a75 (Int32.ofNat jn) b75 kb75 (32 : Int32) (own_l2.map Value.int) (.int 0) (own_l2.getD jn 0) fm cs T84.heap n0 f90 f91 f92 f93 (own_in jn hjn) (own_map own_l2 rfl jn hjn _) (SF.ext f94.2) hfm (SC.ext f94.2) hcs f95) hZ (hw _ (List.mem_of_getElem? (i := 25) rfl)) (hw _ (List.mem_of_getElem? (i := 15) rfl)) (by decide) (by decide)) q96a q96c (g := (mkF m 220 #[.val (.long q0), .second, .val (.int p1), .val (.int p2), .val (.int p3), .val (.int (p1 &&& (1 : Int32))), .val (.ref ob2), .val (.int (Int32.ofNat iN)), .val (.long (own_st (own_x0 q0 (p1 &&& (1 : Int32))))), .second, .val (.int ((97 : Int32) + (((((own_st (own_x0 q0 (p1 &&& (1 : Int32)))).toUInt64 >>> ((33 : Int32) &&& 0x3f).toInt64.toUInt64).toInt64) % (26 : Int64)).toInt32))), .val (.int (2 : Int32)), .val (.long (19999999 : Int64)), .second, .val (.int ((2 : Int32) &&& (1 : Int32))), .val (.ref a75), .val (.ref ob84), .val (.int (Int32.ofNat jn))] [(.int (Int32.ofNat jn)), (.ref a75), (.int (own_f (own_x0 (19999999 : Int64) ((2 : Int32) &&& (1 : Int32))) jn))])) rfl (by rw [hml]; rfl) (Steps.refl _) (argsL := [(.int (Int32.ofNat jn))]) (rest := [(.int (own_f (own_x0 (19999999 : Int64) ((2 : Int32) &&& (1 : Int32))) jn))]) (lenOf pd_5 rfl) rfl (by show 2 * 0 + _ ≤ _; exact Nat.le_of_eq rfl) (hb hby at_220) (fun _ _ => ⟨rfl, rfl, (by decide : 4 + 0 ≤ _), (by decide : 196 + 0 ≤ _)⟩)
    dsimp only [Pt.U, Pt.locs, Pt.cells, Pt.slots] at X97 l97 y97 z97 st97 hQ97
    subst l97 y97 z97
    obtain ⟨rfl, N97q, e97⟩ := hQ97
    have N97 := Fr.app N84 N97q
    have hd98 : (own_f (own_x0 (19999999 : Int64) ((2 : Int32) &&& (1 : Int32))) jn) = (own_lit own_l2 jn) := own_pub2 jn hjn
    have c99 : ∀ t, Steps p.tables e below (T97.setTop (mkF m 231 #[.val (.long q0), .second, .val (.int p1), .val (.int p2), .val (.int p3), .val (.int (p1 &&& (1 : Int32))), .val (.ref ob2), .val (.int (Int32.ofNat iN)), .val (.long (own_st (own_x0 q0 (p1 &&& (1 : Int32))))), .second, .val (.int ((97 : Int32) + (((((own_st (own_x0 q0 (p1 &&& (1 : Int32)))).toUInt64 >>> ((33 : Int32) &&& 0x3f).toInt64.toUInt64).toInt64) % (26 : Int64)).toInt32))), .val (.int (2 : Int32)), .val (.long (19999999 : Int64)), .second, .val (.int ((2 : Int32) &&& (1 : Int32))), .val (.ref a75), .val (.ref ob84), .val (.int (Int32.ofNat jn))] [(.int (1 : Int32))])) t → Steps p.tables e below (T97.setTop (mkF m 223 #[.val (.long q0), .second, .val (.int p1), .val (.int p2), .val (.int p3), .val (.int (p1 &&& (1 : Int32))), .val (.ref ob2), .val (.int (Int32.ofNat iN)), .val (.long (own_st (own_x0 q0 (p1 &&& (1 : Int32))))), .second, .val (.int ((97 : Int32) + (((((own_st (own_x0 q0 (p1 &&& (1 : Int32)))).toUInt64 >>> ((33 : Int32) &&& 0x3f).toInt64.toUInt64).toInt64) % (26 : Int64)).toInt32))), .val (.int (2 : Int32)), .val (.long (19999999 : Int64)), .second, .val (.int ((2 : Int32) &&& (1 : Int32))), .val (.ref a75), .val (.ref ob84), .val (.int (Int32.ofNat jn))] [(.int (own_lit own_l2 jn)), (.int (own_f (own_x0 (19999999 : Int64) ((2 : Int32) &&& (1 : Int32))) jn))])) t := by
      intro t kt
      show Steps p.tables e below (T97.setTop (mkF m 223 #[.val (.long q0), .second, .val (.int p1), .val (.int p2), .val (.int p3), .val (.int (p1 &&& (1 : Int32))), .val (.ref ob2), .val (.int (Int32.ofNat iN)), .val (.long (own_st (own_x0 q0 (p1 &&& (1 : Int32))))), .second, .val (.int ((97 : Int32) + (((((own_st (own_x0 q0 (p1 &&& (1 : Int32)))).toUInt64 >>> ((33 : Int32) &&& 0x3f).toInt64.toUInt64).toInt64) % (26 : Int64)).toInt32))), .val (.int (2 : Int32)), .val (.long (19999999 : Int64)), .second, .val (.int ((2 : Int32) &&& (1 : Int32))), .val (.ref a75), .val (.ref ob84), .val (.int (Int32.ofNat jn))] [(.int (own_lit own_l2 jn)), (.int (own_f (own_x0 (19999999 : Int64) ((2 : Int32) &&& (1 : Int32))) jn))])) _
      refine XS.icmpNo X97.here hx rfl (hb hby at_223) rfl (teq (hd98)).2 ?_
      show Steps p.tables e below (T97.setTop (mkF m 226 #[.val (.long q0), .second, .val (.int p1), .val (.int p2), .val (.int p3), .val (.int (p1 &&& (1 : Int32))), .val (.ref ob2), .val (.int (Int32.ofNat iN)), .val (.long (own_st (own_x0 q0 (p1 &&& (1 : Int32))))), .second, .val (.int ((97 : Int32) + (((((own_st (own_x0 q0 (p1 &&& (1 : Int32)))).toUInt64 >>> ((33 : Int32) &&& 0x3f).toInt64.toUInt64).toInt64) % (26 : Int64)).toInt32))), .val (.int (2 : Int32)), .val (.long (19999999 : Int64)), .second, .val (.int ((2 : Int32) &&& (1 : Int32))), .val (.ref a75), .val (.ref ob84), .val (.int (Int32.ofNat jn))] [])) _
      refine XS.iconst X97.here hx rfl (hb hby at_226) ?_
      show Steps p.tables e below (T97.setTop (mkF m 227 #[.val (.long q0), .second, .val (.int p1), .val (.int p2), .val (.int p3), .val (.int (p1 &&& (1 : Int32))), .val (.ref ob2), .val (.int (Int32.ofNat iN)), .val (.long (own_st (own_x0 q0 (p1 &&& (1 : Int32))))), .second, .val (.int ((97 : Int32) + (((((own_st (own_x0 q0 (p1 &&& (1 : Int32)))).toUInt64 >>> ((33 : Int32) &&& 0x3f).toInt64.toUInt64).toInt64) % (26 : Int64)).toInt32))), .val (.int (2 : Int32)), .val (.long (19999999 : Int64)), .second, .val (.int ((2 : Int32) &&& (1 : Int32))), .val (.ref a75), .val (.ref ob84), .val (.int (Int32.ofNat jn))] [(.int (1 : Int32))])) _
      refine XS.goto X97.here hx rfl (pc0 := 227) (pc' := 231) rfl (hb hby at_227) (by decide) (by decide) ?_
      exact kt
    have f101 := (Nat.le_trans hk75 Kq84.1)
    obtain ⟨fs, hr, hrun, hended, hwd⟩ := Stand.leaveW (s := s) X97 hS75 (by rw [e97]; exact f101) (v := some (.int (1 : Int32))) (fun h => by rw [Bd.returns] at h; cases h)
    refine ⟨_, _, pre0 _ (c1 _ (st2 _ (c4 _ (c5 _ (c8 _ (c11 _ (c12 _ (c13 _ (c16 _ (c17 _ (c74 _ (c76 _ (st75 _ (c82 _ (st84 _ (c86 _ (c87 _ (c89 _ (st97.trans (c99 _ (?_))))))))))))))))))))), hrun, hended, _, _, rfl, ?_, hwd.1, hwd.2.1, hwd.2.2.1, hwd.2.2.2.mono (by decide) (by decide)⟩
    · show Steps p.tables e below (T97.setTop (mkF m 231 #[.val (.long q0), .second, .val (.int p1), .val (.int p2), .val (.int p3), .val (.int (p1 &&& (1 : Int32))), .val (.ref ob2), .val (.int (Int32.ofNat iN)), .val (.long (own_st (own_x0 q0 (p1 &&& (1 : Int32))))), .second, .val (.int ((97 : Int32) + (((((own_st (own_x0 q0 (p1 &&& (1 : Int32)))).toUInt64 >>> ((33 : Int32) &&& 0x3f).toInt64.toUInt64).toInt64) % (26 : Int64)).toInt32))), .val (.int (2 : Int32)), .val (.long (19999999 : Int64)), .second, .val (.int ((2 : Int32) &&& (1 : Int32))), .val (.ref a75), .val (.ref ob84), .val (.int (Int32.ofNat jn))] [(.int (1 : Int32))])) _
      exact retN X97 hx (t := .boolean) Bd.returns (by simp) (hb hby at_231) hr
    · show Q0 Z q0 p1 p2 p3 cs fm h0 n0 _ T97.heap _
      rw [e97]
      exact ⟨congrArg (fun z => some (Value.int z)) (show (1 : Int32) = (1 : Int32) from by rfl), N97⟩
  · skip
    have c102 : ∀ t, Steps p.tables e below (T2.setTop (mkF m 121 #[.val (.long q0), .second, .val (.int p1), .val (.int p2), .val (.int p3), .val (.int (p1 &&& (1 : Int32))), .val (.ref ob2), .val (.int (Int32.ofNat iN)), .val (.long (own_st (own_x0 q0 (p1 &&& (1 : Int32))))), .second, .val (.int ((97 : Int32) + (((((own_st (own_x0 q0 (p1 &&& (1 : Int32)))).toUInt64 >>> ((33 : Int32) &&& 0x3f).toInt64.toUInt64).toInt64) % (26 : Int64)).toInt32))), .val (.int (3 : Int32)), .unset, .unset, .unset, .unset, .unset, .unset] [])) t → Steps p.tables e below (T2.setTop (mkF m 121 #[.val (.long q0), .second, .val (.int p1), .val (.int p2), .val (.int p3), .val (.int (p1 &&& (1 : Int32))), .val (.ref ob2), .val (.int (Int32.ofNat iN)), .val (.long (own_st (own_x0 q0 (p1 &&& (1 : Int32))))), .second, .val (.int ((97 : Int32) + (((((own_st (own_x0 q0 (p1 &&& (1 : Int32)))).toUInt64 >>> ((33 : Int32) &&& 0x3f).toInt64.toUInt64).toInt64) % (26 : Int64)).toInt32))), .val (.int (p3 &&& (3 : Int32))), .unset, .unset, .unset, .unset, .unset, .unset] [])) t := fun t kt => by rw [hsl]; exact kt
    have c104 : ∀ t, Steps p.tables e below (T2.setTop (mkF m 175 #[.val (.long q0), .second, .val (.int p1), .val (.int p2), .val (.int p3), .val (.int (p1 &&& (1 : Int32))), .val (.ref ob2), .val (.int (Int32.ofNat iN)), .val (.long (own_st (own_x0 q0 (p1 &&& (1 : Int32))))), .second, .val (.int ((97 : Int32) + (((((own_st (own_x0 q0 (p1 &&& (1 : Int32)))).toUInt64 >>> ((33 : Int32) &&& 0x3f).toInt64.toUInt64).toInt64) % (26 : Int64)).toInt32))), .val (.int (3 : Int32)), .val (.long (19999999 : Int64)), .second, .val (.int ((3 : Int32) &&& (1 : Int32))), .unset, .unset, .unset] [])) t → Steps p.tables e below (T2.setTop (mkF m 121 #[.val (.long q0), .second, .val (.int p1), .val (.int p2), .val (.int p3), .val (.int (p1 &&& (1 : Int32))), .val (.ref ob2), .val (.int (Int32.ofNat iN)), .val (.long (own_st (own_x0 q0 (p1 &&& (1 : Int32))))), .second, .val (.int ((97 : Int32) + (((((own_st (own_x0 q0 (p1 &&& (1 : Int32)))).toUInt64 >>> ((33 : Int32) &&& 0x3f).toInt64.toUInt64).toInt64) % (26 : Int64)).toInt32))), .val (.int (3 : Int32)), .unset, .unset, .unset, .unset, .unset, .unset] [])) t := by
      intro t kt
      show Steps p.tables e below (T2.setTop (mkF m 121 #[.val (.long q0), .second, .val (.int p1), .val (.int p2), .val (.int p3), .val (.int (p1 &&& (1 : Int32))), .val (.ref ob2), .val (.int (Int32.ofNat iN)), .val (.long (own_st (own_x0 q0 (p1 &&& (1 : Int32))))), .second, .val (.int ((97 : Int32) + (((((own_st (own_x0 q0 (p1 &&& (1 : Int32)))).toUInt64 >>> ((33 : Int32) &&& 0x3f).toInt64.toUInt64).toInt64) % (26 : Int64)).toInt32))), .val (.int (3 : Int32)), .unset, .unset, .unset, .unset, .unset, .unset] [])) _
      refine XS.iload X2.here hx rfl (hb hby at_121) rfl ?_
      show Steps p.tables e below (T2.setTop (mkF m 123 #[.val (.long q0), .second, .val (.int p1), .val (.int p2), .val (.int p3), .val (.int (p1 &&& (1 : Int32))), .val (.ref ob2), .val (.int (Int32.ofNat iN)), .val (.long (own_st (own_x0 q0 (p1 &&& (1 : Int32))))), .second, .val (.int ((97 : Int32) + (((((own_st (own_x0 q0 (p1 &&& (1 : Int32)))).toUInt64 >>> ((33 : Int32) &&& 0x3f).toInt64.toUInt64).toInt64) % (26 : Int64)).toInt32))), .val (.int (3 : Int32)), .unset, .unset, .unset, .unset, .unset, .unset] [(.int (3 : Int32))])) _
      refine XS.iconst X2.here hx rfl (hb hby at_123) ?_
      show Steps p.tables e below (T2.setTop (mkF m 124 #[.val (.long q0), .second, .val (.int p1), .val (.int p2), .val (.int p3), .val (.int (p1 &&& (1 : Int32))), .val (.ref ob2), .val (.int (Int32.ofNat iN)), .val (.long (own_st (own_x0 q0 (p1 &&& (1 : Int32))))), .second, .val (.int ((97 : Int32) + (((((own_st (own_x0 q0 (p1 &&& (1 : Int32)))).toUInt64 >>> ((33 : Int32) &&& 0x3f).toInt64.toUInt64).toInt64) % (26 : Int64)).toInt32))), .val (.int (3 : Int32)), .unset, .unset, .unset, .unset, .unset, .unset] [(.int (2 : Int32)), (.int (3 : Int32))])) _
      refine XS.iand X2.here hx rfl (hb hby at_124) rfl ?_
      show Steps p.tables e below (T2.setTop (mkF m 125 #[.val (.long q0), .second, .val (.int p1), .val (.int p2), .val (.int p3), .val (.int (p1 &&& (1 : Int32))), .val (.ref ob2), .val (.int (Int32.ofNat iN)), .val (.long (own_st (own_x0 q0 (p1 &&& (1 : Int32))))), .second, .val (.int ((97 : Int32) + (((((own_st (own_x0 q0 (p1 &&& (1 : Int32)))).toUInt64 >>> ((33 : Int32) &&& 0x3f).toInt64.toUInt64).toInt64) % (26 : Int64)).toInt32))), .val (.int (3 : Int32)), .unset, .unset, .unset, .unset, .unset, .unset] [(.int ((3 : Int32) &&& (2 : Int32)))])) _
      refine XS.ifYes X2.here hx rfl (pc0 := 125) (pc' := 132) rfl (hb hby at_125) rfl ((if0 _ _).trans (feq (by decide : ¬ (((3 : Int32) &&& (2 : Int32)) = (0 : Int32)))).2) (by decide) (by decide) ?_
      show Steps p.tables e below (T2.setTop (mkF m 132 #[.val (.long q0), .second, .val (.int p1), .val (.int p2), .val (.int p3), .val (.int (p1 &&& (1 : Int32))), .val (.ref ob2), .val (.int (Int32.ofNat iN)), .val (.long (own_st (own_x0 q0 (p1 &&& (1 : Int32))))), .second, .val (.int ((97 : Int32) + (((((own_st (own_x0 q0 (p1 &&& (1 : Int32)))).toUInt64 >>> ((33 : Int32) &&& 0x3f).toInt64.toUInt64).toInt64) % (26 : Int64)).toInt32))), .val (.int (3 : Int32)), .unset, .unset, .unset, .unset, .unset, .unset] [])) _
      refine X2.ldc2Long hx hown (mvT hZ (hw _ (List.mem_of_getElem? (i := 46) rfl))) (g := (mkF m 132 #[.val (.long q0), .second, .val (.int p1), .val (.int p2), .val (.int p3), .val (.int (p1 &&& (1 : Int32))), .val (.ref ob2), .val (.int (Int32.ofNat iN)), .val (.long (own_st (own_x0 q0 (p1 &&& (1 : Int32))))), .second, .val (.int ((97 : Int32) + (((((own_st (own_x0 q0 (p1 &&& (1 : Int32)))).toUInt64 >>> ((33 : Int32) &&& 0x3f).toInt64.toUInt64).toInt64) % (26 : Int64)).toInt32))), .val (.int (3 : Int32)), .unset, .unset, .unset, .unset, .unset, .unset] [])) rfl (hb hby at_132) _ ?_
      show Steps p.tables e below (T2.setTop (mkF m 135 #[.val (.long q0), .second, .val (.int p1), .val (.int p2), .val (.int p3), .val (.int (p1 &&& (1 : Int32))), .val (.ref ob2), .val (.int (Int32.ofNat iN)), .val (.long (own_st (own_x0 q0 (p1 &&& (1 : Int32))))), .second, .val (.int ((97 : Int32) + (((((own_st (own_x0 q0 (p1 &&& (1 : Int32)))).toUInt64 >>> ((33 : Int32) &&& 0x3f).toInt64.toUInt64).toInt64) % (26 : Int64)).toInt32))), .val (.int (3 : Int32)), .unset, .unset, .unset, .unset, .unset, .unset] [(.long (19999999 : Int64))])) _
      refine XS.lstore X2.here hx rfl (hb hby at_135) rfl (l' := #[.val (.long q0), .second, .val (.int p1), .val (.int p2), .val (.int p3), .val (.int (p1 &&& (1 : Int32))), .val (.ref ob2), .val (.int (Int32.ofNat iN)), .val (.long (own_st (own_x0 q0 (p1 &&& (1 : Int32))))), .second, .val (.int ((97 : Int32) + (((((own_st (own_x0 q0 (p1 &&& (1 : Int32)))).toUInt64 >>> ((33 : Int32) &&& 0x3f).toInt64.toUInt64).toInt64) % (26 : Int64)).toInt32))), .val (.int (3 : Int32)), .val (.long (19999999 : Int64)), .second, .unset, .unset, .unset, .unset]) rfl ?_
      show Steps p.tables e below (T2.setTop (mkF m 137 #[.val (.long q0), .second, .val (.int p1), .val (.int p2), .val (.int p3), .val (.int (p1 &&& (1 : Int32))), .val (.ref ob2), .val (.int (Int32.ofNat iN)), .val (.long (own_st (own_x0 q0 (p1 &&& (1 : Int32))))), .second, .val (.int ((97 : Int32) + (((((own_st (own_x0 q0 (p1 &&& (1 : Int32)))).toUInt64 >>> ((33 : Int32) &&& 0x3f).toInt64.toUInt64).toInt64) % (26 : Int64)).toInt32))), .val (.int (3 : Int32)), .val (.long (19999999 : Int64)), .second, .unset, .unset, .unset, .unset] [])) _
      refine XS.iload X2.here hx rfl (hb hby at_137) rfl ?_
      show Steps p.tables e below (T2.setTop (mkF m 139 #[.val (.long q0), .second, .val (.int p1), .val (.int p2), .val (.int p3), .val (.int (p1 &&& (1 : Int32))), .val (.ref ob2), .val (.int (Int32.ofNat iN)), .val (.long (own_st (own_x0 q0 (p1 &&& (1 : Int32))))), .second, .val (.int ((97 : Int32) + (((((own_st (own_x0 q0 (p1 &&& (1 : Int32)))).toUInt64 >>> ((33 : Int32) &&& 0x3f).toInt64.toUInt64).toInt64) % (26 : Int64)).toInt32))), .val (.int (3 : Int32)), .val (.long (19999999 : Int64)), .second, .unset, .unset, .unset, .unset] [(.int (3 : Int32))])) _
      refine XS.iconst X2.here hx rfl (hb hby at_139) ?_
      show Steps p.tables e below (T2.setTop (mkF m 140 #[.val (.long q0), .second, .val (.int p1), .val (.int p2), .val (.int p3), .val (.int (p1 &&& (1 : Int32))), .val (.ref ob2), .val (.int (Int32.ofNat iN)), .val (.long (own_st (own_x0 q0 (p1 &&& (1 : Int32))))), .second, .val (.int ((97 : Int32) + (((((own_st (own_x0 q0 (p1 &&& (1 : Int32)))).toUInt64 >>> ((33 : Int32) &&& 0x3f).toInt64.toUInt64).toInt64) % (26 : Int64)).toInt32))), .val (.int (3 : Int32)), .val (.long (19999999 : Int64)), .second, .unset, .unset, .unset, .unset] [(.int (1 : Int32)), (.int (3 : Int32))])) _
      refine XS.iand X2.here hx rfl (hb hby at_140) rfl ?_
      show Steps p.tables e below (T2.setTop (mkF m 141 #[.val (.long q0), .second, .val (.int p1), .val (.int p2), .val (.int p3), .val (.int (p1 &&& (1 : Int32))), .val (.ref ob2), .val (.int (Int32.ofNat iN)), .val (.long (own_st (own_x0 q0 (p1 &&& (1 : Int32))))), .second, .val (.int ((97 : Int32) + (((((own_st (own_x0 q0 (p1 &&& (1 : Int32)))).toUInt64 >>> ((33 : Int32) &&& 0x3f).toInt64.toUInt64).toInt64) % (26 : Int64)).toInt32))), .val (.int (3 : Int32)), .val (.long (19999999 : Int64)), .second, .unset, .unset, .unset, .unset] [(.int ((3 : Int32) &&& (1 : Int32)))])) _
      refine XS.istore X2.here hx rfl (hb hby at_141) rfl (l' := #[.val (.long q0), .second, .val (.int p1), .val (.int p2), .val (.int p3), .val (.int (p1 &&& (1 : Int32))), .val (.ref ob2), .val (.int (Int32.ofNat iN)), .val (.long (own_st (own_x0 q0 (p1 &&& (1 : Int32))))), .second, .val (.int ((97 : Int32) + (((((own_st (own_x0 q0 (p1 &&& (1 : Int32)))).toUInt64 >>> ((33 : Int32) &&& 0x3f).toInt64.toUInt64).toInt64) % (26 : Int64)).toInt32))), .val (.int (3 : Int32)), .val (.long (19999999 : Int64)), .second, .val (.int ((3 : Int32) &&& (1 : Int32))), .unset, .unset, .unset]) rfl ?_
      show Steps p.tables e below (T2.setTop (mkF m 143 #[.val (.long q0), .second, .val (.int p1), .val (.int p2), .val (.int p3), .val (.int (p1 &&& (1 : Int32))), .val (.ref ob2), .val (.int (Int32.ofNat iN)), .val (.long (own_st (own_x0 q0 (p1 &&& (1 : Int32))))), .second, .val (.int ((97 : Int32) + (((((own_st (own_x0 q0 (p1 &&& (1 : Int32)))).toUInt64 >>> ((33 : Int32) &&& 0x3f).toInt64.toUInt64).toInt64) % (26 : Int64)).toInt32))), .val (.int (3 : Int32)), .val (.long (19999999 : Int64)), .second, .val (.int ((3 : Int32) &&& (1 : Int32))), .unset, .unset, .unset] [])) _
      refine XS.iload X2.here hx rfl (hb hby at_143) rfl ?_
      show Steps p.tables e below (T2.setTop (mkF m 145 #[.val (.long q0), .second, .val (.int p1), .val (.int p2), .val (.int p3), .val (.int (p1 &&& (1 : Int32))), .val (.ref ob2), .val (.int (Int32.ofNat iN)), .val (.long (own_st (own_x0 q0 (p1 &&& (1 : Int32))))), .second, .val (.int ((97 : Int32) + (((((own_st (own_x0 q0 (p1 &&& (1 : Int32)))).toUInt64 >>> ((33 : Int32) &&& 0x3f).toInt64.toUInt64).toInt64) % (26 : Int64)).toInt32))), .val (.int (3 : Int32)), .val (.long (19999999 : Int64)), .second, .val (.int ((3 : Int32) &&& (1 : Int32))), .unset, .unset, .unset] [(.int (3 : Int32))])) _
      refine XS.ifYes X2.here hx rfl (pc0 := 145) (pc' := 153) rfl (hb hby at_145) rfl ((if0 _ _).trans (feq (by decide : ¬ ((3 : Int32) = (0 : Int32)))).2) (by decide) (by decide) ?_
      show Steps p.tables e below (T2.setTop (mkF m 153 #[.val (.long q0), .second, .val (.int p1), .val (.int p2), .val (.int p3), .val (.int (p1 &&& (1 : Int32))), .val (.ref ob2), .val (.int (Int32.ofNat iN)), .val (.long (own_st (own_x0 q0 (p1 &&& (1 : Int32))))), .second, .val (.int ((97 : Int32) + (((((own_st (own_x0 q0 (p1 &&& (1 : Int32)))).toUInt64 >>> ((33 : Int32) &&& 0x3f).toInt64.toUInt64).toInt64) % (26 : Int64)).toInt32))), .val (.int (3 : Int32)), .val (.long (19999999 : Int64)), .second, .val (.int ((3 : Int32) &&& (1 : Int32))), .unset, .unset, .unset] [])) _
      refine XS.iload X2.here hx rfl (hb hby at_153) rfl ?_
      show Steps p.tables e below (T2.setTop (mkF m 155 #[.val (.long q0), .second, .val (.int p1), .val (.int p2), .val (.int p3), .val (.int (p1 &&& (1 : Int32))), .val (.ref ob2), .val (.int (Int32.ofNat iN)), .val (.long (own_st (own_x0 q0 (p1 &&& (1 : Int32))))), .second, .val (.int ((97 : Int32) + (((((own_st (own_x0 q0 (p1 &&& (1 : Int32)))).toUInt64 >>> ((33 : Int32) &&& 0x3f).toInt64.toUInt64).toInt64) % (26 : Int64)).toInt32))), .val (.int (3 : Int32)), .val (.long (19999999 : Int64)), .second, .val (.int ((3 : Int32) &&& (1 : Int32))), .unset, .unset, .unset] [(.int (3 : Int32))])) _
      refine XS.iconst X2.here hx rfl (hb hby at_155) ?_
      show Steps p.tables e below (T2.setTop (mkF m 156 #[.val (.long q0), .second, .val (.int p1), .val (.int p2), .val (.int p3), .val (.int (p1 &&& (1 : Int32))), .val (.ref ob2), .val (.int (Int32.ofNat iN)), .val (.long (own_st (own_x0 q0 (p1 &&& (1 : Int32))))), .second, .val (.int ((97 : Int32) + (((((own_st (own_x0 q0 (p1 &&& (1 : Int32)))).toUInt64 >>> ((33 : Int32) &&& 0x3f).toInt64.toUInt64).toInt64) % (26 : Int64)).toInt32))), .val (.int (3 : Int32)), .val (.long (19999999 : Int64)), .second, .val (.int ((3 : Int32) &&& (1 : Int32))), .unset, .unset, .unset] [(.int (1 : Int32)), (.int (3 : Int32))])) _
      refine XS.icmpYes X2.here hx rfl (pc0 := 156) (pc' := 164) rfl (hb hby at_156) rfl (feq (by decide : ¬ ((3 : Int32) = (1 : Int32)))).2 (by decide) (by decide) ?_
      show Steps p.tables e below (T2.setTop (mkF m 164 #[.val (.long q0), .second, .val (.int p1), .val (.int p2), .val (.int p3), .val (.int (p1 &&& (1 : Int32))), .val (.ref ob2), .val (.int (Int32.ofNat iN)), .val (.long (own_st (own_x0 q0 (p1 &&& (1 : Int32))))), .second, .val (.int ((97 : Int32) + (((((own_st (own_x0 q0 (p1 &&& (1 : Int32)))).toUInt64 >>> ((33 : Int32) &&& 0x3f).toInt64.toUInt64).toInt64) % (26 : Int64)).toInt32))), .val (.int (3 : Int32)), .val (.long (19999999 : Int64)), .second, .val (.int ((3 : Int32) &&& (1 : Int32))), .unset, .unset, .unset] [])) _
      refine XS.iload X2.here hx rfl (hb hby at_164) rfl ?_
      show Steps p.tables e below (T2.setTop (mkF m 166 #[.val (.long q0), .second, .val (.int p1), .val (.int p2), .val (.int p3), .val (.int (p1 &&& (1 : Int32))), .val (.ref ob2), .val (.int (Int32.ofNat iN)), .val (.long (own_st (own_x0 q0 (p1 &&& (1 : Int32))))), .second, .val (.int ((97 : Int32) + (((((own_st (own_x0 q0 (p1 &&& (1 : Int32)))).toUInt64 >>> ((33 : Int32) &&& 0x3f).toInt64.toUInt64).toInt64) % (26 : Int64)).toInt32))), .val (.int (3 : Int32)), .val (.long (19999999 : Int64)), .second, .val (.int ((3 : Int32) &&& (1 : Int32))), .unset, .unset, .unset] [(.int (3 : Int32))])) _
      refine XS.iconst X2.here hx rfl (hb hby at_166) ?_
      show Steps p.tables e below (T2.setTop (mkF m 167 #[.val (.long q0), .second, .val (.int p1), .val (.int p2), .val (.int p3), .val (.int (p1 &&& (1 : Int32))), .val (.ref ob2), .val (.int (Int32.ofNat iN)), .val (.long (own_st (own_x0 q0 (p1 &&& (1 : Int32))))), .second, .val (.int ((97 : Int32) + (((((own_st (own_x0 q0 (p1 &&& (1 : Int32)))).toUInt64 >>> ((33 : Int32) &&& 0x3f).toInt64.toUInt64).toInt64) % (26 : Int64)).toInt32))), .val (.int (3 : Int32)), .val (.long (19999999 : Int64)), .second, .val (.int ((3 : Int32) &&& (1 : Int32))), .unset, .unset, .unset] [(.int (2 : Int32)), (.int (3 : Int32))])) _
      refine XS.icmpYes X2.here hx rfl (pc0 := 167) (pc' := 175) rfl (hb hby at_167) rfl (feq (by decide : ¬ ((3 : Int32) = (2 : Int32)))).2 (by decide) (by decide) ?_
      exact kt
    have f105 := (CHv.keep Kq2 (fun x q => nomatch q) hCH)
    have f106 := (Nat.le_trans (Nat.zero_le _) Kq2.1)
    have f107 := (Nat.le_trans Z0 Kq2.1)
    have f108 := ((Keep.refl h0 []).trans Kq2 all0)
    have f109 := (O0.keep Kq2 all0)
    obtain ⟨a103, T103, h103, j103, b103, kb103, X103, e103, E103, hS103, hk103, hZ, hown, Es103, Fc103, Fv103, Va103, la103, lb103, CH103, Lt103, Sf103, st103⟩ := ldcCH (s := s) (vm0 := s.vm) X2 hx hZ hown (hw _ (List.mem_of_getElem? (i := 47) rfl)) hwS rfl hS0 f106 hEL (List.mem_of_getElem? (i := 3) rfl) f105 (vs := [(.int (108 : Int32)), (.int (106 : Int32)), (.int (102 : Int32)), (.int (119 : Int32)), (.int (98 : Int32)), (.int (120 : Int32)), (.int (109 : Int32)), (.int (116 : Int32)), (.int (107 : Int32)), (.int (121 : Int32)), (.int (99 : Int32)), (.int (115 : Int32)), (.int (114 : Int32)), (.int (103 : Int32)), (.int (113 : Int32)), (.int (114 : Int32)), (.int (120 : Int32)), (.int (109 : Int32)), (.int (110 : Int32)), (.int (106 : Int32)), (.int (97 : Int32)), (.int (110 : Int32)), (.int (116 : Int32)), (.int (105 : Int32)), (.int (105 : Int32)), (.int (116 : Int32)), (.int (99 : Int32)), (.int (119 : Int32)), (.int (108 : Int32)), (.int (112 : Int32)), (.int (98 : Int32)), (.int (122 : Int32))]) (z := (32 : Int32)) ⟨by decide, rfl⟩ (by decide) rfl (g := (mkF m 175 #[.val (.long q0), .second, .val (.int p1), .val (.int p2), .val (.int p3), .val (.int (p1 &&& (1 : Int32))), .val (.ref ob2), .val (.int (Int32.ofNat iN)), .val (.long (own_st (own_x0 q0 (p1 &&& (1 : Int32))))), .second, .val (.int ((97 : Int32) + (((((own_st (own_x0 q0 (p1 &&& (1 : Int32)))).toUInt64 >>> ((33 : Int32) &&& 0x3f).toInt64.toUInt64).toInt64) % (26 : Int64)).toInt32))), .val (.int (3 : Int32)), .val (.long (19999999 : Int64)), .second, .val (.int ((3 : Int32) &&& (1 : Int32))), .unset, .unset, .unset] [])) rfl (hb hby at_175) (n := 128) (by decide) (by decide) (by decide) (by decide)
    have c110 : ∀ t, Steps p.tables e below (T103.setTop (mkF m 183 #[.val (.long q0), .second, .val (.int p1), .val (.int p2), .val (.int p3), .val (.int (p1 &&& (1 : Int32))), .val (.ref ob2), .val (.int (Int32.ofNat iN)), .val (.long (own_st (own_x0 q0 (p1 &&& (1 : Int32))))), .second, .val (.int ((97 : Int32) + (((((own_st (own_x0 q0 (p1 &&& (1 : Int32)))).toUInt64 >>> ((33 : Int32) &&& 0x3f).toInt64.toUInt64).toInt64) % (26 : Int64)).toInt32))), .val (.int (3 : Int32)), .val (.long (19999999 : Int64)), .second, .val (.int ((3 : Int32) &&& (1 : Int32))), .val (.ref a103), .unset, .unset] [(.int ((3 : Int32) &&& (1 : Int32))), (.long (19999999 : Int64))])) t → Steps p.tables e below (T103.setTop (mkF m 177 #[.val (.long q0), .second, .val (.int p1), .val (.int p2), .val (.int p3), .val (.int (p1 &&& (1 : Int32))), .val (.ref ob2), .val (.int (Int32.ofNat iN)), .val (.long (own_st (own_x0 q0 (p1 &&& (1 : Int32))))), .second, .val (.int ((97 : Int32) + (((((own_st (own_x0 q0 (p1 &&& (1 : Int32)))).toUInt64 >>> ((33 : Int32) &&& 0x3f).toInt64.toUInt64).toInt64) % (26 : Int64)).toInt32))), .val (.int (3 : Int32)), .val (.long (19999999 : Int64)), .second, .val (.int ((3 : Int32) &&& (1 : Int32))), .unset, .unset, .unset] [(.ref a103)])) t := by
      intro t kt
      show Steps p.tables e below (T103.setTop (mkF m 177 #[.val (.long q0), .second, .val (.int p1), .val (.int p2), .val (.int p3), .val (.int (p1 &&& (1 : Int32))), .val (.ref ob2), .val (.int (Int32.ofNat iN)), .val (.long (own_st (own_x0 q0 (p1 &&& (1 : Int32))))), .second, .val (.int ((97 : Int32) + (((((own_st (own_x0 q0 (p1 &&& (1 : Int32)))).toUInt64 >>> ((33 : Int32) &&& 0x3f).toInt64.toUInt64).toInt64) % (26 : Int64)).toInt32))), .val (.int (3 : Int32)), .val (.long (19999999 : Int64)), .second, .val (.int ((3 : Int32) &&& (1 : Int32))), .unset, .unset, .unset] [(.ref a103)])) _
      refine XS.astore X103.here hx rfl (hb hby at_177) rfl rfl (l' := #[.val (.long q0), .second, .val (.int p1), .val (.int p2), .val (.int p3), .val (.int (p1 &&& (1 : Int32))), .val (.ref ob2), .val (.int (Int32.ofNat iN)), .val (.long (own_st (own_x0 q0 (p1 &&& (1 : Int32))))), .second, .val (.int ((97 : Int32) + (((((own_st (own_x0 q0 (p1 &&& (1 : Int32)))).toUInt64 >>> ((33 : Int32) &&& 0x3f).toInt64.toUInt64).toInt64) % (26 : Int64)).toInt32))), .val (.int (3 : Int32)), .val (.long (19999999 : Int64)), .second, .val (.int ((3 : Int32) &&& (1 : Int32))), .val (.ref a103), .unset, .unset]) rfl ?_
      show Steps p.tables e below (T103.setTop (mkF m 179 #[.val (.long q0), .second, .val (.int p1), .val (.int p2), .val (.int p3), .val (.int (p1 &&& (1 : Int32))), .val (.ref ob2), .val (.int (Int32.ofNat iN)), .val (.long (own_st (own_x0 q0 (p1 &&& (1 : Int32))))), .second, .val (.int ((97 : Int32) + (((((own_st (own_x0 q0 (p1 &&& (1 : Int32)))).toUInt64 >>> ((33 : Int32) &&& 0x3f).toInt64.toUInt64).toInt64) % (26 : Int64)).toInt32))), .val (.int (3 : Int32)), .val (.long (19999999 : Int64)), .second, .val (.int ((3 : Int32) &&& (1 : Int32))), .val (.ref a103), .unset, .unset] [])) _
      refine XS.lload X103.here hx rfl (hb hby at_179) rfl ?_
      show Steps p.tables e below (T103.setTop (mkF m 181 #[.val (.long q0), .second, .val (.int p1), .val (.int p2), .val (.int p3), .val (.int (p1 &&& (1 : Int32))), .val (.ref ob2), .val (.int (Int32.ofNat iN)), .val (.long (own_st (own_x0 q0 (p1 &&& (1 : Int32))))), .second, .val (.int ((97 : Int32) + (((((own_st (own_x0 q0 (p1 &&& (1 : Int32)))).toUInt64 >>> ((33 : Int32) &&& 0x3f).toInt64.toUInt64).toInt64) % (26 : Int64)).toInt32))), .val (.int (3 : Int32)), .val (.long (19999999 : Int64)), .second, .val (.int ((3 : Int32) &&& (1 : Int32))), .val (.ref a103), .unset, .unset] [(.long (19999999 : Int64))])) _
      refine XS.iload X103.here hx rfl (hb hby at_181) rfl ?_
      exact kt
    have f111 := (Nat.le_trans f107 E103.1)
    obtain ⟨_, _, ⟨T112, L112, k112, n112⟩, -, X112, ⟨Lc112, hQ112, l112, y112, z112⟩, st112⟩ := Jvm.LawKit.callS X103 hx (y := (⟨"com/example/brannan/bench/ScanTable", "value", "(JI)[B"⟩ : MethodName)) hown (mvT hZ (hw _ (List.mem_of_getElem? (i := 0) rfl))) (mvT hZ (hw _ (List.mem_of_getElem? (i := 1) rfl))) (mvT hZ (hw _ (List.mem_of_getElem? (i := 2) rfl))) (mvT hZ (hw _ (List.mem_of_getElem? (i := 3) rfl))) (by decide) (backOf (W := 0) (rm1 l Z a0 hw [] (19999999 : Int64) ((3 : Int32) &&& (1 : Int32))  h103 n0 f111 ) hZ (hw _ (List.mem_of_getElem? (i := 3) rfl)) (hw _ (List.mem_of_getElem? (i := 2) rfl)) (by decide) (by decide)) (g := (mkF m 183 #[.val (.long q0), .second, .val (.int p1), .val (.int p2), .val (.int p3), .val (.int (p1 &&& (1 : Int32))), .val (.ref ob2), .val (.int (Int32.ofNat iN)), .val (.long (own_st (own_x0 q0 (p1 &&& (1 : Int32))))), .second, .val (.int ((97 : Int32) + (((((own_st (own_x0 q0 (p1 &&& (1 : Int32)))).toUInt64 >>> ((33 : Int32) &&& 0x3f).toInt64.toUInt64).toInt64) % (26 : Int64)).toInt32))), .val (.int (3 : Int32)), .val (.long (19999999 : Int64)), .second, .val (.int ((3 : Int32) &&& (1 : Int32))), .val (.ref a103), .unset, .unset] [(.int ((3 : Int32) &&& (1 : Int32))), (.long (19999999 : Int64))])) rfl (by rw [hml]; rfl) (argsL := [(.long (19999999 : Int64)), (.int ((3 : Int32) &&& (1 : Int32)))]) (rest := []) (lenOf pd_4 rfl) rfl (by show 2 * 0 + _ ≤ _; exact Nat.le_of_eq rfl) (hb hby at_183) (fun _ _ => ⟨rfl, e103, (by decide : 3 + 1 ≤ _), (by decide : 164 + 32 ≤ _)⟩)
    dsimp only [Pt.U, Pt.locs, Pt.cells, Pt.slots] at X112 l112 y112 z112 st112 hQ112
    subst l112 y112 z112
    obtain ⟨ob112, kk112, rfl, N112q, Kq112, g_ob112, Vq112⟩ := hQ112
    have N112 := Fr.app N2 N112q
    have Vc113 := Vq112
    obtain ⟨cl113, Ar113, qk113, S113, M113, H113, G113⟩ := Vc113
    have c114 : ∀ t, Steps p.tables e below (T112.setTop (mkF m 211 #[.val (.long q0), .second, .val (.int p1), .val (.int p2), .val (.int p3), .val (.int (p1 &&& (1 : Int32))), .val (.ref ob2), .val (.int (Int32.ofNat iN)), .val (.long (own_st (own_x0 q0 (p1 &&& (1 : Int32))))), .second, .val (.int ((97 : Int32) + (((((own_st (own_x0 q0 (p1 &&& (1 : Int32)))).toUInt64 >>> ((33 : Int32) &&& 0x3f).toInt64.toUInt64).toInt64) % (26 : Int64)).toInt32))), .val (.int (3 : Int32)), .val (.long (19999999 : Int64)), .second, .val (.int ((3 : Int32) &&& (1 : Int32))), .val (.ref a103), .val (.ref ob112), .val (.int (((p2.toUInt32 >>> ((5 : Int32) &&& 31).toUInt32).toInt32) &&& (31 : Int32)))] [])) t → Steps p.tables e below (T112.setTop (mkF m 186 #[.val (.long q0), .second, .val (.int p1), .val (.int p2), .val (.int p3), .val (.int (p1 &&& (1 : Int32))), .val (.ref ob2), .val (.int (Int32.ofNat iN)), .val (.long (own_st (own_x0 q0 (p1 &&& (1 : Int32))))), .second, .val (.int ((97 : Int32) + (((((own_st (own_x0 q0 (p1 &&& (1 : Int32)))).toUInt64 >>> ((33 : Int32) &&& 0x3f).toInt64.toUInt64).toInt64) % (26 : Int64)).toInt32))), .val (.int (3 : Int32)), .val (.long (19999999 : Int64)), .second, .val (.int ((3 : Int32) &&& (1 : Int32))), .val (.ref a103), .unset, .unset] [(.ref ob112)])) t := by
      intro t kt
      show Steps p.tables e below (T112.setTop (mkF m 186 #[.val (.long q0), .second, .val (.int p1), .val (.int p2), .val (.int p3), .val (.int (p1 &&& (1 : Int32))), .val (.ref ob2), .val (.int (Int32.ofNat iN)), .val (.long (own_st (own_x0 q0 (p1 &&& (1 : Int32))))), .second, .val (.int ((97 : Int32) + (((((own_st (own_x0 q0 (p1 &&& (1 : Int32)))).toUInt64 >>> ((33 : Int32) &&& 0x3f).toInt64.toUInt64).toInt64) % (26 : Int64)).toInt32))), .val (.int (3 : Int32)), .val (.long (19999999 : Int64)), .second, .val (.int ((3 : Int32) &&& (1 : Int32))), .val (.ref a103), .unset, .unset] [(.ref ob112)])) _
      refine XS.astore X112.here hx rfl (hb hby at_186) rfl rfl (l' := #[.val (.long q0), .second, .val (.int p1), .val (.int p2), .val (.int p3), .val (.int (p1 &&& (1 : Int32))), .val (.ref ob2), .val (.int (Int32.ofNat iN)), .val (.long (own_st (own_x0 q0 (p1 &&& (1 : Int32))))), .second, .val (.int ((97 : Int32) + (((((own_st (own_x0 q0 (p1 &&& (1 : Int32)))).toUInt64 >>> ((33 : Int32) &&& 0x3f).toInt64.toUInt64).toInt64) % (26 : Int64)).toInt32))), .val (.int (3 : Int32)), .val (.long (19999999 : Int64)), .second, .val (.int ((3 : Int32) &&& (1 : Int32))), .val (.ref a103), .val (.ref ob112), .unset]) rfl ?_
      show Steps p.tables e below (T112.setTop (mkF m 188 #[.val (.long q0), .second, .val (.int p1), .val (.int p2), .val (.int p3), .val (.int (p1 &&& (1 : Int32))), .val (.ref ob2), .val (.int (Int32.ofNat iN)), .val (.long (own_st (own_x0 q0 (p1 &&& (1 : Int32))))), .second, .val (.int ((97 : Int32) + (((((own_st (own_x0 q0 (p1 &&& (1 : Int32)))).toUInt64 >>> ((33 : Int32) &&& 0x3f).toInt64.toUInt64).toInt64) % (26 : Int64)).toInt32))), .val (.int (3 : Int32)), .val (.long (19999999 : Int64)), .second, .val (.int ((3 : Int32) &&& (1 : Int32))), .val (.ref a103), .val (.ref ob112), .unset] [])) _
      refine XS.aload X112.here hx rfl (hb hby at_188) rfl rfl ?_
      show Steps p.tables e below (T112.setTop (mkF m 190 #[.val (.long q0), .second, .val (.int p1), .val (.int p2), .val (.int p3), .val (.int (p1 &&& (1 : Int32))), .val (.ref ob2), .val (.int (Int32.ofNat iN)), .val (.long (own_st (own_x0 q0 (p1 &&& (1 : Int32))))), .second, .val (.int ((97 : Int32) + (((((own_st (own_x0 q0 (p1 &&& (1 : Int32)))).toUInt64 >>> ((33 : Int32) &&& 0x3f).toInt64.toUInt64).toInt64) % (26 : Int64)).toInt32))), .val (.int (3 : Int32)), .val (.long (19999999 : Int64)), .second, .val (.int ((3 : Int32) &&& (1 : Int32))), .val (.ref a103), .val (.ref ob112), .unset] [(.ref ob112)])) _
      refine XS.ifnullNo X112.here hx rfl (hb hby at_190) rfl ?_
      show Steps p.tables e below (T112.setTop (mkF m 193 #[.val (.long q0), .second, .val (.int p1), .val (.int p2), .val (.int p3), .val (.int (p1 &&& (1 : Int32))), .val (.ref ob2), .val (.int (Int32.ofNat iN)), .val (.long (own_st (own_x0 q0 (p1 &&& (1 : Int32))))), .second, .val (.int ((97 : Int32) + (((((own_st (own_x0 q0 (p1 &&& (1 : Int32)))).toUInt64 >>> ((33 : Int32) &&& 0x3f).toInt64.toUInt64).toInt64) % (26 : Int64)).toInt32))), .val (.int (3 : Int32)), .val (.long (19999999 : Int64)), .second, .val (.int ((3 : Int32) &&& (1 : Int32))), .val (.ref a103), .val (.ref ob112), .unset] [])) _
      refine XS.aload X112.here hx rfl (hb hby at_193) rfl rfl ?_
      show Steps p.tables e below (T112.setTop (mkF m 195 #[.val (.long q0), .second, .val (.int p1), .val (.int p2), .val (.int p3), .val (.int (p1 &&& (1 : Int32))), .val (.ref ob2), .val (.int (Int32.ofNat iN)), .val (.long (own_st (own_x0 q0 (p1 &&& (1 : Int32))))), .second, .val (.int ((97 : Int32) + (((((own_st (own_x0 q0 (p1 &&& (1 : Int32)))).toUInt64 >>> ((33 : Int32) &&& 0x3f).toInt64.toUInt64).toInt64) % (26 : Int64)).toInt32))), .val (.int (3 : Int32)), .val (.long (19999999 : Int64)), .second, .val (.int ((3 : Int32) &&& (1 : Int32))), .val (.ref a103), .val (.ref ob112), .unset] [(.ref ob112)])) _
      refine X112.arraylength hx Ar113.1 (State.isArrayOf_alike hZ.alike Ar113.2.1) (g := (mkF m 195 #[.val (.long q0), .second, .val (.int p1), .val (.int p2), .val (.int p3), .val (.int (p1 &&& (1 : Int32))), .val (.ref ob2), .val (.int (Int32.ofNat iN)), .val (.long (own_st (own_x0 q0 (p1 &&& (1 : Int32))))), .second, .val (.int ((97 : Int32) + (((((own_st (own_x0 q0 (p1 &&& (1 : Int32)))).toUInt64 >>> ((33 : Int32) &&& 0x3f).toInt64.toUInt64).toInt64) % (26 : Int64)).toInt32))), .val (.int (3 : Int32)), .val (.long (19999999 : Int64)), .second, .val (.int ((3 : Int32) &&& (1 : Int32))), .val (.ref a103), .val (.ref ob112), .unset] [(.ref ob112)])) rfl rfl (hb hby at_195) _ ?_
      rw [len_of S113 M113]
      show Steps p.tables e below (T112.setTop (mkF m 196 #[.val (.long q0), .second, .val (.int p1), .val (.int p2), .val (.int p3), .val (.int (p1 &&& (1 : Int32))), .val (.ref ob2), .val (.int (Int32.ofNat iN)), .val (.long (own_st (own_x0 q0 (p1 &&& (1 : Int32))))), .second, .val (.int ((97 : Int32) + (((((own_st (own_x0 q0 (p1 &&& (1 : Int32)))).toUInt64 >>> ((33 : Int32) &&& 0x3f).toInt64.toUInt64).toInt64) % (26 : Int64)).toInt32))), .val (.int (3 : Int32)), .val (.long (19999999 : Int64)), .second, .val (.int ((3 : Int32) &&& (1 : Int32))), .val (.ref a103), .val (.ref ob112), .unset] [(.int (32 : Int32))])) _
      refine XS.bipush X112.here hx rfl (hb hby at_196) ?_
      show Steps p.tables e below (T112.setTop (mkF m 198 #[.val (.long q0), .second, .val (.int p1), .val (.int p2), .val (.int p3), .val (.int (p1 &&& (1 : Int32))), .val (.ref ob2), .val (.int (Int32.ofNat iN)), .val (.long (own_st (own_x0 q0 (p1 &&& (1 : Int32))))), .second, .val (.int ((97 : Int32) + (((((own_st (own_x0 q0 (p1 &&& (1 : Int32)))).toUInt64 >>> ((33 : Int32) &&& 0x3f).toInt64.toUInt64).toInt64) % (26 : Int64)).toInt32))), .val (.int (3 : Int32)), .val (.long (19999999 : Int64)), .second, .val (.int ((3 : Int32) &&& (1 : Int32))), .val (.ref a103), .val (.ref ob112), .unset] [(.int (32 : Int32)), (.int (32 : Int32))])) _
      refine XS.icmpYes X112.here hx rfl (pc0 := 198) (pc' := 203) rfl (hb hby at_198) rfl (teq (by decide : (32 : Int32) = (32 : Int32))).1 (by decide) (by decide) ?_
      show Steps p.tables e below (T112.setTop (mkF m 203 #[.val (.long q0), .second, .val (.int p1), .val (.int p2), .val (.int p3), .val (.int (p1 &&& (1 : Int32))), .val (.ref ob2), .val (.int (Int32.ofNat iN)), .val (.long (own_st (own_x0 q0 (p1 &&& (1 : Int32))))), .second, .val (.int ((97 : Int32) + (((((own_st (own_x0 q0 (p1 &&& (1 : Int32)))).toUInt64 >>> ((33 : Int32) &&& 0x3f).toInt64.toUInt64).toInt64) % (26 : Int64)).toInt32))), .val (.int (3 : Int32)), .val (.long (19999999 : Int64)), .second, .val (.int ((3 : Int32) &&& (1 : Int32))), .val (.ref a103), .val (.ref ob112), .unset] [])) _
      refine XS.iloadN X112.here hx rfl (hb hby at_203) rfl ?_
      show Steps p.tables e below (T112.setTop (mkF m 204 #[.val (.long q0), .second, .val (.int p1), .val (.int p2), .val (.int p3), .val (.int (p1 &&& (1 : Int32))), .val (.ref ob2), .val (.int (Int32.ofNat iN)), .val (.long (own_st (own_x0 q0 (p1 &&& (1 : Int32))))), .second, .val (.int ((97 : Int32) + (((((own_st (own_x0 q0 (p1 &&& (1 : Int32)))).toUInt64 >>> ((33 : Int32) &&& 0x3f).toInt64.toUInt64).toInt64) % (26 : Int64)).toInt32))), .val (.int (3 : Int32)), .val (.long (19999999 : Int64)), .second, .val (.int ((3 : Int32) &&& (1 : Int32))), .val (.ref a103), .val (.ref ob112), .unset] [(.int p2)])) _
      refine XS.iconst X112.here hx rfl (hb hby at_204) ?_
      show Steps p.tables e below (T112.setTop (mkF m 205 #[.val (.long q0), .second, .val (.int p1), .val (.int p2), .val (.int p3), .val (.int (p1 &&& (1 : Int32))), .val (.ref ob2), .val (.int (Int32.ofNat iN)), .val (.long (own_st (own_x0 q0 (p1 &&& (1 : Int32))))), .second, .val (.int ((97 : Int32) + (((((own_st (own_x0 q0 (p1 &&& (1 : Int32)))).toUInt64 >>> ((33 : Int32) &&& 0x3f).toInt64.toUInt64).toInt64) % (26 : Int64)).toInt32))), .val (.int (3 : Int32)), .val (.long (19999999 : Int64)), .second, .val (.int ((3 : Int32) &&& (1 : Int32))), .val (.ref a103), .val (.ref ob112), .unset] [(.int (5 : Int32)), (.int p2)])) _
      refine XS.iushr X112.here hx rfl (hb hby at_205) rfl ?_
      show Steps p.tables e below (T112.setTop (mkF m 206 #[.val (.long q0), .second, .val (.int p1), .val (.int p2), .val (.int p3), .val (.int (p1 &&& (1 : Int32))), .val (.ref ob2), .val (.int (Int32.ofNat iN)), .val (.long (own_st (own_x0 q0 (p1 &&& (1 : Int32))))), .second, .val (.int ((97 : Int32) + (((((own_st (own_x0 q0 (p1 &&& (1 : Int32)))).toUInt64 >>> ((33 : Int32) &&& 0x3f).toInt64.toUInt64).toInt64) % (26 : Int64)).toInt32))), .val (.int (3 : Int32)), .val (.long (19999999 : Int64)), .second, .val (.int ((3 : Int32) &&& (1 : Int32))), .val (.ref a103), .val (.ref ob112), .unset] [(.int ((p2.toUInt32 >>> ((5 : Int32) &&& 31).toUInt32).toInt32))])) _
      refine XS.bipush X112.here hx rfl (hb hby at_206) ?_
      show Steps p.tables e below (T112.setTop (mkF m 208 #[.val (.long q0), .second, .val (.int p1), .val (.int p2), .val (.int p3), .val (.int (p1 &&& (1 : Int32))), .val (.ref ob2), .val (.int (Int32.ofNat iN)), .val (.long (own_st (own_x0 q0 (p1 &&& (1 : Int32))))), .second, .val (.int ((97 : Int32) + (((((own_st (own_x0 q0 (p1 &&& (1 : Int32)))).toUInt64 >>> ((33 : Int32) &&& 0x3f).toInt64.toUInt64).toInt64) % (26 : Int64)).toInt32))), .val (.int (3 : Int32)), .val (.long (19999999 : Int64)), .second, .val (.int ((3 : Int32) &&& (1 : Int32))), .val (.ref a103), .val (.ref ob112), .unset] [(.int (31 : Int32)), (.int ((p2.toUInt32 >>> ((5 : Int32) &&& 31).toUInt32).toInt32))])) _
      refine XS.iand X112.here hx rfl (hb hby at_208) rfl ?_
      show Steps p.tables e below (T112.setTop (mkF m 209 #[.val (.long q0), .second, .val (.int p1), .val (.int p2), .val (.int p3), .val (.int (p1 &&& (1 : Int32))), .val (.ref ob2), .val (.int (Int32.ofNat iN)), .val (.long (own_st (own_x0 q0 (p1 &&& (1 : Int32))))), .second, .val (.int ((97 : Int32) + (((((own_st (own_x0 q0 (p1 &&& (1 : Int32)))).toUInt64 >>> ((33 : Int32) &&& 0x3f).toInt64.toUInt64).toInt64) % (26 : Int64)).toInt32))), .val (.int (3 : Int32)), .val (.long (19999999 : Int64)), .second, .val (.int ((3 : Int32) &&& (1 : Int32))), .val (.ref a103), .val (.ref ob112), .unset] [(.int (((p2.toUInt32 >>> ((5 : Int32) &&& 31).toUInt32).toInt32) &&& (31 : Int32)))])) _
      refine XS.istore X112.here hx rfl (hb hby at_209) rfl (l' := #[.val (.long q0), .second, .val (.int p1), .val (.int p2), .val (.int p3), .val (.int (p1 &&& (1 : Int32))), .val (.ref ob2), .val (.int (Int32.ofNat iN)), .val (.long (own_st (own_x0 q0 (p1 &&& (1 : Int32))))), .second, .val (.int ((97 : Int32) + (((((own_st (own_x0 q0 (p1 &&& (1 : Int32)))).toUInt64 >>> ((33 : Int32) &&& 0x3f).toInt64.toUInt64).toInt64) % (26 : Int64)).toInt32))), .val (.int (3 : Int32)), .val (.long (19999999 : Int64)), .second, .val (.int ((3 : Int32) &&& (1 : Int32))), .val (.ref a103), .val (.ref ob112), .val (.int (((p2.toUInt32 >>> ((5 : Int32) &&& 31).toUInt32).toInt32) &&& (31 : Int32)))]) rfl ?_
      exact kt
    obtain ⟨jn, hjn, hje⟩ := own_mask ((p2.toUInt32 >>> ((5 : Int32) &&& 31).toUInt32).toInt32)
    have c115 : ∀ t, Steps p.tables e below (T112.setTop (mkF m 211 #[.val (.long q0), .second, .val (.int p1), .val (.int p2), .val (.int p3), .val (.int (p1 &&& (1 : Int32))), .val (.ref ob2), .val (.int (Int32.ofNat iN)), .val (.long (own_st (own_x0 q0 (p1 &&& (1 : Int32))))), .second, .val (.int ((97 : Int32) + (((((own_st (own_x0 q0 (p1 &&& (1 : Int32)))).toUInt64 >>> ((33 : Int32) &&& 0x3f).toInt64.toUInt64).toInt64) % (26 : Int64)).toInt32))), .val (.int (3 : Int32)), .val (.long (19999999 : Int64)), .second, .val (.int ((3 : Int32) &&& (1 : Int32))), .val (.ref a103), .val (.ref ob112), .val (.int (Int32.ofNat jn))] [])) t → Steps p.tables e below (T112.setTop (mkF m 211 #[.val (.long q0), .second, .val (.int p1), .val (.int p2), .val (.int p3), .val (.int (p1 &&& (1 : Int32))), .val (.ref ob2), .val (.int (Int32.ofNat iN)), .val (.long (own_st (own_x0 q0 (p1 &&& (1 : Int32))))), .second, .val (.int ((97 : Int32) + (((((own_st (own_x0 q0 (p1 &&& (1 : Int32)))).toUInt64 >>> ((33 : Int32) &&& 0x3f).toInt64.toUInt64).toInt64) % (26 : Int64)).toInt32))), .val (.int (3 : Int32)), .val (.long (19999999 : Int64)), .second, .val (.int ((3 : Int32) &&& (1 : Int32))), .val (.ref a103), .val (.ref ob112), .val (.int (((p2.toUInt32 >>> ((5 : Int32) &&& 31).toUInt32).toInt32) &&& (31 : Int32)))] [])) t := fun t kt => by rw [hje]; exact kt
    have Vc116 := Vq112
    obtain ⟨cl116, Ar116, qk116, S116, M116, H116, G116⟩ := Vc116
    have hin116 : ¬ ((Int32.ofNat jn) < 0 ∨ cl116.slots.size ≤ ((Int32.ofNat jn)).toNatClampNeg) := inb_of S116 (own_in jn hjn)
    have hat116 : cl116.slots[((Int32.ofNat jn)).toNatClampNeg]? = some (.int (own_f (own_x0 (19999999 : Int64) ((3 : Int32) &&& (1 : Int32))) jn)) := H116.at hin116 (own_get (own_x0 (19999999 : Int64) ((3 : Int32) &&& (1 : Int32))) jn hjn)
    have c117 : ∀ t, Steps p.tables e below (T112.setTop (mkF m 220 #[.val (.long q0), .second, .val (.int p1), .val (.int p2), .val (.int p3), .val (.int (p1 &&& (1 : Int32))), .val (.ref ob2), .val (.int (Int32.ofNat iN)), .val (.long (own_st (own_x0 q0 (p1 &&& (1 : Int32))))), .second, .val (.int ((97 : Int32) + (((((own_st (own_x0 q0 (p1 &&& (1 : Int32)))).toUInt64 >>> ((33 : Int32) &&& 0x3f).toInt64.toUInt64).toInt64) % (26 : Int64)).toInt32))), .val (.int (3 : Int32)), .val (.long (19999999 : Int64)), .second, .val (.int ((3 : Int32) &&& (1 : Int32))), .val (.ref a103), .val (.ref ob112), .val (.int (Int32.ofNat jn))] [(.int (Int32.ofNat jn)), (.ref a103), (.int (own_f (own_x0 (19999999 : Int64) ((3 : Int32) &&& (1 : Int32))) jn))])) t → Steps p.tables e below (T112.setTop (mkF m 211 #[.val (.long q0), .second, .val (.int p1), .val (.int p2), .val (.int p3), .val (.int (p1 &&& (1 : Int32))), .val (.ref ob2), .val (.int (Int32.ofNat iN)), .val (.long (own_st (own_x0 q0 (p1 &&& (1 : Int32))))), .second, .val (.int ((97 : Int32) + (((((own_st (own_x0 q0 (p1 &&& (1 : Int32)))).toUInt64 >>> ((33 : Int32) &&& 0x3f).toInt64.toUInt64).toInt64) % (26 : Int64)).toInt32))), .val (.int (3 : Int32)), .val (.long (19999999 : Int64)), .second, .val (.int ((3 : Int32) &&& (1 : Int32))), .val (.ref a103), .val (.ref ob112), .val (.int (Int32.ofNat jn))] [])) t := by
      intro t kt
      show Steps p.tables e below (T112.setTop (mkF m 211 #[.val (.long q0), .second, .val (.int p1), .val (.int p2), .val (.int p3), .val (.int (p1 &&& (1 : Int32))), .val (.ref ob2), .val (.int (Int32.ofNat iN)), .val (.long (own_st (own_x0 q0 (p1 &&& (1 : Int32))))), .second, .val (.int ((97 : Int32) + (((((own_st (own_x0 q0 (p1 &&& (1 : Int32)))).toUInt64 >>> ((33 : Int32) &&& 0x3f).toInt64.toUInt64).toInt64) % (26 : Int64)).toInt32))), .val (.int (3 : Int32)), .val (.long (19999999 : Int64)), .second, .val (.int ((3 : Int32) &&& (1 : Int32))), .val (.ref a103), .val (.ref ob112), .val (.int (Int32.ofNat jn))] [])) _
      refine XS.aload X112.here hx rfl (hb hby at_211) rfl rfl ?_
      show Steps p.tables e below (T112.setTop (mkF m 213 #[.val (.long q0), .second, .val (.int p1), .val (.int p2), .val (.int p3), .val (.int (p1 &&& (1 : Int32))), .val (.ref ob2), .val (.int (Int32.ofNat iN)), .val (.long (own_st (own_x0 q0 (p1 &&& (1 : Int32))))), .second, .val (.int ((97 : Int32) + (((((own_st (own_x0 q0 (p1 &&& (1 : Int32)))).toUInt64 >>> ((33 : Int32) &&& 0x3f).toInt64.toUInt64).toInt64) % (26 : Int64)).toInt32))), .val (.int (3 : Int32)), .val (.long (19999999 : Int64)), .second, .val (.int ((3 : Int32) &&& (1 : Int32))), .val (.ref a103), .val (.ref ob112), .val (.int (Int32.ofNat jn))] [(.ref ob112)])) _
      refine XS.iload X112.here hx rfl (hb hby at_213) rfl ?_
      show Steps p.tables e below (T112.setTop (mkF m 215 #[.val (.long q0), .second, .val (.int p1), .val (.int p2), .val (.int p3), .val (.int (p1 &&& (1 : Int32))), .val (.ref ob2), .val (.int (Int32.ofNat iN)), .val (.long (own_st (own_x0 q0 (p1 &&& (1 : Int32))))), .second, .val (.int ((97 : Int32) + (((((own_st (own_x0 q0 (p1 &&& (1 : Int32)))).toUInt64 >>> ((33 : Int32) &&& 0x3f).toInt64.toUInt64).toInt64) % (26 : Int64)).toInt32))), .val (.int (3 : Int32)), .val (.long (19999999 : Int64)), .second, .val (.int ((3 : Int32) &&& (1 : Int32))), .val (.ref a103), .val (.ref ob112), .val (.int (Int32.ofNat jn))] [(.int (Int32.ofNat jn)), (.ref ob112)])) _
      refine X112.baloadBytes hx (j := (Int32.ofNat jn)) (v := (.int (own_f (own_x0 (19999999 : Int64) ((3 : Int32) &&& (1 : Int32))) jn))) Ar116.1 (State.isArrayOf_alike hZ.alike Ar116.2.1) Ar116.2.2 hin116 hat116 (g := (mkF m 215 #[.val (.long q0), .second, .val (.int p1), .val (.int p2), .val (.int p3), .val (.int (p1 &&& (1 : Int32))), .val (.ref ob2), .val (.int (Int32.ofNat iN)), .val (.long (own_st (own_x0 q0 (p1 &&& (1 : Int32))))), .second, .val (.int ((97 : Int32) + (((((own_st (own_x0 q0 (p1 &&& (1 : Int32)))).toUInt64 >>> ((33 : Int32) &&& 0x3f).toInt64.toUInt64).toInt64) % (26 : Int64)).toInt32))), .val (.int (3 : Int32)), .val (.long (19999999 : Int64)), .second, .val (.int ((3 : Int32) &&& (1 : Int32))), .val (.ref a103), .val (.ref ob112), .val (.int (Int32.ofNat jn))] [(.int (Int32.ofNat jn)), (.ref ob112)])) rfl rfl (hb hby at_215) _ ?_
      show Steps p.tables e below (T112.setTop (mkF m 216 #[.val (.long q0), .second, .val (.int p1), .val (.int p2), .val (.int p3), .val (.int (p1 &&& (1 : Int32))), .val (.ref ob2), .val (.int (Int32.ofNat iN)), .val (.long (own_st (own_x0 q0 (p1 &&& (1 : Int32))))), .second, .val (.int ((97 : Int32) + (((((own_st (own_x0 q0 (p1 &&& (1 : Int32)))).toUInt64 >>> ((33 : Int32) &&& 0x3f).toInt64.toUInt64).toInt64) % (26 : Int64)).toInt32))), .val (.int (3 : Int32)), .val (.long (19999999 : Int64)), .second, .val (.int ((3 : Int32) &&& (1 : Int32))), .val (.ref a103), .val (.ref ob112), .val (.int (Int32.ofNat jn))] [(.int (own_f (own_x0 (19999999 : Int64) ((3 : Int32) &&& (1 : Int32))) jn))])) _
      refine XS.aload X112.here hx rfl (hb hby at_216) rfl rfl ?_
      show Steps p.tables e below (T112.setTop (mkF m 218 #[.val (.long q0), .second, .val (.int p1), .val (.int p2), .val (.int p3), .val (.int (p1 &&& (1 : Int32))), .val (.ref ob2), .val (.int (Int32.ofNat iN)), .val (.long (own_st (own_x0 q0 (p1 &&& (1 : Int32))))), .second, .val (.int ((97 : Int32) + (((((own_st (own_x0 q0 (p1 &&& (1 : Int32)))).toUInt64 >>> ((33 : Int32) &&& 0x3f).toInt64.toUInt64).toInt64) % (26 : Int64)).toInt32))), .val (.int (3 : Int32)), .val (.long (19999999 : Int64)), .second, .val (.int ((3 : Int32) &&& (1 : Int32))), .val (.ref a103), .val (.ref ob112), .val (.int (Int32.ofNat jn))] [(.ref a103), (.int (own_f (own_x0 (19999999 : Int64) ((3 : Int32) &&& (1 : Int32))) jn))])) _
      refine XS.iload X112.here hx rfl (hb hby at_218) rfl ?_
      exact kt
    have f118 := (Nat.le_trans f111 Kq112.1)
    have f119 := (Es103.keep Kq112)
    have f120 := (Fv103.keep Kq112 nin0)
    have f121 := (Va103.keep Kq112 nin0)
    have f122 := ((f109.ext E103).keep Kq112 all0)
    have f123 := (Fc103.keep Kq112 nin0)
    obtain ⟨cq124, kq124, q124a, q124b, q124c⟩ := isOf hZ rfl f119
    obtain ⟨_, _, ⟨T125, L125, k125, n125⟩, -, X125, ⟨Lc125, hQ125, l125, y125, z125⟩, st125⟩ := X112.virtualBack hx (y := (⟨"java/lang/String", "charAt", "(I)C"⟩ : MethodName)) (z := (⟨"java/lang/String", "charAt", "(I)C"⟩ : MethodName)) hown (mvT hZ (hw _ (List.mem_of_getElem? (i := 21) rfl))) (mvT hZ (hw _ (List.mem_of_getElem? (i := 22) rfl))) (notFace_of_selects (args := #[]) (mvT hZ (hw _ (List.mem_of_getElem? (i := 24) rfl)))) (mvT hZ (hw _ (List.mem_of_getElem? (i := 24) rfl))) (mvT hZ (hw _ (List.mem_of_getElem? (i := 23) rfl))) (by decide) (backOf (W := 1) (rm2 l Z a0 hw [] a103 (Int32.ofNat jn) b103 kb103 (32 : Int32) (own_l3.map Value.int) (.int 0) (own_l3.getD jn 0) fm cs T112.heap n0 f118 f119 f120 f121 (own_in jn hjn) (own_map own_l3 rfl jn hjn _) (SF.ext f122.2) hfm (SC.ext f122.2) hcs f123) hZ (hw _ (List.mem_of_getElem? (i := 25) rfl)) (hw _ (List.mem_of_getElem? (i := 15) rfl)) (by decide) (by decide)) q124a q124c (g := (mkF m 220 #[.val (.long q0), .second, .val (.int p1), .val (.int p2), .val (.int p3), .val (.int (p1 &&& (1 : Int32))), .val (.ref ob2), .val (.int (Int32.ofNat iN)), .val (.long (own_st (own_x0 q0 (p1 &&& (1 : Int32))))), .second, .val (.int ((97 : Int32) + (((((own_st (own_x0 q0 (p1 &&& (1 : Int32)))).toUInt64 >>> ((33 : Int32) &&& 0x3f).toInt64.toUInt64).toInt64) % (26 : Int64)).toInt32))), .val (.int (3 : Int32)), .val (.long (19999999 : Int64)), .second, .val (.int ((3 : Int32) &&& (1 : Int32))), .val (.ref a103), .val (.ref ob112), .val (.int (Int32.ofNat jn))] [(.int (Int32.ofNat jn)), (.ref a103), (.int (own_f (own_x0 (19999999 : Int64) ((3 : Int32) &&& (1 : Int32))) jn))])) rfl (by rw [hml]; rfl) (Steps.refl _) (argsL := [(.int (Int32.ofNat jn))]) (rest := [(.int (own_f (own_x0 (19999999 : Int64) ((3 : Int32) &&& (1 : Int32))) jn))]) (lenOf pd_5 rfl) rfl (by show 2 * 0 + _ ≤ _; exact Nat.le_of_eq rfl) (hb hby at_220) (fun _ _ => ⟨rfl, rfl, (by decide : 4 + 0 ≤ _), (by decide : 196 + 0 ≤ _)⟩)
    dsimp only [Pt.U, Pt.locs, Pt.cells, Pt.slots] at X125 l125 y125 z125 st125 hQ125
    subst l125 y125 z125
    obtain ⟨rfl, N125q, e125⟩ := hQ125
    have N125 := Fr.app N112 N125q
    have hd126 : (own_f (own_x0 (19999999 : Int64) ((3 : Int32) &&& (1 : Int32))) jn) = (own_lit own_l3 jn) := own_pub3 jn hjn
    have c127 : ∀ t, Steps p.tables e below (T125.setTop (mkF m 231 #[.val (.long q0), .second, .val (.int p1), .val (.int p2), .val (.int p3), .val (.int (p1 &&& (1 : Int32))), .val (.ref ob2), .val (.int (Int32.ofNat iN)), .val (.long (own_st (own_x0 q0 (p1 &&& (1 : Int32))))), .second, .val (.int ((97 : Int32) + (((((own_st (own_x0 q0 (p1 &&& (1 : Int32)))).toUInt64 >>> ((33 : Int32) &&& 0x3f).toInt64.toUInt64).toInt64) % (26 : Int64)).toInt32))), .val (.int (3 : Int32)), .val (.long (19999999 : Int64)), .second, .val (.int ((3 : Int32) &&& (1 : Int32))), .val (.ref a103), .val (.ref ob112), .val (.int (Int32.ofNat jn))] [(.int (1 : Int32))])) t → Steps p.tables e below (T125.setTop (mkF m 223 #[.val (.long q0), .second, .val (.int p1), .val (.int p2), .val (.int p3), .val (.int (p1 &&& (1 : Int32))), .val (.ref ob2), .val (.int (Int32.ofNat iN)), .val (.long (own_st (own_x0 q0 (p1 &&& (1 : Int32))))), .second, .val (.int ((97 : Int32) + (((((own_st (own_x0 q0 (p1 &&& (1 : Int32)))).toUInt64 >>> ((33 : Int32) &&& 0x3f).toInt64.toUInt64).toInt64) % (26 : Int64)).toInt32))), .val (.int (3 : Int32)), .val (.long (19999999 : Int64)), .second, .val (.int ((3 : Int32) &&& (1 : Int32))), .val (.ref a103), .val (.ref ob112), .val (.int (Int32.ofNat jn))] [(.int (own_lit own_l3 jn)), (.int (own_f (own_x0 (19999999 : Int64) ((3 : Int32) &&& (1 : Int32))) jn))])) t := by
      intro t kt
      show Steps p.tables e below (T125.setTop (mkF m 223 #[.val (.long q0), .second, .val (.int p1), .val (.int p2), .val (.int p3), .val (.int (p1 &&& (1 : Int32))), .val (.ref ob2), .val (.int (Int32.ofNat iN)), .val (.long (own_st (own_x0 q0 (p1 &&& (1 : Int32))))), .second, .val (.int ((97 : Int32) + (((((own_st (own_x0 q0 (p1 &&& (1 : Int32)))).toUInt64 >>> ((33 : Int32) &&& 0x3f).toInt64.toUInt64).toInt64) % (26 : Int64)).toInt32))), .val (.int (3 : Int32)), .val (.long (19999999 : Int64)), .second, .val (.int ((3 : Int32) &&& (1 : Int32))), .val (.ref a103), .val (.ref ob112), .val (.int (Int32.ofNat jn))] [(.int (own_lit own_l3 jn)), (.int (own_f (own_x0 (19999999 : Int64) ((3 : Int32) &&& (1 : Int32))) jn))])) _
      refine XS.icmpNo X125.here hx rfl (hb hby at_223) rfl (teq (hd126)).2 ?_
      show Steps p.tables e below (T125.setTop (mkF m 226 #[.val (.long q0), .second, .val (.int p1), .val (.int p2), .val (.int p3), .val (.int (p1 &&& (1 : Int32))), .val (.ref ob2), .val (.int (Int32.ofNat iN)), .val (.long (own_st (own_x0 q0 (p1 &&& (1 : Int32))))), .second, .val (.int ((97 : Int32) + (((((own_st (own_x0 q0 (p1 &&& (1 : Int32)))).toUInt64 >>> ((33 : Int32) &&& 0x3f).toInt64.toUInt64).toInt64) % (26 : Int64)).toInt32))), .val (.int (3 : Int32)), .val (.long (19999999 : Int64)), .second, .val (.int ((3 : Int32) &&& (1 : Int32))), .val (.ref a103), .val (.ref ob112), .val (.int (Int32.ofNat jn))] [])) _
      refine XS.iconst X125.here hx rfl (hb hby at_226) ?_
      show Steps p.tables e below (T125.setTop (mkF m 227 #[.val (.long q0), .second, .val (.int p1), .val (.int p2), .val (.int p3), .val (.int (p1 &&& (1 : Int32))), .val (.ref ob2), .val (.int (Int32.ofNat iN)), .val (.long (own_st (own_x0 q0 (p1 &&& (1 : Int32))))), .second, .val (.int ((97 : Int32) + (((((own_st (own_x0 q0 (p1 &&& (1 : Int32)))).toUInt64 >>> ((33 : Int32) &&& 0x3f).toInt64.toUInt64).toInt64) % (26 : Int64)).toInt32))), .val (.int (3 : Int32)), .val (.long (19999999 : Int64)), .second, .val (.int ((3 : Int32) &&& (1 : Int32))), .val (.ref a103), .val (.ref ob112), .val (.int (Int32.ofNat jn))] [(.int (1 : Int32))])) _
      refine XS.goto X125.here hx rfl (pc0 := 227) (pc' := 231) rfl (hb hby at_227) (by decide) (by decide) ?_
      exact kt
    have f129 := (Nat.le_trans hk103 Kq112.1)
    obtain ⟨fs, hr, hrun, hended, hwd⟩ := Stand.leaveW (s := s) X125 hS103 (by rw [e125]; exact f129) (v := some (.int (1 : Int32))) (fun h => by rw [Bd.returns] at h; cases h)
    refine ⟨_, _, pre0 _ (c1 _ (st2 _ (c4 _ (c5 _ (c8 _ (c11 _ (c12 _ (c13 _ (c16 _ (c17 _ (c102 _ (c104 _ (st103 _ (c110 _ (st112 _ (c114 _ (c115 _ (c117 _ (st125.trans (c127 _ (?_))))))))))))))))))))), hrun, hended, _, _, rfl, ?_, hwd.1, hwd.2.1, hwd.2.2.1, hwd.2.2.2.mono (by decide) (by decide)⟩
    · show Steps p.tables e below (T125.setTop (mkF m 231 #[.val (.long q0), .second, .val (.int p1), .val (.int p2), .val (.int p3), .val (.int (p1 &&& (1 : Int32))), .val (.ref ob2), .val (.int (Int32.ofNat iN)), .val (.long (own_st (own_x0 q0 (p1 &&& (1 : Int32))))), .second, .val (.int ((97 : Int32) + (((((own_st (own_x0 q0 (p1 &&& (1 : Int32)))).toUInt64 >>> ((33 : Int32) &&& 0x3f).toInt64.toUInt64).toInt64) % (26 : Int64)).toInt32))), .val (.int (3 : Int32)), .val (.long (19999999 : Int64)), .second, .val (.int ((3 : Int32) &&& (1 : Int32))), .val (.ref a103), .val (.ref ob112), .val (.int (Int32.ofNat jn))] [(.int (1 : Int32))])) _
      exact retN X125 hx (t := .boolean) Bd.returns (by simp) (hb hby at_231) hr
    · show Q0 Z q0 p1 p2 p3 cs fm h0 n0 _ T125.heap _
      rw [e125]
      exact ⟨congrArg (fun z => some (Value.int z)) (show (1 : Int32) = (1 : Int32) from by rfl), N125⟩
set_option maxRecDepth 65536 in
set_option maxHeartbeats 40000000 in
theorem comes_1 {Post : Tables → Env → Array Value → State → Outcome → State → Prop} (hpost : ∀ tb e args s v u, (limb_1_1.after args s (.returned v) u = true ∧ limb_1_2.after args s (.returned v) u = true ∧ True) → ReturnedEndW s (.returned v) u (Jvm.fieldLocs frame_1_writes args s ++ Jvm.arrayLocs frame_1_arrays args s ++ Jvm.staticLocs frame_1_statics s) 24 4352 → Post tb e args s (.returned v) u) :
    ArmFor flags0 classFile x code maxLocals ret World_1 tables_1 room_1 Calls_1 rest_1 Pre_1 Post := by
  intro l hfl _ _ p e ha hc hk s m args below hf hA hF happ hP
  obtain ⟨hcalls, hrest, hpre⟩ := hP
  obtain ⟨-, -, -, hnamed, -, -, -, hat⟩ := (Spec.applies_iff hf).mp happ
  obtain ⟨hg, hn⟩ := and_e (Cond.before_iff.mp (show (Jvm.Cond.and given_1 narrow_1).before args s = true from hpre))
  obtain ⟨g1, g2⟩ := and_e hg
  obtain ⟨g3, g4⟩ := and_e g2
  obtain ⟨g5, g6⟩ := and_e g4
  obtain ⟨g7, g8⟩ := and_e g6
  obtain ⟨w0, w1, w2, w3, rfl⟩ : ∃ w0 w1 w2 w3 : Value, args = #[w0, w1, w2, w3] := by
    have hs : args.size = 4 := by simpa [Cond.value, given_1] using g1
    obtain ⟨L⟩ := args
    match L, hs with
    | [w0, w1, w2, w3], _ => exact ⟨w0, w1, w2, w3, rfl⟩
  have hw := fun d (hd : d ∈ tables_1) => atoms_spec (ws := Jvm.Cond.code x code maxLocals ret :: tables_1) hat d (List.mem_cons_of_mem _ hd)
  have hfit : Fit s := fun {y c} hc i hi => by
    obtain ⟨ha, rfl⟩ := Array.getElem?_eq_some_iff.mp hc
    have q := List.all_eq_true.mp ((Array.all_eq_true_iff_forall_mem.mp hF) _ (Array.getElem_mem ha)) i (List.mem_range.mpr hi)
    simpa [Array.getElem?_eq_getElem hi] using q
  obtain ⟨hsets, hown0⟩ := atoms_of _ (rest_1_c_eq ▸ (show rest_1_c.before _ s = true from hrest))
  have hr0 := Cond.before_iff.mp hown0
  obtain ⟨i0, ei0⟩ := isL_v g3
  obtain rfl : w0 = (.long i0) := Option.some.inj ei0
  obtain ⟨i1, ei1⟩ := is_v g5
  obtain rfl : w1 = (.int i1) := Option.some.inj ei1
  obtain ⟨i2, ei2⟩ := is_v g7
  obtain rfl : w2 = (.int i2) := Option.some.inj ei2
  obtain ⟨i3, ei3⟩ := is_v g8
  obtain rfl : w3 = (.int i3) := Option.some.inj ei3
  have n3 := not_v (Cond.before_iff.mp (hsets _ (List.mem_of_getElem? (i := 2) rfl)))
  obtain ⟨cs, ecs⟩ := is_v (Cond.before_iff.mp (hsets _ (List.mem_of_getElem? (i := 1) rfl)))
  have SC : Sta s s.heap "java/lang/String" "COMPACT_STRINGS" "Z" (.int cs) := Sta.start ecs (Or.inl (hsets _ (List.mem_of_getElem? (i := 0) rfl)))
  have hcs : ¬ (cs = (0 : Int32)) := gotF (Cond.eq_ints ecs (Term.int_eval (0))) n3
  obtain ⟨fm, efm, hfm⟩ := isR_v (Cond.before_iff.mp (hsets _ (List.mem_of_getElem? (i := 8) rfl)))
  have hEL : EW s _ consts_1 := (EW.cons (hw _ (List.mem_of_getElem? (i := 14) rfl)) (by decide) (EW.cons (hw _ (List.mem_of_getElem? (i := 49) rfl)) (by decide) (EW.cons (hw _ (List.mem_of_getElem? (i := 48) rfl)) (by decide) (EW.cons (hw _ (List.mem_of_getElem? (i := 47) rfl)) (by decide) EW.nil))))
  have CH0 : CHv s consts_1 s.vm s.heap := CHv.start hEL (fun p hp => hcalls.1 p hp) (hsets _ (List.mem_of_getElem? (i := 2) rfl)) (hw _ (List.mem_of_getElem? (i := 6) rfl)) (hw _ (List.mem_of_getElem? (i := 16) rfl))
  have SF : Sta s s.heap "jdk/internal/util/Preconditions" "SIOOBE_FORMATTER" "Ljava/util/function/BiFunction;" fm := Sta.start efm (Or.inl (hsets _ (List.mem_of_getElem? (i := 7) rfl)))
  obtain ⟨n, o, h1, h2, h3, _, L, rfl, ⟨rfl, N⟩, hq⟩ := rm0 l s _ hw tables_1 i0 i1 i2 i3 cs fm s.heap s.heap.size (Nat.le_refl _) (Old.start s) SC hcs SF hfm p e ha hc hk s m _ below hf ((Spec.applies_iff_loose hf).mp happ).1 ⟨rfl, State.Warmed39.refl s, rfl, CH0⟩ trivial
  refine ⟨n, _, h1, h2, h3, hpost _ _ _ _ _ _ ⟨Cond.after_iff.mpr rfl, Cond.after_iff.mpr (eq_i res_at (Term.int_eval (1)) rfl), trivial⟩ ⟨hq.1, hq.2.1, hq.2.2.1, (hq.2.2.2.sift fun y hy => Or.inr (N y hy)).mono (by decide) (by decide)⟩⟩
theorem main_1_1 : Claimed_1_1 := comes_1 fun _ _ _ _ _ _ h hF => ⟨h.1, hF⟩
theorem main_1_2 : Claimed_1_2 := comes_1 fun _ _ _ _ _ _ h hF => ⟨h.2.1, hF⟩
end Jvm.Pilot.@@N@@
namespace Jvm.Pilot.@@N@@
open Jvm Jvm.ClassFile Sem Op Lib Jvm.Free Jvm.Stand Jvm.Pilot.@@N@@.Jvm.D
/-! MADE BY PROGRAM (witnessworld.py) out of the Statement's table words and the real class files: 17 classes; the members and pool entries that the words name. The judged class is class 1, her method 1. -/
namespace start1
open Jvm.ClassFile
def u (s : String) : CpInfo := .utf8 (stringToUtf16 s)
/-- a pool by its gaps: so many unusable entries, then the entry; so many at the end -/
def gap : Nat → List CpInfo → List CpInfo
  | 0, r => r
  | n + 1, r => .unusable :: gap n r
def poolList (es : List (Nat × CpInfo)) (last : Nat) : List CpInfo := es.foldr (fun e r => gap e.1 (e.2 :: r)) (gap last [])
def pool (es : List (Nat × CpInfo)) (last : Nat) : Array CpInfo := ⟨poolList es last⟩
def fileOf (pool : Array CpInfo) (this : Nat) (attrs : Array Attribute := #[]) (ms : Array MethodInfo := #[]) (fl : Nat := 33) (sup : Nat := 0) (ifs : Array Nat := #[]) (fds : Array FieldInfo := #[]) : ClassFile where
  minorVersion := 0
  majorVersion := 65
  constantPool := pool
  accessFlags := fl
  thisClass := this
  superClass := sup
  interfaces := ifs
  fields := fds
  methods := ms
  attributes := attrs
def plain (name : String) (sup : Option ClassId) : Class where
  name := name
  kind := .ordinary
  loader := none
  accessFlags := 33
  super := sup
  interfaces := #[]
  cf := none
  fields := #[]
  methods := #[]
  instanceTypes := #[]
  staticTypes := #[]
  resolved := #[]
  callSites := []
  init := .initialized
  statics := none
  mirror := none

def pool0 : Array CpInfo := pool [(5, u "<init>"), (0, u "()V"), (1, .class_ 10), (1, u "java/lang/Object")] 113

def k0m0 : Method := { name := "<init>", desc := "()V", sig := { parameters := [], returnType := none }, accessFlags := 1, code := none }
/-- java/lang/Object -/
def k0 : Class := { plain "java/lang/Object" none with
  accessFlags := 33
  interfaces := #[]
  cf := some (fileOf pool0 8 #[] #[{ accessFlags := 1, nameIndex := 5, descriptorIndex := 6, attributes := #[] }] 33 0 #[] #[])
  fields := #[]
  methods := #[k0m0]
  instanceTypes := #[]
  staticTypes := #[]
  resolved := Array.replicate 124 none
  statics := none }

def pool1 : Array CpInfo := pool [(2, .class_ 4), (1, u "java/lang/Object"), (0, u "<init>"), (0, u "()V"), (0, .methodref 8 9), (0, .class_ 10), (0, .nameAndType 11 12), (0, u "com/example/brannan/bench/ScanTable"), (0, u "value"), (0, u "(JI)[B"), (0, .long 6364136223846793005), (1, .long 1442695040888963407), (1, .long 13787848793156543929), (1, .long 26), (1, .long 19999999), (1, .string 24), (0, u "uycnnzodphywsjnkmnqwfpwwphqdenot"), (0, .string 26), (0, u "bwqaanmlsshypfljttopjgoptagtteoc"), (0, .string 28), (0, u "cknkbvdpcovhxufkjxrtsmqkkhnuhznp"), (0, .string 30), (0, u "ljfwbxmtkycsrgqrxmnjantiitcwlpbz"), (0, .methodref 32 33), (0, .class_ 34), (0, .nameAndType 35 36), (0, u "java/lang/String"), (0, u "charAt"), (0, u "(I)C"), (0, .class_ 38), (0, u "com/example/brannan/bench/ScanTableValuePinLaw"), (2, u "law"), (0, u "(JIII)Z")] 5

def k1m0 : Method := { name := "<init>", desc := "()V", sig := { parameters := [], returnType := none }, accessFlags := 1, code := none }
def k1c1 : Code := { maxStack := 5, maxLocals := 18, code := code, exceptionTable := #[], attributes := #[] }
def k1m1 : Method := { name := "law", desc := "(JIII)Z", sig := { parameters := [.long, .int, .int, .int], returnType := some .boolean }, accessFlags := 9, code := some k1c1 }
/-- com/example/brannan/bench/ScanTableValuePinLaw -/
def k1 : Class := { plain "com/example/brannan/bench/ScanTableValuePinLaw" (some 0) with
  accessFlags := 49
  interfaces := #[]
  cf := some (fileOf pool1 37 #[] #[{ accessFlags := 1, nameIndex := 5, descriptorIndex := 6, attributes := #[] }, { accessFlags := 9, nameIndex := 41, descriptorIndex := 42, attributes := #[] }] 49 2 #[] #[])
  fields := #[]
  methods := #[k1m0, k1m1]
  instanceTypes := #[]
  staticTypes := #[]
  resolved := Array.replicate 48 none
  statics := none }

def pool2 : Array CpInfo := pool [(2, .class_ 4), (1, u "java/lang/Object"), (0, u "<init>"), (0, u "()V"), (1, .class_ 10), (1, u "com/example/brannan/bench/ScanTable"), (0, u "ROW_PREFIX"), (0, u "[B"), (10, .long 6364136223846793005), (1, .long 1442695040888963407), (1, .long 13787848793156543929), (1, .long 97), (1, .long 26), (33, u "value"), (0, u "(JI)[B"), (33, u "FAMILIES"), (0, u "Ljava/util/List;"), (2, u "QUALIFIER"), (4, u "MISSING_VALUE"), (4, u "VALUE_LENGTH"), (0, u "I"), (2, u "ROW_DIGITS")] 24

def k2m0 : Method := { name := "<init>", desc := "()V", sig := { parameters := [], returnType := none }, accessFlags := 2, code := none }
def k2c1 : Code := { maxStack := 8, maxLocals := 7, code := prog_2_method_3_code, exceptionTable := #[], attributes := #[] }
def k2m1 : Method := { name := "value", desc := "(JI)[B", sig := { parameters := [.long, .int], returnType := some (.array .byte) }, accessFlags := 8, code := some k2c1 }
/-- com/example/brannan/bench/ScanTable -/
def k2 : Class := { plain "com/example/brannan/bench/ScanTable" (some 0) with
  accessFlags := 48
  interfaces := #[]
  cf := some (fileOf pool2 8 #[] #[{ accessFlags := 2, nameIndex := 5, descriptorIndex := 6, attributes := #[] }, { accessFlags := 8, nameIndex := 65, descriptorIndex := 66, attributes := #[] }] 48 2 #[] #[{ accessFlags := 24, nameIndex := 100, descriptorIndex := 101, attributes := #[] }, { accessFlags := 24, nameIndex := 104, descriptorIndex := 12, attributes := #[] }, { accessFlags := 24, nameIndex := 114, descriptorIndex := 115, attributes := #[] }, { accessFlags := 24, nameIndex := 109, descriptorIndex := 12, attributes := #[] }, { accessFlags := 26, nameIndex := 11, descriptorIndex := 12, attributes := #[] }, { accessFlags := 26, nameIndex := 118, descriptorIndex := 115, attributes := #[] }])
  fields := #[{ name := "FAMILIES", type := (.object "java/util/List"), accessFlags := 24, slot := 0, constantValue := 0 }, { name := "QUALIFIER", type := (.array .byte), accessFlags := 24, slot := 1, constantValue := 0 }, { name := "VALUE_LENGTH", type := .int, accessFlags := 24, slot := 2, constantValue := 0 }, { name := "MISSING_VALUE", type := (.array .byte), accessFlags := 24, slot := 3, constantValue := 0 }, { name := "ROW_PREFIX", type := (.array .byte), accessFlags := 26, slot := 4, constantValue := 0 }, { name := "ROW_DIGITS", type := .int, accessFlags := 26, slot := 5, constantValue := 0 }]
  methods := #[k2m0, k2m1]
  instanceTypes := #[]
  staticTypes := #[(.object "java/util/List"), (.array .byte), .int, (.array .byte), (.array .byte), .int]
  resolved := Array.replicate 143 none
  statics := none }

def pool3 : Array CpInfo := pool [(1, .class_ 2), (0, u "java/io/Serializable"), (0, .class_ 4), (0, u "java/lang/Object")] 2

/-- java/io/Serializable -/
def k3 : Class := { plain "java/io/Serializable" (some 0) with
  accessFlags := 1537
  interfaces := #[]
  cf := some (fileOf pool3 1 #[] #[] 1537 3 #[] #[])
  fields := #[]
  methods := #[]
  instanceTypes := #[]
  staticTypes := #[]
  resolved := Array.replicate 7 none
  statics := none }

def pool4 : Array CpInfo := pool [(1, .class_ 2), (0, u "java/lang/Comparable"), (0, .class_ 4), (0, u "java/lang/Object")] 7

/-- java/lang/Comparable -/
def k4 : Class := { plain "java/lang/Comparable" (some 0) with
  accessFlags := 1537
  interfaces := #[]
  cf := some (fileOf pool4 1 #[] #[] 1537 3 #[] #[])
  fields := #[]
  methods := #[]
  instanceTypes := #[]
  staticTypes := #[]
  resolved := Array.replicate 12 none
  statics := none }

def pool5 : Array CpInfo := pool [(2, .class_ 4), (1, u "java/lang/CharSequence"), (42, .class_ 48), (0, u "java/lang/CharSequence$1CodePointIterator"), (10, .class_ 60), (0, u "java/lang/CharSequence$1CharIterator"), (5, .class_ 67), (0, u "java/lang/Object")] 63

/-- java/lang/CharSequence -/
def k5 : Class := { plain "java/lang/CharSequence" (some 0) with
  accessFlags := 1537
  interfaces := #[]
  cf := some (fileOf pool5 2 #[.nestMembers #[47, 59]] #[] 1537 66 #[] #[])
  fields := #[]
  methods := #[]
  instanceTypes := #[]
  staticTypes := #[]
  resolved := Array.replicate 131 none
  statics := none }

def pool6 : Array CpInfo := pool [(1, .class_ 2), (0, u "java/lang/constant/Constable"), (0, .class_ 4), (0, u "java/lang/Object")] 6

/-- java/lang/constant/Constable -/
def k6 : Class := { plain "java/lang/constant/Constable" (some 0) with
  accessFlags := 1537
  interfaces := #[]
  cf := some (fileOf pool6 1 #[] #[] 1537 3 #[] #[])
  fields := #[]
  methods := #[]
  instanceTypes := #[]
  staticTypes := #[]
  resolved := Array.replicate 11 none
  statics := none }

def pool7 : Array CpInfo := pool [(1, .class_ 2), (0, u "java/lang/constant/ConstantDesc"), (0, .class_ 4), (0, u "java/lang/Object")] 32

/-- java/lang/constant/ConstantDesc -/
def k7 : Class := { plain "java/lang/constant/ConstantDesc" (some 0) with
  accessFlags := 1537
  interfaces := #[]
  cf := some (fileOf pool7 1 #[] #[] 1537 3 #[] #[])
  fields := #[]
  methods := #[]
  instanceTypes := #[]
  staticTypes := #[]
  resolved := Array.replicate 37 none
  statics := none }

def pool8 : Array CpInfo := pool [(2, .class_ 4), (1, u "java/lang/Object"), (0, u "<init>"), (0, u "()V"), (2, .fieldref 10 11), (0, .class_ 12), (0, .nameAndType 13 14), (0, u "java/lang/String"), (0, u "value"), (0, u "[B"), (0, .fieldref 10 16), (0, .nameAndType 17 18), (0, u "coder"), (0, u "B"), (2, u "hash"), (0, u "I"), (2, u "hashIsZero"), (0, u "Z"), (11, .fieldref 10 39), (0, .nameAndType 40 26), (0, u "COMPACT_STRINGS"), (66, .class_ 109), (1, u "java/lang/StringLatin1"), (32, u "()Z"), (220, u "([BI)C"), (27, u "(II)V"), (35, u "(I)C"), (64, .methodref 10 493), (0, .nameAndType 494 142), (0, u "isLatin1"), (0, .methodref 107 496), (0, .nameAndType 497 363), (0, u "charAt"), (3, u "checkIndex"), (73, .class_ 576), (0, u "java/lang/CharSequence"), (22, u "CASE_INSENSITIVE_ORDER"), (0, u "Ljava/util/Comparator;"), (452, .fieldref 1054 1055), (0, .class_ 1056), (0, .nameAndType 1057 1058), (0, u "jdk/internal/util/Preconditions"), (0, u "SIOOBE_FORMATTER"), (0, u "Ljava/util/function/BiFunction;"), (0, .methodref 1054 1060), (0, .nameAndType 501 1061), (0, u "(IILjava/util/function/BiFunction;)I"), (39, u "serialPersistentFields"), (0, u "[Ljava/io/ObjectStreamField;"), (0, .class_ 1104), (0, u "java/lang/String$CaseInsensitiveComparator"), (1, .class_ 1107), (0, u "java/io/Serializable"), (0, .class_ 1109), (0, u "java/lang/Comparable"), (0, .class_ 1111), (0, u "java/lang/constant/Constable"), (0, .class_ 1113), (0, u "java/lang/constant/ConstantDesc"), (2, u "serialVersionUID"), (0, u "J"), (3, u "REPL"), (0, u "C"), (2, u "LATIN1"), (1, u "UTF16")] 323

def k8m0 : Method := { name := "<init>", desc := "()V", sig := { parameters := [], returnType := none }, accessFlags := 1, code := none }
def k8c1 : Code := { maxStack := 2, maxLocals := 2, code := jdk_42_method_56_code, exceptionTable := #[], attributes := #[] }
def k8m1 : Method := { name := "charAt", desc := "(I)C", sig := { parameters := [.int], returnType := some .char }, accessFlags := 1, code := some k8c1 }
def k8c2 : Code := { maxStack := 1, maxLocals := 1, code := jdk_42_method_154_code, exceptionTable := #[], attributes := #[] }
def k8m2 : Method := { name := "isLatin1", desc := "()Z", sig := { parameters := [], returnType := some .boolean }, accessFlags := 0, code := some k8c2 }
def k8c3 : Code := { maxStack := 3, maxLocals := 2, code := jdk_42_method_155_code, exceptionTable := #[], attributes := #[] }
def k8m3 : Method := { name := "checkIndex", desc := "(II)V", sig := { parameters := [.int, .int], returnType := none }, accessFlags := 8, code := some k8c3 }
/-- java/lang/String -/
def k8 : Class := { plain "java/lang/String" (some 0) with
  accessFlags := 49
  interfaces := #[3, 4, 5, 6, 7]
  cf := some (fileOf pool8 10 #[.nestMembers #[1103]] #[{ accessFlags := 1, nameIndex := 5, descriptorIndex := 6, attributes := #[] }, { accessFlags := 1, nameIndex := 497, descriptorIndex := 427, attributes := #[] }, { accessFlags := 0, nameIndex := 494, descriptorIndex := 142, attributes := #[] }, { accessFlags := 8, nameIndex := 501, descriptorIndex := 391, attributes := #[] }] 49 2 #[1106, 1108, 575, 1110, 1112] #[{ accessFlags := 18, nameIndex := 13, descriptorIndex := 14, attributes := #[] }, { accessFlags := 18, nameIndex := 17, descriptorIndex := 18, attributes := #[] }, { accessFlags := 2, nameIndex := 21, descriptorIndex := 22, attributes := #[] }, { accessFlags := 2, nameIndex := 25, descriptorIndex := 26, attributes := #[] }, { accessFlags := 26, nameIndex := 1116, descriptorIndex := 1117, attributes := #[] }, { accessFlags := 24, nameIndex := 40, descriptorIndex := 26, attributes := #[] }, { accessFlags := 26, nameIndex := 1101, descriptorIndex := 1102, attributes := #[] }, { accessFlags := 26, nameIndex := 1121, descriptorIndex := 1122, attributes := #[] }, { accessFlags := 25, nameIndex := 599, descriptorIndex := 600, attributes := #[] }, { accessFlags := 24, nameIndex := 1125, descriptorIndex := 18, attributes := #[] }, { accessFlags := 24, nameIndex := 1127, descriptorIndex := 18, attributes := #[] }])
  fields := #[{ name := "value", type := (.array .byte), accessFlags := 18, slot := 0, constantValue := 0 }, { name := "coder", type := .byte, accessFlags := 18, slot := 1, constantValue := 0 }, { name := "hash", type := .int, accessFlags := 2, slot := 2, constantValue := 0 }, { name := "hashIsZero", type := .boolean, accessFlags := 2, slot := 3, constantValue := 0 }, { name := "serialVersionUID", type := .long, accessFlags := 26, slot := 0, constantValue := 0 }, { name := "COMPACT_STRINGS", type := .boolean, accessFlags := 24, slot := 1, constantValue := 0 }, { name := "serialPersistentFields", type := (.array (.object "java/io/ObjectStreamField")), accessFlags := 26, slot := 2, constantValue := 0 }, { name := "REPL", type := .char, accessFlags := 26, slot := 3, constantValue := 0 }, { name := "CASE_INSENSITIVE_ORDER", type := (.object "java/util/Comparator"), accessFlags := 25, slot := 4, constantValue := 0 }, { name := "LATIN1", type := .byte, accessFlags := 24, slot := 5, constantValue := 0 }, { name := "UTF16", type := .byte, accessFlags := 24, slot := 6, constantValue := 0 }]
  methods := #[k8m0, k8m1, k8m2, k8m3]
  instanceTypes := #[(.array .byte), .byte, .int, .boolean]
  staticTypes := #[.long, .boolean, (.array (.object "java/io/ObjectStreamField")), .char, (.object "java/util/Comparator"), .byte, .byte]
  resolved := Array.replicate 1451 none
  statics := some 0 }

def pool9 : Array CpInfo := pool [(1, .class_ 2), (0, u "java/lang/String"), (1, .class_ 6), (1, u "java/lang/Object"), (0, u "<init>"), (0, u "()V"), (0, .methodref 1 10), (0, .nameAndType 11 12), (0, u "checkIndex"), (0, u "(II)V"), (1, .class_ 16), (1, u "java/lang/StringLatin1"), (36, u "([BI)C"), (67, u "$assertionsDisabled"), (0, u "Z"), (98, .class_ 223), (1, u "java/lang/StringLatin1$LinesSpliterator"), (28, u "charAt"), (137, .class_ 391), (0, u "java/lang/StringLatin1$CharsSpliterator")] 3

def k9m0 : Method := { name := "<init>", desc := "()V", sig := { parameters := [], returnType := none }, accessFlags := 0, code := none }
def k9c1 : Code := { maxStack := 2, maxLocals := 2, code := jdk_43_method_2_code, exceptionTable := #[], attributes := #[] }
def k9m1 : Method := { name := "charAt", desc := "([BI)C", sig := { parameters := [(.array .byte), .int], returnType := some .char }, accessFlags := 9, code := some k9c1 }
/-- java/lang/StringLatin1 -/
def k9 : Class := { plain "java/lang/StringLatin1" (some 0) with
  accessFlags := 48
  interfaces := #[]
  cf := some (fileOf pool9 14 #[.nestMembers #[390, 221]] #[{ accessFlags := 0, nameIndex := 7, descriptorIndex := 8, attributes := #[] }, { accessFlags := 9, nameIndex := 252, descriptorIndex := 53, attributes := #[] }] 48 4 #[] #[{ accessFlags := 4120, nameIndex := 121, descriptorIndex := 122, attributes := #[] }])
  fields := #[{ name := "$assertionsDisabled", type := .boolean, accessFlags := 4120, slot := 0, constantValue := 0 }]
  methods := #[k9m0, k9m1]
  instanceTypes := #[]
  staticTypes := #[.boolean]
  resolved := Array.replicate 395 none
  statics := none }

def pool10 : Array CpInfo := pool [(2, .class_ 4), (1, u "java/lang/Object"), (0, u "<init>"), (0, u "()V"), (17, .class_ 26), (1, u "jdk/internal/util/Preconditions"), (6, u "checkIndex"), (21, .class_ 56), (0, u "jdk/internal/util/Preconditions$4"), (57, .class_ 115), (0, u "jdk/internal/util/Preconditions$1"), (7, u "SIOOBE_FORMATTER"), (0, u "Ljava/util/function/BiFunction;"), (0, .class_ 126), (0, u "jdk/internal/util/Preconditions$2"), (3, u "AIOOBE_FORMATTER"), (0, .class_ 132), (0, u "jdk/internal/util/Preconditions$3"), (3, u "IOOBE_FORMATTER"), (41, u "(IILjava/util/function/BiFunction;)I")] 15

def k10m0 : Method := { name := "<init>", desc := "()V", sig := { parameters := [], returnType := none }, accessFlags := 1, code := none }
def k10c1 : Code := { maxStack := 3, maxLocals := 3, code := jdk_41_method_11_code, exceptionTable := #[], attributes := #[] }
def k10m1 : Method := { name := "checkIndex", desc := "(IILjava/util/function/BiFunction;)I", sig := { parameters := [.int, .int, (.object "java/util/function/BiFunction")], returnType := some .int }, accessFlags := 9, code := some k10c1 }
/-- jdk/internal/util/Preconditions -/
def k10 : Class := { plain "jdk/internal/util/Preconditions" (some 0) with
  accessFlags := 33
  interfaces := #[]
  cf := some (fileOf pool10 24 #[.nestMembers #[55, 131, 125, 114]] #[{ accessFlags := 1, nameIndex := 5, descriptorIndex := 6, attributes := #[] }, { accessFlags := 9, nameIndex := 33, descriptorIndex := 178, attributes := #[] }] 33 2 #[] #[{ accessFlags := 25, nameIndex := 123, descriptorIndex := 124, attributes := #[] }, { accessFlags := 25, nameIndex := 130, descriptorIndex := 124, attributes := #[] }, { accessFlags := 25, nameIndex := 136, descriptorIndex := 124, attributes := #[] }])
  fields := #[{ name := "SIOOBE_FORMATTER", type := (.object "java/util/function/BiFunction"), accessFlags := 25, slot := 0, constantValue := 0 }, { name := "AIOOBE_FORMATTER", type := (.object "java/util/function/BiFunction"), accessFlags := 25, slot := 1, constantValue := 0 }, { name := "IOOBE_FORMATTER", type := (.object "java/util/function/BiFunction"), accessFlags := 25, slot := 2, constantValue := 0 }]
  methods := #[k10m0, k10m1]
  instanceTypes := #[]
  staticTypes := #[(.object "java/util/function/BiFunction"), (.object "java/util/function/BiFunction"), (.object "java/util/function/BiFunction")]
  resolved := Array.replicate 194 none
  statics := some 1 }

def pool11 : Array CpInfo := pool [(9, u "<init>"), (6, .class_ 18), (1, u "java/lang/Object"), (0, u "()V"), (1, .class_ 23), (1, u "jdk/internal/util/ArraysSupport"), (0, u "LOG2_ARRAY_LONG_INDEX_SCALE"), (0, u "I"), (2, u "U"), (0, u "Ljdk/internal/misc/Unsafe;"), (8, u "BIG_ENDIAN"), (0, u "Z"), (8, u "LOG2_BYTE_BIT_SIZE"), (4, u "LOG2_ARRAY_INT_INDEX_SCALE"), (54, u "JLA"), (0, u "Ljdk/internal/access/JavaLangAccess;"), (11, u "LOG2_ARRAY_BOOLEAN_INDEX_SCALE"), (9, u "LOG2_ARRAY_BYTE_INDEX_SCALE"), (5, u "LOG2_ARRAY_CHAR_INDEX_SCALE"), (5, u "LOG2_ARRAY_SHORT_INDEX_SCALE"), (18, u "LOG2_ARRAY_FLOAT_INDEX_SCALE"), (24, u "LOG2_ARRAY_DOUBLE_INDEX_SCALE"), (89, u "T_BOOLEAN"), (2, u "T_CHAR"), (1, u "T_FLOAT"), (1, u "T_DOUBLE"), (1, u "T_BYTE"), (1, u "T_SHORT"), (1, u "T_INT"), (1, u "T_LONG"), (1, u "SOFT_MAX_ARRAY_LENGTH")] 83

def k11m0 : Method := { name := "<init>", desc := "()V", sig := { parameters := [], returnType := none }, accessFlags := 2, code := none }
/-- jdk/internal/util/ArraysSupport -/
def k11 : Class := { plain "jdk/internal/util/ArraysSupport" (some 0) with
  accessFlags := 33
  interfaces := #[]
  cf := some (fileOf pool11 21 #[] #[{ accessFlags := 2, nameIndex := 9, descriptorIndex := 19, attributes := #[] }] 33 16 #[] #[{ accessFlags := 24, nameIndex := 28, descriptorIndex := 29, attributes := #[] }, { accessFlags := 26, nameIndex := 38, descriptorIndex := 39, attributes := #[] }, { accessFlags := 25, nameIndex := 121, descriptorIndex := 25, attributes := #[] }, { accessFlags := 25, nameIndex := 131, descriptorIndex := 25, attributes := #[] }, { accessFlags := 25, nameIndex := 137, descriptorIndex := 25, attributes := #[] }, { accessFlags := 25, nameIndex := 143, descriptorIndex := 25, attributes := #[] }, { accessFlags := 25, nameIndex := 53, descriptorIndex := 25, attributes := #[] }, { accessFlags := 25, nameIndex := 24, descriptorIndex := 25, attributes := #[] }, { accessFlags := 25, nameIndex := 162, descriptorIndex := 25, attributes := #[] }, { accessFlags := 25, nameIndex := 187, descriptorIndex := 25, attributes := #[] }, { accessFlags := 26, nameIndex := 48, descriptorIndex := 25, attributes := #[] }, { accessFlags := 25, nameIndex := 277, descriptorIndex := 25, attributes := #[] }, { accessFlags := 25, nameIndex := 280, descriptorIndex := 25, attributes := #[] }, { accessFlags := 25, nameIndex := 282, descriptorIndex := 25, attributes := #[] }, { accessFlags := 25, nameIndex := 284, descriptorIndex := 25, attributes := #[] }, { accessFlags := 25, nameIndex := 286, descriptorIndex := 25, attributes := #[] }, { accessFlags := 25, nameIndex := 288, descriptorIndex := 25, attributes := #[] }, { accessFlags := 25, nameIndex := 290, descriptorIndex := 25, attributes := #[] }, { accessFlags := 25, nameIndex := 292, descriptorIndex := 25, attributes := #[] }, { accessFlags := 26, nameIndex := 108, descriptorIndex := 109, attributes := #[] }, { accessFlags := 25, nameIndex := 294, descriptorIndex := 25, attributes := #[] }])
  fields := #[{ name := "U", type := (.object "jdk/internal/misc/Unsafe"), accessFlags := 24, slot := 0, constantValue := 0 }, { name := "BIG_ENDIAN", type := .boolean, accessFlags := 26, slot := 1, constantValue := 0 }, { name := "LOG2_ARRAY_BOOLEAN_INDEX_SCALE", type := .int, accessFlags := 25, slot := 2, constantValue := 0 }, { name := "LOG2_ARRAY_BYTE_INDEX_SCALE", type := .int, accessFlags := 25, slot := 3, constantValue := 0 }, { name := "LOG2_ARRAY_CHAR_INDEX_SCALE", type := .int, accessFlags := 25, slot := 4, constantValue := 0 }, { name := "LOG2_ARRAY_SHORT_INDEX_SCALE", type := .int, accessFlags := 25, slot := 5, constantValue := 0 }, { name := "LOG2_ARRAY_INT_INDEX_SCALE", type := .int, accessFlags := 25, slot := 6, constantValue := 0 }, { name := "LOG2_ARRAY_LONG_INDEX_SCALE", type := .int, accessFlags := 25, slot := 7, constantValue := 0 }, { name := "LOG2_ARRAY_FLOAT_INDEX_SCALE", type := .int, accessFlags := 25, slot := 8, constantValue := 0 }, { name := "LOG2_ARRAY_DOUBLE_INDEX_SCALE", type := .int, accessFlags := 25, slot := 9, constantValue := 0 }, { name := "LOG2_BYTE_BIT_SIZE", type := .int, accessFlags := 26, slot := 10, constantValue := 0 }, { name := "T_BOOLEAN", type := .int, accessFlags := 25, slot := 11, constantValue := 0 }, { name := "T_CHAR", type := .int, accessFlags := 25, slot := 12, constantValue := 0 }, { name := "T_FLOAT", type := .int, accessFlags := 25, slot := 13, constantValue := 0 }, { name := "T_DOUBLE", type := .int, accessFlags := 25, slot := 14, constantValue := 0 }, { name := "T_BYTE", type := .int, accessFlags := 25, slot := 15, constantValue := 0 }, { name := "T_SHORT", type := .int, accessFlags := 25, slot := 16, constantValue := 0 }, { name := "T_INT", type := .int, accessFlags := 25, slot := 17, constantValue := 0 }, { name := "T_LONG", type := .int, accessFlags := 25, slot := 18, constantValue := 0 }, { name := "JLA", type := (.object "jdk/internal/access/JavaLangAccess"), accessFlags := 26, slot := 19, constantValue := 0 }, { name := "SOFT_MAX_ARRAY_LENGTH", type := .int, accessFlags := 25, slot := 20, constantValue := 0 }]
  methods := #[k11m0]
  instanceTypes := #[]
  staticTypes := #[(.object "jdk/internal/misc/Unsafe"), .boolean, .int, .int, .int, .int, .int, .int, .int, .int, .int, .int, .int, .int, .int, .int, .int, .int, .int, (.object "jdk/internal/access/JavaLangAccess"), .int]
  resolved := Array.replicate 378 none
  statics := none }

def pool12 : Array CpInfo := pool [(1, u "java/lang/Cloneable"), (0, .class_ 1), (0, u "java/lang/Object"), (0, .class_ 3)] 3

/-- java/lang/Cloneable -/
def k12 : Class := { plain "java/lang/Cloneable" (some 0) with
  accessFlags := 1537
  interfaces := #[]
  cf := some (fileOf pool12 2 #[] #[] 1537 4 #[] #[])
  fields := #[]
  methods := #[]
  instanceTypes := #[]
  staticTypes := #[]
  resolved := Array.replicate 8 none
  statics := none }

/-- the primitive byte -/
def k13 : Class := { plain "byte" none with kind := .primitive 'B', accessFlags := 0x411 }
/-- [B -/
def k14 : Class := { plain "[B" (some 0) with kind := .array 13 .byte, interfaces := #[12, 3], accessFlags := 1041 }

/-- the primitive int -/
def k15 : Class := { plain "int" none with kind := .primitive 'I', accessFlags := 0x411 }
/-- [I -/
def k16 : Class := { plain "[I" (some 0) with kind := .array 15 .int, interfaces := #[12, 3], accessFlags := 1041 }

def heap : Heap := #[{ cls := 8, slots := #[.long 0, .int 1, .null, .int 0, .null, .int 0, .int 0], vm := .statics 8 },
  { cls := 10, slots := #[.null, .null, .null], vm := .statics 10 }]
def classes : Array Class := #[k0, k1, k2, k3, k4, k5, k6, k7, k8, k9, k10, k11, k12, k13, k14, k15, k16]
def interned : List (Array UInt16 × Addr) := []
def slotsUsed : Nat := 10
def theMethod : MethodId := ⟨1, 1⟩
def args0 : Array Value := #[.long 5, .int 5, .int 5, .int 5]
def aboutOver (below : List Frame) : State where
  vm := { classes := classes, interned := interned.toArray }
  heap := heap
  slotsUsed := slotsUsed
  threads := #[{ frames := .invoking theMethod args0 :: below }]
def below0 : List Frame := [.native { method := ⟨0, 0⟩, args := #[] }]
def about1 : State := aboutOver below0
def p0 : Program := .bare "" "" ""
def e0 : Env := launch0.env 0 0 0
theorem w_frames : about1.frames = Frame.invoking theMethod args0 :: below0 := rfl
set_option maxRecDepth 65536 in
theorem w_args : argsFit about1.vm theMethod args0 = true := by decide +kernel
set_option maxRecDepth 65536 in
theorem w_heap : heapFits about1 = true := by decide +kernel
set_option maxRecDepth 65536 in
theorem w_runnable : about1.curStatus? = some .runnable := by decide +kernel
set_option maxRecDepth 65536 in
theorem w_alone : about1.alone = true := by decide +kernel
set_option maxRecDepth 65536 in
theorem w_named : about1.methodNamed? x = some theMethod := by decide +kernel
set_option maxRecDepth 65536 in
theorem w_hears : about1.hears theMethod below0 = true := by decide +kernel
set_option maxRecDepth 65536 in
theorem w_ripe : about1.ripe theMethod args0 below0 = true := by decide +kernel
theorem w_running : about1.status = .running := rfl
set_option maxRecDepth 65536 in
theorem w_room : about1.hasRoom e0.platform room_1 = true :=
  launch0.hasRoom_least _ room_1 (by decide +kernel) (by decide +kernel) (by decide +kernel) (by decide +kernel) (by decide +kernel) (by decide +kernel)
theorem allAtoms_all (ts : List Jvm.Cond) (a : Array Jvm.Value) (st : Jvm.State) : (allAtoms ts).before a st = ts.all (fun c => c.before a st) := by
  induction ts with
  | nil => rfl
  | cons c t ih =>
    show (Jvm.Cond.and c (allAtoms t)).before a st = _
    rw [Jvm.Cond.before_and, ih, List.all_cons]
def words1 : List Jvm.Cond := Jvm.Cond.code x code maxLocals ret :: tables_1
/-- a 'code' word, met by the world's own term for the bytes: nothing is compared byte by byte -/
theorem code_word {y : MethodName} {bytes : ByteArray} {mx : Nat} {rt : Option FieldType} {a : Array Value} {s : State} {m : MethodId} {meth : Method} {c : Code} (h1 : s.methodNamed? y = some m) (h2 : s.vm.method? m = some meth) (h3 : meth.code = some c) (h4 : c.code = bytes)
    (h5 : (c.maxLocals == mx && c.exceptionTable.isEmpty && decide (c.maxStack ≤ mostOperands) && decide (meth.sig.returnType = rt) && !meth.locks && decide (parseMethodDescriptor y.desc = some meth.sig)) = true) : (Jvm.Cond.code y bytes mx rt).before a s = true := by
  simp only [Bool.and_eq_true, beq_iff_eq, Bool.not_eq_true', decide_eq_true_eq] at h5
  obtain ⟨⟨⟨⟨⟨g1, g2⟩, g3⟩, g4⟩, g5⟩, g6⟩ := h5
  simp [Cond.before, Cond.holds, Cond.value, h1, h2, h3, h4, g1, g2, g3, g4, g5, g6]
def isCode : Jvm.Cond → Bool
  | .code _ _ _ _ => true
  | _ => false
theorem all_split {L : List Jvm.Cond} {P : Jvm.Cond → Bool} (h1 : L.all (fun c => isCode c || P c) = true) (h2 : ∀ c ∈ L.filter isCode, P c = true) : L.all P = true := by
  refine List.all_eq_true.mpr fun c hc => ?_
  have h := List.all_eq_true.mp h1 c hc
  rcases Bool.eq_false_or_eq_true (isCode c) with hi | hi
  · exact h2 c (List.mem_filter.mpr ⟨hc, hi⟩)
  · simpa [hi] using h
set_option maxRecDepth 65536 in
theorem w_c0 : (Jvm.Cond.code x code maxLocals ret).before args0 about1 = true := code_word (m := ⟨1, 1⟩) (meth := k1m1) (c := k1c1) (by decide +kernel) rfl rfl rfl (by decide +kernel)
set_option maxRecDepth 65536 in
theorem w_c1 : (Jvm.Cond.code ({ cls := "com/example/brannan/bench/ScanTable", name := "value", desc := "(JI)[B" } : Jvm.MethodName) prog_2_method_3_code (7 : Nat) (Option.some (Jvm.ClassFile.FieldType.array Jvm.ClassFile.FieldType.byte))).before args0 about1 = true := code_word (m := ⟨2, 1⟩) (meth := k2m1) (c := k2c1) (by decide +kernel) rfl rfl rfl (by decide +kernel)
set_option maxRecDepth 65536 in
theorem w_c2 : (Jvm.Cond.code ({ cls := "java/lang/String", name := "charAt", desc := "(I)C" } : Jvm.MethodName) jdk_42_method_56_code (2 : Nat) (Option.some Jvm.ClassFile.FieldType.char)).before args0 about1 = true := code_word (m := ⟨8, 1⟩) (meth := k8m1) (c := k8c1) (by decide +kernel) rfl rfl rfl (by decide +kernel)
set_option maxRecDepth 65536 in
theorem w_c3 : (Jvm.Cond.code ({ cls := "java/lang/String", name := "isLatin1", desc := "()Z" } : Jvm.MethodName) jdk_42_method_154_code (1 : Nat) (Option.some Jvm.ClassFile.FieldType.boolean)).before args0 about1 = true := code_word (m := ⟨8, 2⟩) (meth := k8m2) (c := k8c2) (by decide +kernel) rfl rfl rfl (by decide +kernel)
set_option maxRecDepth 65536 in
theorem w_c4 : (Jvm.Cond.code ({ cls := "java/lang/StringLatin1", name := "charAt", desc := "([BI)C" } : Jvm.MethodName) jdk_43_method_2_code (2 : Nat) (Option.some Jvm.ClassFile.FieldType.char)).before args0 about1 = true := code_word (m := ⟨9, 1⟩) (meth := k9m1) (c := k9c1) (by decide +kernel) rfl rfl rfl (by decide +kernel)
set_option maxRecDepth 65536 in
theorem w_c5 : (Jvm.Cond.code ({ cls := "java/lang/String", name := "checkIndex", desc := "(II)V" } : Jvm.MethodName) jdk_42_method_155_code (2 : Nat) (Option.none : Option Jvm.ClassFile.FieldType)).before args0 about1 = true := code_word (m := ⟨8, 3⟩) (meth := k8m3) (c := k8c3) (by decide +kernel) rfl rfl rfl (by decide +kernel)
set_option maxRecDepth 65536 in
theorem w_c6 : (Jvm.Cond.code ({ cls := "jdk/internal/util/Preconditions", name := "checkIndex", desc := "(IILjava/util/function/BiFunction;)I" } : Jvm.MethodName) jdk_41_method_11_code (3 : Nat) (Option.some Jvm.ClassFile.FieldType.int)).before args0 about1 = true := code_word (m := ⟨10, 1⟩) (meth := k10m1) (c := k10c1) (by decide +kernel) rfl rfl rfl (by decide +kernel)
def codes1 : List Jvm.Cond := [Jvm.Cond.code x code maxLocals ret, Jvm.Cond.code ({ cls := "com/example/brannan/bench/ScanTable", name := "value", desc := "(JI)[B" } : Jvm.MethodName) prog_2_method_3_code (7 : Nat) (Option.some (Jvm.ClassFile.FieldType.array Jvm.ClassFile.FieldType.byte)), Jvm.Cond.code ({ cls := "java/lang/String", name := "charAt", desc := "(I)C" } : Jvm.MethodName) jdk_42_method_56_code (2 : Nat) (Option.some Jvm.ClassFile.FieldType.char), Jvm.Cond.code ({ cls := "java/lang/String", name := "isLatin1", desc := "()Z" } : Jvm.MethodName) jdk_42_method_154_code (1 : Nat) (Option.some Jvm.ClassFile.FieldType.boolean), Jvm.Cond.code ({ cls := "java/lang/StringLatin1", name := "charAt", desc := "([BI)C" } : Jvm.MethodName) jdk_43_method_2_code (2 : Nat) (Option.some Jvm.ClassFile.FieldType.char), Jvm.Cond.code ({ cls := "java/lang/String", name := "checkIndex", desc := "(II)V" } : Jvm.MethodName) jdk_42_method_155_code (2 : Nat) (Option.none : Option Jvm.ClassFile.FieldType), Jvm.Cond.code ({ cls := "jdk/internal/util/Preconditions", name := "checkIndex", desc := "(IILjava/util/function/BiFunction;)I" } : Jvm.MethodName) jdk_41_method_11_code (3 : Nat) (Option.some Jvm.ClassFile.FieldType.int)]
set_option maxRecDepth 65536 in
theorem codes_eq : words1.filter isCode = codes1 := rfl
theorem w_codes : ∀ c ∈ words1.filter isCode, c.before args0 about1 = true := by
  rw [codes_eq]
  intro c hc
  simp only [codes1, List.mem_cons, List.not_mem_nil, or_false] at hc
  rcases hc with rfl | rfl | rfl | rfl | rfl | rfl | rfl
  · exact w_c0
  · exact w_c1
  · exact w_c2
  · exact w_c3
  · exact w_c4
  · exact w_c5
  · exact w_c6
set_option maxRecDepth 65536 in
theorem w_t1 : (words1.take 24).all (fun c => isCode c || c.before args0 about1) = true := by decide +kernel
set_option maxRecDepth 65536 in
theorem w_t2 : ((words1.drop 24).take 24).all (fun c => isCode c || c.before args0 about1) = true := by decide +kernel
set_option maxRecDepth 65536 in
theorem w_t3 : ((words1.drop 24).drop 24).all (fun c => isCode c || c.before args0 about1) = true := by decide +kernel
theorem w_tables : (allAtoms (Jvm.Cond.code x code maxLocals ret :: tables_1)).before args0 about1 = true := by
  rw [allAtoms_all]
  show words1.all (fun c => c.before args0 about1) = true
  refine all_split ?_ w_codes
  rw [← List.take_append_drop 24 words1, List.all_append, w_t1, ← List.take_append_drop 24 (words1.drop 24), List.all_append, w_t2, w_t3]
  rfl
set_option maxRecDepth 65536 in
theorem w_rest : rest_1_c.before args0 about1 = true := by decide +kernel
set_option maxRecDepth 65536 in
theorem w_case : (Jvm.Cond.and given_1 narrow_1).before args0 about1 = true := by decide +kernel
set_option maxRecDepth 65536 in
theorem w_consts : constsHeld consts_1 about1 := Jvm.Lit.constsHeldB_iff.mp (by decide +kernel)
theorem w_applies : (headSpec (Jvm.Cond.code x code maxLocals ret :: tables_1) room_1).applies x e0.platform about1 = true :=
  (Spec.applies_iff w_frames).mpr ⟨w_running, w_runnable, w_alone, w_named, w_hears, w_ripe, w_room, w_tables⟩
theorem atStart : AtStart classFile x code maxLocals ret World_1 tables_1 room_1 Calls_1 rest_1 Pre_1 launch0 p0 e0 about1 theMethod args0 below0 :=
  ⟨lists_1, trivial, launch0.admits_env _ _ _, launch0.least_env, fairChoices_fair.cas, fairChoices_fair.clock, w_frames, w_args, w_heap, w_applies, ⟨w_consts, trivial⟩, w_rest, w_case⟩
end start1
theorem witness_1 : WitnessClaimed_1 := ⟨start1.p0, start1.e0, start1.about1, start1.theMethod, start1.args0, start1.below0, start1.atStart⟩
end Jvm.Pilot.@@N@@
