import JvmDerived
import JvmDerived.Pilot.@@N@@Statement
import JvmDerived.Pilot.@@N@@Code
set_option linter.unusedVariables false
set_option linter.unusedSimpArgs false

namespace Jvm.RoadKit
open Sem ClassFile Op Lib Jvm.Stand Jvm.Free Jvm.LawKit
section New
variable {p : Program} {l : Launch} {e : Env} {R : Room} {s : State} {m : MethodId} {args : Array Value} {below : List Frame} {meth : Method} {c : Code} {T : State} {locs : List Loc} {cells slots : Nat}
theorem retI (X : Stand p l e R s m args below meth c T locs cells slots) (hx : p.tables.exec = Jvm.exec) {pc : Nat} {Ls : Array Slot} {z : Int32} {rest : List Value} (hret : meth.sig.returnType = some .int) (hd : decode c.code pc = .ok (.ireturn, 1)) {fs : List Frame}
    (hl : ∀ (f : JFrame) (acts : List Action), f.method = m → f.locked = none → f.entered = [] → (doReturn e (T.setTop f) acts (some (.int z))).1 = T.setFrames fs) : Steps p.tables e below (T.setTop (mkF m pc Ls (.int z :: rest))) (T.setFrames fs) := by
  have hm' : T.vm.method? m = some meth := X.method'
  have hn : narrow .int (.int z) = .int z := rfl
  show Steps p.tables e below (T.setTop { method := m, pc := pc, locals := Ls, stack := _ :: rest, locked := none }) _
  jvm_step X.here [X.here.top, hx, hd, hm', hret, hn]
  first | (intro acts; rw [hl _ acts rfl rfl rfl]) | rw [hl _ _ rfl rfl rfl]
  exact Steps.refl _
theorem own_lrem {g : JFrame} {target : State} (X : Stand p l e R s m args below meth c T locs cells slots) (hx : p.tables.exec = Jvm.exec) (hg : g.method = m) {x y : Int64} {rest : List Value} (hd : decode c.code g.pc = .ok (.lrem, 1)) (hs : g.stack = .long y :: .long x :: rest) (hy : y ≠ 0)
    (hr : Steps p.tables e below (T.setTop { g with pc := g.pc + 1, stack := .long (x % y) :: rest }) target) : Steps p.tables e below (T.setTop g) target := by
  have q : x - x / y * y = x % y := lrem_mod x y
  exact XS.lrem X.here hx hg hd hs hy (by rw [q]; exact hr)
end New
end Jvm.RoadKit

namespace Jvm.Pilot.@@N@@
open Jvm Jvm.ClassFile Sem Op Lib Jvm.Free Jvm.Stand Jvm.LawKit Jvm.RoadKit Bundle Jvm.Pilot.@@N@@.Jvm.D
def own_pk (a b c d : Int32) : Int32 := if ((a >>> (b &&& 31)) &&& (1 : Int32)) = (0 : Int32) then ((d.toInt8.toInt32).toInt8.toInt32) else ((c.toInt8.toInt32).toInt8.toInt32)
theorem own_by (x : Int32) : -128 ≤ (x.toInt8.toInt32).toInt ∧ (x.toInt8.toInt32).toInt < 128 := (c_i2b x).2
theorem own_pkr (a b c d : Int32) : -128 ≤ (own_pk a b c d).toInt ∧ (own_pk a b c d).toInt < 128 := by
  unfold own_pk; split <;> exact own_by _
def own_st (x y z : Int32) : Int32 := if x = (-17 : Int32) ∧ y = (-69 : Int32) ∧ z = (-65 : Int32) then (3 : Int32) else (0 : Int32)
theorem own_m (x a b : Int32) (h : -128 ≤ x.toInt ∧ x.toInt < 128) (hb : -128 ≤ b.toInt ∧ b.toInt < 128) (e : a.toInt = b.toInt % 256) : (x &&& (255 : Int32)) = a ↔ (x.toInt8.toInt32) = b := by
  have a1 := c_mask x 255 8 (by decide) (by decide)
  have a2 := c_i2b x
  simp only [show ((2 ^ 8 : Nat) : Int) = 256 from rfl, ← Int32.toInt_inj] at *
  omega
theorem own_mod5 (a : Int32) : ((a &&& (2147483647 : Int32)) % (5 : Int32)) = (0 : Int32) ∨ ((a &&& (2147483647 : Int32)) % (5 : Int32)) = (1 : Int32) ∨ ((a &&& (2147483647 : Int32)) % (5 : Int32)) = (2 : Int32) ∨ ((a &&& (2147483647 : Int32)) % (5 : Int32)) = (3 : Int32) ∨ ((a &&& (2147483647 : Int32)) % (5 : Int32)) = (4 : Int32) := by
  have h1 := c_mask a 2147483647 31 (by decide) (by decide)
  have h2 := (c_irem (a &&& (2147483647 : Int32)) 5 5 rfl).1
  simp only [← Int32.toInt_inj, Int32.reduceToInt]
  omega
theorem own_int {s : State} {args : Array Value} {t : Term} {w : Int32} (h : (Cond.eq t (.int w)).value args s none s [] = some true) : t.eval args s none [] s = some (.int w) := by
  simp only [Cond.value, Term.int_eval] at h
  revert h
  cases hq : t.eval args s none [] s with
  | none => simp
  | some v => cases v <;> simp
theorem own_el {s : State} {args : Array Value} {t : Term} {a : Addr} {cl : Cell} {j w : Int32} (ev : t.eval args s none [] s = some (.ref a)) (hA : s.arrayAt? a = some cl) (hj : ¬ j < 0) (h : (Cond.eq (.elem t (.int j)) (.int w)).value args s none s [] = some true) : cl.slots[j.toNatClampNeg]? = some (.int w) := by
  rw [← elem_f (idx := []) (first := s) (o := none) ev (Term.int_eval j) hA hj]; exact own_int h
theorem own_ln {s : State} {args : Array Value} {t : Term} {a : Addr} {cl : Cell} {w : Int32} (ev : t.eval args s none [] s = some (.ref a)) (hA : s.arrayAt? a = some cl) (h : (Cond.eq (.length t) (.int w)).value args s none s [] = some true) : cl.slots.size < 2 ^ 31 ∧ cl.slots.size.toInt32 = w := by
  have h1 := own_int h
  obtain ⟨a', cl', ha', hA', hs, hv⟩ := Jvm.Lib.length_spec h1
  cases ev.symm.trans ha'
  cases hA.symm.trans hA'
  exact ⟨hs, (Value.int.inj hv).symm⟩
theorem own_arr {s : State} {args : Array Value} {t : Term} {a : Addr} {cl : Cell} (hf : Fit s) (ev : t.eval args s none [] s = some (.ref a)) (A : Arr s s.heap a cl .byte) {x y z : Int32}
    (h : (Cond.eq (.length t) (.int (3 : Int32))).value args s none s [] = some true) (h0 : (Cond.eq (.elem t (.int (0 : Int32))) (.int x)).value args s none s [] = some true) (h1 : (Cond.eq (.elem t (.int (1 : Int32))) (.int y)).value args s none s [] = some true) (h2 : (Cond.eq (.elem t (.int (2 : Int32))) (.int z)).value args s none s [] = some true) :
    Arv s s.heap a cl.cls .byte (3 : Int32) [.int x, .int y, .int z] (.int (0 : Int32)) := by
  have hA := Arr.fin (Z := s) (U := s) (State.Warmed39.refl s).alike A
  obtain ⟨q, e⟩ := own_ln ev hA h
  exact Arv.start hf A q e (by decide) rfl ⟨own_el ev hA (by decide) h0, own_el ev hA (by decide) h1, own_el ev hA (by decide) h2, trivial⟩
theorem pd_0 : parseMethodDescriptor "(IIII)B" = some ⟨[.int, .int, .int, .int], some .byte⟩ := by decide +kernel
theorem pd_1 : parseMethodDescriptor "([B)I" = some ⟨[(.array .byte)], some .int⟩ := by decide +kernel
theorem d1_0 : decode method_3_code 0 = .ok (.iload_n 0, 1) := by decide +kernel
theorem d1_1 : decode method_3_code 1 = .ok (.iload_n 1, 1) := by decide +kernel
theorem d1_2 : decode method_3_code 2 = .ok (.ishr, 1) := by decide +kernel
theorem d1_3 : decode method_3_code 3 = .ok (.iconst 1, 1) := by decide +kernel
theorem d1_4 : decode method_3_code 4 = .ok (.iand, 1) := by decide +kernel
theorem d1_5 : decode method_3_code 5 = .ok (.ifCond .eq 8, 3) := by decide +kernel
theorem d1_8 : decode method_3_code 8 = .ok (.iload_n 2, 1) := by decide +kernel
theorem d1_9 : decode method_3_code 9 = .ok (.i2b, 1) := by decide +kernel
theorem d1_10 : decode method_3_code 10 = .ok (.goto 5, 3) := by decide +kernel
theorem d1_13 : decode method_3_code 13 = .ok (.iload_n 3, 1) := by decide +kernel
theorem d1_14 : decode method_3_code 14 = .ok (.i2b, 1) := by decide +kernel
theorem d1_15 : decode method_3_code 15 = .ok (.ireturn, 1) := by decide +kernel
theorem pn_1 : plainName "com/example/ratewright/ratewright/io/Utf8TextStartPinLaw" = true := by first | (simp [plainName, overriddenIn]; done) | decide +kernel
theorem ef_1 (m : MethodId) (x0 : Int32) (x1 : Int32) (x2 : Int32) (x3 : Int32) : entryFrame m #[(.int x0), (.int x1), (.int x2), (.int x3)] 4 = mkF m 0 #[.val (.int x0), .val (.int x1), .val (.int x2), .val (.int x3)] [] := by first | (simp [entryFrame, mkF, argsToLocals, Value.category]; done) | rfl
def Q1 (Z : State) (p0 : Int32) (p1 : Int32) (p2 : Int32) (p3 : Int32) (h0 : Heap) (n0 : Nat) (v : Option Value) (h : Heap) (L : List Loc) : Prop := v = some (.int (own_pk p0 p1 p2 p3)) ∧ Fr n0 L ∧ h = h0
set_option maxRecDepth 65536 in
set_option maxHeartbeats 40000000 in
theorem rm1 (l : Launch) (Z : State) (a0 : Array Value) (hw : ∀ d ∈ tables_1, d.before a0 Z = true) (ws : List Jvm.Cond) (p0 : Int32) (p1 : Int32) (p2 : Int32) (p3 : Int32)  (h0 : Heap) (n0 : Nat) (Z0 : n0 ≤ h0.size) :
    MetFree l (⟨"com/example/ratewright/ratewright/io/Utf8TextStartPinLaw", "pick", "(IIII)B"⟩ : MethodName) (head1 (Jvm.Cond.code (⟨"com/example/ratewright/ratewright/io/Utf8TextStartPinLaw", "pick", "(IIII)B"⟩ : MethodName) method_3_code 4 (some .byte) :: ws) ({ frames := 0, cells := 0, slots := 0, locals := 0 } : Room)) (fun a U => a = #[(.int p0), (.int p1), (.int p2), (.int p3)] ∧ Z.Warmed39 U.vm ∧ U.heap = h0) (fun _ _ _ _ _ => True) (fun _ U o U' => ∃ v L, o = .returned v ∧ Q1 Z p0 p1 p2 p3 h0 n0 v U'.heap L ∧ FrameEnd U o U' L ({ frames := 0, cells := 0, slots := 0, locals := 0 } : Room).cells ({ frames := 0, cells := 0, slots := 0, locals := 0 } : Room).slots) := by
  refine MetFree.of_bodySF (plainFor_of_name pn_1) hisR ?_
  intro p e s m args below meth c s₁ Bd hml0 hP hK
  obtain ⟨rfl, hZ, hh⟩ := hP
  have hx := Bd.exec
  have hby := Bd.bytes
  have hml : c.maxLocals = 4 := hml0
  have hown : s.vm.findClass "com/example/ratewright/ratewright/io/Utf8TextStartPinLaw" = some m.cls := findClass_of_methodNamed Bd.named
  have hnm := (name_of_methodNamed Bd.named Bd.method).1
  have X0 : Stand p l e ({ frames := 0, cells := 0, slots := 0, locals := 0 } : Room) s m #[(.int p0), (.int p1), (.int p2), (.int p3)] below meth c s₁ [] 0 0 := Stand.of_body Bd
  have e0 : s₁.heap = h0 := by rw [← hh, Bd.state]; rfl
  have N0 := Fr.nil n0
  have pre0 : ∀ t, Steps p.tables e below (s₁.setTop (mkF m 0 #[.val (.int p0), .val (.int p1), .val (.int p2), .val (.int p3)] [])) t → Steps p.tables e below (s₁.setTop (entryFrame m #[(.int p0), (.int p1), (.int p2), (.int p3)] 4)) t := fun t k => castTop (ef_1 m p0 p1 p2 p3) k
  have c1 : ∀ t, Steps p.tables e below (s₁.setTop (mkF m 5 #[.val (.int p0), .val (.int p1), .val (.int p2), .val (.int p3)] [(.int ((p0 >>> (p1 &&& 31)) &&& (1 : Int32)))])) t → Steps p.tables e below (s₁.setTop (mkF m 0 #[.val (.int p0), .val (.int p1), .val (.int p2), .val (.int p3)] [])) t := by
    intro t kt
    show Steps p.tables e below (s₁.setTop (mkF m 0 #[.val (.int p0), .val (.int p1), .val (.int p2), .val (.int p3)] [])) _
    refine XS.iloadN X0.here hx rfl (hb hby d1_0) rfl ?_
    show Steps p.tables e below (s₁.setTop (mkF m 1 #[.val (.int p0), .val (.int p1), .val (.int p2), .val (.int p3)] [(.int p0)])) _
    refine XS.iloadN X0.here hx rfl (hb hby d1_1) rfl ?_
    show Steps p.tables e below (s₁.setTop (mkF m 2 #[.val (.int p0), .val (.int p1), .val (.int p2), .val (.int p3)] [(.int p1), (.int p0)])) _
    refine XS.ishr X0.here hx rfl (hb hby d1_2) rfl ?_
    show Steps p.tables e below (s₁.setTop (mkF m 3 #[.val (.int p0), .val (.int p1), .val (.int p2), .val (.int p3)] [(.int (p0 >>> (p1 &&& 31)))])) _
    refine XS.iconst X0.here hx rfl (hb hby d1_3) ?_
    show Steps p.tables e below (s₁.setTop (mkF m 4 #[.val (.int p0), .val (.int p1), .val (.int p2), .val (.int p3)] [(.int (1 : Int32)), (.int (p0 >>> (p1 &&& 31)))])) _
    refine XS.iand X0.here hx rfl (hb hby d1_4) rfl ?_
    exact kt
  by_cases hc5 : ((p0 >>> (p1 &&& 31)) &&& (1 : Int32)) = (0 : Int32)
  · -- it is
    have c2 : ∀ t, Steps p.tables e below (s₁.setTop (mkF m 15 #[.val (.int p0), .val (.int p1), .val (.int p2), .val (.int p3)] [(.int (p3.toInt8.toInt32))])) t → Steps p.tables e below (s₁.setTop (mkF m 5 #[.val (.int p0), .val (.int p1), .val (.int p2), .val (.int p3)] [(.int ((p0 >>> (p1 &&& 31)) &&& (1 : Int32)))])) t := by
      intro t kt
      show Steps p.tables e below (s₁.setTop (mkF m 5 #[.val (.int p0), .val (.int p1), .val (.int p2), .val (.int p3)] [(.int ((p0 >>> (p1 &&& 31)) &&& (1 : Int32)))])) _
      refine XS.ifYes X0.here hx rfl (pc0 := 5) (pc' := 13) rfl (hb hby d1_5) rfl ((if0 _ _).trans (teq hc5).1) (by decide) (by decide) ?_
      show Steps p.tables e below (s₁.setTop (mkF m 13 #[.val (.int p0), .val (.int p1), .val (.int p2), .val (.int p3)] [])) _
      refine XS.iloadN X0.here hx rfl (hb hby d1_13) rfl ?_
      show Steps p.tables e below (s₁.setTop (mkF m 14 #[.val (.int p0), .val (.int p1), .val (.int p2), .val (.int p3)] [(.int p3)])) _
      refine XS.i2b X0.here hx rfl (hb hby d1_14) rfl ?_
      exact kt
    obtain ⟨fs, hr, hrun, hended, hW, hsame⟩ := X0.leave (v := some (.int ((p3.toInt8.toInt32).toInt8.toInt32))) (fun h => by rw [Bd.returns] at h; cases h)
    refine ⟨_, _, pre0 _ (c1 _ (c2 _ (?_))), hrun, hended, _, _, rfl, ?_, ⟨_, rfl⟩, hW, hsame.mono (by decide) (by decide)⟩
    · show Steps p.tables e below (s₁.setTop (mkF m 15 #[.val (.int p0), .val (.int p1), .val (.int p2), .val (.int p3)] [(.int (p3.toInt8.toInt32))])) _
      exact retN X0 hx (t := .byte) Bd.returns (by simp) (hb hby d1_15) hr
    · show Q1 Z p0 p1 p2 p3 h0 n0 _ s₁.heap _
      rw [e0]
      exact ⟨congrArg (fun z => some (Value.int z)) (show ((p3.toInt8.toInt32).toInt8.toInt32) = (own_pk p0 p1 p2 p3) from by simp [own_pk, hc5]), N0, rfl⟩
  · -- it isn't
    have c4 : ∀ t, Steps p.tables e below (s₁.setTop (mkF m 15 #[.val (.int p0), .val (.int p1), .val (.int p2), .val (.int p3)] [(.int (p2.toInt8.toInt32))])) t → Steps p.tables e below (s₁.setTop (mkF m 5 #[.val (.int p0), .val (.int p1), .val (.int p2), .val (.int p3)] [(.int ((p0 >>> (p1 &&& 31)) &&& (1 : Int32)))])) t := by
      intro t kt
      show Steps p.tables e below (s₁.setTop (mkF m 5 #[.val (.int p0), .val (.int p1), .val (.int p2), .val (.int p3)] [(.int ((p0 >>> (p1 &&& 31)) &&& (1 : Int32)))])) _
      refine XS.ifNo X0.here hx rfl (hb hby d1_5) rfl ((if0 _ _).trans (feq hc5).1) ?_
      show Steps p.tables e below (s₁.setTop (mkF m 8 #[.val (.int p0), .val (.int p1), .val (.int p2), .val (.int p3)] [])) _
      refine XS.iloadN X0.here hx rfl (hb hby d1_8) rfl ?_
      show Steps p.tables e below (s₁.setTop (mkF m 9 #[.val (.int p0), .val (.int p1), .val (.int p2), .val (.int p3)] [(.int p2)])) _
      refine XS.i2b X0.here hx rfl (hb hby d1_9) rfl ?_
      show Steps p.tables e below (s₁.setTop (mkF m 10 #[.val (.int p0), .val (.int p1), .val (.int p2), .val (.int p3)] [(.int (p2.toInt8.toInt32))])) _
      refine XS.goto X0.here hx rfl (pc0 := 10) (pc' := 15) rfl (hb hby d1_10) (by decide) (by decide) ?_
      exact kt
    obtain ⟨fs, hr, hrun, hended, hW, hsame⟩ := X0.leave (v := some (.int ((p2.toInt8.toInt32).toInt8.toInt32))) (fun h => by rw [Bd.returns] at h; cases h)
    refine ⟨_, _, pre0 _ (c1 _ (c4 _ (?_))), hrun, hended, _, _, rfl, ?_, ⟨_, rfl⟩, hW, hsame.mono (by decide) (by decide)⟩
    · show Steps p.tables e below (s₁.setTop (mkF m 15 #[.val (.int p0), .val (.int p1), .val (.int p2), .val (.int p3)] [(.int (p2.toInt8.toInt32))])) _
      exact retN X0 hx (t := .byte) Bd.returns (by simp) (hb hby d1_15) hr
    · show Q1 Z p0 p1 p2 p3 h0 n0 _ s₁.heap _
      rw [e0]
      exact ⟨congrArg (fun z => some (Value.int z)) (show ((p2.toInt8.toInt32).toInt8.toInt32) = (own_pk p0 p1 p2 p3) from by simp [own_pk, hc5]), N0, rfl⟩
theorem d2_0 : decode prog_4_method_2_code 0 = .ok (.iconst 0, 1) := by decide +kernel
theorem d2_1 : decode prog_4_method_2_code 1 = .ok (.istore_n 1, 1) := by decide +kernel
theorem d2_2 : decode prog_4_method_2_code 2 = .ok (.iload_n 1, 1) := by decide +kernel
theorem d2_3 : decode prog_4_method_2_code 3 = .ok (.getstatic 7, 3) := by decide +kernel
theorem d2_6 : decode prog_4_method_2_code 6 = .ok (.arraylength, 1) := by decide +kernel
theorem d2_7 : decode prog_4_method_2_code 7 = .ok (.if_icmp .ge 28, 3) := by decide +kernel
theorem d2_10 : decode prog_4_method_2_code 10 = .ok (.iload_n 1, 1) := by decide +kernel
theorem d2_11 : decode prog_4_method_2_code 11 = .ok (.aload_n 0, 1) := by decide +kernel
theorem d2_12 : decode prog_4_method_2_code 12 = .ok (.arraylength, 1) := by decide +kernel
theorem d2_13 : decode prog_4_method_2_code 13 = .ok (.if_icmp .eq 14, 3) := by decide +kernel
theorem d2_27 : decode prog_4_method_2_code 27 = .ok (.iconst 0, 1) := by decide +kernel
theorem d2_28 : decode prog_4_method_2_code 28 = .ok (.ireturn, 1) := by decide +kernel
theorem pn_2 : plainName "com/example/ratewright/ratewright/io/Utf8Text" = true := by first | (simp [plainName, overriddenIn]; done) | decide +kernel
theorem ef_2 (m : MethodId) (x0 : Addr) : entryFrame m #[(.ref x0)] 2 = mkF m 0 #[.val (.ref x0), .unset] [] := by first | (simp [entryFrame, mkF, argsToLocals, Value.category]; done) | rfl
def Q2_0 (Z : State) (r0 : Addr) (kk : ClassId)  (rm : Addr) (km : ClassId) (h0 : Heap) (n0 : Nat) (v : Option Value) (h : Heap) (L : List Loc) : Prop := v = some (.int (0 : Int32)) ∧ Fr n0 L ∧ h = h0
set_option maxRecDepth 65536 in
set_option maxHeartbeats 40000000 in
theorem rm2_0 (l : Launch) (Z : State) (a0 : Array Value) (hw : ∀ d ∈ tables_1, d.before a0 Z = true) (ws : List Jvm.Cond) (r0 : Addr) (kk : ClassId)  (rm : Addr) (km : ClassId) (h0 : Heap) (n0 : Nat) (Z0 : n0 ≤ h0.size) (V : Arv Z h0 r0 kk .byte (0 : Int32) [] (.int (0 : Int32))) (SB : Sta Z h0 "com/example/ratewright/ratewright/io/Utf8Text" "BYTE_ORDER_MARK" "[B" (.ref rm)) (VB : Arv Z h0 rm km .byte (3 : Int32) [(.int (-17 : Int32)), (.int (-69 : Int32)), (.int (-65 : Int32))] (.int (0 : Int32))) :
    MetFree l (⟨"com/example/ratewright/ratewright/io/Utf8Text", "start", "([B)I"⟩ : MethodName) (head1 (Jvm.Cond.code (⟨"com/example/ratewright/ratewright/io/Utf8Text", "start", "([B)I"⟩ : MethodName) prog_4_method_2_code 2 (some .int) :: ws) ({ frames := 0, cells := 0, slots := 0, locals := 0 } : Room)) (fun a U => a = #[(.ref r0)] ∧ Z.Warmed39 U.vm ∧ U.heap = h0) (fun _ _ _ _ _ => True) (fun _ U o U' => ∃ v L, o = .returned v ∧ Q2_0 Z r0 kk  rm km h0 n0 v U'.heap L ∧ FrameEnd U o U' L ({ frames := 0, cells := 0, slots := 0, locals := 0 } : Room).cells ({ frames := 0, cells := 0, slots := 0, locals := 0 } : Room).slots) := by
  refine MetFree.of_bodySF (plainFor_of_name pn_2) hisR ?_
  intro p e s m args below meth c s₁ Bd hml0 hP hK
  obtain ⟨rfl, hZ, hh⟩ := hP
  have hx := Bd.exec
  have hby := Bd.bytes
  have hml : c.maxLocals = 2 := hml0
  have hown : s.vm.findClass "com/example/ratewright/ratewright/io/Utf8Text" = some m.cls := findClass_of_methodNamed Bd.named
  have hnm := (name_of_methodNamed Bd.named Bd.method).1
  have X0 : Stand p l e ({ frames := 0, cells := 0, slots := 0, locals := 0 } : Room) s m #[(.ref r0)] below meth c s₁ [] 0 0 := Stand.of_body Bd
  have e0 : s₁.heap = h0 := by rw [← hh, Bd.state]; rfl
  have N0 := Fr.nil n0
  have pre0 : ∀ t, Steps p.tables e below (s₁.setTop (mkF m 0 #[.val (.ref r0), .unset] [])) t → Steps p.tables e below (s₁.setTop (entryFrame m #[(.ref r0)] 2)) t := fun t k => castTop (ef_2 m r0) k
  have c2 : ∀ t, Steps p.tables e below (s₁.setTop (mkF m 3 #[.val (.ref r0), .val (.int (0 : Int32))] [(.int (0 : Int32))])) t → Steps p.tables e below (s₁.setTop (mkF m 0 #[.val (.ref r0), .unset] [])) t := by
    intro t kt
    show Steps p.tables e below (s₁.setTop (mkF m 0 #[.val (.ref r0), .unset] [])) _
    refine XS.iconst X0.here hx rfl (hb hby d2_0) ?_
    show Steps p.tables e below (s₁.setTop (mkF m 1 #[.val (.ref r0), .unset] [(.int (0 : Int32))])) _
    refine XS.istoreN X0.here hx rfl (hb hby d2_1) rfl (l' := #[.val (.ref r0), .val (.int (0 : Int32))]) rfl ?_
    show Steps p.tables e below (s₁.setTop (mkF m 2 #[.val (.ref r0), .val (.int (0 : Int32))] [])) _
    refine XS.iloadN X0.here hx rfl (hb hby d2_2) rfl ?_
    exact kt
  obtain ⟨T1, X1, e1, st1⟩ := getS2 X0 hx hZ hown (host := "") (Or.inl (hw _ (List.mem_of_getElem? (i := 10) rfl))) Via.refl e0 SB (g := (mkF m 3 #[.val (.ref r0), .val (.int (0 : Int32))] [(.int (0 : Int32))])) rfl (hb hby d2_3)
  have Vc3 := VB
  obtain ⟨cl3, Ar3, qk3, S3, M3, H3, G3⟩ := Vc3
  have Vc4 := V
  obtain ⟨cl4, Ar4, qk4, S4, M4, H4, G4⟩ := Vc4
  have c5 : ∀ t, Steps p.tables e below (T1.setTop (mkF m 28 #[.val (.ref r0), .val (.int (0 : Int32))] [(.int (0 : Int32))])) t → Steps p.tables e below (T1.setTop (mkF m 6 #[.val (.ref r0), .val (.int (0 : Int32))] [(.ref rm), (.int (0 : Int32))])) t := by
    intro t kt
    show Steps p.tables e below (T1.setTop (mkF m 6 #[.val (.ref r0), .val (.int (0 : Int32))] [(.ref rm), (.int (0 : Int32))])) _
    refine X1.arraylength hx (by rw [e1]; exact Ar3.1) (State.isArrayOf_alike hZ.alike Ar3.2.1) (g := (mkF m 6 #[.val (.ref r0), .val (.int (0 : Int32))] [(.ref rm), (.int (0 : Int32))])) rfl rfl (hb hby d2_6) _ ?_
    rw [len_of S3 M3]
    show Steps p.tables e below (T1.setTop (mkF m 7 #[.val (.ref r0), .val (.int (0 : Int32))] [(.int (3 : Int32)), (.int (0 : Int32))])) _
    refine XS.icmpNo X1.here hx rfl (hb hby d2_7) rfl (tlt (by decide : (0 : Int32) < (3 : Int32))).2.1 ?_
    show Steps p.tables e below (T1.setTop (mkF m 10 #[.val (.ref r0), .val (.int (0 : Int32))] [])) _
    refine XS.iloadN X1.here hx rfl (hb hby d2_10) rfl ?_
    show Steps p.tables e below (T1.setTop (mkF m 11 #[.val (.ref r0), .val (.int (0 : Int32))] [(.int (0 : Int32))])) _
    refine XS.aloadN X1.here hx rfl (hb hby d2_11) rfl rfl ?_
    show Steps p.tables e below (T1.setTop (mkF m 12 #[.val (.ref r0), .val (.int (0 : Int32))] [(.ref r0), (.int (0 : Int32))])) _
    refine X1.arraylength hx (by rw [e1]; exact Ar4.1) (State.isArrayOf_alike hZ.alike Ar4.2.1) (g := (mkF m 12 #[.val (.ref r0), .val (.int (0 : Int32))] [(.ref r0), (.int (0 : Int32))])) rfl rfl (hb hby d2_12) _ ?_
    rw [len_of S4 M4]
    show Steps p.tables e below (T1.setTop (mkF m 13 #[.val (.ref r0), .val (.int (0 : Int32))] [(.int (0 : Int32)), (.int (0 : Int32))])) _
    refine XS.icmpYes X1.here hx rfl (pc0 := 13) (pc' := 27) rfl (hb hby d2_13) rfl (teq (by decide : (0 : Int32) = (0 : Int32))).1 (by decide) (by decide) ?_
    show Steps p.tables e below (T1.setTop (mkF m 27 #[.val (.ref r0), .val (.int (0 : Int32))] [])) _
    refine XS.iconst X1.here hx rfl (hb hby d2_27) ?_
    exact kt
  obtain ⟨fs, hr, hrun, hended, hW, hsame⟩ := X1.leave (v := some (.int (0 : Int32))) (fun h => by rw [Bd.returns] at h; cases h)
  refine ⟨_, _, pre0 _ (c2 _ (st1 _ (c5 _ (?_)))), hrun, hended, _, _, rfl, ?_, ⟨_, rfl⟩, hW, hsame.mono (by decide) (by decide)⟩
  · show Steps p.tables e below (T1.setTop (mkF m 28 #[.val (.ref r0), .val (.int (0 : Int32))] [(.int (0 : Int32))])) _
    exact retI X1 hx Bd.returns (hb hby d2_28) hr
  · show Q2_0 Z r0 kk  rm km h0 n0 _ T1.heap _
    rw [e1]
    exact ⟨congrArg (fun z => some (Value.int z)) (show (0 : Int32) = (0 : Int32) from by rfl), N0, rfl⟩
theorem d2_16 : decode prog_4_method_2_code 16 = .ok (.aload_n 0, 1) := by decide +kernel
theorem d2_17 : decode prog_4_method_2_code 17 = .ok (.iload_n 1, 1) := by decide +kernel
theorem d2_18 : decode prog_4_method_2_code 18 = .ok (.baload, 1) := by decide +kernel
theorem d2_19 : decode prog_4_method_2_code 19 = .ok (.getstatic 7, 3) := by decide +kernel
theorem d2_22 : decode prog_4_method_2_code 22 = .ok (.iload_n 1, 1) := by decide +kernel
theorem d2_23 : decode prog_4_method_2_code 23 = .ok (.baload, 1) := by decide +kernel
theorem d2_24 : decode prog_4_method_2_code 24 = .ok (.if_icmp .eq 5, 3) := by decide +kernel
theorem d2_29 : decode prog_4_method_2_code 29 = .ok (.iinc 1 1, 3) := by decide +kernel
theorem d2_32 : decode prog_4_method_2_code 32 = .ok (.goto (-30), 3) := by decide +kernel
def Q2_1 (Z : State) (r0 : Addr) (kk : ClassId) (w0 : Int32) (rm : Addr) (km : ClassId) (h0 : Heap) (n0 : Nat) (v : Option Value) (h : Heap) (L : List Loc) : Prop := v = some (.int (0 : Int32)) ∧ Fr n0 L ∧ h = h0
set_option maxRecDepth 65536 in
set_option maxHeartbeats 40000000 in
theorem rm2_1 (l : Launch) (Z : State) (a0 : Array Value) (hw : ∀ d ∈ tables_1, d.before a0 Z = true) (ws : List Jvm.Cond) (r0 : Addr) (kk : ClassId) (w0 : Int32) (rm : Addr) (km : ClassId) (h0 : Heap) (n0 : Nat) (Z0 : n0 ≤ h0.size) (V : Arv Z h0 r0 kk .byte (1 : Int32) [(.int w0)] (.int (0 : Int32))) (SB : Sta Z h0 "com/example/ratewright/ratewright/io/Utf8Text" "BYTE_ORDER_MARK" "[B" (.ref rm)) (VB : Arv Z h0 rm km .byte (3 : Int32) [(.int (-17 : Int32)), (.int (-69 : Int32)), (.int (-65 : Int32))] (.int (0 : Int32))) :
    MetFree l (⟨"com/example/ratewright/ratewright/io/Utf8Text", "start", "([B)I"⟩ : MethodName) (head1 (Jvm.Cond.code (⟨"com/example/ratewright/ratewright/io/Utf8Text", "start", "([B)I"⟩ : MethodName) prog_4_method_2_code 2 (some .int) :: ws) ({ frames := 0, cells := 0, slots := 0, locals := 0 } : Room)) (fun a U => a = #[(.ref r0)] ∧ Z.Warmed39 U.vm ∧ U.heap = h0) (fun _ _ _ _ _ => True) (fun _ U o U' => ∃ v L, o = .returned v ∧ Q2_1 Z r0 kk w0 rm km h0 n0 v U'.heap L ∧ FrameEnd U o U' L ({ frames := 0, cells := 0, slots := 0, locals := 0 } : Room).cells ({ frames := 0, cells := 0, slots := 0, locals := 0 } : Room).slots) := by
  refine MetFree.of_bodySF (plainFor_of_name pn_2) hisR ?_
  intro p e s m args below meth c s₁ Bd hml0 hP hK
  obtain ⟨rfl, hZ, hh⟩ := hP
  have hx := Bd.exec
  have hby := Bd.bytes
  have hml : c.maxLocals = 2 := hml0
  have hown : s.vm.findClass "com/example/ratewright/ratewright/io/Utf8Text" = some m.cls := findClass_of_methodNamed Bd.named
  have hnm := (name_of_methodNamed Bd.named Bd.method).1
  have X0 : Stand p l e ({ frames := 0, cells := 0, slots := 0, locals := 0 } : Room) s m #[(.ref r0)] below meth c s₁ [] 0 0 := Stand.of_body Bd
  have e0 : s₁.heap = h0 := by rw [← hh, Bd.state]; rfl
  have N0 := Fr.nil n0
  have pre0 : ∀ t, Steps p.tables e below (s₁.setTop (mkF m 0 #[.val (.ref r0), .unset] [])) t → Steps p.tables e below (s₁.setTop (entryFrame m #[(.ref r0)] 2)) t := fun t k => castTop (ef_2 m r0) k
  have c2 : ∀ t, Steps p.tables e below (s₁.setTop (mkF m 3 #[.val (.ref r0), .val (.int (0 : Int32))] [(.int (0 : Int32))])) t → Steps p.tables e below (s₁.setTop (mkF m 0 #[.val (.ref r0), .unset] [])) t := by
    intro t kt
    show Steps p.tables e below (s₁.setTop (mkF m 0 #[.val (.ref r0), .unset] [])) _
    refine XS.iconst X0.here hx rfl (hb hby d2_0) ?_
    show Steps p.tables e below (s₁.setTop (mkF m 1 #[.val (.ref r0), .unset] [(.int (0 : Int32))])) _
    refine XS.istoreN X0.here hx rfl (hb hby d2_1) rfl (l' := #[.val (.ref r0), .val (.int (0 : Int32))]) rfl ?_
    show Steps p.tables e below (s₁.setTop (mkF m 2 #[.val (.ref r0), .val (.int (0 : Int32))] [])) _
    refine XS.iloadN X0.here hx rfl (hb hby d2_2) rfl ?_
    exact kt
  obtain ⟨T1, X1, e1, st1⟩ := getS2 X0 hx hZ hown (host := "") (Or.inl (hw _ (List.mem_of_getElem? (i := 10) rfl))) Via.refl e0 SB (g := (mkF m 3 #[.val (.ref r0), .val (.int (0 : Int32))] [(.int (0 : Int32))])) rfl (hb hby d2_3)
  have Vc3 := VB
  obtain ⟨cl3, Ar3, qk3, S3, M3, H3, G3⟩ := Vc3
  have Vc4 := V
  obtain ⟨cl4, Ar4, qk4, S4, M4, H4, G4⟩ := Vc4
  have Vc5 := V
  obtain ⟨cl5, Ar5, qk5, S5, M5, H5, G5⟩ := Vc5
  have hin5 : ¬ ((0 : Int32) < 0 ∨ cl5.slots.size ≤ ((0 : Int32)).toNatClampNeg) := inb_of S5 ⟨by decide, by decide⟩
  have hat5 : cl5.slots[((0 : Int32)).toNatClampNeg]? = some (.int w0) := H5.at hin5 rfl
  have c7 : ∀ t, Steps p.tables e below (T1.setTop (mkF m 19 #[.val (.ref r0), .val (.int (0 : Int32))] [(.int w0)])) t → Steps p.tables e below (T1.setTop (mkF m 6 #[.val (.ref r0), .val (.int (0 : Int32))] [(.ref rm), (.int (0 : Int32))])) t := by
    intro t kt
    show Steps p.tables e below (T1.setTop (mkF m 6 #[.val (.ref r0), .val (.int (0 : Int32))] [(.ref rm), (.int (0 : Int32))])) _
    refine X1.arraylength hx (by rw [e1]; exact Ar3.1) (State.isArrayOf_alike hZ.alike Ar3.2.1) (g := (mkF m 6 #[.val (.ref r0), .val (.int (0 : Int32))] [(.ref rm), (.int (0 : Int32))])) rfl rfl (hb hby d2_6) _ ?_
    rw [len_of S3 M3]
    show Steps p.tables e below (T1.setTop (mkF m 7 #[.val (.ref r0), .val (.int (0 : Int32))] [(.int (3 : Int32)), (.int (0 : Int32))])) _
    refine XS.icmpNo X1.here hx rfl (hb hby d2_7) rfl (tlt (by decide : (0 : Int32) < (3 : Int32))).2.1 ?_
    show Steps p.tables e below (T1.setTop (mkF m 10 #[.val (.ref r0), .val (.int (0 : Int32))] [])) _
    refine XS.iloadN X1.here hx rfl (hb hby d2_10) rfl ?_
    show Steps p.tables e below (T1.setTop (mkF m 11 #[.val (.ref r0), .val (.int (0 : Int32))] [(.int (0 : Int32))])) _
    refine XS.aloadN X1.here hx rfl (hb hby d2_11) rfl rfl ?_
    show Steps p.tables e below (T1.setTop (mkF m 12 #[.val (.ref r0), .val (.int (0 : Int32))] [(.ref r0), (.int (0 : Int32))])) _
    refine X1.arraylength hx (by rw [e1]; exact Ar4.1) (State.isArrayOf_alike hZ.alike Ar4.2.1) (g := (mkF m 12 #[.val (.ref r0), .val (.int (0 : Int32))] [(.ref r0), (.int (0 : Int32))])) rfl rfl (hb hby d2_12) _ ?_
    rw [len_of S4 M4]
    show Steps p.tables e below (T1.setTop (mkF m 13 #[.val (.ref r0), .val (.int (0 : Int32))] [(.int (1 : Int32)), (.int (0 : Int32))])) _
    refine XS.icmpNo X1.here hx rfl (hb hby d2_13) rfl (feq (by decide : ¬ ((0 : Int32) = (1 : Int32)))).1 ?_
    show Steps p.tables e below (T1.setTop (mkF m 16 #[.val (.ref r0), .val (.int (0 : Int32))] [])) _
    refine XS.aloadN X1.here hx rfl (hb hby d2_16) rfl rfl ?_
    show Steps p.tables e below (T1.setTop (mkF m 17 #[.val (.ref r0), .val (.int (0 : Int32))] [(.ref r0)])) _
    refine XS.iloadN X1.here hx rfl (hb hby d2_17) rfl ?_
    show Steps p.tables e below (T1.setTop (mkF m 18 #[.val (.ref r0), .val (.int (0 : Int32))] [(.int (0 : Int32)), (.ref r0)])) _
    refine X1.baloadBytes hx (j := (0 : Int32)) (v := (.int w0)) (by rw [e1]; exact Ar5.1) (State.isArrayOf_alike hZ.alike Ar5.2.1) Ar5.2.2 hin5 hat5 (g := (mkF m 18 #[.val (.ref r0), .val (.int (0 : Int32))] [(.int (0 : Int32)), (.ref r0)])) rfl rfl (hb hby d2_18) _ ?_
    exact kt
  obtain ⟨T6, X6, e6, st6⟩ := getS2 X1 hx hZ hown (host := "") (Or.inl (hw _ (List.mem_of_getElem? (i := 10) rfl))) Via.refl e1 SB (g := (mkF m 19 #[.val (.ref r0), .val (.int (0 : Int32))] [(.int w0)])) rfl (hb hby d2_19)
  have Vc8 := VB
  obtain ⟨cl8, Ar8, qk8, S8, M8, H8, G8⟩ := Vc8
  have hin8 : ¬ ((0 : Int32) < 0 ∨ cl8.slots.size ≤ ((0 : Int32)).toNatClampNeg) := inb_of S8 ⟨by decide, by decide⟩
  have hat8 : cl8.slots[((0 : Int32)).toNatClampNeg]? = some (.int (-17 : Int32)) := H8.at hin8 rfl
  have c9 : ∀ t, Steps p.tables e below (T6.setTop (mkF m 24 #[.val (.ref r0), .val (.int (0 : Int32))] [(.int (-17 : Int32)), (.int w0)])) t → Steps p.tables e below (T6.setTop (mkF m 22 #[.val (.ref r0), .val (.int (0 : Int32))] [(.ref rm), (.int w0)])) t := by
    intro t kt
    show Steps p.tables e below (T6.setTop (mkF m 22 #[.val (.ref r0), .val (.int (0 : Int32))] [(.ref rm), (.int w0)])) _
    refine XS.iloadN X6.here hx rfl (hb hby d2_22) rfl ?_
    show Steps p.tables e below (T6.setTop (mkF m 23 #[.val (.ref r0), .val (.int (0 : Int32))] [(.int (0 : Int32)), (.ref rm), (.int w0)])) _
    refine X6.baloadBytes hx (j := (0 : Int32)) (v := (.int (-17 : Int32))) (by rw [e6]; exact Ar8.1) (State.isArrayOf_alike hZ.alike Ar8.2.1) Ar8.2.2 hin8 hat8 (g := (mkF m 23 #[.val (.ref r0), .val (.int (0 : Int32))] [(.int (0 : Int32)), (.ref rm), (.int w0)])) rfl rfl (hb hby d2_23) _ ?_
    exact kt
  by_cases hc24 : w0 = (-17 : Int32)
  · -- it is
    have c11 : ∀ t, Steps p.tables e below (T6.setTop (mkF m 3 #[.val (.ref r0), .val (.int ((0 : Int32) + (1 : Int32)))] [(.int ((0 : Int32) + (1 : Int32)))])) t → Steps p.tables e below (T6.setTop (mkF m 24 #[.val (.ref r0), .val (.int (0 : Int32))] [(.int (-17 : Int32)), (.int w0)])) t := by
      intro t kt
      show Steps p.tables e below (T6.setTop (mkF m 24 #[.val (.ref r0), .val (.int (0 : Int32))] [(.int (-17 : Int32)), (.int w0)])) _
      refine XS.icmpYes X6.here hx rfl (pc0 := 24) (pc' := 29) rfl (hb hby d2_24) rfl (teq hc24).1 (by decide) (by decide) ?_
      show Steps p.tables e below (T6.setTop (mkF m 29 #[.val (.ref r0), .val (.int (0 : Int32))] [])) _
      refine XS.iinc X6.here hx rfl (hb hby d2_29) rfl (l' := #[.val (.ref r0), .val (.int ((0 : Int32) + (1 : Int32)))]) rfl ?_
      show Steps p.tables e below (T6.setTop (mkF m 32 #[.val (.ref r0), .val (.int ((0 : Int32) + (1 : Int32)))] [])) _
      refine XS.goto X6.here hx rfl (pc0 := 32) (pc' := 2) rfl (hb hby d2_32) (by decide) (by decide) ?_
      show Steps p.tables e below (T6.setTop (mkF m 2 #[.val (.ref r0), .val (.int ((0 : Int32) + (1 : Int32)))] [])) _
      refine XS.iloadN X6.here hx rfl (hb hby d2_2) rfl ?_
      exact kt
    obtain ⟨T10, X10, e10, st10⟩ := getS2 X6 hx hZ hown (host := "") (Or.inl (hw _ (List.mem_of_getElem? (i := 10) rfl))) Via.refl e6 SB (g := (mkF m 3 #[.val (.ref r0), .val (.int ((0 : Int32) + (1 : Int32)))] [(.int ((0 : Int32) + (1 : Int32)))])) rfl (hb hby d2_3)
    have Vc12 := VB
    obtain ⟨cl12, Ar12, qk12, S12, M12, H12, G12⟩ := Vc12
    have Vc13 := V
    obtain ⟨cl13, Ar13, qk13, S13, M13, H13, G13⟩ := Vc13
    have c14 : ∀ t, Steps p.tables e below (T10.setTop (mkF m 28 #[.val (.ref r0), .val (.int ((0 : Int32) + (1 : Int32)))] [(.int (0 : Int32))])) t → Steps p.tables e below (T10.setTop (mkF m 6 #[.val (.ref r0), .val (.int ((0 : Int32) + (1 : Int32)))] [(.ref rm), (.int ((0 : Int32) + (1 : Int32)))])) t := by
      intro t kt
      show Steps p.tables e below (T10.setTop (mkF m 6 #[.val (.ref r0), .val (.int ((0 : Int32) + (1 : Int32)))] [(.ref rm), (.int ((0 : Int32) + (1 : Int32)))])) _
      refine X10.arraylength hx (by rw [e10]; exact Ar12.1) (State.isArrayOf_alike hZ.alike Ar12.2.1) (g := (mkF m 6 #[.val (.ref r0), .val (.int ((0 : Int32) + (1 : Int32)))] [(.ref rm), (.int ((0 : Int32) + (1 : Int32)))])) rfl rfl (hb hby d2_6) _ ?_
      rw [len_of S12 M12]
      show Steps p.tables e below (T10.setTop (mkF m 7 #[.val (.ref r0), .val (.int ((0 : Int32) + (1 : Int32)))] [(.int (3 : Int32)), (.int ((0 : Int32) + (1 : Int32)))])) _
      refine XS.icmpNo X10.here hx rfl (hb hby d2_7) rfl (tlt (by decide : ((0 : Int32) + (1 : Int32)) < (3 : Int32))).2.1 ?_
      show Steps p.tables e below (T10.setTop (mkF m 10 #[.val (.ref r0), .val (.int ((0 : Int32) + (1 : Int32)))] [])) _
      refine XS.iloadN X10.here hx rfl (hb hby d2_10) rfl ?_
      show Steps p.tables e below (T10.setTop (mkF m 11 #[.val (.ref r0), .val (.int ((0 : Int32) + (1 : Int32)))] [(.int ((0 : Int32) + (1 : Int32)))])) _
      refine XS.aloadN X10.here hx rfl (hb hby d2_11) rfl rfl ?_
      show Steps p.tables e below (T10.setTop (mkF m 12 #[.val (.ref r0), .val (.int ((0 : Int32) + (1 : Int32)))] [(.ref r0), (.int ((0 : Int32) + (1 : Int32)))])) _
      refine X10.arraylength hx (by rw [e10]; exact Ar13.1) (State.isArrayOf_alike hZ.alike Ar13.2.1) (g := (mkF m 12 #[.val (.ref r0), .val (.int ((0 : Int32) + (1 : Int32)))] [(.ref r0), (.int ((0 : Int32) + (1 : Int32)))])) rfl rfl (hb hby d2_12) _ ?_
      rw [len_of S13 M13]
      show Steps p.tables e below (T10.setTop (mkF m 13 #[.val (.ref r0), .val (.int ((0 : Int32) + (1 : Int32)))] [(.int (1 : Int32)), (.int ((0 : Int32) + (1 : Int32)))])) _
      refine XS.icmpYes X10.here hx rfl (pc0 := 13) (pc' := 27) rfl (hb hby d2_13) rfl (teq (by decide : ((0 : Int32) + (1 : Int32)) = (1 : Int32))).1 (by decide) (by decide) ?_
      show Steps p.tables e below (T10.setTop (mkF m 27 #[.val (.ref r0), .val (.int ((0 : Int32) + (1 : Int32)))] [])) _
      refine XS.iconst X10.here hx rfl (hb hby d2_27) ?_
      exact kt
    obtain ⟨fs, hr, hrun, hended, hW, hsame⟩ := X10.leave (v := some (.int (0 : Int32))) (fun h => by rw [Bd.returns] at h; cases h)
    refine ⟨_, _, pre0 _ (c2 _ (st1 _ (c7 _ (st6 _ (c9 _ (c11 _ (st10 _ (c14 _ (?_))))))))), hrun, hended, _, _, rfl, ?_, ⟨_, rfl⟩, hW, hsame.mono (by decide) (by decide)⟩
    · show Steps p.tables e below (T10.setTop (mkF m 28 #[.val (.ref r0), .val (.int ((0 : Int32) + (1 : Int32)))] [(.int (0 : Int32))])) _
      exact retI X10 hx Bd.returns (hb hby d2_28) hr
    · show Q2_1 Z r0 kk w0 rm km h0 n0 _ T10.heap _
      rw [e10]
      exact ⟨congrArg (fun z => some (Value.int z)) (show (0 : Int32) = (0 : Int32) from by rfl), N0, rfl⟩
  · -- it isn't
    have c16 : ∀ t, Steps p.tables e below (T6.setTop (mkF m 28 #[.val (.ref r0), .val (.int (0 : Int32))] [(.int (0 : Int32))])) t → Steps p.tables e below (T6.setTop (mkF m 24 #[.val (.ref r0), .val (.int (0 : Int32))] [(.int (-17 : Int32)), (.int w0)])) t := by
      intro t kt
      show Steps p.tables e below (T6.setTop (mkF m 24 #[.val (.ref r0), .val (.int (0 : Int32))] [(.int (-17 : Int32)), (.int w0)])) _
      refine XS.icmpNo X6.here hx rfl (hb hby d2_24) rfl (feq hc24).1 ?_
      show Steps p.tables e below (T6.setTop (mkF m 27 #[.val (.ref r0), .val (.int (0 : Int32))] [])) _
      refine XS.iconst X6.here hx rfl (hb hby d2_27) ?_
      exact kt
    obtain ⟨fs, hr, hrun, hended, hW, hsame⟩ := X6.leave (v := some (.int (0 : Int32))) (fun h => by rw [Bd.returns] at h; cases h)
    refine ⟨_, _, pre0 _ (c2 _ (st1 _ (c7 _ (st6 _ (c9 _ (c16 _ (?_))))))), hrun, hended, _, _, rfl, ?_, ⟨_, rfl⟩, hW, hsame.mono (by decide) (by decide)⟩
    · show Steps p.tables e below (T6.setTop (mkF m 28 #[.val (.ref r0), .val (.int (0 : Int32))] [(.int (0 : Int32))])) _
      exact retI X6 hx Bd.returns (hb hby d2_28) hr
    · show Q2_1 Z r0 kk w0 rm km h0 n0 _ T6.heap _
      rw [e6]
      exact ⟨congrArg (fun z => some (Value.int z)) (show (0 : Int32) = (0 : Int32) from by rfl), N0, rfl⟩
def Q2_2 (Z : State) (r0 : Addr) (kk : ClassId) (w0 w1 : Int32) (rm : Addr) (km : ClassId) (h0 : Heap) (n0 : Nat) (v : Option Value) (h : Heap) (L : List Loc) : Prop := v = some (.int (0 : Int32)) ∧ Fr n0 L ∧ h = h0
set_option maxRecDepth 65536 in
set_option maxHeartbeats 40000000 in
theorem rm2_2 (l : Launch) (Z : State) (a0 : Array Value) (hw : ∀ d ∈ tables_1, d.before a0 Z = true) (ws : List Jvm.Cond) (r0 : Addr) (kk : ClassId) (w0 w1 : Int32) (rm : Addr) (km : ClassId) (h0 : Heap) (n0 : Nat) (Z0 : n0 ≤ h0.size) (V : Arv Z h0 r0 kk .byte (2 : Int32) [(.int w0), (.int w1)] (.int (0 : Int32))) (SB : Sta Z h0 "com/example/ratewright/ratewright/io/Utf8Text" "BYTE_ORDER_MARK" "[B" (.ref rm)) (VB : Arv Z h0 rm km .byte (3 : Int32) [(.int (-17 : Int32)), (.int (-69 : Int32)), (.int (-65 : Int32))] (.int (0 : Int32))) :
    MetFree l (⟨"com/example/ratewright/ratewright/io/Utf8Text", "start", "([B)I"⟩ : MethodName) (head1 (Jvm.Cond.code (⟨"com/example/ratewright/ratewright/io/Utf8Text", "start", "([B)I"⟩ : MethodName) prog_4_method_2_code 2 (some .int) :: ws) ({ frames := 0, cells := 0, slots := 0, locals := 0 } : Room)) (fun a U => a = #[(.ref r0)] ∧ Z.Warmed39 U.vm ∧ U.heap = h0) (fun _ _ _ _ _ => True) (fun _ U o U' => ∃ v L, o = .returned v ∧ Q2_2 Z r0 kk w0 w1 rm km h0 n0 v U'.heap L ∧ FrameEnd U o U' L ({ frames := 0, cells := 0, slots := 0, locals := 0 } : Room).cells ({ frames := 0, cells := 0, slots := 0, locals := 0 } : Room).slots) := by
  refine MetFree.of_bodySF (plainFor_of_name pn_2) hisR ?_
  intro p e s m args below meth c s₁ Bd hml0 hP hK
  obtain ⟨rfl, hZ, hh⟩ := hP
  have hx := Bd.exec
  have hby := Bd.bytes
  have hml : c.maxLocals = 2 := hml0
  have hown : s.vm.findClass "com/example/ratewright/ratewright/io/Utf8Text" = some m.cls := findClass_of_methodNamed Bd.named
  have hnm := (name_of_methodNamed Bd.named Bd.method).1
  have X0 : Stand p l e ({ frames := 0, cells := 0, slots := 0, locals := 0 } : Room) s m #[(.ref r0)] below meth c s₁ [] 0 0 := Stand.of_body Bd
  have e0 : s₁.heap = h0 := by rw [← hh, Bd.state]; rfl
  have N0 := Fr.nil n0
  have pre0 : ∀ t, Steps p.tables e below (s₁.setTop (mkF m 0 #[.val (.ref r0), .unset] [])) t → Steps p.tables e below (s₁.setTop (entryFrame m #[(.ref r0)] 2)) t := fun t k => castTop (ef_2 m r0) k
  have c2 : ∀ t, Steps p.tables e below (s₁.setTop (mkF m 3 #[.val (.ref r0), .val (.int (0 : Int32))] [(.int (0 : Int32))])) t → Steps p.tables e below (s₁.setTop (mkF m 0 #[.val (.ref r0), .unset] [])) t := by
    intro t kt
    show Steps p.tables e below (s₁.setTop (mkF m 0 #[.val (.ref r0), .unset] [])) _
    refine XS.iconst X0.here hx rfl (hb hby d2_0) ?_
    show Steps p.tables e below (s₁.setTop (mkF m 1 #[.val (.ref r0), .unset] [(.int (0 : Int32))])) _
    refine XS.istoreN X0.here hx rfl (hb hby d2_1) rfl (l' := #[.val (.ref r0), .val (.int (0 : Int32))]) rfl ?_
    show Steps p.tables e below (s₁.setTop (mkF m 2 #[.val (.ref r0), .val (.int (0 : Int32))] [])) _
    refine XS.iloadN X0.here hx rfl (hb hby d2_2) rfl ?_
    exact kt
  obtain ⟨T1, X1, e1, st1⟩ := getS2 X0 hx hZ hown (host := "") (Or.inl (hw _ (List.mem_of_getElem? (i := 10) rfl))) Via.refl e0 SB (g := (mkF m 3 #[.val (.ref r0), .val (.int (0 : Int32))] [(.int (0 : Int32))])) rfl (hb hby d2_3)
  have Vc3 := VB
  obtain ⟨cl3, Ar3, qk3, S3, M3, H3, G3⟩ := Vc3
  have Vc4 := V
  obtain ⟨cl4, Ar4, qk4, S4, M4, H4, G4⟩ := Vc4
  have Vc5 := V
  obtain ⟨cl5, Ar5, qk5, S5, M5, H5, G5⟩ := Vc5
  have hin5 : ¬ ((0 : Int32) < 0 ∨ cl5.slots.size ≤ ((0 : Int32)).toNatClampNeg) := inb_of S5 ⟨by decide, by decide⟩
  have hat5 : cl5.slots[((0 : Int32)).toNatClampNeg]? = some (.int w0) := H5.at hin5 rfl
  have c7 : ∀ t, Steps p.tables e below (T1.setTop (mkF m 19 #[.val (.ref r0), .val (.int (0 : Int32))] [(.int w0)])) t → Steps p.tables e below (T1.setTop (mkF m 6 #[.val (.ref r0), .val (.int (0 : Int32))] [(.ref rm), (.int (0 : Int32))])) t := by
    intro t kt
    show Steps p.tables e below (T1.setTop (mkF m 6 #[.val (.ref r0), .val (.int (0 : Int32))] [(.ref rm), (.int (0 : Int32))])) _
    refine X1.arraylength hx (by rw [e1]; exact Ar3.1) (State.isArrayOf_alike hZ.alike Ar3.2.1) (g := (mkF m 6 #[.val (.ref r0), .val (.int (0 : Int32))] [(.ref rm), (.int (0 : Int32))])) rfl rfl (hb hby d2_6) _ ?_
    rw [len_of S3 M3]
    show Steps p.tables e below (T1.setTop (mkF m 7 #[.val (.ref r0), .val (.int (0 : Int32))] [(.int (3 : Int32)), (.int (0 : Int32))])) _
    refine XS.icmpNo X1.here hx rfl (hb hby d2_7) rfl (tlt (by decide : (0 : Int32) < (3 : Int32))).2.1 ?_
    show Steps p.tables e below (T1.setTop (mkF m 10 #[.val (.ref r0), .val (.int (0 : Int32))] [])) _
    refine XS.iloadN X1.here hx rfl (hb hby d2_10) rfl ?_
    show Steps p.tables e below (T1.setTop (mkF m 11 #[.val (.ref r0), .val (.int (0 : Int32))] [(.int (0 : Int32))])) _
    refine XS.aloadN X1.here hx rfl (hb hby d2_11) rfl rfl ?_
    show Steps p.tables e below (T1.setTop (mkF m 12 #[.val (.ref r0), .val (.int (0 : Int32))] [(.ref r0), (.int (0 : Int32))])) _
    refine X1.arraylength hx (by rw [e1]; exact Ar4.1) (State.isArrayOf_alike hZ.alike Ar4.2.1) (g := (mkF m 12 #[.val (.ref r0), .val (.int (0 : Int32))] [(.ref r0), (.int (0 : Int32))])) rfl rfl (hb hby d2_12) _ ?_
    rw [len_of S4 M4]
    show Steps p.tables e below (T1.setTop (mkF m 13 #[.val (.ref r0), .val (.int (0 : Int32))] [(.int (2 : Int32)), (.int (0 : Int32))])) _
    refine XS.icmpNo X1.here hx rfl (hb hby d2_13) rfl (feq (by decide : ¬ ((0 : Int32) = (2 : Int32)))).1 ?_
    show Steps p.tables e below (T1.setTop (mkF m 16 #[.val (.ref r0), .val (.int (0 : Int32))] [])) _
    refine XS.aloadN X1.here hx rfl (hb hby d2_16) rfl rfl ?_
    show Steps p.tables e below (T1.setTop (mkF m 17 #[.val (.ref r0), .val (.int (0 : Int32))] [(.ref r0)])) _
    refine XS.iloadN X1.here hx rfl (hb hby d2_17) rfl ?_
    show Steps p.tables e below (T1.setTop (mkF m 18 #[.val (.ref r0), .val (.int (0 : Int32))] [(.int (0 : Int32)), (.ref r0)])) _
    refine X1.baloadBytes hx (j := (0 : Int32)) (v := (.int w0)) (by rw [e1]; exact Ar5.1) (State.isArrayOf_alike hZ.alike Ar5.2.1) Ar5.2.2 hin5 hat5 (g := (mkF m 18 #[.val (.ref r0), .val (.int (0 : Int32))] [(.int (0 : Int32)), (.ref r0)])) rfl rfl (hb hby d2_18) _ ?_
    exact kt
  obtain ⟨T6, X6, e6, st6⟩ := getS2 X1 hx hZ hown (host := "") (Or.inl (hw _ (List.mem_of_getElem? (i := 10) rfl))) Via.refl e1 SB (g := (mkF m 19 #[.val (.ref r0), .val (.int (0 : Int32))] [(.int w0)])) rfl (hb hby d2_19)
  have Vc8 := VB
  obtain ⟨cl8, Ar8, qk8, S8, M8, H8, G8⟩ := Vc8
  have hin8 : ¬ ((0 : Int32) < 0 ∨ cl8.slots.size ≤ ((0 : Int32)).toNatClampNeg) := inb_of S8 ⟨by decide, by decide⟩
  have hat8 : cl8.slots[((0 : Int32)).toNatClampNeg]? = some (.int (-17 : Int32)) := H8.at hin8 rfl
  have c9 : ∀ t, Steps p.tables e below (T6.setTop (mkF m 24 #[.val (.ref r0), .val (.int (0 : Int32))] [(.int (-17 : Int32)), (.int w0)])) t → Steps p.tables e below (T6.setTop (mkF m 22 #[.val (.ref r0), .val (.int (0 : Int32))] [(.ref rm), (.int w0)])) t := by
    intro t kt
    show Steps p.tables e below (T6.setTop (mkF m 22 #[.val (.ref r0), .val (.int (0 : Int32))] [(.ref rm), (.int w0)])) _
    refine XS.iloadN X6.here hx rfl (hb hby d2_22) rfl ?_
    show Steps p.tables e below (T6.setTop (mkF m 23 #[.val (.ref r0), .val (.int (0 : Int32))] [(.int (0 : Int32)), (.ref rm), (.int w0)])) _
    refine X6.baloadBytes hx (j := (0 : Int32)) (v := (.int (-17 : Int32))) (by rw [e6]; exact Ar8.1) (State.isArrayOf_alike hZ.alike Ar8.2.1) Ar8.2.2 hin8 hat8 (g := (mkF m 23 #[.val (.ref r0), .val (.int (0 : Int32))] [(.int (0 : Int32)), (.ref rm), (.int w0)])) rfl rfl (hb hby d2_23) _ ?_
    exact kt
  by_cases hc24 : w0 = (-17 : Int32)
  · -- it is
    have c11 : ∀ t, Steps p.tables e below (T6.setTop (mkF m 3 #[.val (.ref r0), .val (.int ((0 : Int32) + (1 : Int32)))] [(.int ((0 : Int32) + (1 : Int32)))])) t → Steps p.tables e below (T6.setTop (mkF m 24 #[.val (.ref r0), .val (.int (0 : Int32))] [(.int (-17 : Int32)), (.int w0)])) t := by
      intro t kt
      show Steps p.tables e below (T6.setTop (mkF m 24 #[.val (.ref r0), .val (.int (0 : Int32))] [(.int (-17 : Int32)), (.int w0)])) _
      refine XS.icmpYes X6.here hx rfl (pc0 := 24) (pc' := 29) rfl (hb hby d2_24) rfl (teq hc24).1 (by decide) (by decide) ?_
      show Steps p.tables e below (T6.setTop (mkF m 29 #[.val (.ref r0), .val (.int (0 : Int32))] [])) _
      refine XS.iinc X6.here hx rfl (hb hby d2_29) rfl (l' := #[.val (.ref r0), .val (.int ((0 : Int32) + (1 : Int32)))]) rfl ?_
      show Steps p.tables e below (T6.setTop (mkF m 32 #[.val (.ref r0), .val (.int ((0 : Int32) + (1 : Int32)))] [])) _
      refine XS.goto X6.here hx rfl (pc0 := 32) (pc' := 2) rfl (hb hby d2_32) (by decide) (by decide) ?_
      show Steps p.tables e below (T6.setTop (mkF m 2 #[.val (.ref r0), .val (.int ((0 : Int32) + (1 : Int32)))] [])) _
      refine XS.iloadN X6.here hx rfl (hb hby d2_2) rfl ?_
      exact kt
    obtain ⟨T10, X10, e10, st10⟩ := getS2 X6 hx hZ hown (host := "") (Or.inl (hw _ (List.mem_of_getElem? (i := 10) rfl))) Via.refl e6 SB (g := (mkF m 3 #[.val (.ref r0), .val (.int ((0 : Int32) + (1 : Int32)))] [(.int ((0 : Int32) + (1 : Int32)))])) rfl (hb hby d2_3)
    have Vc12 := VB
    obtain ⟨cl12, Ar12, qk12, S12, M12, H12, G12⟩ := Vc12
    have Vc13 := V
    obtain ⟨cl13, Ar13, qk13, S13, M13, H13, G13⟩ := Vc13
    have Vc14 := V
    obtain ⟨cl14, Ar14, qk14, S14, M14, H14, G14⟩ := Vc14
    have hin14 : ¬ (((0 : Int32) + (1 : Int32)) < 0 ∨ cl14.slots.size ≤ (((0 : Int32) + (1 : Int32))).toNatClampNeg) := inb_of S14 ⟨by decide, by decide⟩
    have hat14 : cl14.slots[(((0 : Int32) + (1 : Int32))).toNatClampNeg]? = some (.int w1) := H14.at hin14 rfl
    have c16 : ∀ t, Steps p.tables e below (T10.setTop (mkF m 19 #[.val (.ref r0), .val (.int ((0 : Int32) + (1 : Int32)))] [(.int w1)])) t → Steps p.tables e below (T10.setTop (mkF m 6 #[.val (.ref r0), .val (.int ((0 : Int32) + (1 : Int32)))] [(.ref rm), (.int ((0 : Int32) + (1 : Int32)))])) t := by
      intro t kt
      show Steps p.tables e below (T10.setTop (mkF m 6 #[.val (.ref r0), .val (.int ((0 : Int32) + (1 : Int32)))] [(.ref rm), (.int ((0 : Int32) + (1 : Int32)))])) _
      refine X10.arraylength hx (by rw [e10]; exact Ar12.1) (State.isArrayOf_alike hZ.alike Ar12.2.1) (g := (mkF m 6 #[.val (.ref r0), .val (.int ((0 : Int32) + (1 : Int32)))] [(.ref rm), (.int ((0 : Int32) + (1 : Int32)))])) rfl rfl (hb hby d2_6) _ ?_
      rw [len_of S12 M12]
      show Steps p.tables e below (T10.setTop (mkF m 7 #[.val (.ref r0), .val (.int ((0 : Int32) + (1 : Int32)))] [(.int (3 : Int32)), (.int ((0 : Int32) + (1 : Int32)))])) _
      refine XS.icmpNo X10.here hx rfl (hb hby d2_7) rfl (tlt (by decide : ((0 : Int32) + (1 : Int32)) < (3 : Int32))).2.1 ?_
      show Steps p.tables e below (T10.setTop (mkF m 10 #[.val (.ref r0), .val (.int ((0 : Int32) + (1 : Int32)))] [])) _
      refine XS.iloadN X10.here hx rfl (hb hby d2_10) rfl ?_
      show Steps p.tables e below (T10.setTop (mkF m 11 #[.val (.ref r0), .val (.int ((0 : Int32) + (1 : Int32)))] [(.int ((0 : Int32) + (1 : Int32)))])) _
      refine XS.aloadN X10.here hx rfl (hb hby d2_11) rfl rfl ?_
      show Steps p.tables e below (T10.setTop (mkF m 12 #[.val (.ref r0), .val (.int ((0 : Int32) + (1 : Int32)))] [(.ref r0), (.int ((0 : Int32) + (1 : Int32)))])) _
      refine X10.arraylength hx (by rw [e10]; exact Ar13.1) (State.isArrayOf_alike hZ.alike Ar13.2.1) (g := (mkF m 12 #[.val (.ref r0), .val (.int ((0 : Int32) + (1 : Int32)))] [(.ref r0), (.int ((0 : Int32) + (1 : Int32)))])) rfl rfl (hb hby d2_12) _ ?_
      rw [len_of S13 M13]
      show Steps p.tables e below (T10.setTop (mkF m 13 #[.val (.ref r0), .val (.int ((0 : Int32) + (1 : Int32)))] [(.int (2 : Int32)), (.int ((0 : Int32) + (1 : Int32)))])) _
      refine XS.icmpNo X10.here hx rfl (hb hby d2_13) rfl (feq (by decide : ¬ (((0 : Int32) + (1 : Int32)) = (2 : Int32)))).1 ?_
      show Steps p.tables e below (T10.setTop (mkF m 16 #[.val (.ref r0), .val (.int ((0 : Int32) + (1 : Int32)))] [])) _
      refine XS.aloadN X10.here hx rfl (hb hby d2_16) rfl rfl ?_
      show Steps p.tables e below (T10.setTop (mkF m 17 #[.val (.ref r0), .val (.int ((0 : Int32) + (1 : Int32)))] [(.ref r0)])) _
      refine XS.iloadN X10.here hx rfl (hb hby d2_17) rfl ?_
      show Steps p.tables e below (T10.setTop (mkF m 18 #[.val (.ref r0), .val (.int ((0 : Int32) + (1 : Int32)))] [(.int ((0 : Int32) + (1 : Int32))), (.ref r0)])) _
      refine X10.baloadBytes hx (j := ((0 : Int32) + (1 : Int32))) (v := (.int w1)) (by rw [e10]; exact Ar14.1) (State.isArrayOf_alike hZ.alike Ar14.2.1) Ar14.2.2 hin14 hat14 (g := (mkF m 18 #[.val (.ref r0), .val (.int ((0 : Int32) + (1 : Int32)))] [(.int ((0 : Int32) + (1 : Int32))), (.ref r0)])) rfl rfl (hb hby d2_18) _ ?_
      exact kt
    obtain ⟨T15, X15, e15, st15⟩ := getS2 X10 hx hZ hown (host := "") (Or.inl (hw _ (List.mem_of_getElem? (i := 10) rfl))) Via.refl e10 SB (g := (mkF m 19 #[.val (.ref r0), .val (.int ((0 : Int32) + (1 : Int32)))] [(.int w1)])) rfl (hb hby d2_19)
    have Vc17 := VB
    obtain ⟨cl17, Ar17, qk17, S17, M17, H17, G17⟩ := Vc17
    have hin17 : ¬ (((0 : Int32) + (1 : Int32)) < 0 ∨ cl17.slots.size ≤ (((0 : Int32) + (1 : Int32))).toNatClampNeg) := inb_of S17 ⟨by decide, by decide⟩
    have hat17 : cl17.slots[(((0 : Int32) + (1 : Int32))).toNatClampNeg]? = some (.int (-69 : Int32)) := H17.at hin17 rfl
    have c18 : ∀ t, Steps p.tables e below (T15.setTop (mkF m 24 #[.val (.ref r0), .val (.int ((0 : Int32) + (1 : Int32)))] [(.int (-69 : Int32)), (.int w1)])) t → Steps p.tables e below (T15.setTop (mkF m 22 #[.val (.ref r0), .val (.int ((0 : Int32) + (1 : Int32)))] [(.ref rm), (.int w1)])) t := by
      intro t kt
      show Steps p.tables e below (T15.setTop (mkF m 22 #[.val (.ref r0), .val (.int ((0 : Int32) + (1 : Int32)))] [(.ref rm), (.int w1)])) _
      refine XS.iloadN X15.here hx rfl (hb hby d2_22) rfl ?_
      show Steps p.tables e below (T15.setTop (mkF m 23 #[.val (.ref r0), .val (.int ((0 : Int32) + (1 : Int32)))] [(.int ((0 : Int32) + (1 : Int32))), (.ref rm), (.int w1)])) _
      refine X15.baloadBytes hx (j := ((0 : Int32) + (1 : Int32))) (v := (.int (-69 : Int32))) (by rw [e15]; exact Ar17.1) (State.isArrayOf_alike hZ.alike Ar17.2.1) Ar17.2.2 hin17 hat17 (g := (mkF m 23 #[.val (.ref r0), .val (.int ((0 : Int32) + (1 : Int32)))] [(.int ((0 : Int32) + (1 : Int32))), (.ref rm), (.int w1)])) rfl rfl (hb hby d2_23) _ ?_
      exact kt
    by_cases hc24_2 : w1 = (-69 : Int32)
    · -- it is
      have c20 : ∀ t, Steps p.tables e below (T15.setTop (mkF m 3 #[.val (.ref r0), .val (.int (((0 : Int32) + (1 : Int32)) + (1 : Int32)))] [(.int (((0 : Int32) + (1 : Int32)) + (1 : Int32)))])) t → Steps p.tables e below (T15.setTop (mkF m 24 #[.val (.ref r0), .val (.int ((0 : Int32) + (1 : Int32)))] [(.int (-69 : Int32)), (.int w1)])) t := by
        intro t kt
        show Steps p.tables e below (T15.setTop (mkF m 24 #[.val (.ref r0), .val (.int ((0 : Int32) + (1 : Int32)))] [(.int (-69 : Int32)), (.int w1)])) _
        refine XS.icmpYes X15.here hx rfl (pc0 := 24) (pc' := 29) rfl (hb hby d2_24) rfl (teq hc24_2).1 (by decide) (by decide) ?_
        show Steps p.tables e below (T15.setTop (mkF m 29 #[.val (.ref r0), .val (.int ((0 : Int32) + (1 : Int32)))] [])) _
        refine XS.iinc X15.here hx rfl (hb hby d2_29) rfl (l' := #[.val (.ref r0), .val (.int (((0 : Int32) + (1 : Int32)) + (1 : Int32)))]) rfl ?_
        show Steps p.tables e below (T15.setTop (mkF m 32 #[.val (.ref r0), .val (.int (((0 : Int32) + (1 : Int32)) + (1 : Int32)))] [])) _
        refine XS.goto X15.here hx rfl (pc0 := 32) (pc' := 2) rfl (hb hby d2_32) (by decide) (by decide) ?_
        show Steps p.tables e below (T15.setTop (mkF m 2 #[.val (.ref r0), .val (.int (((0 : Int32) + (1 : Int32)) + (1 : Int32)))] [])) _
        refine XS.iloadN X15.here hx rfl (hb hby d2_2) rfl ?_
        exact kt
      obtain ⟨T19, X19, e19, st19⟩ := getS2 X15 hx hZ hown (host := "") (Or.inl (hw _ (List.mem_of_getElem? (i := 10) rfl))) Via.refl e15 SB (g := (mkF m 3 #[.val (.ref r0), .val (.int (((0 : Int32) + (1 : Int32)) + (1 : Int32)))] [(.int (((0 : Int32) + (1 : Int32)) + (1 : Int32)))])) rfl (hb hby d2_3)
      have Vc21 := VB
      obtain ⟨cl21, Ar21, qk21, S21, M21, H21, G21⟩ := Vc21
      have Vc22 := V
      obtain ⟨cl22, Ar22, qk22, S22, M22, H22, G22⟩ := Vc22
      have c23 : ∀ t, Steps p.tables e below (T19.setTop (mkF m 28 #[.val (.ref r0), .val (.int (((0 : Int32) + (1 : Int32)) + (1 : Int32)))] [(.int (0 : Int32))])) t → Steps p.tables e below (T19.setTop (mkF m 6 #[.val (.ref r0), .val (.int (((0 : Int32) + (1 : Int32)) + (1 : Int32)))] [(.ref rm), (.int (((0 : Int32) + (1 : Int32)) + (1 : Int32)))])) t := by
        intro t kt
        show Steps p.tables e below (T19.setTop (mkF m 6 #[.val (.ref r0), .val (.int (((0 : Int32) + (1 : Int32)) + (1 : Int32)))] [(.ref rm), (.int (((0 : Int32) + (1 : Int32)) + (1 : Int32)))])) _
        refine X19.arraylength hx (by rw [e19]; exact Ar21.1) (State.isArrayOf_alike hZ.alike Ar21.2.1) (g := (mkF m 6 #[.val (.ref r0), .val (.int (((0 : Int32) + (1 : Int32)) + (1 : Int32)))] [(.ref rm), (.int (((0 : Int32) + (1 : Int32)) + (1 : Int32)))])) rfl rfl (hb hby d2_6) _ ?_
        rw [len_of S21 M21]
        show Steps p.tables e below (T19.setTop (mkF m 7 #[.val (.ref r0), .val (.int (((0 : Int32) + (1 : Int32)) + (1 : Int32)))] [(.int (3 : Int32)), (.int (((0 : Int32) + (1 : Int32)) + (1 : Int32)))])) _
        refine XS.icmpNo X19.here hx rfl (hb hby d2_7) rfl (tlt (by decide : (((0 : Int32) + (1 : Int32)) + (1 : Int32)) < (3 : Int32))).2.1 ?_
        show Steps p.tables e below (T19.setTop (mkF m 10 #[.val (.ref r0), .val (.int (((0 : Int32) + (1 : Int32)) + (1 : Int32)))] [])) _
        refine XS.iloadN X19.here hx rfl (hb hby d2_10) rfl ?_
        show Steps p.tables e below (T19.setTop (mkF m 11 #[.val (.ref r0), .val (.int (((0 : Int32) + (1 : Int32)) + (1 : Int32)))] [(.int (((0 : Int32) + (1 : Int32)) + (1 : Int32)))])) _
        refine XS.aloadN X19.here hx rfl (hb hby d2_11) rfl rfl ?_
        show Steps p.tables e below (T19.setTop (mkF m 12 #[.val (.ref r0), .val (.int (((0 : Int32) + (1 : Int32)) + (1 : Int32)))] [(.ref r0), (.int (((0 : Int32) + (1 : Int32)) + (1 : Int32)))])) _
        refine X19.arraylength hx (by rw [e19]; exact Ar22.1) (State.isArrayOf_alike hZ.alike Ar22.2.1) (g := (mkF m 12 #[.val (.ref r0), .val (.int (((0 : Int32) + (1 : Int32)) + (1 : Int32)))] [(.ref r0), (.int (((0 : Int32) + (1 : Int32)) + (1 : Int32)))])) rfl rfl (hb hby d2_12) _ ?_
        rw [len_of S22 M22]
        show Steps p.tables e below (T19.setTop (mkF m 13 #[.val (.ref r0), .val (.int (((0 : Int32) + (1 : Int32)) + (1 : Int32)))] [(.int (2 : Int32)), (.int (((0 : Int32) + (1 : Int32)) + (1 : Int32)))])) _
        refine XS.icmpYes X19.here hx rfl (pc0 := 13) (pc' := 27) rfl (hb hby d2_13) rfl (teq (by decide : (((0 : Int32) + (1 : Int32)) + (1 : Int32)) = (2 : Int32))).1 (by decide) (by decide) ?_
        show Steps p.tables e below (T19.setTop (mkF m 27 #[.val (.ref r0), .val (.int (((0 : Int32) + (1 : Int32)) + (1 : Int32)))] [])) _
        refine XS.iconst X19.here hx rfl (hb hby d2_27) ?_
        exact kt
      obtain ⟨fs, hr, hrun, hended, hW, hsame⟩ := X19.leave (v := some (.int (0 : Int32))) (fun h => by rw [Bd.returns] at h; cases h)
      refine ⟨_, _, pre0 _ (c2 _ (st1 _ (c7 _ (st6 _ (c9 _ (c11 _ (st10 _ (c16 _ (st15 _ (c18 _ (c20 _ (st19 _ (c23 _ (?_)))))))))))))), hrun, hended, _, _, rfl, ?_, ⟨_, rfl⟩, hW, hsame.mono (by decide) (by decide)⟩
      · show Steps p.tables e below (T19.setTop (mkF m 28 #[.val (.ref r0), .val (.int (((0 : Int32) + (1 : Int32)) + (1 : Int32)))] [(.int (0 : Int32))])) _
        exact retI X19 hx Bd.returns (hb hby d2_28) hr
      · show Q2_2 Z r0 kk w0 w1 rm km h0 n0 _ T19.heap _
        rw [e19]
        exact ⟨congrArg (fun z => some (Value.int z)) (show (0 : Int32) = (0 : Int32) from by rfl), N0, rfl⟩
    · -- it isn't
      have c25 : ∀ t, Steps p.tables e below (T15.setTop (mkF m 28 #[.val (.ref r0), .val (.int ((0 : Int32) + (1 : Int32)))] [(.int (0 : Int32))])) t → Steps p.tables e below (T15.setTop (mkF m 24 #[.val (.ref r0), .val (.int ((0 : Int32) + (1 : Int32)))] [(.int (-69 : Int32)), (.int w1)])) t := by
        intro t kt
        show Steps p.tables e below (T15.setTop (mkF m 24 #[.val (.ref r0), .val (.int ((0 : Int32) + (1 : Int32)))] [(.int (-69 : Int32)), (.int w1)])) _
        refine XS.icmpNo X15.here hx rfl (hb hby d2_24) rfl (feq hc24_2).1 ?_
        show Steps p.tables e below (T15.setTop (mkF m 27 #[.val (.ref r0), .val (.int ((0 : Int32) + (1 : Int32)))] [])) _
        refine XS.iconst X15.here hx rfl (hb hby d2_27) ?_
        exact kt
      obtain ⟨fs, hr, hrun, hended, hW, hsame⟩ := X15.leave (v := some (.int (0 : Int32))) (fun h => by rw [Bd.returns] at h; cases h)
      refine ⟨_, _, pre0 _ (c2 _ (st1 _ (c7 _ (st6 _ (c9 _ (c11 _ (st10 _ (c16 _ (st15 _ (c18 _ (c25 _ (?_)))))))))))), hrun, hended, _, _, rfl, ?_, ⟨_, rfl⟩, hW, hsame.mono (by decide) (by decide)⟩
      · show Steps p.tables e below (T15.setTop (mkF m 28 #[.val (.ref r0), .val (.int ((0 : Int32) + (1 : Int32)))] [(.int (0 : Int32))])) _
        exact retI X15 hx Bd.returns (hb hby d2_28) hr
      · show Q2_2 Z r0 kk w0 w1 rm km h0 n0 _ T15.heap _
        rw [e15]
        exact ⟨congrArg (fun z => some (Value.int z)) (show (0 : Int32) = (0 : Int32) from by rfl), N0, rfl⟩
  · -- it isn't
    have c27 : ∀ t, Steps p.tables e below (T6.setTop (mkF m 28 #[.val (.ref r0), .val (.int (0 : Int32))] [(.int (0 : Int32))])) t → Steps p.tables e below (T6.setTop (mkF m 24 #[.val (.ref r0), .val (.int (0 : Int32))] [(.int (-17 : Int32)), (.int w0)])) t := by
      intro t kt
      show Steps p.tables e below (T6.setTop (mkF m 24 #[.val (.ref r0), .val (.int (0 : Int32))] [(.int (-17 : Int32)), (.int w0)])) _
      refine XS.icmpNo X6.here hx rfl (hb hby d2_24) rfl (feq hc24).1 ?_
      show Steps p.tables e below (T6.setTop (mkF m 27 #[.val (.ref r0), .val (.int (0 : Int32))] [])) _
      refine XS.iconst X6.here hx rfl (hb hby d2_27) ?_
      exact kt
    obtain ⟨fs, hr, hrun, hended, hW, hsame⟩ := X6.leave (v := some (.int (0 : Int32))) (fun h => by rw [Bd.returns] at h; cases h)
    refine ⟨_, _, pre0 _ (c2 _ (st1 _ (c7 _ (st6 _ (c9 _ (c27 _ (?_))))))), hrun, hended, _, _, rfl, ?_, ⟨_, rfl⟩, hW, hsame.mono (by decide) (by decide)⟩
    · show Steps p.tables e below (T6.setTop (mkF m 28 #[.val (.ref r0), .val (.int (0 : Int32))] [(.int (0 : Int32))])) _
      exact retI X6 hx Bd.returns (hb hby d2_28) hr
    · show Q2_2 Z r0 kk w0 w1 rm km h0 n0 _ T6.heap _
      rw [e6]
      exact ⟨congrArg (fun z => some (Value.int z)) (show (0 : Int32) = (0 : Int32) from by rfl), N0, rfl⟩
theorem d2_35 : decode prog_4_method_2_code 35 = .ok (.getstatic 7, 3) := by decide +kernel
theorem d2_38 : decode prog_4_method_2_code 38 = .ok (.arraylength, 1) := by decide +kernel
theorem d2_39 : decode prog_4_method_2_code 39 = .ok (.ireturn, 1) := by decide +kernel
def Q2_3 (Z : State) (r0 : Addr) (kk : ClassId) (w0 w1 w2 : Int32) (rm : Addr) (km : ClassId) (h0 : Heap) (n0 : Nat) (v : Option Value) (h : Heap) (L : List Loc) : Prop := v = some (.int (own_st w0 w1 w2)) ∧ Fr n0 L ∧ h = h0
set_option maxRecDepth 65536 in
set_option maxHeartbeats 40000000 in
theorem rm2_3 (l : Launch) (Z : State) (a0 : Array Value) (hw : ∀ d ∈ tables_1, d.before a0 Z = true) (ws : List Jvm.Cond) (r0 : Addr) (kk : ClassId) (w0 w1 w2 : Int32) (rm : Addr) (km : ClassId) (h0 : Heap) (n0 : Nat) (Z0 : n0 ≤ h0.size) (V : Arv Z h0 r0 kk .byte (3 : Int32) [(.int w0), (.int w1), (.int w2)] (.int (0 : Int32))) (SB : Sta Z h0 "com/example/ratewright/ratewright/io/Utf8Text" "BYTE_ORDER_MARK" "[B" (.ref rm)) (VB : Arv Z h0 rm km .byte (3 : Int32) [(.int (-17 : Int32)), (.int (-69 : Int32)), (.int (-65 : Int32))] (.int (0 : Int32))) :
    MetFree l (⟨"com/example/ratewright/ratewright/io/Utf8Text", "start", "([B)I"⟩ : MethodName) (head1 (Jvm.Cond.code (⟨"com/example/ratewright/ratewright/io/Utf8Text", "start", "([B)I"⟩ : MethodName) prog_4_method_2_code 2 (some .int) :: ws) ({ frames := 0, cells := 0, slots := 0, locals := 0 } : Room)) (fun a U => a = #[(.ref r0)] ∧ Z.Warmed39 U.vm ∧ U.heap = h0) (fun _ _ _ _ _ => True) (fun _ U o U' => ∃ v L, o = .returned v ∧ Q2_3 Z r0 kk w0 w1 w2 rm km h0 n0 v U'.heap L ∧ FrameEnd U o U' L ({ frames := 0, cells := 0, slots := 0, locals := 0 } : Room).cells ({ frames := 0, cells := 0, slots := 0, locals := 0 } : Room).slots) := by
  refine MetFree.of_bodySF (plainFor_of_name pn_2) hisR ?_
  intro p e s m args below meth c s₁ Bd hml0 hP hK
  obtain ⟨rfl, hZ, hh⟩ := hP
  have hx := Bd.exec
  have hby := Bd.bytes
  have hml : c.maxLocals = 2 := hml0
  have hown : s.vm.findClass "com/example/ratewright/ratewright/io/Utf8Text" = some m.cls := findClass_of_methodNamed Bd.named
  have hnm := (name_of_methodNamed Bd.named Bd.method).1
  have X0 : Stand p l e ({ frames := 0, cells := 0, slots := 0, locals := 0 } : Room) s m #[(.ref r0)] below meth c s₁ [] 0 0 := Stand.of_body Bd
  have e0 : s₁.heap = h0 := by rw [← hh, Bd.state]; rfl
  have N0 := Fr.nil n0
  have pre0 : ∀ t, Steps p.tables e below (s₁.setTop (mkF m 0 #[.val (.ref r0), .unset] [])) t → Steps p.tables e below (s₁.setTop (entryFrame m #[(.ref r0)] 2)) t := fun t k => castTop (ef_2 m r0) k
  have c2 : ∀ t, Steps p.tables e below (s₁.setTop (mkF m 3 #[.val (.ref r0), .val (.int (0 : Int32))] [(.int (0 : Int32))])) t → Steps p.tables e below (s₁.setTop (mkF m 0 #[.val (.ref r0), .unset] [])) t := by
    intro t kt
    show Steps p.tables e below (s₁.setTop (mkF m 0 #[.val (.ref r0), .unset] [])) _
    refine XS.iconst X0.here hx rfl (hb hby d2_0) ?_
    show Steps p.tables e below (s₁.setTop (mkF m 1 #[.val (.ref r0), .unset] [(.int (0 : Int32))])) _
    refine XS.istoreN X0.here hx rfl (hb hby d2_1) rfl (l' := #[.val (.ref r0), .val (.int (0 : Int32))]) rfl ?_
    show Steps p.tables e below (s₁.setTop (mkF m 2 #[.val (.ref r0), .val (.int (0 : Int32))] [])) _
    refine XS.iloadN X0.here hx rfl (hb hby d2_2) rfl ?_
    exact kt
  obtain ⟨T1, X1, e1, st1⟩ := getS2 X0 hx hZ hown (host := "") (Or.inl (hw _ (List.mem_of_getElem? (i := 10) rfl))) Via.refl e0 SB (g := (mkF m 3 #[.val (.ref r0), .val (.int (0 : Int32))] [(.int (0 : Int32))])) rfl (hb hby d2_3)
  have Vc3 := VB
  obtain ⟨cl3, Ar3, qk3, S3, M3, H3, G3⟩ := Vc3
  have Vc4 := V
  obtain ⟨cl4, Ar4, qk4, S4, M4, H4, G4⟩ := Vc4
  have Vc5 := V
  obtain ⟨cl5, Ar5, qk5, S5, M5, H5, G5⟩ := Vc5
  have hin5 : ¬ ((0 : Int32) < 0 ∨ cl5.slots.size ≤ ((0 : Int32)).toNatClampNeg) := inb_of S5 ⟨by decide, by decide⟩
  have hat5 : cl5.slots[((0 : Int32)).toNatClampNeg]? = some (.int w0) := H5.at hin5 rfl
  have c7 : ∀ t, Steps p.tables e below (T1.setTop (mkF m 19 #[.val (.ref r0), .val (.int (0 : Int32))] [(.int w0)])) t → Steps p.tables e below (T1.setTop (mkF m 6 #[.val (.ref r0), .val (.int (0 : Int32))] [(.ref rm), (.int (0 : Int32))])) t := by
    intro t kt
    show Steps p.tables e below (T1.setTop (mkF m 6 #[.val (.ref r0), .val (.int (0 : Int32))] [(.ref rm), (.int (0 : Int32))])) _
    refine X1.arraylength hx (by rw [e1]; exact Ar3.1) (State.isArrayOf_alike hZ.alike Ar3.2.1) (g := (mkF m 6 #[.val (.ref r0), .val (.int (0 : Int32))] [(.ref rm), (.int (0 : Int32))])) rfl rfl (hb hby d2_6) _ ?_
    rw [len_of S3 M3]
    show Steps p.tables e below (T1.setTop (mkF m 7 #[.val (.ref r0), .val (.int (0 : Int32))] [(.int (3 : Int32)), (.int (0 : Int32))])) _
    refine XS.icmpNo X1.here hx rfl (hb hby d2_7) rfl (tlt (by decide : (0 : Int32) < (3 : Int32))).2.1 ?_
    show Steps p.tables e below (T1.setTop (mkF m 10 #[.val (.ref r0), .val (.int (0 : Int32))] [])) _
    refine XS.iloadN X1.here hx rfl (hb hby d2_10) rfl ?_
    show Steps p.tables e below (T1.setTop (mkF m 11 #[.val (.ref r0), .val (.int (0 : Int32))] [(.int (0 : Int32))])) _
    refine XS.aloadN X1.here hx rfl (hb hby d2_11) rfl rfl ?_
    show Steps p.tables e below (T1.setTop (mkF m 12 #[.val (.ref r0), .val (.int (0 : Int32))] [(.ref r0), (.int (0 : Int32))])) _
    refine X1.arraylength hx (by rw [e1]; exact Ar4.1) (State.isArrayOf_alike hZ.alike Ar4.2.1) (g := (mkF m 12 #[.val (.ref r0), .val (.int (0 : Int32))] [(.ref r0), (.int (0 : Int32))])) rfl rfl (hb hby d2_12) _ ?_
    rw [len_of S4 M4]
    show Steps p.tables e below (T1.setTop (mkF m 13 #[.val (.ref r0), .val (.int (0 : Int32))] [(.int (3 : Int32)), (.int (0 : Int32))])) _
    refine XS.icmpNo X1.here hx rfl (hb hby d2_13) rfl (feq (by decide : ¬ ((0 : Int32) = (3 : Int32)))).1 ?_
    show Steps p.tables e below (T1.setTop (mkF m 16 #[.val (.ref r0), .val (.int (0 : Int32))] [])) _
    refine XS.aloadN X1.here hx rfl (hb hby d2_16) rfl rfl ?_
    show Steps p.tables e below (T1.setTop (mkF m 17 #[.val (.ref r0), .val (.int (0 : Int32))] [(.ref r0)])) _
    refine XS.iloadN X1.here hx rfl (hb hby d2_17) rfl ?_
    show Steps p.tables e below (T1.setTop (mkF m 18 #[.val (.ref r0), .val (.int (0 : Int32))] [(.int (0 : Int32)), (.ref r0)])) _
    refine X1.baloadBytes hx (j := (0 : Int32)) (v := (.int w0)) (by rw [e1]; exact Ar5.1) (State.isArrayOf_alike hZ.alike Ar5.2.1) Ar5.2.2 hin5 hat5 (g := (mkF m 18 #[.val (.ref r0), .val (.int (0 : Int32))] [(.int (0 : Int32)), (.ref r0)])) rfl rfl (hb hby d2_18) _ ?_
    exact kt
  obtain ⟨T6, X6, e6, st6⟩ := getS2 X1 hx hZ hown (host := "") (Or.inl (hw _ (List.mem_of_getElem? (i := 10) rfl))) Via.refl e1 SB (g := (mkF m 19 #[.val (.ref r0), .val (.int (0 : Int32))] [(.int w0)])) rfl (hb hby d2_19)
  have Vc8 := VB
  obtain ⟨cl8, Ar8, qk8, S8, M8, H8, G8⟩ := Vc8
  have hin8 : ¬ ((0 : Int32) < 0 ∨ cl8.slots.size ≤ ((0 : Int32)).toNatClampNeg) := inb_of S8 ⟨by decide, by decide⟩
  have hat8 : cl8.slots[((0 : Int32)).toNatClampNeg]? = some (.int (-17 : Int32)) := H8.at hin8 rfl
  have c9 : ∀ t, Steps p.tables e below (T6.setTop (mkF m 24 #[.val (.ref r0), .val (.int (0 : Int32))] [(.int (-17 : Int32)), (.int w0)])) t → Steps p.tables e below (T6.setTop (mkF m 22 #[.val (.ref r0), .val (.int (0 : Int32))] [(.ref rm), (.int w0)])) t := by
    intro t kt
    show Steps p.tables e below (T6.setTop (mkF m 22 #[.val (.ref r0), .val (.int (0 : Int32))] [(.ref rm), (.int w0)])) _
    refine XS.iloadN X6.here hx rfl (hb hby d2_22) rfl ?_
    show Steps p.tables e below (T6.setTop (mkF m 23 #[.val (.ref r0), .val (.int (0 : Int32))] [(.int (0 : Int32)), (.ref rm), (.int w0)])) _
    refine X6.baloadBytes hx (j := (0 : Int32)) (v := (.int (-17 : Int32))) (by rw [e6]; exact Ar8.1) (State.isArrayOf_alike hZ.alike Ar8.2.1) Ar8.2.2 hin8 hat8 (g := (mkF m 23 #[.val (.ref r0), .val (.int (0 : Int32))] [(.int (0 : Int32)), (.ref rm), (.int w0)])) rfl rfl (hb hby d2_23) _ ?_
    exact kt
  by_cases hc24 : w0 = (-17 : Int32)
  · -- it is
    have c11 : ∀ t, Steps p.tables e below (T6.setTop (mkF m 3 #[.val (.ref r0), .val (.int ((0 : Int32) + (1 : Int32)))] [(.int ((0 : Int32) + (1 : Int32)))])) t → Steps p.tables e below (T6.setTop (mkF m 24 #[.val (.ref r0), .val (.int (0 : Int32))] [(.int (-17 : Int32)), (.int w0)])) t := by
      intro t kt
      show Steps p.tables e below (T6.setTop (mkF m 24 #[.val (.ref r0), .val (.int (0 : Int32))] [(.int (-17 : Int32)), (.int w0)])) _
      refine XS.icmpYes X6.here hx rfl (pc0 := 24) (pc' := 29) rfl (hb hby d2_24) rfl (teq hc24).1 (by decide) (by decide) ?_
      show Steps p.tables e below (T6.setTop (mkF m 29 #[.val (.ref r0), .val (.int (0 : Int32))] [])) _
      refine XS.iinc X6.here hx rfl (hb hby d2_29) rfl (l' := #[.val (.ref r0), .val (.int ((0 : Int32) + (1 : Int32)))]) rfl ?_
      show Steps p.tables e below (T6.setTop (mkF m 32 #[.val (.ref r0), .val (.int ((0 : Int32) + (1 : Int32)))] [])) _
      refine XS.goto X6.here hx rfl (pc0 := 32) (pc' := 2) rfl (hb hby d2_32) (by decide) (by decide) ?_
      show Steps p.tables e below (T6.setTop (mkF m 2 #[.val (.ref r0), .val (.int ((0 : Int32) + (1 : Int32)))] [])) _
      refine XS.iloadN X6.here hx rfl (hb hby d2_2) rfl ?_
      exact kt
    obtain ⟨T10, X10, e10, st10⟩ := getS2 X6 hx hZ hown (host := "") (Or.inl (hw _ (List.mem_of_getElem? (i := 10) rfl))) Via.refl e6 SB (g := (mkF m 3 #[.val (.ref r0), .val (.int ((0 : Int32) + (1 : Int32)))] [(.int ((0 : Int32) + (1 : Int32)))])) rfl (hb hby d2_3)
    have Vc12 := VB
    obtain ⟨cl12, Ar12, qk12, S12, M12, H12, G12⟩ := Vc12
    have Vc13 := V
    obtain ⟨cl13, Ar13, qk13, S13, M13, H13, G13⟩ := Vc13
    have Vc14 := V
    obtain ⟨cl14, Ar14, qk14, S14, M14, H14, G14⟩ := Vc14
    have hin14 : ¬ (((0 : Int32) + (1 : Int32)) < 0 ∨ cl14.slots.size ≤ (((0 : Int32) + (1 : Int32))).toNatClampNeg) := inb_of S14 ⟨by decide, by decide⟩
    have hat14 : cl14.slots[(((0 : Int32) + (1 : Int32))).toNatClampNeg]? = some (.int w1) := H14.at hin14 rfl
    have c16 : ∀ t, Steps p.tables e below (T10.setTop (mkF m 19 #[.val (.ref r0), .val (.int ((0 : Int32) + (1 : Int32)))] [(.int w1)])) t → Steps p.tables e below (T10.setTop (mkF m 6 #[.val (.ref r0), .val (.int ((0 : Int32) + (1 : Int32)))] [(.ref rm), (.int ((0 : Int32) + (1 : Int32)))])) t := by
      intro t kt
      show Steps p.tables e below (T10.setTop (mkF m 6 #[.val (.ref r0), .val (.int ((0 : Int32) + (1 : Int32)))] [(.ref rm), (.int ((0 : Int32) + (1 : Int32)))])) _
      refine X10.arraylength hx (by rw [e10]; exact Ar12.1) (State.isArrayOf_alike hZ.alike Ar12.2.1) (g := (mkF m 6 #[.val (.ref r0), .val (.int ((0 : Int32) + (1 : Int32)))] [(.ref rm), (.int ((0 : Int32) + (1 : Int32)))])) rfl rfl (hb hby d2_6) _ ?_
      rw [len_of S12 M12]
      show Steps p.tables e below (T10.setTop (mkF m 7 #[.val (.ref r0), .val (.int ((0 : Int32) + (1 : Int32)))] [(.int (3 : Int32)), (.int ((0 : Int32) + (1 : Int32)))])) _
      refine XS.icmpNo X10.here hx rfl (hb hby d2_7) rfl (tlt (by decide : ((0 : Int32) + (1 : Int32)) < (3 : Int32))).2.1 ?_
      show Steps p.tables e below (T10.setTop (mkF m 10 #[.val (.ref r0), .val (.int ((0 : Int32) + (1 : Int32)))] [])) _
      refine XS.iloadN X10.here hx rfl (hb hby d2_10) rfl ?_
      show Steps p.tables e below (T10.setTop (mkF m 11 #[.val (.ref r0), .val (.int ((0 : Int32) + (1 : Int32)))] [(.int ((0 : Int32) + (1 : Int32)))])) _
      refine XS.aloadN X10.here hx rfl (hb hby d2_11) rfl rfl ?_
      show Steps p.tables e below (T10.setTop (mkF m 12 #[.val (.ref r0), .val (.int ((0 : Int32) + (1 : Int32)))] [(.ref r0), (.int ((0 : Int32) + (1 : Int32)))])) _
      refine X10.arraylength hx (by rw [e10]; exact Ar13.1) (State.isArrayOf_alike hZ.alike Ar13.2.1) (g := (mkF m 12 #[.val (.ref r0), .val (.int ((0 : Int32) + (1 : Int32)))] [(.ref r0), (.int ((0 : Int32) + (1 : Int32)))])) rfl rfl (hb hby d2_12) _ ?_
      rw [len_of S13 M13]
      show Steps p.tables e below (T10.setTop (mkF m 13 #[.val (.ref r0), .val (.int ((0 : Int32) + (1 : Int32)))] [(.int (3 : Int32)), (.int ((0 : Int32) + (1 : Int32)))])) _
      refine XS.icmpNo X10.here hx rfl (hb hby d2_13) rfl (feq (by decide : ¬ (((0 : Int32) + (1 : Int32)) = (3 : Int32)))).1 ?_
      show Steps p.tables e below (T10.setTop (mkF m 16 #[.val (.ref r0), .val (.int ((0 : Int32) + (1 : Int32)))] [])) _
      refine XS.aloadN X10.here hx rfl (hb hby d2_16) rfl rfl ?_
      show Steps p.tables e below (T10.setTop (mkF m 17 #[.val (.ref r0), .val (.int ((0 : Int32) + (1 : Int32)))] [(.ref r0)])) _
      refine XS.iloadN X10.here hx rfl (hb hby d2_17) rfl ?_
      show Steps p.tables e below (T10.setTop (mkF m 18 #[.val (.ref r0), .val (.int ((0 : Int32) + (1 : Int32)))] [(.int ((0 : Int32) + (1 : Int32))), (.ref r0)])) _
      refine X10.baloadBytes hx (j := ((0 : Int32) + (1 : Int32))) (v := (.int w1)) (by rw [e10]; exact Ar14.1) (State.isArrayOf_alike hZ.alike Ar14.2.1) Ar14.2.2 hin14 hat14 (g := (mkF m 18 #[.val (.ref r0), .val (.int ((0 : Int32) + (1 : Int32)))] [(.int ((0 : Int32) + (1 : Int32))), (.ref r0)])) rfl rfl (hb hby d2_18) _ ?_
      exact kt
    obtain ⟨T15, X15, e15, st15⟩ := getS2 X10 hx hZ hown (host := "") (Or.inl (hw _ (List.mem_of_getElem? (i := 10) rfl))) Via.refl e10 SB (g := (mkF m 19 #[.val (.ref r0), .val (.int ((0 : Int32) + (1 : Int32)))] [(.int w1)])) rfl (hb hby d2_19)
    have Vc17 := VB
    obtain ⟨cl17, Ar17, qk17, S17, M17, H17, G17⟩ := Vc17
    have hin17 : ¬ (((0 : Int32) + (1 : Int32)) < 0 ∨ cl17.slots.size ≤ (((0 : Int32) + (1 : Int32))).toNatClampNeg) := inb_of S17 ⟨by decide, by decide⟩
    have hat17 : cl17.slots[(((0 : Int32) + (1 : Int32))).toNatClampNeg]? = some (.int (-69 : Int32)) := H17.at hin17 rfl
    have c18 : ∀ t, Steps p.tables e below (T15.setTop (mkF m 24 #[.val (.ref r0), .val (.int ((0 : Int32) + (1 : Int32)))] [(.int (-69 : Int32)), (.int w1)])) t → Steps p.tables e below (T15.setTop (mkF m 22 #[.val (.ref r0), .val (.int ((0 : Int32) + (1 : Int32)))] [(.ref rm), (.int w1)])) t := by
      intro t kt
      show Steps p.tables e below (T15.setTop (mkF m 22 #[.val (.ref r0), .val (.int ((0 : Int32) + (1 : Int32)))] [(.ref rm), (.int w1)])) _
      refine XS.iloadN X15.here hx rfl (hb hby d2_22) rfl ?_
      show Steps p.tables e below (T15.setTop (mkF m 23 #[.val (.ref r0), .val (.int ((0 : Int32) + (1 : Int32)))] [(.int ((0 : Int32) + (1 : Int32))), (.ref rm), (.int w1)])) _
      refine X15.baloadBytes hx (j := ((0 : Int32) + (1 : Int32))) (v := (.int (-69 : Int32))) (by rw [e15]; exact Ar17.1) (State.isArrayOf_alike hZ.alike Ar17.2.1) Ar17.2.2 hin17 hat17 (g := (mkF m 23 #[.val (.ref r0), .val (.int ((0 : Int32) + (1 : Int32)))] [(.int ((0 : Int32) + (1 : Int32))), (.ref rm), (.int w1)])) rfl rfl (hb hby d2_23) _ ?_
      exact kt
    by_cases hc24_2 : w1 = (-69 : Int32)
    · -- it is
      have c20 : ∀ t, Steps p.tables e below (T15.setTop (mkF m 3 #[.val (.ref r0), .val (.int (((0 : Int32) + (1 : Int32)) + (1 : Int32)))] [(.int (((0 : Int32) + (1 : Int32)) + (1 : Int32)))])) t → Steps p.tables e below (T15.setTop (mkF m 24 #[.val (.ref r0), .val (.int ((0 : Int32) + (1 : Int32)))] [(.int (-69 : Int32)), (.int w1)])) t := by
        intro t kt
        show Steps p.tables e below (T15.setTop (mkF m 24 #[.val (.ref r0), .val (.int ((0 : Int32) + (1 : Int32)))] [(.int (-69 : Int32)), (.int w1)])) _
        refine XS.icmpYes X15.here hx rfl (pc0 := 24) (pc' := 29) rfl (hb hby d2_24) rfl (teq hc24_2).1 (by decide) (by decide) ?_
        show Steps p.tables e below (T15.setTop (mkF m 29 #[.val (.ref r0), .val (.int ((0 : Int32) + (1 : Int32)))] [])) _
        refine XS.iinc X15.here hx rfl (hb hby d2_29) rfl (l' := #[.val (.ref r0), .val (.int (((0 : Int32) + (1 : Int32)) + (1 : Int32)))]) rfl ?_
        show Steps p.tables e below (T15.setTop (mkF m 32 #[.val (.ref r0), .val (.int (((0 : Int32) + (1 : Int32)) + (1 : Int32)))] [])) _
        refine XS.goto X15.here hx rfl (pc0 := 32) (pc' := 2) rfl (hb hby d2_32) (by decide) (by decide) ?_
        show Steps p.tables e below (T15.setTop (mkF m 2 #[.val (.ref r0), .val (.int (((0 : Int32) + (1 : Int32)) + (1 : Int32)))] [])) _
        refine XS.iloadN X15.here hx rfl (hb hby d2_2) rfl ?_
        exact kt
      obtain ⟨T19, X19, e19, st19⟩ := getS2 X15 hx hZ hown (host := "") (Or.inl (hw _ (List.mem_of_getElem? (i := 10) rfl))) Via.refl e15 SB (g := (mkF m 3 #[.val (.ref r0), .val (.int (((0 : Int32) + (1 : Int32)) + (1 : Int32)))] [(.int (((0 : Int32) + (1 : Int32)) + (1 : Int32)))])) rfl (hb hby d2_3)
      have Vc21 := VB
      obtain ⟨cl21, Ar21, qk21, S21, M21, H21, G21⟩ := Vc21
      have Vc22 := V
      obtain ⟨cl22, Ar22, qk22, S22, M22, H22, G22⟩ := Vc22
      have Vc23 := V
      obtain ⟨cl23, Ar23, qk23, S23, M23, H23, G23⟩ := Vc23
      have hin23 : ¬ ((((0 : Int32) + (1 : Int32)) + (1 : Int32)) < 0 ∨ cl23.slots.size ≤ ((((0 : Int32) + (1 : Int32)) + (1 : Int32))).toNatClampNeg) := inb_of S23 ⟨by decide, by decide⟩
      have hat23 : cl23.slots[((((0 : Int32) + (1 : Int32)) + (1 : Int32))).toNatClampNeg]? = some (.int w2) := H23.at hin23 rfl
      have c25 : ∀ t, Steps p.tables e below (T19.setTop (mkF m 19 #[.val (.ref r0), .val (.int (((0 : Int32) + (1 : Int32)) + (1 : Int32)))] [(.int w2)])) t → Steps p.tables e below (T19.setTop (mkF m 6 #[.val (.ref r0), .val (.int (((0 : Int32) + (1 : Int32)) + (1 : Int32)))] [(.ref rm), (.int (((0 : Int32) + (1 : Int32)) + (1 : Int32)))])) t := by
        intro t kt
        show Steps p.tables e below (T19.setTop (mkF m 6 #[.val (.ref r0), .val (.int (((0 : Int32) + (1 : Int32)) + (1 : Int32)))] [(.ref rm), (.int (((0 : Int32) + (1 : Int32)) + (1 : Int32)))])) _
        refine X19.arraylength hx (by rw [e19]; exact Ar21.1) (State.isArrayOf_alike hZ.alike Ar21.2.1) (g := (mkF m 6 #[.val (.ref r0), .val (.int (((0 : Int32) + (1 : Int32)) + (1 : Int32)))] [(.ref rm), (.int (((0 : Int32) + (1 : Int32)) + (1 : Int32)))])) rfl rfl (hb hby d2_6) _ ?_
        rw [len_of S21 M21]
        show Steps p.tables e below (T19.setTop (mkF m 7 #[.val (.ref r0), .val (.int (((0 : Int32) + (1 : Int32)) + (1 : Int32)))] [(.int (3 : Int32)), (.int (((0 : Int32) + (1 : Int32)) + (1 : Int32)))])) _
        refine XS.icmpNo X19.here hx rfl (hb hby d2_7) rfl (tlt (by decide : (((0 : Int32) + (1 : Int32)) + (1 : Int32)) < (3 : Int32))).2.1 ?_
        show Steps p.tables e below (T19.setTop (mkF m 10 #[.val (.ref r0), .val (.int (((0 : Int32) + (1 : Int32)) + (1 : Int32)))] [])) _
        refine XS.iloadN X19.here hx rfl (hb hby d2_10) rfl ?_
        show Steps p.tables e below (T19.setTop (mkF m 11 #[.val (.ref r0), .val (.int (((0 : Int32) + (1 : Int32)) + (1 : Int32)))] [(.int (((0 : Int32) + (1 : Int32)) + (1 : Int32)))])) _
        refine XS.aloadN X19.here hx rfl (hb hby d2_11) rfl rfl ?_
        show Steps p.tables e below (T19.setTop (mkF m 12 #[.val (.ref r0), .val (.int (((0 : Int32) + (1 : Int32)) + (1 : Int32)))] [(.ref r0), (.int (((0 : Int32) + (1 : Int32)) + (1 : Int32)))])) _
        refine X19.arraylength hx (by rw [e19]; exact Ar22.1) (State.isArrayOf_alike hZ.alike Ar22.2.1) (g := (mkF m 12 #[.val (.ref r0), .val (.int (((0 : Int32) + (1 : Int32)) + (1 : Int32)))] [(.ref r0), (.int (((0 : Int32) + (1 : Int32)) + (1 : Int32)))])) rfl rfl (hb hby d2_12) _ ?_
        rw [len_of S22 M22]
        show Steps p.tables e below (T19.setTop (mkF m 13 #[.val (.ref r0), .val (.int (((0 : Int32) + (1 : Int32)) + (1 : Int32)))] [(.int (3 : Int32)), (.int (((0 : Int32) + (1 : Int32)) + (1 : Int32)))])) _
        refine XS.icmpNo X19.here hx rfl (hb hby d2_13) rfl (feq (by decide : ¬ ((((0 : Int32) + (1 : Int32)) + (1 : Int32)) = (3 : Int32)))).1 ?_
        show Steps p.tables e below (T19.setTop (mkF m 16 #[.val (.ref r0), .val (.int (((0 : Int32) + (1 : Int32)) + (1 : Int32)))] [])) _
        refine XS.aloadN X19.here hx rfl (hb hby d2_16) rfl rfl ?_
        show Steps p.tables e below (T19.setTop (mkF m 17 #[.val (.ref r0), .val (.int (((0 : Int32) + (1 : Int32)) + (1 : Int32)))] [(.ref r0)])) _
        refine XS.iloadN X19.here hx rfl (hb hby d2_17) rfl ?_
        show Steps p.tables e below (T19.setTop (mkF m 18 #[.val (.ref r0), .val (.int (((0 : Int32) + (1 : Int32)) + (1 : Int32)))] [(.int (((0 : Int32) + (1 : Int32)) + (1 : Int32))), (.ref r0)])) _
        refine X19.baloadBytes hx (j := (((0 : Int32) + (1 : Int32)) + (1 : Int32))) (v := (.int w2)) (by rw [e19]; exact Ar23.1) (State.isArrayOf_alike hZ.alike Ar23.2.1) Ar23.2.2 hin23 hat23 (g := (mkF m 18 #[.val (.ref r0), .val (.int (((0 : Int32) + (1 : Int32)) + (1 : Int32)))] [(.int (((0 : Int32) + (1 : Int32)) + (1 : Int32))), (.ref r0)])) rfl rfl (hb hby d2_18) _ ?_
        exact kt
      obtain ⟨T24, X24, e24, st24⟩ := getS2 X19 hx hZ hown (host := "") (Or.inl (hw _ (List.mem_of_getElem? (i := 10) rfl))) Via.refl e19 SB (g := (mkF m 19 #[.val (.ref r0), .val (.int (((0 : Int32) + (1 : Int32)) + (1 : Int32)))] [(.int w2)])) rfl (hb hby d2_19)
      have Vc26 := VB
      obtain ⟨cl26, Ar26, qk26, S26, M26, H26, G26⟩ := Vc26
      have hin26 : ¬ ((((0 : Int32) + (1 : Int32)) + (1 : Int32)) < 0 ∨ cl26.slots.size ≤ ((((0 : Int32) + (1 : Int32)) + (1 : Int32))).toNatClampNeg) := inb_of S26 ⟨by decide, by decide⟩
      have hat26 : cl26.slots[((((0 : Int32) + (1 : Int32)) + (1 : Int32))).toNatClampNeg]? = some (.int (-65 : Int32)) := H26.at hin26 rfl
      have c27 : ∀ t, Steps p.tables e below (T24.setTop (mkF m 24 #[.val (.ref r0), .val (.int (((0 : Int32) + (1 : Int32)) + (1 : Int32)))] [(.int (-65 : Int32)), (.int w2)])) t → Steps p.tables e below (T24.setTop (mkF m 22 #[.val (.ref r0), .val (.int (((0 : Int32) + (1 : Int32)) + (1 : Int32)))] [(.ref rm), (.int w2)])) t := by
        intro t kt
        show Steps p.tables e below (T24.setTop (mkF m 22 #[.val (.ref r0), .val (.int (((0 : Int32) + (1 : Int32)) + (1 : Int32)))] [(.ref rm), (.int w2)])) _
        refine XS.iloadN X24.here hx rfl (hb hby d2_22) rfl ?_
        show Steps p.tables e below (T24.setTop (mkF m 23 #[.val (.ref r0), .val (.int (((0 : Int32) + (1 : Int32)) + (1 : Int32)))] [(.int (((0 : Int32) + (1 : Int32)) + (1 : Int32))), (.ref rm), (.int w2)])) _
        refine X24.baloadBytes hx (j := (((0 : Int32) + (1 : Int32)) + (1 : Int32))) (v := (.int (-65 : Int32))) (by rw [e24]; exact Ar26.1) (State.isArrayOf_alike hZ.alike Ar26.2.1) Ar26.2.2 hin26 hat26 (g := (mkF m 23 #[.val (.ref r0), .val (.int (((0 : Int32) + (1 : Int32)) + (1 : Int32)))] [(.int (((0 : Int32) + (1 : Int32)) + (1 : Int32))), (.ref rm), (.int w2)])) rfl rfl (hb hby d2_23) _ ?_
        exact kt
      by_cases hc24_3 : w2 = (-65 : Int32)
      · -- it is
        have c29 : ∀ t, Steps p.tables e below (T24.setTop (mkF m 3 #[.val (.ref r0), .val (.int ((((0 : Int32) + (1 : Int32)) + (1 : Int32)) + (1 : Int32)))] [(.int ((((0 : Int32) + (1 : Int32)) + (1 : Int32)) + (1 : Int32)))])) t → Steps p.tables e below (T24.setTop (mkF m 24 #[.val (.ref r0), .val (.int (((0 : Int32) + (1 : Int32)) + (1 : Int32)))] [(.int (-65 : Int32)), (.int w2)])) t := by
          intro t kt
          show Steps p.tables e below (T24.setTop (mkF m 24 #[.val (.ref r0), .val (.int (((0 : Int32) + (1 : Int32)) + (1 : Int32)))] [(.int (-65 : Int32)), (.int w2)])) _
          refine XS.icmpYes X24.here hx rfl (pc0 := 24) (pc' := 29) rfl (hb hby d2_24) rfl (teq hc24_3).1 (by decide) (by decide) ?_
          show Steps p.tables e below (T24.setTop (mkF m 29 #[.val (.ref r0), .val (.int (((0 : Int32) + (1 : Int32)) + (1 : Int32)))] [])) _
          refine XS.iinc X24.here hx rfl (hb hby d2_29) rfl (l' := #[.val (.ref r0), .val (.int ((((0 : Int32) + (1 : Int32)) + (1 : Int32)) + (1 : Int32)))]) rfl ?_
          show Steps p.tables e below (T24.setTop (mkF m 32 #[.val (.ref r0), .val (.int ((((0 : Int32) + (1 : Int32)) + (1 : Int32)) + (1 : Int32)))] [])) _
          refine XS.goto X24.here hx rfl (pc0 := 32) (pc' := 2) rfl (hb hby d2_32) (by decide) (by decide) ?_
          show Steps p.tables e below (T24.setTop (mkF m 2 #[.val (.ref r0), .val (.int ((((0 : Int32) + (1 : Int32)) + (1 : Int32)) + (1 : Int32)))] [])) _
          refine XS.iloadN X24.here hx rfl (hb hby d2_2) rfl ?_
          exact kt
        obtain ⟨T28, X28, e28, st28⟩ := getS2 X24 hx hZ hown (host := "") (Or.inl (hw _ (List.mem_of_getElem? (i := 10) rfl))) Via.refl e24 SB (g := (mkF m 3 #[.val (.ref r0), .val (.int ((((0 : Int32) + (1 : Int32)) + (1 : Int32)) + (1 : Int32)))] [(.int ((((0 : Int32) + (1 : Int32)) + (1 : Int32)) + (1 : Int32)))])) rfl (hb hby d2_3)
        have Vc30 := VB
        obtain ⟨cl30, Ar30, qk30, S30, M30, H30, G30⟩ := Vc30
        have c32 : ∀ t, Steps p.tables e below (T28.setTop (mkF m 35 #[.val (.ref r0), .val (.int ((((0 : Int32) + (1 : Int32)) + (1 : Int32)) + (1 : Int32)))] [])) t → Steps p.tables e below (T28.setTop (mkF m 6 #[.val (.ref r0), .val (.int ((((0 : Int32) + (1 : Int32)) + (1 : Int32)) + (1 : Int32)))] [(.ref rm), (.int ((((0 : Int32) + (1 : Int32)) + (1 : Int32)) + (1 : Int32)))])) t := by
          intro t kt
          show Steps p.tables e below (T28.setTop (mkF m 6 #[.val (.ref r0), .val (.int ((((0 : Int32) + (1 : Int32)) + (1 : Int32)) + (1 : Int32)))] [(.ref rm), (.int ((((0 : Int32) + (1 : Int32)) + (1 : Int32)) + (1 : Int32)))])) _
          refine X28.arraylength hx (by rw [e28]; exact Ar30.1) (State.isArrayOf_alike hZ.alike Ar30.2.1) (g := (mkF m 6 #[.val (.ref r0), .val (.int ((((0 : Int32) + (1 : Int32)) + (1 : Int32)) + (1 : Int32)))] [(.ref rm), (.int ((((0 : Int32) + (1 : Int32)) + (1 : Int32)) + (1 : Int32)))])) rfl rfl (hb hby d2_6) _ ?_
          rw [len_of S30 M30]
          show Steps p.tables e below (T28.setTop (mkF m 7 #[.val (.ref r0), .val (.int ((((0 : Int32) + (1 : Int32)) + (1 : Int32)) + (1 : Int32)))] [(.int (3 : Int32)), (.int ((((0 : Int32) + (1 : Int32)) + (1 : Int32)) + (1 : Int32)))])) _
          refine XS.icmpYes X28.here hx rfl (pc0 := 7) (pc' := 35) rfl (hb hby d2_7) rfl (flt (by decide : ¬ (((((0 : Int32) + (1 : Int32)) + (1 : Int32)) + (1 : Int32)) < (3 : Int32)))).2.1 (by decide) (by decide) ?_
          exact kt
        obtain ⟨T31, X31, e31, st31⟩ := getS2 X28 hx hZ hown (host := "") (Or.inl (hw _ (List.mem_of_getElem? (i := 10) rfl))) Via.refl e28 SB (g := (mkF m 35 #[.val (.ref r0), .val (.int ((((0 : Int32) + (1 : Int32)) + (1 : Int32)) + (1 : Int32)))] [])) rfl (hb hby d2_35)
        have Vc33 := VB
        obtain ⟨cl33, Ar33, qk33, S33, M33, H33, G33⟩ := Vc33
        have c34 : ∀ t, Steps p.tables e below (T31.setTop (mkF m 39 #[.val (.ref r0), .val (.int ((((0 : Int32) + (1 : Int32)) + (1 : Int32)) + (1 : Int32)))] [(.int (3 : Int32))])) t → Steps p.tables e below (T31.setTop (mkF m 38 #[.val (.ref r0), .val (.int ((((0 : Int32) + (1 : Int32)) + (1 : Int32)) + (1 : Int32)))] [(.ref rm)])) t := by
          intro t kt
          show Steps p.tables e below (T31.setTop (mkF m 38 #[.val (.ref r0), .val (.int ((((0 : Int32) + (1 : Int32)) + (1 : Int32)) + (1 : Int32)))] [(.ref rm)])) _
          refine X31.arraylength hx (by rw [e31]; exact Ar33.1) (State.isArrayOf_alike hZ.alike Ar33.2.1) (g := (mkF m 38 #[.val (.ref r0), .val (.int ((((0 : Int32) + (1 : Int32)) + (1 : Int32)) + (1 : Int32)))] [(.ref rm)])) rfl rfl (hb hby d2_38) _ ?_
          rw [len_of S33 M33]
          exact kt
        obtain ⟨fs, hr, hrun, hended, hW, hsame⟩ := X31.leave (v := some (.int (3 : Int32))) (fun h => by rw [Bd.returns] at h; cases h)
        refine ⟨_, _, pre0 _ (c2 _ (st1 _ (c7 _ (st6 _ (c9 _ (c11 _ (st10 _ (c16 _ (st15 _ (c18 _ (c20 _ (st19 _ (c25 _ (st24 _ (c27 _ (c29 _ (st28 _ (c32 _ (st31 _ (c34 _ (?_))))))))))))))))))))), hrun, hended, _, _, rfl, ?_, ⟨_, rfl⟩, hW, hsame.mono (by decide) (by decide)⟩
        · show Steps p.tables e below (T31.setTop (mkF m 39 #[.val (.ref r0), .val (.int ((((0 : Int32) + (1 : Int32)) + (1 : Int32)) + (1 : Int32)))] [(.int (3 : Int32))])) _
          exact retI X31 hx Bd.returns (hb hby d2_39) hr
        · show Q2_3 Z r0 kk w0 w1 w2 rm km h0 n0 _ T31.heap _
          rw [e31]
          exact ⟨congrArg (fun z => some (Value.int z)) (show (3 : Int32) = (own_st w0 w1 w2) from by unfold own_st; rw [if_pos ⟨hc24, hc24_2, hc24_3⟩]), N0, rfl⟩
      · -- it isn't
        have c36 : ∀ t, Steps p.tables e below (T24.setTop (mkF m 28 #[.val (.ref r0), .val (.int (((0 : Int32) + (1 : Int32)) + (1 : Int32)))] [(.int (0 : Int32))])) t → Steps p.tables e below (T24.setTop (mkF m 24 #[.val (.ref r0), .val (.int (((0 : Int32) + (1 : Int32)) + (1 : Int32)))] [(.int (-65 : Int32)), (.int w2)])) t := by
          intro t kt
          show Steps p.tables e below (T24.setTop (mkF m 24 #[.val (.ref r0), .val (.int (((0 : Int32) + (1 : Int32)) + (1 : Int32)))] [(.int (-65 : Int32)), (.int w2)])) _
          refine XS.icmpNo X24.here hx rfl (hb hby d2_24) rfl (feq hc24_3).1 ?_
          show Steps p.tables e below (T24.setTop (mkF m 27 #[.val (.ref r0), .val (.int (((0 : Int32) + (1 : Int32)) + (1 : Int32)))] [])) _
          refine XS.iconst X24.here hx rfl (hb hby d2_27) ?_
          exact kt
        obtain ⟨fs, hr, hrun, hended, hW, hsame⟩ := X24.leave (v := some (.int (0 : Int32))) (fun h => by rw [Bd.returns] at h; cases h)
        refine ⟨_, _, pre0 _ (c2 _ (st1 _ (c7 _ (st6 _ (c9 _ (c11 _ (st10 _ (c16 _ (st15 _ (c18 _ (c20 _ (st19 _ (c25 _ (st24 _ (c27 _ (c36 _ (?_))))))))))))))))), hrun, hended, _, _, rfl, ?_, ⟨_, rfl⟩, hW, hsame.mono (by decide) (by decide)⟩
        · show Steps p.tables e below (T24.setTop (mkF m 28 #[.val (.ref r0), .val (.int (((0 : Int32) + (1 : Int32)) + (1 : Int32)))] [(.int (0 : Int32))])) _
          exact retI X24 hx Bd.returns (hb hby d2_28) hr
        · show Q2_3 Z r0 kk w0 w1 w2 rm km h0 n0 _ T24.heap _
          rw [e24]
          exact ⟨congrArg (fun z => some (Value.int z)) (show (0 : Int32) = (own_st w0 w1 w2) from by unfold own_st; rw [if_neg (fun k => hc24_3 k.2.2)]), N0, rfl⟩
    · -- it isn't
      have c38 : ∀ t, Steps p.tables e below (T15.setTop (mkF m 28 #[.val (.ref r0), .val (.int ((0 : Int32) + (1 : Int32)))] [(.int (0 : Int32))])) t → Steps p.tables e below (T15.setTop (mkF m 24 #[.val (.ref r0), .val (.int ((0 : Int32) + (1 : Int32)))] [(.int (-69 : Int32)), (.int w1)])) t := by
        intro t kt
        show Steps p.tables e below (T15.setTop (mkF m 24 #[.val (.ref r0), .val (.int ((0 : Int32) + (1 : Int32)))] [(.int (-69 : Int32)), (.int w1)])) _
        refine XS.icmpNo X15.here hx rfl (hb hby d2_24) rfl (feq hc24_2).1 ?_
        show Steps p.tables e below (T15.setTop (mkF m 27 #[.val (.ref r0), .val (.int ((0 : Int32) + (1 : Int32)))] [])) _
        refine XS.iconst X15.here hx rfl (hb hby d2_27) ?_
        exact kt
      obtain ⟨fs, hr, hrun, hended, hW, hsame⟩ := X15.leave (v := some (.int (0 : Int32))) (fun h => by rw [Bd.returns] at h; cases h)
      refine ⟨_, _, pre0 _ (c2 _ (st1 _ (c7 _ (st6 _ (c9 _ (c11 _ (st10 _ (c16 _ (st15 _ (c18 _ (c38 _ (?_)))))))))))), hrun, hended, _, _, rfl, ?_, ⟨_, rfl⟩, hW, hsame.mono (by decide) (by decide)⟩
      · show Steps p.tables e below (T15.setTop (mkF m 28 #[.val (.ref r0), .val (.int ((0 : Int32) + (1 : Int32)))] [(.int (0 : Int32))])) _
        exact retI X15 hx Bd.returns (hb hby d2_28) hr
      · show Q2_3 Z r0 kk w0 w1 w2 rm km h0 n0 _ T15.heap _
        rw [e15]
        exact ⟨congrArg (fun z => some (Value.int z)) (show (0 : Int32) = (own_st w0 w1 w2) from by unfold own_st; rw [if_neg (fun k => hc24_2 k.2.1)]), N0, rfl⟩
  · -- it isn't
    have c40 : ∀ t, Steps p.tables e below (T6.setTop (mkF m 28 #[.val (.ref r0), .val (.int (0 : Int32))] [(.int (0 : Int32))])) t → Steps p.tables e below (T6.setTop (mkF m 24 #[.val (.ref r0), .val (.int (0 : Int32))] [(.int (-17 : Int32)), (.int w0)])) t := by
      intro t kt
      show Steps p.tables e below (T6.setTop (mkF m 24 #[.val (.ref r0), .val (.int (0 : Int32))] [(.int (-17 : Int32)), (.int w0)])) _
      refine XS.icmpNo X6.here hx rfl (hb hby d2_24) rfl (feq hc24).1 ?_
      show Steps p.tables e below (T6.setTop (mkF m 27 #[.val (.ref r0), .val (.int (0 : Int32))] [])) _
      refine XS.iconst X6.here hx rfl (hb hby d2_27) ?_
      exact kt
    obtain ⟨fs, hr, hrun, hended, hW, hsame⟩ := X6.leave (v := some (.int (0 : Int32))) (fun h => by rw [Bd.returns] at h; cases h)
    refine ⟨_, _, pre0 _ (c2 _ (st1 _ (c7 _ (st6 _ (c9 _ (c40 _ (?_))))))), hrun, hended, _, _, rfl, ?_, ⟨_, rfl⟩, hW, hsame.mono (by decide) (by decide)⟩
    · show Steps p.tables e below (T6.setTop (mkF m 28 #[.val (.ref r0), .val (.int (0 : Int32))] [(.int (0 : Int32))])) _
      exact retI X6 hx Bd.returns (hb hby d2_28) hr
    · show Q2_3 Z r0 kk w0 w1 w2 rm km h0 n0 _ T6.heap _
      rw [e6]
      exact ⟨congrArg (fun z => some (Value.int z)) (show (0 : Int32) = (own_st w0 w1 w2) from by unfold own_st; rw [if_neg (fun k => hc24 k.1)]), N0, rfl⟩
def Q2_4 (Z : State) (r0 : Addr) (kk : ClassId) (w0 w1 w2 w3 : Int32) (rm : Addr) (km : ClassId) (h0 : Heap) (n0 : Nat) (v : Option Value) (h : Heap) (L : List Loc) : Prop := v = some (.int (own_st w0 w1 w2)) ∧ Fr n0 L ∧ h = h0
set_option maxRecDepth 65536 in
set_option maxHeartbeats 40000000 in
theorem rm2_4 (l : Launch) (Z : State) (a0 : Array Value) (hw : ∀ d ∈ tables_1, d.before a0 Z = true) (ws : List Jvm.Cond) (r0 : Addr) (kk : ClassId) (w0 w1 w2 w3 : Int32) (rm : Addr) (km : ClassId) (h0 : Heap) (n0 : Nat) (Z0 : n0 ≤ h0.size) (V : Arv Z h0 r0 kk .byte (4 : Int32) [(.int w0), (.int w1), (.int w2), (.int w3)] (.int (0 : Int32))) (SB : Sta Z h0 "com/example/ratewright/ratewright/io/Utf8Text" "BYTE_ORDER_MARK" "[B" (.ref rm)) (VB : Arv Z h0 rm km .byte (3 : Int32) [(.int (-17 : Int32)), (.int (-69 : Int32)), (.int (-65 : Int32))] (.int (0 : Int32))) :
    MetFree l (⟨"com/example/ratewright/ratewright/io/Utf8Text", "start", "([B)I"⟩ : MethodName) (head1 (Jvm.Cond.code (⟨"com/example/ratewright/ratewright/io/Utf8Text", "start", "([B)I"⟩ : MethodName) prog_4_method_2_code 2 (some .int) :: ws) ({ frames := 0, cells := 0, slots := 0, locals := 0 } : Room)) (fun a U => a = #[(.ref r0)] ∧ Z.Warmed39 U.vm ∧ U.heap = h0) (fun _ _ _ _ _ => True) (fun _ U o U' => ∃ v L, o = .returned v ∧ Q2_4 Z r0 kk w0 w1 w2 w3 rm km h0 n0 v U'.heap L ∧ FrameEnd U o U' L ({ frames := 0, cells := 0, slots := 0, locals := 0 } : Room).cells ({ frames := 0, cells := 0, slots := 0, locals := 0 } : Room).slots) := by
  refine MetFree.of_bodySF (plainFor_of_name pn_2) hisR ?_
  intro p e s m args below meth c s₁ Bd hml0 hP hK
  obtain ⟨rfl, hZ, hh⟩ := hP
  have hx := Bd.exec
  have hby := Bd.bytes
  have hml : c.maxLocals = 2 := hml0
  have hown : s.vm.findClass "com/example/ratewright/ratewright/io/Utf8Text" = some m.cls := findClass_of_methodNamed Bd.named
  have hnm := (name_of_methodNamed Bd.named Bd.method).1
  have X0 : Stand p l e ({ frames := 0, cells := 0, slots := 0, locals := 0 } : Room) s m #[(.ref r0)] below meth c s₁ [] 0 0 := Stand.of_body Bd
  have e0 : s₁.heap = h0 := by rw [← hh, Bd.state]; rfl
  have N0 := Fr.nil n0
  have pre0 : ∀ t, Steps p.tables e below (s₁.setTop (mkF m 0 #[.val (.ref r0), .unset] [])) t → Steps p.tables e below (s₁.setTop (entryFrame m #[(.ref r0)] 2)) t := fun t k => castTop (ef_2 m r0) k
  have c2 : ∀ t, Steps p.tables e below (s₁.setTop (mkF m 3 #[.val (.ref r0), .val (.int (0 : Int32))] [(.int (0 : Int32))])) t → Steps p.tables e below (s₁.setTop (mkF m 0 #[.val (.ref r0), .unset] [])) t := by
    intro t kt
    show Steps p.tables e below (s₁.setTop (mkF m 0 #[.val (.ref r0), .unset] [])) _
    refine XS.iconst X0.here hx rfl (hb hby d2_0) ?_
    show Steps p.tables e below (s₁.setTop (mkF m 1 #[.val (.ref r0), .unset] [(.int (0 : Int32))])) _
    refine XS.istoreN X0.here hx rfl (hb hby d2_1) rfl (l' := #[.val (.ref r0), .val (.int (0 : Int32))]) rfl ?_
    show Steps p.tables e below (s₁.setTop (mkF m 2 #[.val (.ref r0), .val (.int (0 : Int32))] [])) _
    refine XS.iloadN X0.here hx rfl (hb hby d2_2) rfl ?_
    exact kt
  obtain ⟨T1, X1, e1, st1⟩ := getS2 X0 hx hZ hown (host := "") (Or.inl (hw _ (List.mem_of_getElem? (i := 10) rfl))) Via.refl e0 SB (g := (mkF m 3 #[.val (.ref r0), .val (.int (0 : Int32))] [(.int (0 : Int32))])) rfl (hb hby d2_3)
  have Vc3 := VB
  obtain ⟨cl3, Ar3, qk3, S3, M3, H3, G3⟩ := Vc3
  have Vc4 := V
  obtain ⟨cl4, Ar4, qk4, S4, M4, H4, G4⟩ := Vc4
  have Vc5 := V
  obtain ⟨cl5, Ar5, qk5, S5, M5, H5, G5⟩ := Vc5
  have hin5 : ¬ ((0 : Int32) < 0 ∨ cl5.slots.size ≤ ((0 : Int32)).toNatClampNeg) := inb_of S5 ⟨by decide, by decide⟩
  have hat5 : cl5.slots[((0 : Int32)).toNatClampNeg]? = some (.int w0) := H5.at hin5 rfl
  have c7 : ∀ t, Steps p.tables e below (T1.setTop (mkF m 19 #[.val (.ref r0), .val (.int (0 : Int32))] [(.int w0)])) t → Steps p.tables e below (T1.setTop (mkF m 6 #[.val (.ref r0), .val (.int (0 : Int32))] [(.ref rm), (.int (0 : Int32))])) t := by
    intro t kt
    show Steps p.tables e below (T1.setTop (mkF m 6 #[.val (.ref r0), .val (.int (0 : Int32))] [(.ref rm), (.int (0 : Int32))])) _
    refine X1.arraylength hx (by rw [e1]; exact Ar3.1) (State.isArrayOf_alike hZ.alike Ar3.2.1) (g := (mkF m 6 #[.val (.ref r0), .val (.int (0 : Int32))] [(.ref rm), (.int (0 : Int32))])) rfl rfl (hb hby d2_6) _ ?_
    rw [len_of S3 M3]
    show Steps p.tables e below (T1.setTop (mkF m 7 #[.val (.ref r0), .val (.int (0 : Int32))] [(.int (3 : Int32)), (.int (0 : Int32))])) _
    refine XS.icmpNo X1.here hx rfl (hb hby d2_7) rfl (tlt (by decide : (0 : Int32) < (3 : Int32))).2.1 ?_
    show Steps p.tables e below (T1.setTop (mkF m 10 #[.val (.ref r0), .val (.int (0 : Int32))] [])) _
    refine XS.iloadN X1.here hx rfl (hb hby d2_10) rfl ?_
    show Steps p.tables e below (T1.setTop (mkF m 11 #[.val (.ref r0), .val (.int (0 : Int32))] [(.int (0 : Int32))])) _
    refine XS.aloadN X1.here hx rfl (hb hby d2_11) rfl rfl ?_
    show Steps p.tables e below (T1.setTop (mkF m 12 #[.val (.ref r0), .val (.int (0 : Int32))] [(.ref r0), (.int (0 : Int32))])) _
    refine X1.arraylength hx (by rw [e1]; exact Ar4.1) (State.isArrayOf_alike hZ.alike Ar4.2.1) (g := (mkF m 12 #[.val (.ref r0), .val (.int (0 : Int32))] [(.ref r0), (.int (0 : Int32))])) rfl rfl (hb hby d2_12) _ ?_
    rw [len_of S4 M4]
    show Steps p.tables e below (T1.setTop (mkF m 13 #[.val (.ref r0), .val (.int (0 : Int32))] [(.int (4 : Int32)), (.int (0 : Int32))])) _
    refine XS.icmpNo X1.here hx rfl (hb hby d2_13) rfl (feq (by decide : ¬ ((0 : Int32) = (4 : Int32)))).1 ?_
    show Steps p.tables e below (T1.setTop (mkF m 16 #[.val (.ref r0), .val (.int (0 : Int32))] [])) _
    refine XS.aloadN X1.here hx rfl (hb hby d2_16) rfl rfl ?_
    show Steps p.tables e below (T1.setTop (mkF m 17 #[.val (.ref r0), .val (.int (0 : Int32))] [(.ref r0)])) _
    refine XS.iloadN X1.here hx rfl (hb hby d2_17) rfl ?_
    show Steps p.tables e below (T1.setTop (mkF m 18 #[.val (.ref r0), .val (.int (0 : Int32))] [(.int (0 : Int32)), (.ref r0)])) _
    refine X1.baloadBytes hx (j := (0 : Int32)) (v := (.int w0)) (by rw [e1]; exact Ar5.1) (State.isArrayOf_alike hZ.alike Ar5.2.1) Ar5.2.2 hin5 hat5 (g := (mkF m 18 #[.val (.ref r0), .val (.int (0 : Int32))] [(.int (0 : Int32)), (.ref r0)])) rfl rfl (hb hby d2_18) _ ?_
    exact kt
  obtain ⟨T6, X6, e6, st6⟩ := getS2 X1 hx hZ hown (host := "") (Or.inl (hw _ (List.mem_of_getElem? (i := 10) rfl))) Via.refl e1 SB (g := (mkF m 19 #[.val (.ref r0), .val (.int (0 : Int32))] [(.int w0)])) rfl (hb hby d2_19)
  have Vc8 := VB
  obtain ⟨cl8, Ar8, qk8, S8, M8, H8, G8⟩ := Vc8
  have hin8 : ¬ ((0 : Int32) < 0 ∨ cl8.slots.size ≤ ((0 : Int32)).toNatClampNeg) := inb_of S8 ⟨by decide, by decide⟩
  have hat8 : cl8.slots[((0 : Int32)).toNatClampNeg]? = some (.int (-17 : Int32)) := H8.at hin8 rfl
  have c9 : ∀ t, Steps p.tables e below (T6.setTop (mkF m 24 #[.val (.ref r0), .val (.int (0 : Int32))] [(.int (-17 : Int32)), (.int w0)])) t → Steps p.tables e below (T6.setTop (mkF m 22 #[.val (.ref r0), .val (.int (0 : Int32))] [(.ref rm), (.int w0)])) t := by
    intro t kt
    show Steps p.tables e below (T6.setTop (mkF m 22 #[.val (.ref r0), .val (.int (0 : Int32))] [(.ref rm), (.int w0)])) _
    refine XS.iloadN X6.here hx rfl (hb hby d2_22) rfl ?_
    show Steps p.tables e below (T6.setTop (mkF m 23 #[.val (.ref r0), .val (.int (0 : Int32))] [(.int (0 : Int32)), (.ref rm), (.int w0)])) _
    refine X6.baloadBytes hx (j := (0 : Int32)) (v := (.int (-17 : Int32))) (by rw [e6]; exact Ar8.1) (State.isArrayOf_alike hZ.alike Ar8.2.1) Ar8.2.2 hin8 hat8 (g := (mkF m 23 #[.val (.ref r0), .val (.int (0 : Int32))] [(.int (0 : Int32)), (.ref rm), (.int w0)])) rfl rfl (hb hby d2_23) _ ?_
    exact kt
  by_cases hc24 : w0 = (-17 : Int32)
  · -- it is
    have c11 : ∀ t, Steps p.tables e below (T6.setTop (mkF m 3 #[.val (.ref r0), .val (.int ((0 : Int32) + (1 : Int32)))] [(.int ((0 : Int32) + (1 : Int32)))])) t → Steps p.tables e below (T6.setTop (mkF m 24 #[.val (.ref r0), .val (.int (0 : Int32))] [(.int (-17 : Int32)), (.int w0)])) t := by
      intro t kt
      show Steps p.tables e below (T6.setTop (mkF m 24 #[.val (.ref r0), .val (.int (0 : Int32))] [(.int (-17 : Int32)), (.int w0)])) _
      refine XS.icmpYes X6.here hx rfl (pc0 := 24) (pc' := 29) rfl (hb hby d2_24) rfl (teq hc24).1 (by decide) (by decide) ?_
      show Steps p.tables e below (T6.setTop (mkF m 29 #[.val (.ref r0), .val (.int (0 : Int32))] [])) _
      refine XS.iinc X6.here hx rfl (hb hby d2_29) rfl (l' := #[.val (.ref r0), .val (.int ((0 : Int32) + (1 : Int32)))]) rfl ?_
      show Steps p.tables e below (T6.setTop (mkF m 32 #[.val (.ref r0), .val (.int ((0 : Int32) + (1 : Int32)))] [])) _
      refine XS.goto X6.here hx rfl (pc0 := 32) (pc' := 2) rfl (hb hby d2_32) (by decide) (by decide) ?_
      show Steps p.tables e below (T6.setTop (mkF m 2 #[.val (.ref r0), .val (.int ((0 : Int32) + (1 : Int32)))] [])) _
      refine XS.iloadN X6.here hx rfl (hb hby d2_2) rfl ?_
      exact kt
    obtain ⟨T10, X10, e10, st10⟩ := getS2 X6 hx hZ hown (host := "") (Or.inl (hw _ (List.mem_of_getElem? (i := 10) rfl))) Via.refl e6 SB (g := (mkF m 3 #[.val (.ref r0), .val (.int ((0 : Int32) + (1 : Int32)))] [(.int ((0 : Int32) + (1 : Int32)))])) rfl (hb hby d2_3)
    have Vc12 := VB
    obtain ⟨cl12, Ar12, qk12, S12, M12, H12, G12⟩ := Vc12
    have Vc13 := V
    obtain ⟨cl13, Ar13, qk13, S13, M13, H13, G13⟩ := Vc13
    have Vc14 := V
    obtain ⟨cl14, Ar14, qk14, S14, M14, H14, G14⟩ := Vc14
    have hin14 : ¬ (((0 : Int32) + (1 : Int32)) < 0 ∨ cl14.slots.size ≤ (((0 : Int32) + (1 : Int32))).toNatClampNeg) := inb_of S14 ⟨by decide, by decide⟩
    have hat14 : cl14.slots[(((0 : Int32) + (1 : Int32))).toNatClampNeg]? = some (.int w1) := H14.at hin14 rfl
    have c16 : ∀ t, Steps p.tables e below (T10.setTop (mkF m 19 #[.val (.ref r0), .val (.int ((0 : Int32) + (1 : Int32)))] [(.int w1)])) t → Steps p.tables e below (T10.setTop (mkF m 6 #[.val (.ref r0), .val (.int ((0 : Int32) + (1 : Int32)))] [(.ref rm), (.int ((0 : Int32) + (1 : Int32)))])) t := by
      intro t kt
      show Steps p.tables e below (T10.setTop (mkF m 6 #[.val (.ref r0), .val (.int ((0 : Int32) + (1 : Int32)))] [(.ref rm), (.int ((0 : Int32) + (1 : Int32)))])) _
      refine X10.arraylength hx (by rw [e10]; exact Ar12.1) (State.isArrayOf_alike hZ.alike Ar12.2.1) (g := (mkF m 6 #[.val (.ref r0), .val (.int ((0 : Int32) + (1 : Int32)))] [(.ref rm), (.int ((0 : Int32) + (1 : Int32)))])) rfl rfl (hb hby d2_6) _ ?_
      rw [len_of S12 M12]
      show Steps p.tables e below (T10.setTop (mkF m 7 #[.val (.ref r0), .val (.int ((0 : Int32) + (1 : Int32)))] [(.int (3 : Int32)), (.int ((0 : Int32) + (1 : Int32)))])) _
      refine XS.icmpNo X10.here hx rfl (hb hby d2_7) rfl (tlt (by decide : ((0 : Int32) + (1 : Int32)) < (3 : Int32))).2.1 ?_
      show Steps p.tables e below (T10.setTop (mkF m 10 #[.val (.ref r0), .val (.int ((0 : Int32) + (1 : Int32)))] [])) _
      refine XS.iloadN X10.here hx rfl (hb hby d2_10) rfl ?_
      show Steps p.tables e below (T10.setTop (mkF m 11 #[.val (.ref r0), .val (.int ((0 : Int32) + (1 : Int32)))] [(.int ((0 : Int32) + (1 : Int32)))])) _
      refine XS.aloadN X10.here hx rfl (hb hby d2_11) rfl rfl ?_
      show Steps p.tables e below (T10.setTop (mkF m 12 #[.val (.ref r0), .val (.int ((0 : Int32) + (1 : Int32)))] [(.ref r0), (.int ((0 : Int32) + (1 : Int32)))])) _
      refine X10.arraylength hx (by rw [e10]; exact Ar13.1) (State.isArrayOf_alike hZ.alike Ar13.2.1) (g := (mkF m 12 #[.val (.ref r0), .val (.int ((0 : Int32) + (1 : Int32)))] [(.ref r0), (.int ((0 : Int32) + (1 : Int32)))])) rfl rfl (hb hby d2_12) _ ?_
      rw [len_of S13 M13]
      show Steps p.tables e below (T10.setTop (mkF m 13 #[.val (.ref r0), .val (.int ((0 : Int32) + (1 : Int32)))] [(.int (4 : Int32)), (.int ((0 : Int32) + (1 : Int32)))])) _
      refine XS.icmpNo X10.here hx rfl (hb hby d2_13) rfl (feq (by decide : ¬ (((0 : Int32) + (1 : Int32)) = (4 : Int32)))).1 ?_
      show Steps p.tables e below (T10.setTop (mkF m 16 #[.val (.ref r0), .val (.int ((0 : Int32) + (1 : Int32)))] [])) _
      refine XS.aloadN X10.here hx rfl (hb hby d2_16) rfl rfl ?_
      show Steps p.tables e below (T10.setTop (mkF m 17 #[.val (.ref r0), .val (.int ((0 : Int32) + (1 : Int32)))] [(.ref r0)])) _
      refine XS.iloadN X10.here hx rfl (hb hby d2_17) rfl ?_
      show Steps p.tables e below (T10.setTop (mkF m 18 #[.val (.ref r0), .val (.int ((0 : Int32) + (1 : Int32)))] [(.int ((0 : Int32) + (1 : Int32))), (.ref r0)])) _
      refine X10.baloadBytes hx (j := ((0 : Int32) + (1 : Int32))) (v := (.int w1)) (by rw [e10]; exact Ar14.1) (State.isArrayOf_alike hZ.alike Ar14.2.1) Ar14.2.2 hin14 hat14 (g := (mkF m 18 #[.val (.ref r0), .val (.int ((0 : Int32) + (1 : Int32)))] [(.int ((0 : Int32) + (1 : Int32))), (.ref r0)])) rfl rfl (hb hby d2_18) _ ?_
      exact kt
    obtain ⟨T15, X15, e15, st15⟩ := getS2 X10 hx hZ hown (host := "") (Or.inl (hw _ (List.mem_of_getElem? (i := 10) rfl))) Via.refl e10 SB (g := (mkF m 19 #[.val (.ref r0), .val (.int ((0 : Int32) + (1 : Int32)))] [(.int w1)])) rfl (hb hby d2_19)
    have Vc17 := VB
    obtain ⟨cl17, Ar17, qk17, S17, M17, H17, G17⟩ := Vc17
    have hin17 : ¬ (((0 : Int32) + (1 : Int32)) < 0 ∨ cl17.slots.size ≤ (((0 : Int32) + (1 : Int32))).toNatClampNeg) := inb_of S17 ⟨by decide, by decide⟩
    have hat17 : cl17.slots[(((0 : Int32) + (1 : Int32))).toNatClampNeg]? = some (.int (-69 : Int32)) := H17.at hin17 rfl
    have c18 : ∀ t, Steps p.tables e below (T15.setTop (mkF m 24 #[.val (.ref r0), .val (.int ((0 : Int32) + (1 : Int32)))] [(.int (-69 : Int32)), (.int w1)])) t → Steps p.tables e below (T15.setTop (mkF m 22 #[.val (.ref r0), .val (.int ((0 : Int32) + (1 : Int32)))] [(.ref rm), (.int w1)])) t := by
      intro t kt
      show Steps p.tables e below (T15.setTop (mkF m 22 #[.val (.ref r0), .val (.int ((0 : Int32) + (1 : Int32)))] [(.ref rm), (.int w1)])) _
      refine XS.iloadN X15.here hx rfl (hb hby d2_22) rfl ?_
      show Steps p.tables e below (T15.setTop (mkF m 23 #[.val (.ref r0), .val (.int ((0 : Int32) + (1 : Int32)))] [(.int ((0 : Int32) + (1 : Int32))), (.ref rm), (.int w1)])) _
      refine X15.baloadBytes hx (j := ((0 : Int32) + (1 : Int32))) (v := (.int (-69 : Int32))) (by rw [e15]; exact Ar17.1) (State.isArrayOf_alike hZ.alike Ar17.2.1) Ar17.2.2 hin17 hat17 (g := (mkF m 23 #[.val (.ref r0), .val (.int ((0 : Int32) + (1 : Int32)))] [(.int ((0 : Int32) + (1 : Int32))), (.ref rm), (.int w1)])) rfl rfl (hb hby d2_23) _ ?_
      exact kt
    by_cases hc24_2 : w1 = (-69 : Int32)
    · -- it is
      have c20 : ∀ t, Steps p.tables e below (T15.setTop (mkF m 3 #[.val (.ref r0), .val (.int (((0 : Int32) + (1 : Int32)) + (1 : Int32)))] [(.int (((0 : Int32) + (1 : Int32)) + (1 : Int32)))])) t → Steps p.tables e below (T15.setTop (mkF m 24 #[.val (.ref r0), .val (.int ((0 : Int32) + (1 : Int32)))] [(.int (-69 : Int32)), (.int w1)])) t := by
        intro t kt
        show Steps p.tables e below (T15.setTop (mkF m 24 #[.val (.ref r0), .val (.int ((0 : Int32) + (1 : Int32)))] [(.int (-69 : Int32)), (.int w1)])) _
        refine XS.icmpYes X15.here hx rfl (pc0 := 24) (pc' := 29) rfl (hb hby d2_24) rfl (teq hc24_2).1 (by decide) (by decide) ?_
        show Steps p.tables e below (T15.setTop (mkF m 29 #[.val (.ref r0), .val (.int ((0 : Int32) + (1 : Int32)))] [])) _
        refine XS.iinc X15.here hx rfl (hb hby d2_29) rfl (l' := #[.val (.ref r0), .val (.int (((0 : Int32) + (1 : Int32)) + (1 : Int32)))]) rfl ?_
        show Steps p.tables e below (T15.setTop (mkF m 32 #[.val (.ref r0), .val (.int (((0 : Int32) + (1 : Int32)) + (1 : Int32)))] [])) _
        refine XS.goto X15.here hx rfl (pc0 := 32) (pc' := 2) rfl (hb hby d2_32) (by decide) (by decide) ?_
        show Steps p.tables e below (T15.setTop (mkF m 2 #[.val (.ref r0), .val (.int (((0 : Int32) + (1 : Int32)) + (1 : Int32)))] [])) _
        refine XS.iloadN X15.here hx rfl (hb hby d2_2) rfl ?_
        exact kt
      obtain ⟨T19, X19, e19, st19⟩ := getS2 X15 hx hZ hown (host := "") (Or.inl (hw _ (List.mem_of_getElem? (i := 10) rfl))) Via.refl e15 SB (g := (mkF m 3 #[.val (.ref r0), .val (.int (((0 : Int32) + (1 : Int32)) + (1 : Int32)))] [(.int (((0 : Int32) + (1 : Int32)) + (1 : Int32)))])) rfl (hb hby d2_3)
      have Vc21 := VB
      obtain ⟨cl21, Ar21, qk21, S21, M21, H21, G21⟩ := Vc21
      have Vc22 := V
      obtain ⟨cl22, Ar22, qk22, S22, M22, H22, G22⟩ := Vc22
      have Vc23 := V
      obtain ⟨cl23, Ar23, qk23, S23, M23, H23, G23⟩ := Vc23
      have hin23 : ¬ ((((0 : Int32) + (1 : Int32)) + (1 : Int32)) < 0 ∨ cl23.slots.size ≤ ((((0 : Int32) + (1 : Int32)) + (1 : Int32))).toNatClampNeg) := inb_of S23 ⟨by decide, by decide⟩
      have hat23 : cl23.slots[((((0 : Int32) + (1 : Int32)) + (1 : Int32))).toNatClampNeg]? = some (.int w2) := H23.at hin23 rfl
      have c25 : ∀ t, Steps p.tables e below (T19.setTop (mkF m 19 #[.val (.ref r0), .val (.int (((0 : Int32) + (1 : Int32)) + (1 : Int32)))] [(.int w2)])) t → Steps p.tables e below (T19.setTop (mkF m 6 #[.val (.ref r0), .val (.int (((0 : Int32) + (1 : Int32)) + (1 : Int32)))] [(.ref rm), (.int (((0 : Int32) + (1 : Int32)) + (1 : Int32)))])) t := by
        intro t kt
        show Steps p.tables e below (T19.setTop (mkF m 6 #[.val (.ref r0), .val (.int (((0 : Int32) + (1 : Int32)) + (1 : Int32)))] [(.ref rm), (.int (((0 : Int32) + (1 : Int32)) + (1 : Int32)))])) _
        refine X19.arraylength hx (by rw [e19]; exact Ar21.1) (State.isArrayOf_alike hZ.alike Ar21.2.1) (g := (mkF m 6 #[.val (.ref r0), .val (.int (((0 : Int32) + (1 : Int32)) + (1 : Int32)))] [(.ref rm), (.int (((0 : Int32) + (1 : Int32)) + (1 : Int32)))])) rfl rfl (hb hby d2_6) _ ?_
        rw [len_of S21 M21]
        show Steps p.tables e below (T19.setTop (mkF m 7 #[.val (.ref r0), .val (.int (((0 : Int32) + (1 : Int32)) + (1 : Int32)))] [(.int (3 : Int32)), (.int (((0 : Int32) + (1 : Int32)) + (1 : Int32)))])) _
        refine XS.icmpNo X19.here hx rfl (hb hby d2_7) rfl (tlt (by decide : (((0 : Int32) + (1 : Int32)) + (1 : Int32)) < (3 : Int32))).2.1 ?_
        show Steps p.tables e below (T19.setTop (mkF m 10 #[.val (.ref r0), .val (.int (((0 : Int32) + (1 : Int32)) + (1 : Int32)))] [])) _
        refine XS.iloadN X19.here hx rfl (hb hby d2_10) rfl ?_
        show Steps p.tables e below (T19.setTop (mkF m 11 #[.val (.ref r0), .val (.int (((0 : Int32) + (1 : Int32)) + (1 : Int32)))] [(.int (((0 : Int32) + (1 : Int32)) + (1 : Int32)))])) _
        refine XS.aloadN X19.here hx rfl (hb hby d2_11) rfl rfl ?_
        show Steps p.tables e below (T19.setTop (mkF m 12 #[.val (.ref r0), .val (.int (((0 : Int32) + (1 : Int32)) + (1 : Int32)))] [(.ref r0), (.int (((0 : Int32) + (1 : Int32)) + (1 : Int32)))])) _
        refine X19.arraylength hx (by rw [e19]; exact Ar22.1) (State.isArrayOf_alike hZ.alike Ar22.2.1) (g := (mkF m 12 #[.val (.ref r0), .val (.int (((0 : Int32) + (1 : Int32)) + (1 : Int32)))] [(.ref r0), (.int (((0 : Int32) + (1 : Int32)) + (1 : Int32)))])) rfl rfl (hb hby d2_12) _ ?_
        rw [len_of S22 M22]
        show Steps p.tables e below (T19.setTop (mkF m 13 #[.val (.ref r0), .val (.int (((0 : Int32) + (1 : Int32)) + (1 : Int32)))] [(.int (4 : Int32)), (.int (((0 : Int32) + (1 : Int32)) + (1 : Int32)))])) _
        refine XS.icmpNo X19.here hx rfl (hb hby d2_13) rfl (feq (by decide : ¬ ((((0 : Int32) + (1 : Int32)) + (1 : Int32)) = (4 : Int32)))).1 ?_
        show Steps p.tables e below (T19.setTop (mkF m 16 #[.val (.ref r0), .val (.int (((0 : Int32) + (1 : Int32)) + (1 : Int32)))] [])) _
        refine XS.aloadN X19.here hx rfl (hb hby d2_16) rfl rfl ?_
        show Steps p.tables e below (T19.setTop (mkF m 17 #[.val (.ref r0), .val (.int (((0 : Int32) + (1 : Int32)) + (1 : Int32)))] [(.ref r0)])) _
        refine XS.iloadN X19.here hx rfl (hb hby d2_17) rfl ?_
        show Steps p.tables e below (T19.setTop (mkF m 18 #[.val (.ref r0), .val (.int (((0 : Int32) + (1 : Int32)) + (1 : Int32)))] [(.int (((0 : Int32) + (1 : Int32)) + (1 : Int32))), (.ref r0)])) _
        refine X19.baloadBytes hx (j := (((0 : Int32) + (1 : Int32)) + (1 : Int32))) (v := (.int w2)) (by rw [e19]; exact Ar23.1) (State.isArrayOf_alike hZ.alike Ar23.2.1) Ar23.2.2 hin23 hat23 (g := (mkF m 18 #[.val (.ref r0), .val (.int (((0 : Int32) + (1 : Int32)) + (1 : Int32)))] [(.int (((0 : Int32) + (1 : Int32)) + (1 : Int32))), (.ref r0)])) rfl rfl (hb hby d2_18) _ ?_
        exact kt
      obtain ⟨T24, X24, e24, st24⟩ := getS2 X19 hx hZ hown (host := "") (Or.inl (hw _ (List.mem_of_getElem? (i := 10) rfl))) Via.refl e19 SB (g := (mkF m 19 #[.val (.ref r0), .val (.int (((0 : Int32) + (1 : Int32)) + (1 : Int32)))] [(.int w2)])) rfl (hb hby d2_19)
      have Vc26 := VB
      obtain ⟨cl26, Ar26, qk26, S26, M26, H26, G26⟩ := Vc26
      have hin26 : ¬ ((((0 : Int32) + (1 : Int32)) + (1 : Int32)) < 0 ∨ cl26.slots.size ≤ ((((0 : Int32) + (1 : Int32)) + (1 : Int32))).toNatClampNeg) := inb_of S26 ⟨by decide, by decide⟩
      have hat26 : cl26.slots[((((0 : Int32) + (1 : Int32)) + (1 : Int32))).toNatClampNeg]? = some (.int (-65 : Int32)) := H26.at hin26 rfl
      have c27 : ∀ t, Steps p.tables e below (T24.setTop (mkF m 24 #[.val (.ref r0), .val (.int (((0 : Int32) + (1 : Int32)) + (1 : Int32)))] [(.int (-65 : Int32)), (.int w2)])) t → Steps p.tables e below (T24.setTop (mkF m 22 #[.val (.ref r0), .val (.int (((0 : Int32) + (1 : Int32)) + (1 : Int32)))] [(.ref rm), (.int w2)])) t := by
        intro t kt
        show Steps p.tables e below (T24.setTop (mkF m 22 #[.val (.ref r0), .val (.int (((0 : Int32) + (1 : Int32)) + (1 : Int32)))] [(.ref rm), (.int w2)])) _
        refine XS.iloadN X24.here hx rfl (hb hby d2_22) rfl ?_
        show Steps p.tables e below (T24.setTop (mkF m 23 #[.val (.ref r0), .val (.int (((0 : Int32) + (1 : Int32)) + (1 : Int32)))] [(.int (((0 : Int32) + (1 : Int32)) + (1 : Int32))), (.ref rm), (.int w2)])) _
        refine X24.baloadBytes hx (j := (((0 : Int32) + (1 : Int32)) + (1 : Int32))) (v := (.int (-65 : Int32))) (by rw [e24]; exact Ar26.1) (State.isArrayOf_alike hZ.alike Ar26.2.1) Ar26.2.2 hin26 hat26 (g := (mkF m 23 #[.val (.ref r0), .val (.int (((0 : Int32) + (1 : Int32)) + (1 : Int32)))] [(.int (((0 : Int32) + (1 : Int32)) + (1 : Int32))), (.ref rm), (.int w2)])) rfl rfl (hb hby d2_23) _ ?_
        exact kt
      by_cases hc24_3 : w2 = (-65 : Int32)
      · -- it is
        have c29 : ∀ t, Steps p.tables e below (T24.setTop (mkF m 3 #[.val (.ref r0), .val (.int ((((0 : Int32) + (1 : Int32)) + (1 : Int32)) + (1 : Int32)))] [(.int ((((0 : Int32) + (1 : Int32)) + (1 : Int32)) + (1 : Int32)))])) t → Steps p.tables e below (T24.setTop (mkF m 24 #[.val (.ref r0), .val (.int (((0 : Int32) + (1 : Int32)) + (1 : Int32)))] [(.int (-65 : Int32)), (.int w2)])) t := by
          intro t kt
          show Steps p.tables e below (T24.setTop (mkF m 24 #[.val (.ref r0), .val (.int (((0 : Int32) + (1 : Int32)) + (1 : Int32)))] [(.int (-65 : Int32)), (.int w2)])) _
          refine XS.icmpYes X24.here hx rfl (pc0 := 24) (pc' := 29) rfl (hb hby d2_24) rfl (teq hc24_3).1 (by decide) (by decide) ?_
          show Steps p.tables e below (T24.setTop (mkF m 29 #[.val (.ref r0), .val (.int (((0 : Int32) + (1 : Int32)) + (1 : Int32)))] [])) _
          refine XS.iinc X24.here hx rfl (hb hby d2_29) rfl (l' := #[.val (.ref r0), .val (.int ((((0 : Int32) + (1 : Int32)) + (1 : Int32)) + (1 : Int32)))]) rfl ?_
          show Steps p.tables e below (T24.setTop (mkF m 32 #[.val (.ref r0), .val (.int ((((0 : Int32) + (1 : Int32)) + (1 : Int32)) + (1 : Int32)))] [])) _
          refine XS.goto X24.here hx rfl (pc0 := 32) (pc' := 2) rfl (hb hby d2_32) (by decide) (by decide) ?_
          show Steps p.tables e below (T24.setTop (mkF m 2 #[.val (.ref r0), .val (.int ((((0 : Int32) + (1 : Int32)) + (1 : Int32)) + (1 : Int32)))] [])) _
          refine XS.iloadN X24.here hx rfl (hb hby d2_2) rfl ?_
          exact kt
        obtain ⟨T28, X28, e28, st28⟩ := getS2 X24 hx hZ hown (host := "") (Or.inl (hw _ (List.mem_of_getElem? (i := 10) rfl))) Via.refl e24 SB (g := (mkF m 3 #[.val (.ref r0), .val (.int ((((0 : Int32) + (1 : Int32)) + (1 : Int32)) + (1 : Int32)))] [(.int ((((0 : Int32) + (1 : Int32)) + (1 : Int32)) + (1 : Int32)))])) rfl (hb hby d2_3)
        have Vc30 := VB
        obtain ⟨cl30, Ar30, qk30, S30, M30, H30, G30⟩ := Vc30
        have c32 : ∀ t, Steps p.tables e below (T28.setTop (mkF m 35 #[.val (.ref r0), .val (.int ((((0 : Int32) + (1 : Int32)) + (1 : Int32)) + (1 : Int32)))] [])) t → Steps p.tables e below (T28.setTop (mkF m 6 #[.val (.ref r0), .val (.int ((((0 : Int32) + (1 : Int32)) + (1 : Int32)) + (1 : Int32)))] [(.ref rm), (.int ((((0 : Int32) + (1 : Int32)) + (1 : Int32)) + (1 : Int32)))])) t := by
          intro t kt
          show Steps p.tables e below (T28.setTop (mkF m 6 #[.val (.ref r0), .val (.int ((((0 : Int32) + (1 : Int32)) + (1 : Int32)) + (1 : Int32)))] [(.ref rm), (.int ((((0 : Int32) + (1 : Int32)) + (1 : Int32)) + (1 : Int32)))])) _
          refine X28.arraylength hx (by rw [e28]; exact Ar30.1) (State.isArrayOf_alike hZ.alike Ar30.2.1) (g := (mkF m 6 #[.val (.ref r0), .val (.int ((((0 : Int32) + (1 : Int32)) + (1 : Int32)) + (1 : Int32)))] [(.ref rm), (.int ((((0 : Int32) + (1 : Int32)) + (1 : Int32)) + (1 : Int32)))])) rfl rfl (hb hby d2_6) _ ?_
          rw [len_of S30 M30]
          show Steps p.tables e below (T28.setTop (mkF m 7 #[.val (.ref r0), .val (.int ((((0 : Int32) + (1 : Int32)) + (1 : Int32)) + (1 : Int32)))] [(.int (3 : Int32)), (.int ((((0 : Int32) + (1 : Int32)) + (1 : Int32)) + (1 : Int32)))])) _
          refine XS.icmpYes X28.here hx rfl (pc0 := 7) (pc' := 35) rfl (hb hby d2_7) rfl (flt (by decide : ¬ (((((0 : Int32) + (1 : Int32)) + (1 : Int32)) + (1 : Int32)) < (3 : Int32)))).2.1 (by decide) (by decide) ?_
          exact kt
        obtain ⟨T31, X31, e31, st31⟩ := getS2 X28 hx hZ hown (host := "") (Or.inl (hw _ (List.mem_of_getElem? (i := 10) rfl))) Via.refl e28 SB (g := (mkF m 35 #[.val (.ref r0), .val (.int ((((0 : Int32) + (1 : Int32)) + (1 : Int32)) + (1 : Int32)))] [])) rfl (hb hby d2_35)
        have Vc33 := VB
        obtain ⟨cl33, Ar33, qk33, S33, M33, H33, G33⟩ := Vc33
        have c34 : ∀ t, Steps p.tables e below (T31.setTop (mkF m 39 #[.val (.ref r0), .val (.int ((((0 : Int32) + (1 : Int32)) + (1 : Int32)) + (1 : Int32)))] [(.int (3 : Int32))])) t → Steps p.tables e below (T31.setTop (mkF m 38 #[.val (.ref r0), .val (.int ((((0 : Int32) + (1 : Int32)) + (1 : Int32)) + (1 : Int32)))] [(.ref rm)])) t := by
          intro t kt
          show Steps p.tables e below (T31.setTop (mkF m 38 #[.val (.ref r0), .val (.int ((((0 : Int32) + (1 : Int32)) + (1 : Int32)) + (1 : Int32)))] [(.ref rm)])) _
          refine X31.arraylength hx (by rw [e31]; exact Ar33.1) (State.isArrayOf_alike hZ.alike Ar33.2.1) (g := (mkF m 38 #[.val (.ref r0), .val (.int ((((0 : Int32) + (1 : Int32)) + (1 : Int32)) + (1 : Int32)))] [(.ref rm)])) rfl rfl (hb hby d2_38) _ ?_
          rw [len_of S33 M33]
          exact kt
        obtain ⟨fs, hr, hrun, hended, hW, hsame⟩ := X31.leave (v := some (.int (3 : Int32))) (fun h => by rw [Bd.returns] at h; cases h)
        refine ⟨_, _, pre0 _ (c2 _ (st1 _ (c7 _ (st6 _ (c9 _ (c11 _ (st10 _ (c16 _ (st15 _ (c18 _ (c20 _ (st19 _ (c25 _ (st24 _ (c27 _ (c29 _ (st28 _ (c32 _ (st31 _ (c34 _ (?_))))))))))))))))))))), hrun, hended, _, _, rfl, ?_, ⟨_, rfl⟩, hW, hsame.mono (by decide) (by decide)⟩
        · show Steps p.tables e below (T31.setTop (mkF m 39 #[.val (.ref r0), .val (.int ((((0 : Int32) + (1 : Int32)) + (1 : Int32)) + (1 : Int32)))] [(.int (3 : Int32))])) _
          exact retI X31 hx Bd.returns (hb hby d2_39) hr
        · show Q2_4 Z r0 kk w0 w1 w2 w3 rm km h0 n0 _ T31.heap _
          rw [e31]
          exact ⟨congrArg (fun z => some (Value.int z)) (show (3 : Int32) = (own_st w0 w1 w2) from by unfold own_st; rw [if_pos ⟨hc24, hc24_2, hc24_3⟩]), N0, rfl⟩
      · -- it isn't
        have c36 : ∀ t, Steps p.tables e below (T24.setTop (mkF m 28 #[.val (.ref r0), .val (.int (((0 : Int32) + (1 : Int32)) + (1 : Int32)))] [(.int (0 : Int32))])) t → Steps p.tables e below (T24.setTop (mkF m 24 #[.val (.ref r0), .val (.int (((0 : Int32) + (1 : Int32)) + (1 : Int32)))] [(.int (-65 : Int32)), (.int w2)])) t := by
          intro t kt
          show Steps p.tables e below (T24.setTop (mkF m 24 #[.val (.ref r0), .val (.int (((0 : Int32) + (1 : Int32)) + (1 : Int32)))] [(.int (-65 : Int32)), (.int w2)])) _
          refine XS.icmpNo X24.here hx rfl (hb hby d2_24) rfl (feq hc24_3).1 ?_
          show Steps p.tables e below (T24.setTop (mkF m 27 #[.val (.ref r0), .val (.int (((0 : Int32) + (1 : Int32)) + (1 : Int32)))] [])) _
          refine XS.iconst X24.here hx rfl (hb hby d2_27) ?_
          exact kt
        obtain ⟨fs, hr, hrun, hended, hW, hsame⟩ := X24.leave (v := some (.int (0 : Int32))) (fun h => by rw [Bd.returns] at h; cases h)
        refine ⟨_, _, pre0 _ (c2 _ (st1 _ (c7 _ (st6 _ (c9 _ (c11 _ (st10 _ (c16 _ (st15 _ (c18 _ (c20 _ (st19 _ (c25 _ (st24 _ (c27 _ (c36 _ (?_))))))))))))))))), hrun, hended, _, _, rfl, ?_, ⟨_, rfl⟩, hW, hsame.mono (by decide) (by decide)⟩
        · show Steps p.tables e below (T24.setTop (mkF m 28 #[.val (.ref r0), .val (.int (((0 : Int32) + (1 : Int32)) + (1 : Int32)))] [(.int (0 : Int32))])) _
          exact retI X24 hx Bd.returns (hb hby d2_28) hr
        · show Q2_4 Z r0 kk w0 w1 w2 w3 rm km h0 n0 _ T24.heap _
          rw [e24]
          exact ⟨congrArg (fun z => some (Value.int z)) (show (0 : Int32) = (own_st w0 w1 w2) from by unfold own_st; rw [if_neg (fun k => hc24_3 k.2.2)]), N0, rfl⟩
    · -- it isn't
      have c38 : ∀ t, Steps p.tables e below (T15.setTop (mkF m 28 #[.val (.ref r0), .val (.int ((0 : Int32) + (1 : Int32)))] [(.int (0 : Int32))])) t → Steps p.tables e below (T15.setTop (mkF m 24 #[.val (.ref r0), .val (.int ((0 : Int32) + (1 : Int32)))] [(.int (-69 : Int32)), (.int w1)])) t := by
        intro t kt
        show Steps p.tables e below (T15.setTop (mkF m 24 #[.val (.ref r0), .val (.int ((0 : Int32) + (1 : Int32)))] [(.int (-69 : Int32)), (.int w1)])) _
        refine XS.icmpNo X15.here hx rfl (hb hby d2_24) rfl (feq hc24_2).1 ?_
        show Steps p.tables e below (T15.setTop (mkF m 27 #[.val (.ref r0), .val (.int ((0 : Int32) + (1 : Int32)))] [])) _
        refine XS.iconst X15.here hx rfl (hb hby d2_27) ?_
        exact kt
      obtain ⟨fs, hr, hrun, hended, hW, hsame⟩ := X15.leave (v := some (.int (0 : Int32))) (fun h => by rw [Bd.returns] at h; cases h)
      refine ⟨_, _, pre0 _ (c2 _ (st1 _ (c7 _ (st6 _ (c9 _ (c11 _ (st10 _ (c16 _ (st15 _ (c18 _ (c38 _ (?_)))))))))))), hrun, hended, _, _, rfl, ?_, ⟨_, rfl⟩, hW, hsame.mono (by decide) (by decide)⟩
      · show Steps p.tables e below (T15.setTop (mkF m 28 #[.val (.ref r0), .val (.int ((0 : Int32) + (1 : Int32)))] [(.int (0 : Int32))])) _
        exact retI X15 hx Bd.returns (hb hby d2_28) hr
      · show Q2_4 Z r0 kk w0 w1 w2 w3 rm km h0 n0 _ T15.heap _
        rw [e15]
        exact ⟨congrArg (fun z => some (Value.int z)) (show (0 : Int32) = (own_st w0 w1 w2) from by unfold own_st; rw [if_neg (fun k => hc24_2 k.2.1)]), N0, rfl⟩
  · -- it isn't
    have c40 : ∀ t, Steps p.tables e below (T6.setTop (mkF m 28 #[.val (.ref r0), .val (.int (0 : Int32))] [(.int (0 : Int32))])) t → Steps p.tables e below (T6.setTop (mkF m 24 #[.val (.ref r0), .val (.int (0 : Int32))] [(.int (-17 : Int32)), (.int w0)])) t := by
      intro t kt
      show Steps p.tables e below (T6.setTop (mkF m 24 #[.val (.ref r0), .val (.int (0 : Int32))] [(.int (-17 : Int32)), (.int w0)])) _
      refine XS.icmpNo X6.here hx rfl (hb hby d2_24) rfl (feq hc24).1 ?_
      show Steps p.tables e below (T6.setTop (mkF m 27 #[.val (.ref r0), .val (.int (0 : Int32))] [])) _
      refine XS.iconst X6.here hx rfl (hb hby d2_27) ?_
      exact kt
    obtain ⟨fs, hr, hrun, hended, hW, hsame⟩ := X6.leave (v := some (.int (0 : Int32))) (fun h => by rw [Bd.returns] at h; cases h)
    refine ⟨_, _, pre0 _ (c2 _ (st1 _ (c7 _ (st6 _ (c9 _ (c40 _ (?_))))))), hrun, hended, _, _, rfl, ?_, ⟨_, rfl⟩, hW, hsame.mono (by decide) (by decide)⟩
    · show Steps p.tables e below (T6.setTop (mkF m 28 #[.val (.ref r0), .val (.int (0 : Int32))] [(.int (0 : Int32))])) _
      exact retI X6 hx Bd.returns (hb hby d2_28) hr
    · show Q2_4 Z r0 kk w0 w1 w2 w3 rm km h0 n0 _ T6.heap _
      rw [e6]
      exact ⟨congrArg (fun z => some (Value.int z)) (show (0 : Int32) = (own_st w0 w1 w2) from by unfold own_st; rw [if_neg (fun k => hc24 k.1)]), N0, rfl⟩
theorem pn_0 : plainName "com/example/ratewright/ratewright/io/Utf8TextStartPinLaw" = true := by first | (simp [plainName, overriddenIn]; done) | decide +kernel
theorem ef_0 (m : MethodId) (x0 : Int32) (x1 : Int32) (x2 : Int32) (x3 : Int32) (x4 : Int32) (x5 : Int32) : entryFrame m #[(.int x0), (.int x1), (.int x2), (.int x3), (.int x4), (.int x5)] maxLocals = mkF m 0 #[.val (.int x0), .val (.int x1), .val (.int x2), .val (.int x3), .val (.int x4), .val (.int x5), .unset, .unset, .unset, .unset, .unset, .unset, .unset, .unset] [] := by first | (simp [entryFrame, mkF, argsToLocals, Value.category, maxLocals]; done) | rfl
def Q0 (Z : State) (p0 : Int32) (p1 : Int32) (p2 : Int32) (p3 : Int32) (p4 : Int32) (p5 : Int32) (rm : Addr) (km : ClassId) (h0 : Heap) (n0 : Nat) (v : Option Value) (h : Heap) (L : List Loc) : Prop := v = some (.int 1) ∧ Fr n0 L
set_option maxRecDepth 65536 in
set_option maxHeartbeats 40000000 in
theorem rm0 (l : Launch) (Z : State) (a0 : Array Value) (hw : ∀ d ∈ tables_1, d.before a0 Z = true) (ws : List Jvm.Cond) (p0 : Int32) (p1 : Int32) (p2 : Int32) (p3 : Int32) (p4 : Int32) (p5 : Int32) (rm : Addr) (km : ClassId) (h0 : Heap) (n0 : Nat) (Z0 : n0 ≤ h0.size) (O0 : Old Z n0 h0) (SB : Sta Z Z.heap "com/example/ratewright/ratewright/io/Utf8Text" "BYTE_ORDER_MARK" "[B" (.ref rm)) (VB : Arv Z Z.heap rm km .byte (3 : Int32) [(.int (-17 : Int32)), (.int (-69 : Int32)), (.int (-65 : Int32))] (.int (0 : Int32))) :
    MetFree l x (head1 (Jvm.Cond.code x code maxLocals ret :: ws) room_1) (fun a U => a = #[(.int p0), (.int p1), (.int p2), (.int p3), (.int p4), (.int p5)] ∧ Z.Warmed39 U.vm ∧ U.heap = h0) (fun _ _ _ _ _ => True) (fun _ U o U' => ∃ v L, o = .returned v ∧ Q0 Z p0 p1 p2 p3 p4 p5 rm km h0 n0 v U'.heap L ∧ FrameEnd U o U' L room_1.cells room_1.slots) := by
  refine MetFree.of_bodySF (plainFor_of_name pn_0) hisR ?_
  intro p e s m args below meth c s₁ Bd hml0 hP hK
  obtain ⟨rfl, hZ, hh⟩ := hP
  have hx := Bd.exec
  have hby := Bd.bytes
  have hml : c.maxLocals = 14 := hml0
  have hown : s.vm.findClass "com/example/ratewright/ratewright/io/Utf8TextStartPinLaw" = some m.cls := findClass_of_methodNamed Bd.named
  have hnm := (name_of_methodNamed Bd.named Bd.method).1
  have X0 : Stand p l e room_1 s m #[(.int p0), (.int p1), (.int p2), (.int p3), (.int p4), (.int p5)] below meth c s₁ [] 0 0 := Stand.of_body Bd
  have e0 : s₁.heap = h0 := by rw [← hh, Bd.state]; rfl
  have N0 := Fr.nil n0
  have pre0 : ∀ t, Steps p.tables e below (s₁.setTop (mkF m 0 #[.val (.int p0), .val (.int p1), .val (.int p2), .val (.int p3), .val (.int p4), .val (.int p5), .unset, .unset, .unset, .unset, .unset, .unset, .unset, .unset] [])) t → Steps p.tables e below (s₁.setTop (entryFrame m #[(.int p0), (.int p1), (.int p2), (.int p3), (.int p4), (.int p5)] maxLocals)) t := fun t k => castTop (ef_0 m p0 p1 p2 p3 p4 p5) k
  have c1 : ∀ t, Steps p.tables e below (s₁.setTop (mkF m 14 #[.val (.int p0), .val (.int p1), .val (.int p2), .val (.int p3), .val (.int p4), .val (.int p5), .val (.int ((p0 &&& (2147483647 : Int32)) % (5 : Int32))), .unset, .unset, .unset, .unset, .unset, .unset, .unset] [(.int p2), (.int (239 : Int32)), (.int (0 : Int32)), (.int p1)])) t → Steps p.tables e below (s₁.setTop (mkF m 0 #[.val (.int p0), .val (.int p1), .val (.int p2), .val (.int p3), .val (.int p4), .val (.int p5), .unset, .unset, .unset, .unset, .unset, .unset, .unset, .unset] [])) t := by
    intro t kt
    show Steps p.tables e below (s₁.setTop (mkF m 0 #[.val (.int p0), .val (.int p1), .val (.int p2), .val (.int p3), .val (.int p4), .val (.int p5), .unset, .unset, .unset, .unset, .unset, .unset, .unset, .unset] [])) _
    refine XS.iloadN X0.here hx rfl (hb hby at_0) rfl ?_
    show Steps p.tables e below (s₁.setTop (mkF m 1 #[.val (.int p0), .val (.int p1), .val (.int p2), .val (.int p3), .val (.int p4), .val (.int p5), .unset, .unset, .unset, .unset, .unset, .unset, .unset, .unset] [(.int p0)])) _
    refine X0.ldcInt hx hown (mvT hZ (hw _ (List.mem_of_getElem? (i := 0) rfl))) (g := (mkF m 1 #[.val (.int p0), .val (.int p1), .val (.int p2), .val (.int p3), .val (.int p4), .val (.int p5), .unset, .unset, .unset, .unset, .unset, .unset, .unset, .unset] [(.int p0)])) rfl (hb hby at_1) _ ?_
    show Steps p.tables e below (s₁.setTop (mkF m 3 #[.val (.int p0), .val (.int p1), .val (.int p2), .val (.int p3), .val (.int p4), .val (.int p5), .unset, .unset, .unset, .unset, .unset, .unset, .unset, .unset] [(.int (2147483647 : Int32)), (.int p0)])) _
    refine XS.iand X0.here hx rfl (hb hby at_3) rfl ?_
    show Steps p.tables e below (s₁.setTop (mkF m 4 #[.val (.int p0), .val (.int p1), .val (.int p2), .val (.int p3), .val (.int p4), .val (.int p5), .unset, .unset, .unset, .unset, .unset, .unset, .unset, .unset] [(.int (p0 &&& (2147483647 : Int32)))])) _
    refine XS.iconst X0.here hx rfl (hb hby at_4) ?_
    show Steps p.tables e below (s₁.setTop (mkF m 5 #[.val (.int p0), .val (.int p1), .val (.int p2), .val (.int p3), .val (.int p4), .val (.int p5), .unset, .unset, .unset, .unset, .unset, .unset, .unset, .unset] [(.int (5 : Int32)), (.int (p0 &&& (2147483647 : Int32)))])) _
    refine iremM X0 hx rfl (hb hby at_5) rfl (by decide) ?_
    show Steps p.tables e below (s₁.setTop (mkF m 6 #[.val (.int p0), .val (.int p1), .val (.int p2), .val (.int p3), .val (.int p4), .val (.int p5), .unset, .unset, .unset, .unset, .unset, .unset, .unset, .unset] [(.int ((p0 &&& (2147483647 : Int32)) % (5 : Int32)))])) _
    refine XS.istore X0.here hx rfl (hb hby at_6) rfl (l' := #[.val (.int p0), .val (.int p1), .val (.int p2), .val (.int p3), .val (.int p4), .val (.int p5), .val (.int ((p0 &&& (2147483647 : Int32)) % (5 : Int32))), .unset, .unset, .unset, .unset, .unset, .unset, .unset]) rfl ?_
    show Steps p.tables e below (s₁.setTop (mkF m 8 #[.val (.int p0), .val (.int p1), .val (.int p2), .val (.int p3), .val (.int p4), .val (.int p5), .val (.int ((p0 &&& (2147483647 : Int32)) % (5 : Int32))), .unset, .unset, .unset, .unset, .unset, .unset, .unset] [])) _
    refine XS.iloadN X0.here hx rfl (hb hby at_8) rfl ?_
    show Steps p.tables e below (s₁.setTop (mkF m 9 #[.val (.int p0), .val (.int p1), .val (.int p2), .val (.int p3), .val (.int p4), .val (.int p5), .val (.int ((p0 &&& (2147483647 : Int32)) % (5 : Int32))), .unset, .unset, .unset, .unset, .unset, .unset, .unset] [(.int p1)])) _
    refine XS.iconst X0.here hx rfl (hb hby at_9) ?_
    show Steps p.tables e below (s₁.setTop (mkF m 10 #[.val (.int p0), .val (.int p1), .val (.int p2), .val (.int p3), .val (.int p4), .val (.int p5), .val (.int ((p0 &&& (2147483647 : Int32)) % (5 : Int32))), .unset, .unset, .unset, .unset, .unset, .unset, .unset] [(.int (0 : Int32)), (.int p1)])) _
    refine XS.sipush X0.here hx rfl (hb hby at_10) ?_
    show Steps p.tables e below (s₁.setTop (mkF m 13 #[.val (.int p0), .val (.int p1), .val (.int p2), .val (.int p3), .val (.int p4), .val (.int p5), .val (.int ((p0 &&& (2147483647 : Int32)) % (5 : Int32))), .unset, .unset, .unset, .unset, .unset, .unset, .unset] [(.int (239 : Int32)), (.int (0 : Int32)), (.int p1)])) _
    refine XS.iloadN X0.here hx rfl (hb hby at_13) rfl ?_
    exact kt
  obtain ⟨_, _, ⟨T2, L2, k2, n2⟩, -, X2, ⟨Lc2, hQ2, l2, y2, z2⟩, st2⟩ := Jvm.LawKit.callS X0 hx (y := (⟨"com/example/ratewright/ratewright/io/Utf8TextStartPinLaw", "pick", "(IIII)B"⟩ : MethodName)) hown (mvT hZ (hw _ (List.mem_of_getElem? (i := 1) rfl))) (mvT hZ (hw _ (List.mem_of_getElem? (i := 2) rfl))) (mvT hZ (hw _ (List.mem_of_getElem? (i := 3) rfl))) (mvT hZ (hw _ (List.mem_of_getElem? (i := 4) rfl))) (by decide) (backOf (W := 0) (rm1 l Z a0 hw [] p1 (0 : Int32) (239 : Int32) p2  h0 n0 Z0 ) hZ (hw _ (List.mem_of_getElem? (i := 4) rfl)) (hw _ (List.mem_of_getElem? (i := 3) rfl)) (by decide) (by decide)) (g := (mkF m 14 #[.val (.int p0), .val (.int p1), .val (.int p2), .val (.int p3), .val (.int p4), .val (.int p5), .val (.int ((p0 &&& (2147483647 : Int32)) % (5 : Int32))), .unset, .unset, .unset, .unset, .unset, .unset, .unset] [(.int p2), (.int (239 : Int32)), (.int (0 : Int32)), (.int p1)])) rfl (by rw [hml]; rfl) (argsL := [(.int p1), (.int (0 : Int32)), (.int (239 : Int32)), (.int p2)]) (rest := []) (lenOf pd_0 rfl) rfl (by show 2 * 0 + _ ≤ _; exact Nat.le_of_eq rfl) (hb hby at_14) (fun _ _ => ⟨rfl, e0, (by decide : 0 + 0 ≤ _), (by decide : 0 + 0 ≤ _)⟩)
  dsimp only [Pt.U, Pt.locs, Pt.cells, Pt.slots] at X2 l2 y2 z2 st2 hQ2
  subst l2 y2 z2
  obtain ⟨rfl, N2q, e2⟩ := hQ2
  have N2 := Fr.app N0 N2q
  have c3 : ∀ t, Steps p.tables e below (T2.setTop (mkF m 19 #[.val (.int p0), .val (.int p1), .val (.int p2), .val (.int p3), .val (.int p4), .val (.int p5), .val (.int ((p0 &&& (2147483647 : Int32)) % (5 : Int32))), .val (.int (own_pk p1 (0 : Int32) (239 : Int32) p2)), .unset, .unset, .unset, .unset, .unset, .unset] [])) t → Steps p.tables e below (T2.setTop (mkF m 17 #[.val (.int p0), .val (.int p1), .val (.int p2), .val (.int p3), .val (.int p4), .val (.int p5), .val (.int ((p0 &&& (2147483647 : Int32)) % (5 : Int32))), .unset, .unset, .unset, .unset, .unset, .unset, .unset] [(.int (own_pk p1 (0 : Int32) (239 : Int32) p2))])) t := by
    intro t kt
    show Steps p.tables e below (T2.setTop (mkF m 17 #[.val (.int p0), .val (.int p1), .val (.int p2), .val (.int p3), .val (.int p4), .val (.int p5), .val (.int ((p0 &&& (2147483647 : Int32)) % (5 : Int32))), .unset, .unset, .unset, .unset, .unset, .unset, .unset] [(.int (own_pk p1 (0 : Int32) (239 : Int32) p2))])) _
    refine XS.istore X2.here hx rfl (hb hby at_17) rfl (l' := #[.val (.int p0), .val (.int p1), .val (.int p2), .val (.int p3), .val (.int p4), .val (.int p5), .val (.int ((p0 &&& (2147483647 : Int32)) % (5 : Int32))), .val (.int (own_pk p1 (0 : Int32) (239 : Int32) p2)), .unset, .unset, .unset, .unset, .unset, .unset]) rfl ?_
    exact kt
  obtain ⟨x0, hx0⟩ : ∃ z, z = (own_pk p1 (0 : Int32) (239 : Int32) p2) := ⟨_, rfl⟩
  have c4 : ∀ t, Steps p.tables e below (T2.setTop (mkF m 19 #[.val (.int p0), .val (.int p1), .val (.int p2), .val (.int p3), .val (.int p4), .val (.int p5), .val (.int ((p0 &&& (2147483647 : Int32)) % (5 : Int32))), .val (.int x0), .unset, .unset, .unset, .unset, .unset, .unset] [])) t → Steps p.tables e below (T2.setTop (mkF m 19 #[.val (.int p0), .val (.int p1), .val (.int p2), .val (.int p3), .val (.int p4), .val (.int p5), .val (.int ((p0 &&& (2147483647 : Int32)) % (5 : Int32))), .val (.int (own_pk p1 (0 : Int32) (239 : Int32) p2)), .unset, .unset, .unset, .unset, .unset, .unset] [])) t := fun t kt => by rw [hx0] at kt; exact kt
  have rx0 : -128 ≤ x0.toInt ∧ x0.toInt < 128 := by rw [hx0]; exact own_pkr _ _ _ _
  have c5 : ∀ t, Steps p.tables e below (T2.setTop (mkF m 25 #[.val (.int p0), .val (.int p1), .val (.int p2), .val (.int p3), .val (.int p4), .val (.int p5), .val (.int ((p0 &&& (2147483647 : Int32)) % (5 : Int32))), .val (.int x0), .unset, .unset, .unset, .unset, .unset, .unset] [(.int p3), (.int (187 : Int32)), (.int (1 : Int32)), (.int p1)])) t → Steps p.tables e below (T2.setTop (mkF m 19 #[.val (.int p0), .val (.int p1), .val (.int p2), .val (.int p3), .val (.int p4), .val (.int p5), .val (.int ((p0 &&& (2147483647 : Int32)) % (5 : Int32))), .val (.int x0), .unset, .unset, .unset, .unset, .unset, .unset] [])) t := by
    intro t kt
    show Steps p.tables e below (T2.setTop (mkF m 19 #[.val (.int p0), .val (.int p1), .val (.int p2), .val (.int p3), .val (.int p4), .val (.int p5), .val (.int ((p0 &&& (2147483647 : Int32)) % (5 : Int32))), .val (.int x0), .unset, .unset, .unset, .unset, .unset, .unset] [])) _
    refine XS.iloadN X2.here hx rfl (hb hby at_19) rfl ?_
    show Steps p.tables e below (T2.setTop (mkF m 20 #[.val (.int p0), .val (.int p1), .val (.int p2), .val (.int p3), .val (.int p4), .val (.int p5), .val (.int ((p0 &&& (2147483647 : Int32)) % (5 : Int32))), .val (.int x0), .unset, .unset, .unset, .unset, .unset, .unset] [(.int p1)])) _
    refine XS.iconst X2.here hx rfl (hb hby at_20) ?_
    show Steps p.tables e below (T2.setTop (mkF m 21 #[.val (.int p0), .val (.int p1), .val (.int p2), .val (.int p3), .val (.int p4), .val (.int p5), .val (.int ((p0 &&& (2147483647 : Int32)) % (5 : Int32))), .val (.int x0), .unset, .unset, .unset, .unset, .unset, .unset] [(.int (1 : Int32)), (.int p1)])) _
    refine XS.sipush X2.here hx rfl (hb hby at_21) ?_
    show Steps p.tables e below (T2.setTop (mkF m 24 #[.val (.int p0), .val (.int p1), .val (.int p2), .val (.int p3), .val (.int p4), .val (.int p5), .val (.int ((p0 &&& (2147483647 : Int32)) % (5 : Int32))), .val (.int x0), .unset, .unset, .unset, .unset, .unset, .unset] [(.int (187 : Int32)), (.int (1 : Int32)), (.int p1)])) _
    refine XS.iloadN X2.here hx rfl (hb hby at_24) rfl ?_
    exact kt
  obtain ⟨_, _, ⟨T6, L6, k6, n6⟩, -, X6, ⟨Lc6, hQ6, l6, y6, z6⟩, st6⟩ := Jvm.LawKit.callS X2 hx (y := (⟨"com/example/ratewright/ratewright/io/Utf8TextStartPinLaw", "pick", "(IIII)B"⟩ : MethodName)) hown (mvT hZ (hw _ (List.mem_of_getElem? (i := 1) rfl))) (mvT hZ (hw _ (List.mem_of_getElem? (i := 2) rfl))) (mvT hZ (hw _ (List.mem_of_getElem? (i := 3) rfl))) (mvT hZ (hw _ (List.mem_of_getElem? (i := 4) rfl))) (by decide) (backOf (W := 0) (rm1 l Z a0 hw [] p1 (1 : Int32) (187 : Int32) p3  h0 n0 Z0 ) hZ (hw _ (List.mem_of_getElem? (i := 4) rfl)) (hw _ (List.mem_of_getElem? (i := 3) rfl)) (by decide) (by decide)) (g := (mkF m 25 #[.val (.int p0), .val (.int p1), .val (.int p2), .val (.int p3), .val (.int p4), .val (.int p5), .val (.int ((p0 &&& (2147483647 : Int32)) % (5 : Int32))), .val (.int x0), .unset, .unset, .unset, .unset, .unset, .unset] [(.int p3), (.int (187 : Int32)), (.int (1 : Int32)), (.int p1)])) rfl (by rw [hml]; rfl) (argsL := [(.int p1), (.int (1 : Int32)), (.int (187 : Int32)), (.int p3)]) (rest := []) (lenOf pd_0 rfl) rfl (by show 2 * 0 + _ ≤ _; exact Nat.le_of_eq rfl) (hb hby at_25) (fun _ _ => ⟨rfl, e2, (by decide : 0 + 0 ≤ _), (by decide : 0 + 0 ≤ _)⟩)
  dsimp only [Pt.U, Pt.locs, Pt.cells, Pt.slots] at X6 l6 y6 z6 st6 hQ6
  subst l6 y6 z6
  obtain ⟨rfl, N6q, e6⟩ := hQ6
  have N6 := Fr.app N2 N6q
  have c7 : ∀ t, Steps p.tables e below (T6.setTop (mkF m 30 #[.val (.int p0), .val (.int p1), .val (.int p2), .val (.int p3), .val (.int p4), .val (.int p5), .val (.int ((p0 &&& (2147483647 : Int32)) % (5 : Int32))), .val (.int x0), .val (.int (own_pk p1 (1 : Int32) (187 : Int32) p3)), .unset, .unset, .unset, .unset, .unset] [])) t → Steps p.tables e below (T6.setTop (mkF m 28 #[.val (.int p0), .val (.int p1), .val (.int p2), .val (.int p3), .val (.int p4), .val (.int p5), .val (.int ((p0 &&& (2147483647 : Int32)) % (5 : Int32))), .val (.int x0), .unset, .unset, .unset, .unset, .unset, .unset] [(.int (own_pk p1 (1 : Int32) (187 : Int32) p3))])) t := by
    intro t kt
    show Steps p.tables e below (T6.setTop (mkF m 28 #[.val (.int p0), .val (.int p1), .val (.int p2), .val (.int p3), .val (.int p4), .val (.int p5), .val (.int ((p0 &&& (2147483647 : Int32)) % (5 : Int32))), .val (.int x0), .unset, .unset, .unset, .unset, .unset, .unset] [(.int (own_pk p1 (1 : Int32) (187 : Int32) p3))])) _
    refine XS.istore X6.here hx rfl (hb hby at_28) rfl (l' := #[.val (.int p0), .val (.int p1), .val (.int p2), .val (.int p3), .val (.int p4), .val (.int p5), .val (.int ((p0 &&& (2147483647 : Int32)) % (5 : Int32))), .val (.int x0), .val (.int (own_pk p1 (1 : Int32) (187 : Int32) p3)), .unset, .unset, .unset, .unset, .unset]) rfl ?_
    exact kt
  obtain ⟨x1, hx1⟩ : ∃ z, z = (own_pk p1 (1 : Int32) (187 : Int32) p3) := ⟨_, rfl⟩
  have c8 : ∀ t, Steps p.tables e below (T6.setTop (mkF m 30 #[.val (.int p0), .val (.int p1), .val (.int p2), .val (.int p3), .val (.int p4), .val (.int p5), .val (.int ((p0 &&& (2147483647 : Int32)) % (5 : Int32))), .val (.int x0), .val (.int x1), .unset, .unset, .unset, .unset, .unset] [])) t → Steps p.tables e below (T6.setTop (mkF m 30 #[.val (.int p0), .val (.int p1), .val (.int p2), .val (.int p3), .val (.int p4), .val (.int p5), .val (.int ((p0 &&& (2147483647 : Int32)) % (5 : Int32))), .val (.int x0), .val (.int (own_pk p1 (1 : Int32) (187 : Int32) p3)), .unset, .unset, .unset, .unset, .unset] [])) t := fun t kt => by rw [hx1] at kt; exact kt
  have rx1 : -128 ≤ x1.toInt ∧ x1.toInt < 128 := by rw [hx1]; exact own_pkr _ _ _ _
  have c9 : ∀ t, Steps p.tables e below (T6.setTop (mkF m 37 #[.val (.int p0), .val (.int p1), .val (.int p2), .val (.int p3), .val (.int p4), .val (.int p5), .val (.int ((p0 &&& (2147483647 : Int32)) % (5 : Int32))), .val (.int x0), .val (.int x1), .unset, .unset, .unset, .unset, .unset] [(.int p4), (.int (191 : Int32)), (.int (2 : Int32)), (.int p1)])) t → Steps p.tables e below (T6.setTop (mkF m 30 #[.val (.int p0), .val (.int p1), .val (.int p2), .val (.int p3), .val (.int p4), .val (.int p5), .val (.int ((p0 &&& (2147483647 : Int32)) % (5 : Int32))), .val (.int x0), .val (.int x1), .unset, .unset, .unset, .unset, .unset] [])) t := by
    intro t kt
    show Steps p.tables e below (T6.setTop (mkF m 30 #[.val (.int p0), .val (.int p1), .val (.int p2), .val (.int p3), .val (.int p4), .val (.int p5), .val (.int ((p0 &&& (2147483647 : Int32)) % (5 : Int32))), .val (.int x0), .val (.int x1), .unset, .unset, .unset, .unset, .unset] [])) _
    refine XS.iloadN X6.here hx rfl (hb hby at_30) rfl ?_
    show Steps p.tables e below (T6.setTop (mkF m 31 #[.val (.int p0), .val (.int p1), .val (.int p2), .val (.int p3), .val (.int p4), .val (.int p5), .val (.int ((p0 &&& (2147483647 : Int32)) % (5 : Int32))), .val (.int x0), .val (.int x1), .unset, .unset, .unset, .unset, .unset] [(.int p1)])) _
    refine XS.iconst X6.here hx rfl (hb hby at_31) ?_
    show Steps p.tables e below (T6.setTop (mkF m 32 #[.val (.int p0), .val (.int p1), .val (.int p2), .val (.int p3), .val (.int p4), .val (.int p5), .val (.int ((p0 &&& (2147483647 : Int32)) % (5 : Int32))), .val (.int x0), .val (.int x1), .unset, .unset, .unset, .unset, .unset] [(.int (2 : Int32)), (.int p1)])) _
    refine XS.sipush X6.here hx rfl (hb hby at_32) ?_
    show Steps p.tables e below (T6.setTop (mkF m 35 #[.val (.int p0), .val (.int p1), .val (.int p2), .val (.int p3), .val (.int p4), .val (.int p5), .val (.int ((p0 &&& (2147483647 : Int32)) % (5 : Int32))), .val (.int x0), .val (.int x1), .unset, .unset, .unset, .unset, .unset] [(.int (191 : Int32)), (.int (2 : Int32)), (.int p1)])) _
    refine XS.iload X6.here hx rfl (hb hby at_35) rfl ?_
    exact kt
  obtain ⟨_, _, ⟨T10, L10, k10, n10⟩, -, X10, ⟨Lc10, hQ10, l10, y10, z10⟩, st10⟩ := Jvm.LawKit.callS X6 hx (y := (⟨"com/example/ratewright/ratewright/io/Utf8TextStartPinLaw", "pick", "(IIII)B"⟩ : MethodName)) hown (mvT hZ (hw _ (List.mem_of_getElem? (i := 1) rfl))) (mvT hZ (hw _ (List.mem_of_getElem? (i := 2) rfl))) (mvT hZ (hw _ (List.mem_of_getElem? (i := 3) rfl))) (mvT hZ (hw _ (List.mem_of_getElem? (i := 4) rfl))) (by decide) (backOf (W := 0) (rm1 l Z a0 hw [] p1 (2 : Int32) (191 : Int32) p4  h0 n0 Z0 ) hZ (hw _ (List.mem_of_getElem? (i := 4) rfl)) (hw _ (List.mem_of_getElem? (i := 3) rfl)) (by decide) (by decide)) (g := (mkF m 37 #[.val (.int p0), .val (.int p1), .val (.int p2), .val (.int p3), .val (.int p4), .val (.int p5), .val (.int ((p0 &&& (2147483647 : Int32)) % (5 : Int32))), .val (.int x0), .val (.int x1), .unset, .unset, .unset, .unset, .unset] [(.int p4), (.int (191 : Int32)), (.int (2 : Int32)), (.int p1)])) rfl (by rw [hml]; rfl) (argsL := [(.int p1), (.int (2 : Int32)), (.int (191 : Int32)), (.int p4)]) (rest := []) (lenOf pd_0 rfl) rfl (by show 2 * 0 + _ ≤ _; exact Nat.le_of_eq rfl) (hb hby at_37) (fun _ _ => ⟨rfl, e6, (by decide : 0 + 0 ≤ _), (by decide : 0 + 0 ≤ _)⟩)
  dsimp only [Pt.U, Pt.locs, Pt.cells, Pt.slots] at X10 l10 y10 z10 st10 hQ10
  subst l10 y10 z10
  obtain ⟨rfl, N10q, e10⟩ := hQ10
  have N10 := Fr.app N6 N10q
  have c11 : ∀ t, Steps p.tables e below (T10.setTop (mkF m 42 #[.val (.int p0), .val (.int p1), .val (.int p2), .val (.int p3), .val (.int p4), .val (.int p5), .val (.int ((p0 &&& (2147483647 : Int32)) % (5 : Int32))), .val (.int x0), .val (.int x1), .val (.int (own_pk p1 (2 : Int32) (191 : Int32) p4)), .unset, .unset, .unset, .unset] [])) t → Steps p.tables e below (T10.setTop (mkF m 40 #[.val (.int p0), .val (.int p1), .val (.int p2), .val (.int p3), .val (.int p4), .val (.int p5), .val (.int ((p0 &&& (2147483647 : Int32)) % (5 : Int32))), .val (.int x0), .val (.int x1), .unset, .unset, .unset, .unset, .unset] [(.int (own_pk p1 (2 : Int32) (191 : Int32) p4))])) t := by
    intro t kt
    show Steps p.tables e below (T10.setTop (mkF m 40 #[.val (.int p0), .val (.int p1), .val (.int p2), .val (.int p3), .val (.int p4), .val (.int p5), .val (.int ((p0 &&& (2147483647 : Int32)) % (5 : Int32))), .val (.int x0), .val (.int x1), .unset, .unset, .unset, .unset, .unset] [(.int (own_pk p1 (2 : Int32) (191 : Int32) p4))])) _
    refine XS.istore X10.here hx rfl (hb hby at_40) rfl (l' := #[.val (.int p0), .val (.int p1), .val (.int p2), .val (.int p3), .val (.int p4), .val (.int p5), .val (.int ((p0 &&& (2147483647 : Int32)) % (5 : Int32))), .val (.int x0), .val (.int x1), .val (.int (own_pk p1 (2 : Int32) (191 : Int32) p4)), .unset, .unset, .unset, .unset]) rfl ?_
    exact kt
  obtain ⟨x2, hx2⟩ : ∃ z, z = (own_pk p1 (2 : Int32) (191 : Int32) p4) := ⟨_, rfl⟩
  have c12 : ∀ t, Steps p.tables e below (T10.setTop (mkF m 42 #[.val (.int p0), .val (.int p1), .val (.int p2), .val (.int p3), .val (.int p4), .val (.int p5), .val (.int ((p0 &&& (2147483647 : Int32)) % (5 : Int32))), .val (.int x0), .val (.int x1), .val (.int x2), .unset, .unset, .unset, .unset] [])) t → Steps p.tables e below (T10.setTop (mkF m 42 #[.val (.int p0), .val (.int p1), .val (.int p2), .val (.int p3), .val (.int p4), .val (.int p5), .val (.int ((p0 &&& (2147483647 : Int32)) % (5 : Int32))), .val (.int x0), .val (.int x1), .val (.int (own_pk p1 (2 : Int32) (191 : Int32) p4)), .unset, .unset, .unset, .unset] [])) t := fun t kt => by rw [hx2] at kt; exact kt
  have rx2 : -128 ≤ x2.toInt ∧ x2.toInt < 128 := by rw [hx2]; exact own_pkr _ _ _ _
  have c13 : ∀ t, Steps p.tables e below (T10.setTop (mkF m 49 #[.val (.int p0), .val (.int p1), .val (.int p2), .val (.int p3), .val (.int p4), .val (.int p5), .val (.int ((p0 &&& (2147483647 : Int32)) % (5 : Int32))), .val (.int x0), .val (.int x1), .val (.int x2), .unset, .unset, .unset, .unset] [(.int p5), (.int (239 : Int32)), (.int (3 : Int32)), (.int p1)])) t → Steps p.tables e below (T10.setTop (mkF m 42 #[.val (.int p0), .val (.int p1), .val (.int p2), .val (.int p3), .val (.int p4), .val (.int p5), .val (.int ((p0 &&& (2147483647 : Int32)) % (5 : Int32))), .val (.int x0), .val (.int x1), .val (.int x2), .unset, .unset, .unset, .unset] [])) t := by
    intro t kt
    show Steps p.tables e below (T10.setTop (mkF m 42 #[.val (.int p0), .val (.int p1), .val (.int p2), .val (.int p3), .val (.int p4), .val (.int p5), .val (.int ((p0 &&& (2147483647 : Int32)) % (5 : Int32))), .val (.int x0), .val (.int x1), .val (.int x2), .unset, .unset, .unset, .unset] [])) _
    refine XS.iloadN X10.here hx rfl (hb hby at_42) rfl ?_
    show Steps p.tables e below (T10.setTop (mkF m 43 #[.val (.int p0), .val (.int p1), .val (.int p2), .val (.int p3), .val (.int p4), .val (.int p5), .val (.int ((p0 &&& (2147483647 : Int32)) % (5 : Int32))), .val (.int x0), .val (.int x1), .val (.int x2), .unset, .unset, .unset, .unset] [(.int p1)])) _
    refine XS.iconst X10.here hx rfl (hb hby at_43) ?_
    show Steps p.tables e below (T10.setTop (mkF m 44 #[.val (.int p0), .val (.int p1), .val (.int p2), .val (.int p3), .val (.int p4), .val (.int p5), .val (.int ((p0 &&& (2147483647 : Int32)) % (5 : Int32))), .val (.int x0), .val (.int x1), .val (.int x2), .unset, .unset, .unset, .unset] [(.int (3 : Int32)), (.int p1)])) _
    refine XS.sipush X10.here hx rfl (hb hby at_44) ?_
    show Steps p.tables e below (T10.setTop (mkF m 47 #[.val (.int p0), .val (.int p1), .val (.int p2), .val (.int p3), .val (.int p4), .val (.int p5), .val (.int ((p0 &&& (2147483647 : Int32)) % (5 : Int32))), .val (.int x0), .val (.int x1), .val (.int x2), .unset, .unset, .unset, .unset] [(.int (239 : Int32)), (.int (3 : Int32)), (.int p1)])) _
    refine XS.iload X10.here hx rfl (hb hby at_47) rfl ?_
    exact kt
  obtain ⟨_, _, ⟨T14, L14, k14, n14⟩, -, X14, ⟨Lc14, hQ14, l14, y14, z14⟩, st14⟩ := Jvm.LawKit.callS X10 hx (y := (⟨"com/example/ratewright/ratewright/io/Utf8TextStartPinLaw", "pick", "(IIII)B"⟩ : MethodName)) hown (mvT hZ (hw _ (List.mem_of_getElem? (i := 1) rfl))) (mvT hZ (hw _ (List.mem_of_getElem? (i := 2) rfl))) (mvT hZ (hw _ (List.mem_of_getElem? (i := 3) rfl))) (mvT hZ (hw _ (List.mem_of_getElem? (i := 4) rfl))) (by decide) (backOf (W := 0) (rm1 l Z a0 hw [] p1 (3 : Int32) (239 : Int32) p5  h0 n0 Z0 ) hZ (hw _ (List.mem_of_getElem? (i := 4) rfl)) (hw _ (List.mem_of_getElem? (i := 3) rfl)) (by decide) (by decide)) (g := (mkF m 49 #[.val (.int p0), .val (.int p1), .val (.int p2), .val (.int p3), .val (.int p4), .val (.int p5), .val (.int ((p0 &&& (2147483647 : Int32)) % (5 : Int32))), .val (.int x0), .val (.int x1), .val (.int x2), .unset, .unset, .unset, .unset] [(.int p5), (.int (239 : Int32)), (.int (3 : Int32)), (.int p1)])) rfl (by rw [hml]; rfl) (argsL := [(.int p1), (.int (3 : Int32)), (.int (239 : Int32)), (.int p5)]) (rest := []) (lenOf pd_0 rfl) rfl (by show 2 * 0 + _ ≤ _; exact Nat.le_of_eq rfl) (hb hby at_49) (fun _ _ => ⟨rfl, e10, (by decide : 0 + 0 ≤ _), (by decide : 0 + 0 ≤ _)⟩)
  dsimp only [Pt.U, Pt.locs, Pt.cells, Pt.slots] at X14 l14 y14 z14 st14 hQ14
  subst l14 y14 z14
  obtain ⟨rfl, N14q, e14⟩ := hQ14
  have N14 := Fr.app N10 N14q
  have c15 : ∀ t, Steps p.tables e below (T14.setTop (mkF m 54 #[.val (.int p0), .val (.int p1), .val (.int p2), .val (.int p3), .val (.int p4), .val (.int p5), .val (.int ((p0 &&& (2147483647 : Int32)) % (5 : Int32))), .val (.int x0), .val (.int x1), .val (.int x2), .val (.int (own_pk p1 (3 : Int32) (239 : Int32) p5)), .unset, .unset, .unset] [])) t → Steps p.tables e below (T14.setTop (mkF m 52 #[.val (.int p0), .val (.int p1), .val (.int p2), .val (.int p3), .val (.int p4), .val (.int p5), .val (.int ((p0 &&& (2147483647 : Int32)) % (5 : Int32))), .val (.int x0), .val (.int x1), .val (.int x2), .unset, .unset, .unset, .unset] [(.int (own_pk p1 (3 : Int32) (239 : Int32) p5))])) t := by
    intro t kt
    show Steps p.tables e below (T14.setTop (mkF m 52 #[.val (.int p0), .val (.int p1), .val (.int p2), .val (.int p3), .val (.int p4), .val (.int p5), .val (.int ((p0 &&& (2147483647 : Int32)) % (5 : Int32))), .val (.int x0), .val (.int x1), .val (.int x2), .unset, .unset, .unset, .unset] [(.int (own_pk p1 (3 : Int32) (239 : Int32) p5))])) _
    refine XS.istore X14.here hx rfl (hb hby at_52) rfl (l' := #[.val (.int p0), .val (.int p1), .val (.int p2), .val (.int p3), .val (.int p4), .val (.int p5), .val (.int ((p0 &&& (2147483647 : Int32)) % (5 : Int32))), .val (.int x0), .val (.int x1), .val (.int x2), .val (.int (own_pk p1 (3 : Int32) (239 : Int32) p5)), .unset, .unset, .unset]) rfl ?_
    exact kt
  rcases own_mod5 p0 with hln | hln | hln | hln | hln
  · skip
    have c16 : ∀ t, Steps p.tables e below (T14.setTop (mkF m 54 #[.val (.int p0), .val (.int p1), .val (.int p2), .val (.int p3), .val (.int p4), .val (.int p5), .val (.int (0 : Int32)), .val (.int x0), .val (.int x1), .val (.int x2), .val (.int (own_pk p1 (3 : Int32) (239 : Int32) p5)), .unset, .unset, .unset] [])) t → Steps p.tables e below (T14.setTop (mkF m 54 #[.val (.int p0), .val (.int p1), .val (.int p2), .val (.int p3), .val (.int p4), .val (.int p5), .val (.int ((p0 &&& (2147483647 : Int32)) % (5 : Int32))), .val (.int x0), .val (.int x1), .val (.int x2), .val (.int (own_pk p1 (3 : Int32) (239 : Int32) p5)), .unset, .unset, .unset] [])) t := fun t kt => by rw [hln]; exact kt
    have c18 : ∀ t, Steps p.tables e below (T14.setTop (mkF m 56 #[.val (.int p0), .val (.int p1), .val (.int p2), .val (.int p3), .val (.int p4), .val (.int p5), .val (.int (0 : Int32)), .val (.int x0), .val (.int x1), .val (.int x2), .val (.int (own_pk p1 (3 : Int32) (239 : Int32) p5)), .unset, .unset, .unset] [(.int (0 : Int32))])) t → Steps p.tables e below (T14.setTop (mkF m 54 #[.val (.int p0), .val (.int p1), .val (.int p2), .val (.int p3), .val (.int p4), .val (.int p5), .val (.int (0 : Int32)), .val (.int x0), .val (.int x1), .val (.int x2), .val (.int (own_pk p1 (3 : Int32) (239 : Int32) p5)), .unset, .unset, .unset] [])) t := by
      intro t kt
      show Steps p.tables e below (T14.setTop (mkF m 54 #[.val (.int p0), .val (.int p1), .val (.int p2), .val (.int p3), .val (.int p4), .val (.int p5), .val (.int (0 : Int32)), .val (.int x0), .val (.int x1), .val (.int x2), .val (.int (own_pk p1 (3 : Int32) (239 : Int32) p5)), .unset, .unset, .unset] [])) _
      refine XS.iload X14.here hx rfl (hb hby at_54) rfl ?_
      exact kt
    obtain ⟨T17, h17, k17, X17, e17, E17, A17, st17⟩ := newP X14 hx hZ (hw _ (List.mem_of_getElem? (i := 5) rfl)) e14 (g := (mkF m 56 #[.val (.int p0), .val (.int p1), .val (.int p2), .val (.int p3), .val (.int p4), .val (.int p5), .val (.int (0 : Int32)), .val (.int x0), .val (.int x1), .val (.int x2), .val (.int (own_pk p1 (3 : Int32) (239 : Int32) p5)), .unset, .unset, .unset] [(.int (0 : Int32))])) rfl (hb hby at_56) rfl (by decide) (cap := 0) (by decide) (by decide) (by decide) (by decide)
    obtain ⟨b17, g17⟩ : ∃ z, z = h0.size := ⟨_, rfl⟩
    rw [← g17] at A17 st17
    have g_b17 : n0 ≤ b17 := Nat.le_trans Z0 (Nat.le_of_eq g17.symm)
    have sz_b17 : h0.size ≤ b17 := Nat.le_trans (Keep.refl h0 []).1 (Nat.le_of_eq g17.symm)
    have V17 : Arv Z h17 b17 k17 .byte (0 : Int32) [] (.int (0 : Int32)) := (Arv.new A17 (by decide)).pad (pad_rep [] (.int (0 : Int32)) 0)
    have c19 : ∀ t, Steps p.tables e below (T17.setTop (mkF m 170 #[.val (.int p0), .val (.int p1), .val (.int p2), .val (.int p3), .val (.int p4), .val (.int p5), .val (.int (0 : Int32)), .val (.int x0), .val (.int x1), .val (.int x2), .val (.int (own_pk p1 (3 : Int32) (239 : Int32) p5)), .val (.ref b17), .val (.int (0 : Int32)), .val (.int (0 : Int32))] [(.ref b17)])) t → Steps p.tables e below (T17.setTop (mkF m 58 #[.val (.int p0), .val (.int p1), .val (.int p2), .val (.int p3), .val (.int p4), .val (.int p5), .val (.int (0 : Int32)), .val (.int x0), .val (.int x1), .val (.int x2), .val (.int (own_pk p1 (3 : Int32) (239 : Int32) p5)), .unset, .unset, .unset] [(.ref b17)])) t := by
      intro t kt
      show Steps p.tables e below (T17.setTop (mkF m 58 #[.val (.int p0), .val (.int p1), .val (.int p2), .val (.int p3), .val (.int p4), .val (.int p5), .val (.int (0 : Int32)), .val (.int x0), .val (.int x1), .val (.int x2), .val (.int (own_pk p1 (3 : Int32) (239 : Int32) p5)), .unset, .unset, .unset] [(.ref b17)])) _
      refine XS.astore X17.here hx rfl (hb hby at_58) rfl rfl (l' := #[.val (.int p0), .val (.int p1), .val (.int p2), .val (.int p3), .val (.int p4), .val (.int p5), .val (.int (0 : Int32)), .val (.int x0), .val (.int x1), .val (.int x2), .val (.int (own_pk p1 (3 : Int32) (239 : Int32) p5)), .val (.ref b17), .unset, .unset]) rfl ?_
      show Steps p.tables e below (T17.setTop (mkF m 60 #[.val (.int p0), .val (.int p1), .val (.int p2), .val (.int p3), .val (.int p4), .val (.int p5), .val (.int (0 : Int32)), .val (.int x0), .val (.int x1), .val (.int x2), .val (.int (own_pk p1 (3 : Int32) (239 : Int32) p5)), .val (.ref b17), .unset, .unset] [])) _
      refine XS.iload X17.here hx rfl (hb hby at_60) rfl ?_
      show Steps p.tables e below (T17.setTop (mkF m 62 #[.val (.int p0), .val (.int p1), .val (.int p2), .val (.int p3), .val (.int p4), .val (.int p5), .val (.int (0 : Int32)), .val (.int x0), .val (.int x1), .val (.int x2), .val (.int (own_pk p1 (3 : Int32) (239 : Int32) p5)), .val (.ref b17), .unset, .unset] [(.int (0 : Int32))])) _
      refine XS.ifYes X17.here hx rfl (pc0 := 62) (pc' := 71) rfl (hb hby at_62) rfl ((if0 _ _).trans (flt (by decide : ¬ ((0 : Int32) < (0 : Int32)))).2.2.2) (by decide) (by decide) ?_
      show Steps p.tables e below (T17.setTop (mkF m 71 #[.val (.int p0), .val (.int p1), .val (.int p2), .val (.int p3), .val (.int p4), .val (.int p5), .val (.int (0 : Int32)), .val (.int x0), .val (.int x1), .val (.int x2), .val (.int (own_pk p1 (3 : Int32) (239 : Int32) p5)), .val (.ref b17), .unset, .unset] [])) _
      refine XS.iload X17.here hx rfl (hb hby at_71) rfl ?_
      show Steps p.tables e below (T17.setTop (mkF m 73 #[.val (.int p0), .val (.int p1), .val (.int p2), .val (.int p3), .val (.int p4), .val (.int p5), .val (.int (0 : Int32)), .val (.int x0), .val (.int x1), .val (.int x2), .val (.int (own_pk p1 (3 : Int32) (239 : Int32) p5)), .val (.ref b17), .unset, .unset] [(.int (0 : Int32))])) _
      refine XS.iconst X17.here hx rfl (hb hby at_73) ?_
      show Steps p.tables e below (T17.setTop (mkF m 74 #[.val (.int p0), .val (.int p1), .val (.int p2), .val (.int p3), .val (.int p4), .val (.int p5), .val (.int (0 : Int32)), .val (.int x0), .val (.int x1), .val (.int x2), .val (.int (own_pk p1 (3 : Int32) (239 : Int32) p5)), .val (.ref b17), .unset, .unset] [(.int (1 : Int32)), (.int (0 : Int32))])) _
      refine XS.icmpYes X17.here hx rfl (pc0 := 74) (pc' := 83) rfl (hb hby at_74) rfl (flt (by decide : ¬ ((1 : Int32) < (0 : Int32)))).2.2.2 (by decide) (by decide) ?_
      show Steps p.tables e below (T17.setTop (mkF m 83 #[.val (.int p0), .val (.int p1), .val (.int p2), .val (.int p3), .val (.int p4), .val (.int p5), .val (.int (0 : Int32)), .val (.int x0), .val (.int x1), .val (.int x2), .val (.int (own_pk p1 (3 : Int32) (239 : Int32) p5)), .val (.ref b17), .unset, .unset] [])) _
      refine XS.iload X17.here hx rfl (hb hby at_83) rfl ?_
      show Steps p.tables e below (T17.setTop (mkF m 85 #[.val (.int p0), .val (.int p1), .val (.int p2), .val (.int p3), .val (.int p4), .val (.int p5), .val (.int (0 : Int32)), .val (.int x0), .val (.int x1), .val (.int x2), .val (.int (own_pk p1 (3 : Int32) (239 : Int32) p5)), .val (.ref b17), .unset, .unset] [(.int (0 : Int32))])) _
      refine XS.iconst X17.here hx rfl (hb hby at_85) ?_
      show Steps p.tables e below (T17.setTop (mkF m 86 #[.val (.int p0), .val (.int p1), .val (.int p2), .val (.int p3), .val (.int p4), .val (.int p5), .val (.int (0 : Int32)), .val (.int x0), .val (.int x1), .val (.int x2), .val (.int (own_pk p1 (3 : Int32) (239 : Int32) p5)), .val (.ref b17), .unset, .unset] [(.int (2 : Int32)), (.int (0 : Int32))])) _
      refine XS.icmpYes X17.here hx rfl (pc0 := 86) (pc' := 95) rfl (hb hby at_86) rfl (flt (by decide : ¬ ((2 : Int32) < (0 : Int32)))).2.2.2 (by decide) (by decide) ?_
      show Steps p.tables e below (T17.setTop (mkF m 95 #[.val (.int p0), .val (.int p1), .val (.int p2), .val (.int p3), .val (.int p4), .val (.int p5), .val (.int (0 : Int32)), .val (.int x0), .val (.int x1), .val (.int x2), .val (.int (own_pk p1 (3 : Int32) (239 : Int32) p5)), .val (.ref b17), .unset, .unset] [])) _
      refine XS.iload X17.here hx rfl (hb hby at_95) rfl ?_
      show Steps p.tables e below (T17.setTop (mkF m 97 #[.val (.int p0), .val (.int p1), .val (.int p2), .val (.int p3), .val (.int p4), .val (.int p5), .val (.int (0 : Int32)), .val (.int x0), .val (.int x1), .val (.int x2), .val (.int (own_pk p1 (3 : Int32) (239 : Int32) p5)), .val (.ref b17), .unset, .unset] [(.int (0 : Int32))])) _
      refine XS.iconst X17.here hx rfl (hb hby at_97) ?_
      show Steps p.tables e below (T17.setTop (mkF m 98 #[.val (.int p0), .val (.int p1), .val (.int p2), .val (.int p3), .val (.int p4), .val (.int p5), .val (.int (0 : Int32)), .val (.int x0), .val (.int x1), .val (.int x2), .val (.int (own_pk p1 (3 : Int32) (239 : Int32) p5)), .val (.ref b17), .unset, .unset] [(.int (3 : Int32)), (.int (0 : Int32))])) _
      refine XS.icmpYes X17.here hx rfl (pc0 := 98) (pc' := 107) rfl (hb hby at_98) rfl (flt (by decide : ¬ ((3 : Int32) < (0 : Int32)))).2.2.2 (by decide) (by decide) ?_
      show Steps p.tables e below (T17.setTop (mkF m 107 #[.val (.int p0), .val (.int p1), .val (.int p2), .val (.int p3), .val (.int p4), .val (.int p5), .val (.int (0 : Int32)), .val (.int x0), .val (.int x1), .val (.int x2), .val (.int (own_pk p1 (3 : Int32) (239 : Int32) p5)), .val (.ref b17), .unset, .unset] [])) _
      refine XS.iload X17.here hx rfl (hb hby at_107) rfl ?_
      show Steps p.tables e below (T17.setTop (mkF m 109 #[.val (.int p0), .val (.int p1), .val (.int p2), .val (.int p3), .val (.int p4), .val (.int p5), .val (.int (0 : Int32)), .val (.int x0), .val (.int x1), .val (.int x2), .val (.int (own_pk p1 (3 : Int32) (239 : Int32) p5)), .val (.ref b17), .unset, .unset] [(.int (0 : Int32))])) _
      refine XS.iconst X17.here hx rfl (hb hby at_109) ?_
      show Steps p.tables e below (T17.setTop (mkF m 110 #[.val (.int p0), .val (.int p1), .val (.int p2), .val (.int p3), .val (.int p4), .val (.int p5), .val (.int (0 : Int32)), .val (.int x0), .val (.int x1), .val (.int x2), .val (.int (own_pk p1 (3 : Int32) (239 : Int32) p5)), .val (.ref b17), .unset, .unset] [(.int (3 : Int32)), (.int (0 : Int32))])) _
      refine XS.icmpYes X17.here hx rfl (pc0 := 110) (pc' := 153) rfl (hb hby at_110) rfl (tlt (by decide : (0 : Int32) < (3 : Int32))).1 (by decide) (by decide) ?_
      show Steps p.tables e below (T17.setTop (mkF m 153 #[.val (.int p0), .val (.int p1), .val (.int p2), .val (.int p3), .val (.int p4), .val (.int p5), .val (.int (0 : Int32)), .val (.int x0), .val (.int x1), .val (.int x2), .val (.int (own_pk p1 (3 : Int32) (239 : Int32) p5)), .val (.ref b17), .unset, .unset] [])) _
      refine XS.iconst X17.here hx rfl (hb hby at_153) ?_
      show Steps p.tables e below (T17.setTop (mkF m 154 #[.val (.int p0), .val (.int p1), .val (.int p2), .val (.int p3), .val (.int p4), .val (.int p5), .val (.int (0 : Int32)), .val (.int x0), .val (.int x1), .val (.int x2), .val (.int (own_pk p1 (3 : Int32) (239 : Int32) p5)), .val (.ref b17), .unset, .unset] [(.int (0 : Int32))])) _
      refine XS.istore X17.here hx rfl (hb hby at_154) rfl (l' := #[.val (.int p0), .val (.int p1), .val (.int p2), .val (.int p3), .val (.int p4), .val (.int p5), .val (.int (0 : Int32)), .val (.int x0), .val (.int x1), .val (.int x2), .val (.int (own_pk p1 (3 : Int32) (239 : Int32) p5)), .val (.ref b17), .val (.int (0 : Int32)), .unset]) rfl ?_
      show Steps p.tables e below (T17.setTop (mkF m 156 #[.val (.int p0), .val (.int p1), .val (.int p2), .val (.int p3), .val (.int p4), .val (.int p5), .val (.int (0 : Int32)), .val (.int x0), .val (.int x1), .val (.int x2), .val (.int (own_pk p1 (3 : Int32) (239 : Int32) p5)), .val (.ref b17), .val (.int (0 : Int32)), .unset] [])) _
      refine XS.iload X17.here hx rfl (hb hby at_156) rfl ?_
      show Steps p.tables e below (T17.setTop (mkF m 158 #[.val (.int p0), .val (.int p1), .val (.int p2), .val (.int p3), .val (.int p4), .val (.int p5), .val (.int (0 : Int32)), .val (.int x0), .val (.int x1), .val (.int x2), .val (.int (own_pk p1 (3 : Int32) (239 : Int32) p5)), .val (.ref b17), .val (.int (0 : Int32)), .unset] [(.int (0 : Int32))])) _
      refine XS.ifYes X17.here hx rfl (pc0 := 158) (pc' := 165) rfl (hb hby at_158) rfl ((if0 _ _).trans (teq (by decide : (0 : Int32) = (0 : Int32))).1) (by decide) (by decide) ?_
      show Steps p.tables e below (T17.setTop (mkF m 165 #[.val (.int p0), .val (.int p1), .val (.int p2), .val (.int p3), .val (.int p4), .val (.int p5), .val (.int (0 : Int32)), .val (.int x0), .val (.int x1), .val (.int x2), .val (.int (own_pk p1 (3 : Int32) (239 : Int32) p5)), .val (.ref b17), .val (.int (0 : Int32)), .unset] [])) _
      refine XS.iconst X17.here hx rfl (hb hby at_165) ?_
      show Steps p.tables e below (T17.setTop (mkF m 166 #[.val (.int p0), .val (.int p1), .val (.int p2), .val (.int p3), .val (.int p4), .val (.int p5), .val (.int (0 : Int32)), .val (.int x0), .val (.int x1), .val (.int x2), .val (.int (own_pk p1 (3 : Int32) (239 : Int32) p5)), .val (.ref b17), .val (.int (0 : Int32)), .unset] [(.int (0 : Int32))])) _
      refine XS.istore X17.here hx rfl (hb hby at_166) rfl (l' := #[.val (.int p0), .val (.int p1), .val (.int p2), .val (.int p3), .val (.int p4), .val (.int p5), .val (.int (0 : Int32)), .val (.int x0), .val (.int x1), .val (.int x2), .val (.int (own_pk p1 (3 : Int32) (239 : Int32) p5)), .val (.ref b17), .val (.int (0 : Int32)), .val (.int (0 : Int32))]) rfl ?_
      show Steps p.tables e below (T17.setTop (mkF m 168 #[.val (.int p0), .val (.int p1), .val (.int p2), .val (.int p3), .val (.int p4), .val (.int p5), .val (.int (0 : Int32)), .val (.int x0), .val (.int x1), .val (.int x2), .val (.int (own_pk p1 (3 : Int32) (239 : Int32) p5)), .val (.ref b17), .val (.int (0 : Int32)), .val (.int (0 : Int32))] [])) _
      refine XS.aload X17.here hx rfl (hb hby at_168) rfl rfl ?_
      exact kt
    have f20 := (Nat.le_trans Z0 E17.1)
    have f21 := (O0.ext E17)
    obtain ⟨_, _, ⟨T22, L22, k22, n22⟩, -, X22, ⟨Lc22, hQ22, l22, y22, z22⟩, st22⟩ := Jvm.LawKit.callS X17 hx (y := (⟨"com/example/ratewright/ratewright/io/Utf8Text", "start", "([B)I"⟩ : MethodName)) hown (mvT hZ (hw _ (List.mem_of_getElem? (i := 6) rfl))) (mvT hZ (hw _ (List.mem_of_getElem? (i := 7) rfl))) (mvT hZ (hw _ (List.mem_of_getElem? (i := 8) rfl))) (mvT hZ (hw _ (List.mem_of_getElem? (i := 9) rfl))) (by decide) (backOf (W := 0) (rm2_0 l Z a0 hw [] b17 k17  rm km h17 n0 f20 V17 (SB.ext f21.2) (VB.ext f21.2)) hZ (hw _ (List.mem_of_getElem? (i := 9) rfl)) (hw _ (List.mem_of_getElem? (i := 8) rfl)) (by decide) (by decide)) (g := (mkF m 170 #[.val (.int p0), .val (.int p1), .val (.int p2), .val (.int p3), .val (.int p4), .val (.int p5), .val (.int (0 : Int32)), .val (.int x0), .val (.int x1), .val (.int x2), .val (.int (own_pk p1 (3 : Int32) (239 : Int32) p5)), .val (.ref b17), .val (.int (0 : Int32)), .val (.int (0 : Int32))] [(.ref b17)])) rfl (by rw [hml]; rfl) (argsL := [(.ref b17)]) (rest := []) (lenOf pd_1 rfl) rfl (by show 2 * 0 + _ ≤ _; exact Nat.le_of_eq rfl) (hb hby at_170) (fun _ _ => ⟨rfl, e17, (by decide : 1 + 0 ≤ _), (by decide : 0 + 0 ≤ _)⟩)
    dsimp only [Pt.U, Pt.locs, Pt.cells, Pt.slots] at X22 l22 y22 z22 st22 hQ22
    subst l22 y22 z22
    obtain ⟨rfl, N22q, e22⟩ := hQ22
    have N22 := Fr.app N14 N22q
    have c23 : ∀ t, Steps p.tables e below (T22.setTop (mkF m 183 #[.val (.int p0), .val (.int p1), .val (.int p2), .val (.int p3), .val (.int p4), .val (.int p5), .val (.int (0 : Int32)), .val (.int x0), .val (.int x1), .val (.int x2), .val (.int (own_pk p1 (3 : Int32) (239 : Int32) p5)), .val (.ref b17), .val (.int (0 : Int32)), .val (.int (0 : Int32))] [(.int (1 : Int32))])) t → Steps p.tables e below (T22.setTop (mkF m 173 #[.val (.int p0), .val (.int p1), .val (.int p2), .val (.int p3), .val (.int p4), .val (.int p5), .val (.int (0 : Int32)), .val (.int x0), .val (.int x1), .val (.int x2), .val (.int (own_pk p1 (3 : Int32) (239 : Int32) p5)), .val (.ref b17), .val (.int (0 : Int32)), .val (.int (0 : Int32))] [(.int (0 : Int32))])) t := by
      intro t kt
      show Steps p.tables e below (T22.setTop (mkF m 173 #[.val (.int p0), .val (.int p1), .val (.int p2), .val (.int p3), .val (.int p4), .val (.int p5), .val (.int (0 : Int32)), .val (.int x0), .val (.int x1), .val (.int x2), .val (.int (own_pk p1 (3 : Int32) (239 : Int32) p5)), .val (.ref b17), .val (.int (0 : Int32)), .val (.int (0 : Int32))] [(.int (0 : Int32))])) _
      refine XS.iload X22.here hx rfl (hb hby at_173) rfl ?_
      show Steps p.tables e below (T22.setTop (mkF m 175 #[.val (.int p0), .val (.int p1), .val (.int p2), .val (.int p3), .val (.int p4), .val (.int p5), .val (.int (0 : Int32)), .val (.int x0), .val (.int x1), .val (.int x2), .val (.int (own_pk p1 (3 : Int32) (239 : Int32) p5)), .val (.ref b17), .val (.int (0 : Int32)), .val (.int (0 : Int32))] [(.int (0 : Int32)), (.int (0 : Int32))])) _
      refine XS.icmpNo X22.here hx rfl (hb hby at_175) rfl (teq (by decide : (0 : Int32) = (0 : Int32))).2 ?_
      show Steps p.tables e below (T22.setTop (mkF m 178 #[.val (.int p0), .val (.int p1), .val (.int p2), .val (.int p3), .val (.int p4), .val (.int p5), .val (.int (0 : Int32)), .val (.int x0), .val (.int x1), .val (.int x2), .val (.int (own_pk p1 (3 : Int32) (239 : Int32) p5)), .val (.ref b17), .val (.int (0 : Int32)), .val (.int (0 : Int32))] [])) _
      refine XS.iconst X22.here hx rfl (hb hby at_178) ?_
      show Steps p.tables e below (T22.setTop (mkF m 179 #[.val (.int p0), .val (.int p1), .val (.int p2), .val (.int p3), .val (.int p4), .val (.int p5), .val (.int (0 : Int32)), .val (.int x0), .val (.int x1), .val (.int x2), .val (.int (own_pk p1 (3 : Int32) (239 : Int32) p5)), .val (.ref b17), .val (.int (0 : Int32)), .val (.int (0 : Int32))] [(.int (1 : Int32))])) _
      refine XS.goto X22.here hx rfl (pc0 := 179) (pc' := 183) rfl (hb hby at_179) (by decide) (by decide) ?_
      exact kt
    obtain ⟨fs, hr, hrun, hended, hW, hsame⟩ := X22.leave (v := some (.int (1 : Int32))) (fun h => by rw [Bd.returns] at h; cases h)
    refine ⟨_, _, pre0 _ (c1 _ (st2 _ (c3 _ (c4 _ (c5 _ (st6 _ (c7 _ (c8 _ (c9 _ (st10 _ (c11 _ (c12 _ (c13 _ (st14 _ (c15 _ (c16 _ (c18 _ (st17 _ (c19 _ (st22 _ (c23 _ (?_)))))))))))))))))))))), hrun, hended, _, _, rfl, ?_, ⟨_, rfl⟩, hW, hsame.mono (by decide) (by decide)⟩
    · show Steps p.tables e below (T22.setTop (mkF m 183 #[.val (.int p0), .val (.int p1), .val (.int p2), .val (.int p3), .val (.int p4), .val (.int p5), .val (.int (0 : Int32)), .val (.int x0), .val (.int x1), .val (.int x2), .val (.int (own_pk p1 (3 : Int32) (239 : Int32) p5)), .val (.ref b17), .val (.int (0 : Int32)), .val (.int (0 : Int32))] [(.int (1 : Int32))])) _
      exact retN X22 hx (t := .boolean) Bd.returns (by simp) (hb hby at_183) hr
    · show Q0 Z p0 p1 p2 p3 p4 p5 rm km h0 n0 _ T22.heap _
      rw [e22]
      exact ⟨congrArg (fun z => some (Value.int z)) (show (1 : Int32) = (1 : Int32) from by rfl), N22⟩
  · skip
    have c25 : ∀ t, Steps p.tables e below (T14.setTop (mkF m 54 #[.val (.int p0), .val (.int p1), .val (.int p2), .val (.int p3), .val (.int p4), .val (.int p5), .val (.int (1 : Int32)), .val (.int x0), .val (.int x1), .val (.int x2), .val (.int (own_pk p1 (3 : Int32) (239 : Int32) p5)), .unset, .unset, .unset] [])) t → Steps p.tables e below (T14.setTop (mkF m 54 #[.val (.int p0), .val (.int p1), .val (.int p2), .val (.int p3), .val (.int p4), .val (.int p5), .val (.int ((p0 &&& (2147483647 : Int32)) % (5 : Int32))), .val (.int x0), .val (.int x1), .val (.int x2), .val (.int (own_pk p1 (3 : Int32) (239 : Int32) p5)), .unset, .unset, .unset] [])) t := fun t kt => by rw [hln]; exact kt
    have c27 : ∀ t, Steps p.tables e below (T14.setTop (mkF m 56 #[.val (.int p0), .val (.int p1), .val (.int p2), .val (.int p3), .val (.int p4), .val (.int p5), .val (.int (1 : Int32)), .val (.int x0), .val (.int x1), .val (.int x2), .val (.int (own_pk p1 (3 : Int32) (239 : Int32) p5)), .unset, .unset, .unset] [(.int (1 : Int32))])) t → Steps p.tables e below (T14.setTop (mkF m 54 #[.val (.int p0), .val (.int p1), .val (.int p2), .val (.int p3), .val (.int p4), .val (.int p5), .val (.int (1 : Int32)), .val (.int x0), .val (.int x1), .val (.int x2), .val (.int (own_pk p1 (3 : Int32) (239 : Int32) p5)), .unset, .unset, .unset] [])) t := by
      intro t kt
      show Steps p.tables e below (T14.setTop (mkF m 54 #[.val (.int p0), .val (.int p1), .val (.int p2), .val (.int p3), .val (.int p4), .val (.int p5), .val (.int (1 : Int32)), .val (.int x0), .val (.int x1), .val (.int x2), .val (.int (own_pk p1 (3 : Int32) (239 : Int32) p5)), .unset, .unset, .unset] [])) _
      refine XS.iload X14.here hx rfl (hb hby at_54) rfl ?_
      exact kt
    obtain ⟨T26, h26, k26, X26, e26, E26, A26, st26⟩ := newP X14 hx hZ (hw _ (List.mem_of_getElem? (i := 5) rfl)) e14 (g := (mkF m 56 #[.val (.int p0), .val (.int p1), .val (.int p2), .val (.int p3), .val (.int p4), .val (.int p5), .val (.int (1 : Int32)), .val (.int x0), .val (.int x1), .val (.int x2), .val (.int (own_pk p1 (3 : Int32) (239 : Int32) p5)), .unset, .unset, .unset] [(.int (1 : Int32))])) rfl (hb hby at_56) rfl (by decide) (cap := 1) (by decide) (by decide) (by decide) (by decide)
    obtain ⟨b26, g26⟩ : ∃ z, z = h0.size := ⟨_, rfl⟩
    rw [← g26] at A26 st26
    have g_b26 : n0 ≤ b26 := Nat.le_trans Z0 (Nat.le_of_eq g26.symm)
    have sz_b26 : h0.size ≤ b26 := Nat.le_trans (Keep.refl h0 []).1 (Nat.le_of_eq g26.symm)
    have V26 : Arv Z h26 b26 k26 .byte (1 : Int32) [(.int (0 : Int32))] (.int (0 : Int32)) := (Arv.new A26 (by decide)).pad (pad_rep [] (.int (0 : Int32)) 1)
    have c28 : ∀ t, Steps p.tables e below (T26.setTop (mkF m 70 #[.val (.int p0), .val (.int p1), .val (.int p2), .val (.int p3), .val (.int p4), .val (.int p5), .val (.int (1 : Int32)), .val (.int x0), .val (.int x1), .val (.int x2), .val (.int (own_pk p1 (3 : Int32) (239 : Int32) p5)), .val (.ref b26), .unset, .unset] [(.int x0), (.int (0 : Int32)), (.ref b26)])) t → Steps p.tables e below (T26.setTop (mkF m 58 #[.val (.int p0), .val (.int p1), .val (.int p2), .val (.int p3), .val (.int p4), .val (.int p5), .val (.int (1 : Int32)), .val (.int x0), .val (.int x1), .val (.int x2), .val (.int (own_pk p1 (3 : Int32) (239 : Int32) p5)), .unset, .unset, .unset] [(.ref b26)])) t := by
      intro t kt
      show Steps p.tables e below (T26.setTop (mkF m 58 #[.val (.int p0), .val (.int p1), .val (.int p2), .val (.int p3), .val (.int p4), .val (.int p5), .val (.int (1 : Int32)), .val (.int x0), .val (.int x1), .val (.int x2), .val (.int (own_pk p1 (3 : Int32) (239 : Int32) p5)), .unset, .unset, .unset] [(.ref b26)])) _
      refine XS.astore X26.here hx rfl (hb hby at_58) rfl rfl (l' := #[.val (.int p0), .val (.int p1), .val (.int p2), .val (.int p3), .val (.int p4), .val (.int p5), .val (.int (1 : Int32)), .val (.int x0), .val (.int x1), .val (.int x2), .val (.int (own_pk p1 (3 : Int32) (239 : Int32) p5)), .val (.ref b26), .unset, .unset]) rfl ?_
      show Steps p.tables e below (T26.setTop (mkF m 60 #[.val (.int p0), .val (.int p1), .val (.int p2), .val (.int p3), .val (.int p4), .val (.int p5), .val (.int (1 : Int32)), .val (.int x0), .val (.int x1), .val (.int x2), .val (.int (own_pk p1 (3 : Int32) (239 : Int32) p5)), .val (.ref b26), .unset, .unset] [])) _
      refine XS.iload X26.here hx rfl (hb hby at_60) rfl ?_
      show Steps p.tables e below (T26.setTop (mkF m 62 #[.val (.int p0), .val (.int p1), .val (.int p2), .val (.int p3), .val (.int p4), .val (.int p5), .val (.int (1 : Int32)), .val (.int x0), .val (.int x1), .val (.int x2), .val (.int (own_pk p1 (3 : Int32) (239 : Int32) p5)), .val (.ref b26), .unset, .unset] [(.int (1 : Int32))])) _
      refine XS.ifNo X26.here hx rfl (hb hby at_62) rfl ((if0 _ _).trans (tlt (by decide : (0 : Int32) < (1 : Int32))).2.2.2) ?_
      show Steps p.tables e below (T26.setTop (mkF m 65 #[.val (.int p0), .val (.int p1), .val (.int p2), .val (.int p3), .val (.int p4), .val (.int p5), .val (.int (1 : Int32)), .val (.int x0), .val (.int x1), .val (.int x2), .val (.int (own_pk p1 (3 : Int32) (239 : Int32) p5)), .val (.ref b26), .unset, .unset] [])) _
      refine XS.aload X26.here hx rfl (hb hby at_65) rfl rfl ?_
      show Steps p.tables e below (T26.setTop (mkF m 67 #[.val (.int p0), .val (.int p1), .val (.int p2), .val (.int p3), .val (.int p4), .val (.int p5), .val (.int (1 : Int32)), .val (.int x0), .val (.int x1), .val (.int x2), .val (.int (own_pk p1 (3 : Int32) (239 : Int32) p5)), .val (.ref b26), .unset, .unset] [(.ref b26)])) _
      refine XS.iconst X26.here hx rfl (hb hby at_67) ?_
      show Steps p.tables e below (T26.setTop (mkF m 68 #[.val (.int p0), .val (.int p1), .val (.int p2), .val (.int p3), .val (.int p4), .val (.int p5), .val (.int (1 : Int32)), .val (.int x0), .val (.int x1), .val (.int x2), .val (.int (own_pk p1 (3 : Int32) (239 : Int32) p5)), .val (.ref b26), .unset, .unset] [(.int (0 : Int32)), (.ref b26)])) _
      refine XS.iload X26.here hx rfl (hb hby at_68) rfl ?_
      exact kt
    have Vc29 := V26
    obtain ⟨cl29, Ar29, qk29, S29, M29, H29, G29⟩ := Vc29
    have hin29 : ¬ ((0 : Int32) < 0 ∨ cl29.slots.size ≤ ((0 : Int32)).toNatClampNeg) := inb_of S29 ⟨by decide, by decide⟩
    obtain ⟨T30, h30, X30, e30, W30, st30⟩ := stB X26 hx hZ e26 Ar29 (j := (0 : Int32)) hin29 (g := (mkF m 70 #[.val (.int p0), .val (.int p1), .val (.int p2), .val (.int p3), .val (.int p4), .val (.int p5), .val (.int (1 : Int32)), .val (.int x0), .val (.int x1), .val (.int x2), .val (.int (own_pk p1 (3 : Int32) (239 : Int32) p5)), .val (.ref b26), .unset, .unset] [(.int x0), (.int (0 : Int32)), (.ref b26)])) rfl rfl (hb hby at_70)
    have V30 : Arv Z h30 b26 k26 .byte (1 : Int32) [(.int (x0.toInt8.toInt32))] (.int (0 : Int32)) := Arv.set Ar29 qk29 S29 M29 H29 G29 (fits_nar_byte _) W30 0 rfl (Nat.le_of_ble_eq_true rfl)
    have N30 := Fr.snoc X30 N14 g_b26
    have c31 : ∀ t, Steps p.tables e below (T30.setTop (mkF m 170 #[.val (.int p0), .val (.int p1), .val (.int p2), .val (.int p3), .val (.int p4), .val (.int p5), .val (.int (1 : Int32)), .val (.int x0), .val (.int x1), .val (.int x2), .val (.int (own_pk p1 (3 : Int32) (239 : Int32) p5)), .val (.ref b26), .val (.int (0 : Int32)), .val (.int (0 : Int32))] [(.ref b26)])) t → Steps p.tables e below (T30.setTop (mkF m 71 #[.val (.int p0), .val (.int p1), .val (.int p2), .val (.int p3), .val (.int p4), .val (.int p5), .val (.int (1 : Int32)), .val (.int x0), .val (.int x1), .val (.int x2), .val (.int (own_pk p1 (3 : Int32) (239 : Int32) p5)), .val (.ref b26), .unset, .unset] [])) t := by
      intro t kt
      show Steps p.tables e below (T30.setTop (mkF m 71 #[.val (.int p0), .val (.int p1), .val (.int p2), .val (.int p3), .val (.int p4), .val (.int p5), .val (.int (1 : Int32)), .val (.int x0), .val (.int x1), .val (.int x2), .val (.int (own_pk p1 (3 : Int32) (239 : Int32) p5)), .val (.ref b26), .unset, .unset] [])) _
      refine XS.iload X30.here hx rfl (hb hby at_71) rfl ?_
      show Steps p.tables e below (T30.setTop (mkF m 73 #[.val (.int p0), .val (.int p1), .val (.int p2), .val (.int p3), .val (.int p4), .val (.int p5), .val (.int (1 : Int32)), .val (.int x0), .val (.int x1), .val (.int x2), .val (.int (own_pk p1 (3 : Int32) (239 : Int32) p5)), .val (.ref b26), .unset, .unset] [(.int (1 : Int32))])) _
      refine XS.iconst X30.here hx rfl (hb hby at_73) ?_
      show Steps p.tables e below (T30.setTop (mkF m 74 #[.val (.int p0), .val (.int p1), .val (.int p2), .val (.int p3), .val (.int p4), .val (.int p5), .val (.int (1 : Int32)), .val (.int x0), .val (.int x1), .val (.int x2), .val (.int (own_pk p1 (3 : Int32) (239 : Int32) p5)), .val (.ref b26), .unset, .unset] [(.int (1 : Int32)), (.int (1 : Int32))])) _
      refine XS.icmpYes X30.here hx rfl (pc0 := 74) (pc' := 83) rfl (hb hby at_74) rfl (flt (by decide : ¬ ((1 : Int32) < (1 : Int32)))).2.2.2 (by decide) (by decide) ?_
      show Steps p.tables e below (T30.setTop (mkF m 83 #[.val (.int p0), .val (.int p1), .val (.int p2), .val (.int p3), .val (.int p4), .val (.int p5), .val (.int (1 : Int32)), .val (.int x0), .val (.int x1), .val (.int x2), .val (.int (own_pk p1 (3 : Int32) (239 : Int32) p5)), .val (.ref b26), .unset, .unset] [])) _
      refine XS.iload X30.here hx rfl (hb hby at_83) rfl ?_
      show Steps p.tables e below (T30.setTop (mkF m 85 #[.val (.int p0), .val (.int p1), .val (.int p2), .val (.int p3), .val (.int p4), .val (.int p5), .val (.int (1 : Int32)), .val (.int x0), .val (.int x1), .val (.int x2), .val (.int (own_pk p1 (3 : Int32) (239 : Int32) p5)), .val (.ref b26), .unset, .unset] [(.int (1 : Int32))])) _
      refine XS.iconst X30.here hx rfl (hb hby at_85) ?_
      show Steps p.tables e below (T30.setTop (mkF m 86 #[.val (.int p0), .val (.int p1), .val (.int p2), .val (.int p3), .val (.int p4), .val (.int p5), .val (.int (1 : Int32)), .val (.int x0), .val (.int x1), .val (.int x2), .val (.int (own_pk p1 (3 : Int32) (239 : Int32) p5)), .val (.ref b26), .unset, .unset] [(.int (2 : Int32)), (.int (1 : Int32))])) _
      refine XS.icmpYes X30.here hx rfl (pc0 := 86) (pc' := 95) rfl (hb hby at_86) rfl (flt (by decide : ¬ ((2 : Int32) < (1 : Int32)))).2.2.2 (by decide) (by decide) ?_
      show Steps p.tables e below (T30.setTop (mkF m 95 #[.val (.int p0), .val (.int p1), .val (.int p2), .val (.int p3), .val (.int p4), .val (.int p5), .val (.int (1 : Int32)), .val (.int x0), .val (.int x1), .val (.int x2), .val (.int (own_pk p1 (3 : Int32) (239 : Int32) p5)), .val (.ref b26), .unset, .unset] [])) _
      refine XS.iload X30.here hx rfl (hb hby at_95) rfl ?_
      show Steps p.tables e below (T30.setTop (mkF m 97 #[.val (.int p0), .val (.int p1), .val (.int p2), .val (.int p3), .val (.int p4), .val (.int p5), .val (.int (1 : Int32)), .val (.int x0), .val (.int x1), .val (.int x2), .val (.int (own_pk p1 (3 : Int32) (239 : Int32) p5)), .val (.ref b26), .unset, .unset] [(.int (1 : Int32))])) _
      refine XS.iconst X30.here hx rfl (hb hby at_97) ?_
      show Steps p.tables e below (T30.setTop (mkF m 98 #[.val (.int p0), .val (.int p1), .val (.int p2), .val (.int p3), .val (.int p4), .val (.int p5), .val (.int (1 : Int32)), .val (.int x0), .val (.int x1), .val (.int x2), .val (.int (own_pk p1 (3 : Int32) (239 : Int32) p5)), .val (.ref b26), .unset, .unset] [(.int (3 : Int32)), (.int (1 : Int32))])) _
      refine XS.icmpYes X30.here hx rfl (pc0 := 98) (pc' := 107) rfl (hb hby at_98) rfl (flt (by decide : ¬ ((3 : Int32) < (1 : Int32)))).2.2.2 (by decide) (by decide) ?_
      show Steps p.tables e below (T30.setTop (mkF m 107 #[.val (.int p0), .val (.int p1), .val (.int p2), .val (.int p3), .val (.int p4), .val (.int p5), .val (.int (1 : Int32)), .val (.int x0), .val (.int x1), .val (.int x2), .val (.int (own_pk p1 (3 : Int32) (239 : Int32) p5)), .val (.ref b26), .unset, .unset] [])) _
      refine XS.iload X30.here hx rfl (hb hby at_107) rfl ?_
      show Steps p.tables e below (T30.setTop (mkF m 109 #[.val (.int p0), .val (.int p1), .val (.int p2), .val (.int p3), .val (.int p4), .val (.int p5), .val (.int (1 : Int32)), .val (.int x0), .val (.int x1), .val (.int x2), .val (.int (own_pk p1 (3 : Int32) (239 : Int32) p5)), .val (.ref b26), .unset, .unset] [(.int (1 : Int32))])) _
      refine XS.iconst X30.here hx rfl (hb hby at_109) ?_
      show Steps p.tables e below (T30.setTop (mkF m 110 #[.val (.int p0), .val (.int p1), .val (.int p2), .val (.int p3), .val (.int p4), .val (.int p5), .val (.int (1 : Int32)), .val (.int x0), .val (.int x1), .val (.int x2), .val (.int (own_pk p1 (3 : Int32) (239 : Int32) p5)), .val (.ref b26), .unset, .unset] [(.int (3 : Int32)), (.int (1 : Int32))])) _
      refine XS.icmpYes X30.here hx rfl (pc0 := 110) (pc' := 153) rfl (hb hby at_110) rfl (tlt (by decide : (1 : Int32) < (3 : Int32))).1 (by decide) (by decide) ?_
      show Steps p.tables e below (T30.setTop (mkF m 153 #[.val (.int p0), .val (.int p1), .val (.int p2), .val (.int p3), .val (.int p4), .val (.int p5), .val (.int (1 : Int32)), .val (.int x0), .val (.int x1), .val (.int x2), .val (.int (own_pk p1 (3 : Int32) (239 : Int32) p5)), .val (.ref b26), .unset, .unset] [])) _
      refine XS.iconst X30.here hx rfl (hb hby at_153) ?_
      show Steps p.tables e below (T30.setTop (mkF m 154 #[.val (.int p0), .val (.int p1), .val (.int p2), .val (.int p3), .val (.int p4), .val (.int p5), .val (.int (1 : Int32)), .val (.int x0), .val (.int x1), .val (.int x2), .val (.int (own_pk p1 (3 : Int32) (239 : Int32) p5)), .val (.ref b26), .unset, .unset] [(.int (0 : Int32))])) _
      refine XS.istore X30.here hx rfl (hb hby at_154) rfl (l' := #[.val (.int p0), .val (.int p1), .val (.int p2), .val (.int p3), .val (.int p4), .val (.int p5), .val (.int (1 : Int32)), .val (.int x0), .val (.int x1), .val (.int x2), .val (.int (own_pk p1 (3 : Int32) (239 : Int32) p5)), .val (.ref b26), .val (.int (0 : Int32)), .unset]) rfl ?_
      show Steps p.tables e below (T30.setTop (mkF m 156 #[.val (.int p0), .val (.int p1), .val (.int p2), .val (.int p3), .val (.int p4), .val (.int p5), .val (.int (1 : Int32)), .val (.int x0), .val (.int x1), .val (.int x2), .val (.int (own_pk p1 (3 : Int32) (239 : Int32) p5)), .val (.ref b26), .val (.int (0 : Int32)), .unset] [])) _
      refine XS.iload X30.here hx rfl (hb hby at_156) rfl ?_
      show Steps p.tables e below (T30.setTop (mkF m 158 #[.val (.int p0), .val (.int p1), .val (.int p2), .val (.int p3), .val (.int p4), .val (.int p5), .val (.int (1 : Int32)), .val (.int x0), .val (.int x1), .val (.int x2), .val (.int (own_pk p1 (3 : Int32) (239 : Int32) p5)), .val (.ref b26), .val (.int (0 : Int32)), .unset] [(.int (0 : Int32))])) _
      refine XS.ifYes X30.here hx rfl (pc0 := 158) (pc' := 165) rfl (hb hby at_158) rfl ((if0 _ _).trans (teq (by decide : (0 : Int32) = (0 : Int32))).1) (by decide) (by decide) ?_
      show Steps p.tables e below (T30.setTop (mkF m 165 #[.val (.int p0), .val (.int p1), .val (.int p2), .val (.int p3), .val (.int p4), .val (.int p5), .val (.int (1 : Int32)), .val (.int x0), .val (.int x1), .val (.int x2), .val (.int (own_pk p1 (3 : Int32) (239 : Int32) p5)), .val (.ref b26), .val (.int (0 : Int32)), .unset] [])) _
      refine XS.iconst X30.here hx rfl (hb hby at_165) ?_
      show Steps p.tables e below (T30.setTop (mkF m 166 #[.val (.int p0), .val (.int p1), .val (.int p2), .val (.int p3), .val (.int p4), .val (.int p5), .val (.int (1 : Int32)), .val (.int x0), .val (.int x1), .val (.int x2), .val (.int (own_pk p1 (3 : Int32) (239 : Int32) p5)), .val (.ref b26), .val (.int (0 : Int32)), .unset] [(.int (0 : Int32))])) _
      refine XS.istore X30.here hx rfl (hb hby at_166) rfl (l' := #[.val (.int p0), .val (.int p1), .val (.int p2), .val (.int p3), .val (.int p4), .val (.int p5), .val (.int (1 : Int32)), .val (.int x0), .val (.int x1), .val (.int x2), .val (.int (own_pk p1 (3 : Int32) (239 : Int32) p5)), .val (.ref b26), .val (.int (0 : Int32)), .val (.int (0 : Int32))]) rfl ?_
      show Steps p.tables e below (T30.setTop (mkF m 168 #[.val (.int p0), .val (.int p1), .val (.int p2), .val (.int p3), .val (.int p4), .val (.int p5), .val (.int (1 : Int32)), .val (.int x0), .val (.int x1), .val (.int x2), .val (.int (own_pk p1 (3 : Int32) (239 : Int32) p5)), .val (.ref b26), .val (.int (0 : Int32)), .val (.int (0 : Int32))] [])) _
      refine XS.aload X30.here hx rfl (hb hby at_168) rfl rfl ?_
      exact kt
    have f32 := (Nat.le_trans (Nat.le_trans Z0 E26.1) (Keep.of_wr W30).1)
    have f33 := ((O0.ext E26).wr W30 g_b26)
    obtain ⟨_, _, ⟨T34, L34, k34, n34⟩, -, X34, ⟨Lc34, hQ34, l34, y34, z34⟩, st34⟩ := Jvm.LawKit.callS X30 hx (y := (⟨"com/example/ratewright/ratewright/io/Utf8Text", "start", "([B)I"⟩ : MethodName)) hown (mvT hZ (hw _ (List.mem_of_getElem? (i := 6) rfl))) (mvT hZ (hw _ (List.mem_of_getElem? (i := 7) rfl))) (mvT hZ (hw _ (List.mem_of_getElem? (i := 8) rfl))) (mvT hZ (hw _ (List.mem_of_getElem? (i := 9) rfl))) (by decide) (backOf (W := 0) (rm2_1 l Z a0 hw [] b26 k26 (x0.toInt8.toInt32) rm km h30 n0 f32 V30 (SB.ext f33.2) (VB.ext f33.2)) hZ (hw _ (List.mem_of_getElem? (i := 9) rfl)) (hw _ (List.mem_of_getElem? (i := 8) rfl)) (by decide) (by decide)) (g := (mkF m 170 #[.val (.int p0), .val (.int p1), .val (.int p2), .val (.int p3), .val (.int p4), .val (.int p5), .val (.int (1 : Int32)), .val (.int x0), .val (.int x1), .val (.int x2), .val (.int (own_pk p1 (3 : Int32) (239 : Int32) p5)), .val (.ref b26), .val (.int (0 : Int32)), .val (.int (0 : Int32))] [(.ref b26)])) rfl (by rw [hml]; rfl) (argsL := [(.ref b26)]) (rest := []) (lenOf pd_1 rfl) rfl (by show 2 * 0 + _ ≤ _; exact Nat.le_of_eq rfl) (hb hby at_170) (fun _ _ => ⟨rfl, e30, (by decide : 1 + 0 ≤ _), (by decide : 1 + 0 ≤ _)⟩)
    dsimp only [Pt.U, Pt.locs, Pt.cells, Pt.slots] at X34 l34 y34 z34 st34 hQ34
    subst l34 y34 z34
    obtain ⟨rfl, N34q, e34⟩ := hQ34
    have N34 := Fr.app N30 N34q
    have c35 : ∀ t, Steps p.tables e below (T34.setTop (mkF m 183 #[.val (.int p0), .val (.int p1), .val (.int p2), .val (.int p3), .val (.int p4), .val (.int p5), .val (.int (1 : Int32)), .val (.int x0), .val (.int x1), .val (.int x2), .val (.int (own_pk p1 (3 : Int32) (239 : Int32) p5)), .val (.ref b26), .val (.int (0 : Int32)), .val (.int (0 : Int32))] [(.int (1 : Int32))])) t → Steps p.tables e below (T34.setTop (mkF m 173 #[.val (.int p0), .val (.int p1), .val (.int p2), .val (.int p3), .val (.int p4), .val (.int p5), .val (.int (1 : Int32)), .val (.int x0), .val (.int x1), .val (.int x2), .val (.int (own_pk p1 (3 : Int32) (239 : Int32) p5)), .val (.ref b26), .val (.int (0 : Int32)), .val (.int (0 : Int32))] [(.int (0 : Int32))])) t := by
      intro t kt
      show Steps p.tables e below (T34.setTop (mkF m 173 #[.val (.int p0), .val (.int p1), .val (.int p2), .val (.int p3), .val (.int p4), .val (.int p5), .val (.int (1 : Int32)), .val (.int x0), .val (.int x1), .val (.int x2), .val (.int (own_pk p1 (3 : Int32) (239 : Int32) p5)), .val (.ref b26), .val (.int (0 : Int32)), .val (.int (0 : Int32))] [(.int (0 : Int32))])) _
      refine XS.iload X34.here hx rfl (hb hby at_173) rfl ?_
      show Steps p.tables e below (T34.setTop (mkF m 175 #[.val (.int p0), .val (.int p1), .val (.int p2), .val (.int p3), .val (.int p4), .val (.int p5), .val (.int (1 : Int32)), .val (.int x0), .val (.int x1), .val (.int x2), .val (.int (own_pk p1 (3 : Int32) (239 : Int32) p5)), .val (.ref b26), .val (.int (0 : Int32)), .val (.int (0 : Int32))] [(.int (0 : Int32)), (.int (0 : Int32))])) _
      refine XS.icmpNo X34.here hx rfl (hb hby at_175) rfl (teq (by decide : (0 : Int32) = (0 : Int32))).2 ?_
      show Steps p.tables e below (T34.setTop (mkF m 178 #[.val (.int p0), .val (.int p1), .val (.int p2), .val (.int p3), .val (.int p4), .val (.int p5), .val (.int (1 : Int32)), .val (.int x0), .val (.int x1), .val (.int x2), .val (.int (own_pk p1 (3 : Int32) (239 : Int32) p5)), .val (.ref b26), .val (.int (0 : Int32)), .val (.int (0 : Int32))] [])) _
      refine XS.iconst X34.here hx rfl (hb hby at_178) ?_
      show Steps p.tables e below (T34.setTop (mkF m 179 #[.val (.int p0), .val (.int p1), .val (.int p2), .val (.int p3), .val (.int p4), .val (.int p5), .val (.int (1 : Int32)), .val (.int x0), .val (.int x1), .val (.int x2), .val (.int (own_pk p1 (3 : Int32) (239 : Int32) p5)), .val (.ref b26), .val (.int (0 : Int32)), .val (.int (0 : Int32))] [(.int (1 : Int32))])) _
      refine XS.goto X34.here hx rfl (pc0 := 179) (pc' := 183) rfl (hb hby at_179) (by decide) (by decide) ?_
      exact kt
    obtain ⟨fs, hr, hrun, hended, hW, hsame⟩ := X34.leave (v := some (.int (1 : Int32))) (fun h => by rw [Bd.returns] at h; cases h)
    refine ⟨_, _, pre0 _ (c1 _ (st2 _ (c3 _ (c4 _ (c5 _ (st6 _ (c7 _ (c8 _ (c9 _ (st10 _ (c11 _ (c12 _ (c13 _ (st14 _ (c15 _ (c25 _ (c27 _ (st26 _ (c28 _ (st30 _ (c31 _ (st34 _ (c35 _ (?_)))))))))))))))))))))))), hrun, hended, _, _, rfl, ?_, ⟨_, rfl⟩, hW, hsame.mono (by decide) (by decide)⟩
    · show Steps p.tables e below (T34.setTop (mkF m 183 #[.val (.int p0), .val (.int p1), .val (.int p2), .val (.int p3), .val (.int p4), .val (.int p5), .val (.int (1 : Int32)), .val (.int x0), .val (.int x1), .val (.int x2), .val (.int (own_pk p1 (3 : Int32) (239 : Int32) p5)), .val (.ref b26), .val (.int (0 : Int32)), .val (.int (0 : Int32))] [(.int (1 : Int32))])) _
      exact retN X34 hx (t := .boolean) Bd.returns (by simp) (hb hby at_183) hr
    · show Q0 Z p0 p1 p2 p3 p4 p5 rm km h0 n0 _ T34.heap _
      rw [e34]
      exact ⟨congrArg (fun z => some (Value.int z)) (show (1 : Int32) = (1 : Int32) from by rfl), N34⟩
  · skip
    have c37 : ∀ t, Steps p.tables e below (T14.setTop (mkF m 54 #[.val (.int p0), .val (.int p1), .val (.int p2), .val (.int p3), .val (.int p4), .val (.int p5), .val (.int (2 : Int32)), .val (.int x0), .val (.int x1), .val (.int x2), .val (.int (own_pk p1 (3 : Int32) (239 : Int32) p5)), .unset, .unset, .unset] [])) t → Steps p.tables e below (T14.setTop (mkF m 54 #[.val (.int p0), .val (.int p1), .val (.int p2), .val (.int p3), .val (.int p4), .val (.int p5), .val (.int ((p0 &&& (2147483647 : Int32)) % (5 : Int32))), .val (.int x0), .val (.int x1), .val (.int x2), .val (.int (own_pk p1 (3 : Int32) (239 : Int32) p5)), .unset, .unset, .unset] [])) t := fun t kt => by rw [hln]; exact kt
    have c39 : ∀ t, Steps p.tables e below (T14.setTop (mkF m 56 #[.val (.int p0), .val (.int p1), .val (.int p2), .val (.int p3), .val (.int p4), .val (.int p5), .val (.int (2 : Int32)), .val (.int x0), .val (.int x1), .val (.int x2), .val (.int (own_pk p1 (3 : Int32) (239 : Int32) p5)), .unset, .unset, .unset] [(.int (2 : Int32))])) t → Steps p.tables e below (T14.setTop (mkF m 54 #[.val (.int p0), .val (.int p1), .val (.int p2), .val (.int p3), .val (.int p4), .val (.int p5), .val (.int (2 : Int32)), .val (.int x0), .val (.int x1), .val (.int x2), .val (.int (own_pk p1 (3 : Int32) (239 : Int32) p5)), .unset, .unset, .unset] [])) t := by
      intro t kt
      show Steps p.tables e below (T14.setTop (mkF m 54 #[.val (.int p0), .val (.int p1), .val (.int p2), .val (.int p3), .val (.int p4), .val (.int p5), .val (.int (2 : Int32)), .val (.int x0), .val (.int x1), .val (.int x2), .val (.int (own_pk p1 (3 : Int32) (239 : Int32) p5)), .unset, .unset, .unset] [])) _
      refine XS.iload X14.here hx rfl (hb hby at_54) rfl ?_
      exact kt
    obtain ⟨T38, h38, k38, X38, e38, E38, A38, st38⟩ := newP X14 hx hZ (hw _ (List.mem_of_getElem? (i := 5) rfl)) e14 (g := (mkF m 56 #[.val (.int p0), .val (.int p1), .val (.int p2), .val (.int p3), .val (.int p4), .val (.int p5), .val (.int (2 : Int32)), .val (.int x0), .val (.int x1), .val (.int x2), .val (.int (own_pk p1 (3 : Int32) (239 : Int32) p5)), .unset, .unset, .unset] [(.int (2 : Int32))])) rfl (hb hby at_56) rfl (by decide) (cap := 2) (by decide) (by decide) (by decide) (by decide)
    obtain ⟨b38, g38⟩ : ∃ z, z = h0.size := ⟨_, rfl⟩
    rw [← g38] at A38 st38
    have g_b38 : n0 ≤ b38 := Nat.le_trans Z0 (Nat.le_of_eq g38.symm)
    have sz_b38 : h0.size ≤ b38 := Nat.le_trans (Keep.refl h0 []).1 (Nat.le_of_eq g38.symm)
    have V38 : Arv Z h38 b38 k38 .byte (2 : Int32) [(.int (0 : Int32)), (.int (0 : Int32))] (.int (0 : Int32)) := (Arv.new A38 (by decide)).pad (pad_rep [] (.int (0 : Int32)) 2)
    have c40 : ∀ t, Steps p.tables e below (T38.setTop (mkF m 70 #[.val (.int p0), .val (.int p1), .val (.int p2), .val (.int p3), .val (.int p4), .val (.int p5), .val (.int (2 : Int32)), .val (.int x0), .val (.int x1), .val (.int x2), .val (.int (own_pk p1 (3 : Int32) (239 : Int32) p5)), .val (.ref b38), .unset, .unset] [(.int x0), (.int (0 : Int32)), (.ref b38)])) t → Steps p.tables e below (T38.setTop (mkF m 58 #[.val (.int p0), .val (.int p1), .val (.int p2), .val (.int p3), .val (.int p4), .val (.int p5), .val (.int (2 : Int32)), .val (.int x0), .val (.int x1), .val (.int x2), .val (.int (own_pk p1 (3 : Int32) (239 : Int32) p5)), .unset, .unset, .unset] [(.ref b38)])) t := by
      intro t kt
      show Steps p.tables e below (T38.setTop (mkF m 58 #[.val (.int p0), .val (.int p1), .val (.int p2), .val (.int p3), .val (.int p4), .val (.int p5), .val (.int (2 : Int32)), .val (.int x0), .val (.int x1), .val (.int x2), .val (.int (own_pk p1 (3 : Int32) (239 : Int32) p5)), .unset, .unset, .unset] [(.ref b38)])) _
      refine XS.astore X38.here hx rfl (hb hby at_58) rfl rfl (l' := #[.val (.int p0), .val (.int p1), .val (.int p2), .val (.int p3), .val (.int p4), .val (.int p5), .val (.int (2 : Int32)), .val (.int x0), .val (.int x1), .val (.int x2), .val (.int (own_pk p1 (3 : Int32) (239 : Int32) p5)), .val (.ref b38), .unset, .unset]) rfl ?_
      show Steps p.tables e below (T38.setTop (mkF m 60 #[.val (.int p0), .val (.int p1), .val (.int p2), .val (.int p3), .val (.int p4), .val (.int p5), .val (.int (2 : Int32)), .val (.int x0), .val (.int x1), .val (.int x2), .val (.int (own_pk p1 (3 : Int32) (239 : Int32) p5)), .val (.ref b38), .unset, .unset] [])) _
      refine XS.iload X38.here hx rfl (hb hby at_60) rfl ?_
      show Steps p.tables e below (T38.setTop (mkF m 62 #[.val (.int p0), .val (.int p1), .val (.int p2), .val (.int p3), .val (.int p4), .val (.int p5), .val (.int (2 : Int32)), .val (.int x0), .val (.int x1), .val (.int x2), .val (.int (own_pk p1 (3 : Int32) (239 : Int32) p5)), .val (.ref b38), .unset, .unset] [(.int (2 : Int32))])) _
      refine XS.ifNo X38.here hx rfl (hb hby at_62) rfl ((if0 _ _).trans (tlt (by decide : (0 : Int32) < (2 : Int32))).2.2.2) ?_
      show Steps p.tables e below (T38.setTop (mkF m 65 #[.val (.int p0), .val (.int p1), .val (.int p2), .val (.int p3), .val (.int p4), .val (.int p5), .val (.int (2 : Int32)), .val (.int x0), .val (.int x1), .val (.int x2), .val (.int (own_pk p1 (3 : Int32) (239 : Int32) p5)), .val (.ref b38), .unset, .unset] [])) _
      refine XS.aload X38.here hx rfl (hb hby at_65) rfl rfl ?_
      show Steps p.tables e below (T38.setTop (mkF m 67 #[.val (.int p0), .val (.int p1), .val (.int p2), .val (.int p3), .val (.int p4), .val (.int p5), .val (.int (2 : Int32)), .val (.int x0), .val (.int x1), .val (.int x2), .val (.int (own_pk p1 (3 : Int32) (239 : Int32) p5)), .val (.ref b38), .unset, .unset] [(.ref b38)])) _
      refine XS.iconst X38.here hx rfl (hb hby at_67) ?_
      show Steps p.tables e below (T38.setTop (mkF m 68 #[.val (.int p0), .val (.int p1), .val (.int p2), .val (.int p3), .val (.int p4), .val (.int p5), .val (.int (2 : Int32)), .val (.int x0), .val (.int x1), .val (.int x2), .val (.int (own_pk p1 (3 : Int32) (239 : Int32) p5)), .val (.ref b38), .unset, .unset] [(.int (0 : Int32)), (.ref b38)])) _
      refine XS.iload X38.here hx rfl (hb hby at_68) rfl ?_
      exact kt
    have Vc41 := V38
    obtain ⟨cl41, Ar41, qk41, S41, M41, H41, G41⟩ := Vc41
    have hin41 : ¬ ((0 : Int32) < 0 ∨ cl41.slots.size ≤ ((0 : Int32)).toNatClampNeg) := inb_of S41 ⟨by decide, by decide⟩
    obtain ⟨T42, h42, X42, e42, W42, st42⟩ := stB X38 hx hZ e38 Ar41 (j := (0 : Int32)) hin41 (g := (mkF m 70 #[.val (.int p0), .val (.int p1), .val (.int p2), .val (.int p3), .val (.int p4), .val (.int p5), .val (.int (2 : Int32)), .val (.int x0), .val (.int x1), .val (.int x2), .val (.int (own_pk p1 (3 : Int32) (239 : Int32) p5)), .val (.ref b38), .unset, .unset] [(.int x0), (.int (0 : Int32)), (.ref b38)])) rfl rfl (hb hby at_70)
    have V42 : Arv Z h42 b38 k38 .byte (2 : Int32) [(.int (x0.toInt8.toInt32)), (.int (0 : Int32))] (.int (0 : Int32)) := Arv.set Ar41 qk41 S41 M41 H41 G41 (fits_nar_byte _) W42 0 rfl (Nat.le_of_ble_eq_true rfl)
    have N42 := Fr.snoc X42 N14 g_b38
    have c43 : ∀ t, Steps p.tables e below (T42.setTop (mkF m 82 #[.val (.int p0), .val (.int p1), .val (.int p2), .val (.int p3), .val (.int p4), .val (.int p5), .val (.int (2 : Int32)), .val (.int x0), .val (.int x1), .val (.int x2), .val (.int (own_pk p1 (3 : Int32) (239 : Int32) p5)), .val (.ref b38), .unset, .unset] [(.int x1), (.int (1 : Int32)), (.ref b38)])) t → Steps p.tables e below (T42.setTop (mkF m 71 #[.val (.int p0), .val (.int p1), .val (.int p2), .val (.int p3), .val (.int p4), .val (.int p5), .val (.int (2 : Int32)), .val (.int x0), .val (.int x1), .val (.int x2), .val (.int (own_pk p1 (3 : Int32) (239 : Int32) p5)), .val (.ref b38), .unset, .unset] [])) t := by
      intro t kt
      show Steps p.tables e below (T42.setTop (mkF m 71 #[.val (.int p0), .val (.int p1), .val (.int p2), .val (.int p3), .val (.int p4), .val (.int p5), .val (.int (2 : Int32)), .val (.int x0), .val (.int x1), .val (.int x2), .val (.int (own_pk p1 (3 : Int32) (239 : Int32) p5)), .val (.ref b38), .unset, .unset] [])) _
      refine XS.iload X42.here hx rfl (hb hby at_71) rfl ?_
      show Steps p.tables e below (T42.setTop (mkF m 73 #[.val (.int p0), .val (.int p1), .val (.int p2), .val (.int p3), .val (.int p4), .val (.int p5), .val (.int (2 : Int32)), .val (.int x0), .val (.int x1), .val (.int x2), .val (.int (own_pk p1 (3 : Int32) (239 : Int32) p5)), .val (.ref b38), .unset, .unset] [(.int (2 : Int32))])) _
      refine XS.iconst X42.here hx rfl (hb hby at_73) ?_
      show Steps p.tables e below (T42.setTop (mkF m 74 #[.val (.int p0), .val (.int p1), .val (.int p2), .val (.int p3), .val (.int p4), .val (.int p5), .val (.int (2 : Int32)), .val (.int x0), .val (.int x1), .val (.int x2), .val (.int (own_pk p1 (3 : Int32) (239 : Int32) p5)), .val (.ref b38), .unset, .unset] [(.int (1 : Int32)), (.int (2 : Int32))])) _
      refine XS.icmpNo X42.here hx rfl (hb hby at_74) rfl (tlt (by decide : (1 : Int32) < (2 : Int32))).2.2.2 ?_
      show Steps p.tables e below (T42.setTop (mkF m 77 #[.val (.int p0), .val (.int p1), .val (.int p2), .val (.int p3), .val (.int p4), .val (.int p5), .val (.int (2 : Int32)), .val (.int x0), .val (.int x1), .val (.int x2), .val (.int (own_pk p1 (3 : Int32) (239 : Int32) p5)), .val (.ref b38), .unset, .unset] [])) _
      refine XS.aload X42.here hx rfl (hb hby at_77) rfl rfl ?_
      show Steps p.tables e below (T42.setTop (mkF m 79 #[.val (.int p0), .val (.int p1), .val (.int p2), .val (.int p3), .val (.int p4), .val (.int p5), .val (.int (2 : Int32)), .val (.int x0), .val (.int x1), .val (.int x2), .val (.int (own_pk p1 (3 : Int32) (239 : Int32) p5)), .val (.ref b38), .unset, .unset] [(.ref b38)])) _
      refine XS.iconst X42.here hx rfl (hb hby at_79) ?_
      show Steps p.tables e below (T42.setTop (mkF m 80 #[.val (.int p0), .val (.int p1), .val (.int p2), .val (.int p3), .val (.int p4), .val (.int p5), .val (.int (2 : Int32)), .val (.int x0), .val (.int x1), .val (.int x2), .val (.int (own_pk p1 (3 : Int32) (239 : Int32) p5)), .val (.ref b38), .unset, .unset] [(.int (1 : Int32)), (.ref b38)])) _
      refine XS.iload X42.here hx rfl (hb hby at_80) rfl ?_
      exact kt
    have Vc44 := V42
    obtain ⟨cl44, Ar44, qk44, S44, M44, H44, G44⟩ := Vc44
    have hin44 : ¬ ((1 : Int32) < 0 ∨ cl44.slots.size ≤ ((1 : Int32)).toNatClampNeg) := inb_of S44 ⟨by decide, by decide⟩
    obtain ⟨T45, h45, X45, e45, W45, st45⟩ := stB X42 hx hZ e42 Ar44 (j := (1 : Int32)) hin44 (g := (mkF m 82 #[.val (.int p0), .val (.int p1), .val (.int p2), .val (.int p3), .val (.int p4), .val (.int p5), .val (.int (2 : Int32)), .val (.int x0), .val (.int x1), .val (.int x2), .val (.int (own_pk p1 (3 : Int32) (239 : Int32) p5)), .val (.ref b38), .unset, .unset] [(.int x1), (.int (1 : Int32)), (.ref b38)])) rfl rfl (hb hby at_82)
    have V45 : Arv Z h45 b38 k38 .byte (2 : Int32) [(.int (x0.toInt8.toInt32)), (.int (x1.toInt8.toInt32))] (.int (0 : Int32)) := Arv.set Ar44 qk44 S44 M44 H44 G44 (fits_nar_byte _) W45 1 rfl (Nat.le_of_ble_eq_true rfl)
    have N45 := Fr.snoc X45 N42 g_b38
    have c46 : ∀ t, Steps p.tables e below (T45.setTop (mkF m 170 #[.val (.int p0), .val (.int p1), .val (.int p2), .val (.int p3), .val (.int p4), .val (.int p5), .val (.int (2 : Int32)), .val (.int x0), .val (.int x1), .val (.int x2), .val (.int (own_pk p1 (3 : Int32) (239 : Int32) p5)), .val (.ref b38), .val (.int (0 : Int32)), .val (.int (0 : Int32))] [(.ref b38)])) t → Steps p.tables e below (T45.setTop (mkF m 83 #[.val (.int p0), .val (.int p1), .val (.int p2), .val (.int p3), .val (.int p4), .val (.int p5), .val (.int (2 : Int32)), .val (.int x0), .val (.int x1), .val (.int x2), .val (.int (own_pk p1 (3 : Int32) (239 : Int32) p5)), .val (.ref b38), .unset, .unset] [])) t := by
      intro t kt
      show Steps p.tables e below (T45.setTop (mkF m 83 #[.val (.int p0), .val (.int p1), .val (.int p2), .val (.int p3), .val (.int p4), .val (.int p5), .val (.int (2 : Int32)), .val (.int x0), .val (.int x1), .val (.int x2), .val (.int (own_pk p1 (3 : Int32) (239 : Int32) p5)), .val (.ref b38), .unset, .unset] [])) _
      refine XS.iload X45.here hx rfl (hb hby at_83) rfl ?_
      show Steps p.tables e below (T45.setTop (mkF m 85 #[.val (.int p0), .val (.int p1), .val (.int p2), .val (.int p3), .val (.int p4), .val (.int p5), .val (.int (2 : Int32)), .val (.int x0), .val (.int x1), .val (.int x2), .val (.int (own_pk p1 (3 : Int32) (239 : Int32) p5)), .val (.ref b38), .unset, .unset] [(.int (2 : Int32))])) _
      refine XS.iconst X45.here hx rfl (hb hby at_85) ?_
      show Steps p.tables e below (T45.setTop (mkF m 86 #[.val (.int p0), .val (.int p1), .val (.int p2), .val (.int p3), .val (.int p4), .val (.int p5), .val (.int (2 : Int32)), .val (.int x0), .val (.int x1), .val (.int x2), .val (.int (own_pk p1 (3 : Int32) (239 : Int32) p5)), .val (.ref b38), .unset, .unset] [(.int (2 : Int32)), (.int (2 : Int32))])) _
      refine XS.icmpYes X45.here hx rfl (pc0 := 86) (pc' := 95) rfl (hb hby at_86) rfl (flt (by decide : ¬ ((2 : Int32) < (2 : Int32)))).2.2.2 (by decide) (by decide) ?_
      show Steps p.tables e below (T45.setTop (mkF m 95 #[.val (.int p0), .val (.int p1), .val (.int p2), .val (.int p3), .val (.int p4), .val (.int p5), .val (.int (2 : Int32)), .val (.int x0), .val (.int x1), .val (.int x2), .val (.int (own_pk p1 (3 : Int32) (239 : Int32) p5)), .val (.ref b38), .unset, .unset] [])) _
      refine XS.iload X45.here hx rfl (hb hby at_95) rfl ?_
      show Steps p.tables e below (T45.setTop (mkF m 97 #[.val (.int p0), .val (.int p1), .val (.int p2), .val (.int p3), .val (.int p4), .val (.int p5), .val (.int (2 : Int32)), .val (.int x0), .val (.int x1), .val (.int x2), .val (.int (own_pk p1 (3 : Int32) (239 : Int32) p5)), .val (.ref b38), .unset, .unset] [(.int (2 : Int32))])) _
      refine XS.iconst X45.here hx rfl (hb hby at_97) ?_
      show Steps p.tables e below (T45.setTop (mkF m 98 #[.val (.int p0), .val (.int p1), .val (.int p2), .val (.int p3), .val (.int p4), .val (.int p5), .val (.int (2 : Int32)), .val (.int x0), .val (.int x1), .val (.int x2), .val (.int (own_pk p1 (3 : Int32) (239 : Int32) p5)), .val (.ref b38), .unset, .unset] [(.int (3 : Int32)), (.int (2 : Int32))])) _
      refine XS.icmpYes X45.here hx rfl (pc0 := 98) (pc' := 107) rfl (hb hby at_98) rfl (flt (by decide : ¬ ((3 : Int32) < (2 : Int32)))).2.2.2 (by decide) (by decide) ?_
      show Steps p.tables e below (T45.setTop (mkF m 107 #[.val (.int p0), .val (.int p1), .val (.int p2), .val (.int p3), .val (.int p4), .val (.int p5), .val (.int (2 : Int32)), .val (.int x0), .val (.int x1), .val (.int x2), .val (.int (own_pk p1 (3 : Int32) (239 : Int32) p5)), .val (.ref b38), .unset, .unset] [])) _
      refine XS.iload X45.here hx rfl (hb hby at_107) rfl ?_
      show Steps p.tables e below (T45.setTop (mkF m 109 #[.val (.int p0), .val (.int p1), .val (.int p2), .val (.int p3), .val (.int p4), .val (.int p5), .val (.int (2 : Int32)), .val (.int x0), .val (.int x1), .val (.int x2), .val (.int (own_pk p1 (3 : Int32) (239 : Int32) p5)), .val (.ref b38), .unset, .unset] [(.int (2 : Int32))])) _
      refine XS.iconst X45.here hx rfl (hb hby at_109) ?_
      show Steps p.tables e below (T45.setTop (mkF m 110 #[.val (.int p0), .val (.int p1), .val (.int p2), .val (.int p3), .val (.int p4), .val (.int p5), .val (.int (2 : Int32)), .val (.int x0), .val (.int x1), .val (.int x2), .val (.int (own_pk p1 (3 : Int32) (239 : Int32) p5)), .val (.ref b38), .unset, .unset] [(.int (3 : Int32)), (.int (2 : Int32))])) _
      refine XS.icmpYes X45.here hx rfl (pc0 := 110) (pc' := 153) rfl (hb hby at_110) rfl (tlt (by decide : (2 : Int32) < (3 : Int32))).1 (by decide) (by decide) ?_
      show Steps p.tables e below (T45.setTop (mkF m 153 #[.val (.int p0), .val (.int p1), .val (.int p2), .val (.int p3), .val (.int p4), .val (.int p5), .val (.int (2 : Int32)), .val (.int x0), .val (.int x1), .val (.int x2), .val (.int (own_pk p1 (3 : Int32) (239 : Int32) p5)), .val (.ref b38), .unset, .unset] [])) _
      refine XS.iconst X45.here hx rfl (hb hby at_153) ?_
      show Steps p.tables e below (T45.setTop (mkF m 154 #[.val (.int p0), .val (.int p1), .val (.int p2), .val (.int p3), .val (.int p4), .val (.int p5), .val (.int (2 : Int32)), .val (.int x0), .val (.int x1), .val (.int x2), .val (.int (own_pk p1 (3 : Int32) (239 : Int32) p5)), .val (.ref b38), .unset, .unset] [(.int (0 : Int32))])) _
      refine XS.istore X45.here hx rfl (hb hby at_154) rfl (l' := #[.val (.int p0), .val (.int p1), .val (.int p2), .val (.int p3), .val (.int p4), .val (.int p5), .val (.int (2 : Int32)), .val (.int x0), .val (.int x1), .val (.int x2), .val (.int (own_pk p1 (3 : Int32) (239 : Int32) p5)), .val (.ref b38), .val (.int (0 : Int32)), .unset]) rfl ?_
      show Steps p.tables e below (T45.setTop (mkF m 156 #[.val (.int p0), .val (.int p1), .val (.int p2), .val (.int p3), .val (.int p4), .val (.int p5), .val (.int (2 : Int32)), .val (.int x0), .val (.int x1), .val (.int x2), .val (.int (own_pk p1 (3 : Int32) (239 : Int32) p5)), .val (.ref b38), .val (.int (0 : Int32)), .unset] [])) _
      refine XS.iload X45.here hx rfl (hb hby at_156) rfl ?_
      show Steps p.tables e below (T45.setTop (mkF m 158 #[.val (.int p0), .val (.int p1), .val (.int p2), .val (.int p3), .val (.int p4), .val (.int p5), .val (.int (2 : Int32)), .val (.int x0), .val (.int x1), .val (.int x2), .val (.int (own_pk p1 (3 : Int32) (239 : Int32) p5)), .val (.ref b38), .val (.int (0 : Int32)), .unset] [(.int (0 : Int32))])) _
      refine XS.ifYes X45.here hx rfl (pc0 := 158) (pc' := 165) rfl (hb hby at_158) rfl ((if0 _ _).trans (teq (by decide : (0 : Int32) = (0 : Int32))).1) (by decide) (by decide) ?_
      show Steps p.tables e below (T45.setTop (mkF m 165 #[.val (.int p0), .val (.int p1), .val (.int p2), .val (.int p3), .val (.int p4), .val (.int p5), .val (.int (2 : Int32)), .val (.int x0), .val (.int x1), .val (.int x2), .val (.int (own_pk p1 (3 : Int32) (239 : Int32) p5)), .val (.ref b38), .val (.int (0 : Int32)), .unset] [])) _
      refine XS.iconst X45.here hx rfl (hb hby at_165) ?_
      show Steps p.tables e below (T45.setTop (mkF m 166 #[.val (.int p0), .val (.int p1), .val (.int p2), .val (.int p3), .val (.int p4), .val (.int p5), .val (.int (2 : Int32)), .val (.int x0), .val (.int x1), .val (.int x2), .val (.int (own_pk p1 (3 : Int32) (239 : Int32) p5)), .val (.ref b38), .val (.int (0 : Int32)), .unset] [(.int (0 : Int32))])) _
      refine XS.istore X45.here hx rfl (hb hby at_166) rfl (l' := #[.val (.int p0), .val (.int p1), .val (.int p2), .val (.int p3), .val (.int p4), .val (.int p5), .val (.int (2 : Int32)), .val (.int x0), .val (.int x1), .val (.int x2), .val (.int (own_pk p1 (3 : Int32) (239 : Int32) p5)), .val (.ref b38), .val (.int (0 : Int32)), .val (.int (0 : Int32))]) rfl ?_
      show Steps p.tables e below (T45.setTop (mkF m 168 #[.val (.int p0), .val (.int p1), .val (.int p2), .val (.int p3), .val (.int p4), .val (.int p5), .val (.int (2 : Int32)), .val (.int x0), .val (.int x1), .val (.int x2), .val (.int (own_pk p1 (3 : Int32) (239 : Int32) p5)), .val (.ref b38), .val (.int (0 : Int32)), .val (.int (0 : Int32))] [])) _
      refine XS.aload X45.here hx rfl (hb hby at_168) rfl rfl ?_
      exact kt
    have f47 := (Nat.le_trans (Nat.le_trans (Nat.le_trans Z0 E38.1) (Keep.of_wr W42).1) (Keep.of_wr W45).1)
    have f48 := (((O0.ext E38).wr W42 g_b38).wr W45 g_b38)
    obtain ⟨_, _, ⟨T49, L49, k49, n49⟩, -, X49, ⟨Lc49, hQ49, l49, y49, z49⟩, st49⟩ := Jvm.LawKit.callS X45 hx (y := (⟨"com/example/ratewright/ratewright/io/Utf8Text", "start", "([B)I"⟩ : MethodName)) hown (mvT hZ (hw _ (List.mem_of_getElem? (i := 6) rfl))) (mvT hZ (hw _ (List.mem_of_getElem? (i := 7) rfl))) (mvT hZ (hw _ (List.mem_of_getElem? (i := 8) rfl))) (mvT hZ (hw _ (List.mem_of_getElem? (i := 9) rfl))) (by decide) (backOf (W := 0) (rm2_2 l Z a0 hw [] b38 k38 (x0.toInt8.toInt32) (x1.toInt8.toInt32) rm km h45 n0 f47 V45 (SB.ext f48.2) (VB.ext f48.2)) hZ (hw _ (List.mem_of_getElem? (i := 9) rfl)) (hw _ (List.mem_of_getElem? (i := 8) rfl)) (by decide) (by decide)) (g := (mkF m 170 #[.val (.int p0), .val (.int p1), .val (.int p2), .val (.int p3), .val (.int p4), .val (.int p5), .val (.int (2 : Int32)), .val (.int x0), .val (.int x1), .val (.int x2), .val (.int (own_pk p1 (3 : Int32) (239 : Int32) p5)), .val (.ref b38), .val (.int (0 : Int32)), .val (.int (0 : Int32))] [(.ref b38)])) rfl (by rw [hml]; rfl) (argsL := [(.ref b38)]) (rest := []) (lenOf pd_1 rfl) rfl (by show 2 * 0 + _ ≤ _; exact Nat.le_of_eq rfl) (hb hby at_170) (fun _ _ => ⟨rfl, e45, (by decide : 1 + 0 ≤ _), (by decide : 2 + 0 ≤ _)⟩)
    dsimp only [Pt.U, Pt.locs, Pt.cells, Pt.slots] at X49 l49 y49 z49 st49 hQ49
    subst l49 y49 z49
    obtain ⟨rfl, N49q, e49⟩ := hQ49
    have N49 := Fr.app N45 N49q
    have c50 : ∀ t, Steps p.tables e below (T49.setTop (mkF m 183 #[.val (.int p0), .val (.int p1), .val (.int p2), .val (.int p3), .val (.int p4), .val (.int p5), .val (.int (2 : Int32)), .val (.int x0), .val (.int x1), .val (.int x2), .val (.int (own_pk p1 (3 : Int32) (239 : Int32) p5)), .val (.ref b38), .val (.int (0 : Int32)), .val (.int (0 : Int32))] [(.int (1 : Int32))])) t → Steps p.tables e below (T49.setTop (mkF m 173 #[.val (.int p0), .val (.int p1), .val (.int p2), .val (.int p3), .val (.int p4), .val (.int p5), .val (.int (2 : Int32)), .val (.int x0), .val (.int x1), .val (.int x2), .val (.int (own_pk p1 (3 : Int32) (239 : Int32) p5)), .val (.ref b38), .val (.int (0 : Int32)), .val (.int (0 : Int32))] [(.int (0 : Int32))])) t := by
      intro t kt
      show Steps p.tables e below (T49.setTop (mkF m 173 #[.val (.int p0), .val (.int p1), .val (.int p2), .val (.int p3), .val (.int p4), .val (.int p5), .val (.int (2 : Int32)), .val (.int x0), .val (.int x1), .val (.int x2), .val (.int (own_pk p1 (3 : Int32) (239 : Int32) p5)), .val (.ref b38), .val (.int (0 : Int32)), .val (.int (0 : Int32))] [(.int (0 : Int32))])) _
      refine XS.iload X49.here hx rfl (hb hby at_173) rfl ?_
      show Steps p.tables e below (T49.setTop (mkF m 175 #[.val (.int p0), .val (.int p1), .val (.int p2), .val (.int p3), .val (.int p4), .val (.int p5), .val (.int (2 : Int32)), .val (.int x0), .val (.int x1), .val (.int x2), .val (.int (own_pk p1 (3 : Int32) (239 : Int32) p5)), .val (.ref b38), .val (.int (0 : Int32)), .val (.int (0 : Int32))] [(.int (0 : Int32)), (.int (0 : Int32))])) _
      refine XS.icmpNo X49.here hx rfl (hb hby at_175) rfl (teq (by decide : (0 : Int32) = (0 : Int32))).2 ?_
      show Steps p.tables e below (T49.setTop (mkF m 178 #[.val (.int p0), .val (.int p1), .val (.int p2), .val (.int p3), .val (.int p4), .val (.int p5), .val (.int (2 : Int32)), .val (.int x0), .val (.int x1), .val (.int x2), .val (.int (own_pk p1 (3 : Int32) (239 : Int32) p5)), .val (.ref b38), .val (.int (0 : Int32)), .val (.int (0 : Int32))] [])) _
      refine XS.iconst X49.here hx rfl (hb hby at_178) ?_
      show Steps p.tables e below (T49.setTop (mkF m 179 #[.val (.int p0), .val (.int p1), .val (.int p2), .val (.int p3), .val (.int p4), .val (.int p5), .val (.int (2 : Int32)), .val (.int x0), .val (.int x1), .val (.int x2), .val (.int (own_pk p1 (3 : Int32) (239 : Int32) p5)), .val (.ref b38), .val (.int (0 : Int32)), .val (.int (0 : Int32))] [(.int (1 : Int32))])) _
      refine XS.goto X49.here hx rfl (pc0 := 179) (pc' := 183) rfl (hb hby at_179) (by decide) (by decide) ?_
      exact kt
    obtain ⟨fs, hr, hrun, hended, hW, hsame⟩ := X49.leave (v := some (.int (1 : Int32))) (fun h => by rw [Bd.returns] at h; cases h)
    refine ⟨_, _, pre0 _ (c1 _ (st2 _ (c3 _ (c4 _ (c5 _ (st6 _ (c7 _ (c8 _ (c9 _ (st10 _ (c11 _ (c12 _ (c13 _ (st14 _ (c15 _ (c37 _ (c39 _ (st38 _ (c40 _ (st42 _ (c43 _ (st45 _ (c46 _ (st49 _ (c50 _ (?_)))))))))))))))))))))))))), hrun, hended, _, _, rfl, ?_, ⟨_, rfl⟩, hW, hsame.mono (by decide) (by decide)⟩
    · show Steps p.tables e below (T49.setTop (mkF m 183 #[.val (.int p0), .val (.int p1), .val (.int p2), .val (.int p3), .val (.int p4), .val (.int p5), .val (.int (2 : Int32)), .val (.int x0), .val (.int x1), .val (.int x2), .val (.int (own_pk p1 (3 : Int32) (239 : Int32) p5)), .val (.ref b38), .val (.int (0 : Int32)), .val (.int (0 : Int32))] [(.int (1 : Int32))])) _
      exact retN X49 hx (t := .boolean) Bd.returns (by simp) (hb hby at_183) hr
    · show Q0 Z p0 p1 p2 p3 p4 p5 rm km h0 n0 _ T49.heap _
      rw [e49]
      exact ⟨congrArg (fun z => some (Value.int z)) (show (1 : Int32) = (1 : Int32) from by rfl), N49⟩
  · skip
    have c52 : ∀ t, Steps p.tables e below (T14.setTop (mkF m 54 #[.val (.int p0), .val (.int p1), .val (.int p2), .val (.int p3), .val (.int p4), .val (.int p5), .val (.int (3 : Int32)), .val (.int x0), .val (.int x1), .val (.int x2), .val (.int (own_pk p1 (3 : Int32) (239 : Int32) p5)), .unset, .unset, .unset] [])) t → Steps p.tables e below (T14.setTop (mkF m 54 #[.val (.int p0), .val (.int p1), .val (.int p2), .val (.int p3), .val (.int p4), .val (.int p5), .val (.int ((p0 &&& (2147483647 : Int32)) % (5 : Int32))), .val (.int x0), .val (.int x1), .val (.int x2), .val (.int (own_pk p1 (3 : Int32) (239 : Int32) p5)), .unset, .unset, .unset] [])) t := fun t kt => by rw [hln]; exact kt
    have c54 : ∀ t, Steps p.tables e below (T14.setTop (mkF m 56 #[.val (.int p0), .val (.int p1), .val (.int p2), .val (.int p3), .val (.int p4), .val (.int p5), .val (.int (3 : Int32)), .val (.int x0), .val (.int x1), .val (.int x2), .val (.int (own_pk p1 (3 : Int32) (239 : Int32) p5)), .unset, .unset, .unset] [(.int (3 : Int32))])) t → Steps p.tables e below (T14.setTop (mkF m 54 #[.val (.int p0), .val (.int p1), .val (.int p2), .val (.int p3), .val (.int p4), .val (.int p5), .val (.int (3 : Int32)), .val (.int x0), .val (.int x1), .val (.int x2), .val (.int (own_pk p1 (3 : Int32) (239 : Int32) p5)), .unset, .unset, .unset] [])) t := by
      intro t kt
      show Steps p.tables e below (T14.setTop (mkF m 54 #[.val (.int p0), .val (.int p1), .val (.int p2), .val (.int p3), .val (.int p4), .val (.int p5), .val (.int (3 : Int32)), .val (.int x0), .val (.int x1), .val (.int x2), .val (.int (own_pk p1 (3 : Int32) (239 : Int32) p5)), .unset, .unset, .unset] [])) _
      refine XS.iload X14.here hx rfl (hb hby at_54) rfl ?_
      exact kt
    obtain ⟨T53, h53, k53, X53, e53, E53, A53, st53⟩ := newP X14 hx hZ (hw _ (List.mem_of_getElem? (i := 5) rfl)) e14 (g := (mkF m 56 #[.val (.int p0), .val (.int p1), .val (.int p2), .val (.int p3), .val (.int p4), .val (.int p5), .val (.int (3 : Int32)), .val (.int x0), .val (.int x1), .val (.int x2), .val (.int (own_pk p1 (3 : Int32) (239 : Int32) p5)), .unset, .unset, .unset] [(.int (3 : Int32))])) rfl (hb hby at_56) rfl (by decide) (cap := 3) (by decide) (by decide) (by decide) (by decide)
    obtain ⟨b53, g53⟩ : ∃ z, z = h0.size := ⟨_, rfl⟩
    rw [← g53] at A53 st53
    have g_b53 : n0 ≤ b53 := Nat.le_trans Z0 (Nat.le_of_eq g53.symm)
    have sz_b53 : h0.size ≤ b53 := Nat.le_trans (Keep.refl h0 []).1 (Nat.le_of_eq g53.symm)
    have V53 : Arv Z h53 b53 k53 .byte (3 : Int32) [(.int (0 : Int32)), (.int (0 : Int32)), (.int (0 : Int32))] (.int (0 : Int32)) := (Arv.new A53 (by decide)).pad (pad_rep [] (.int (0 : Int32)) 3)
    have c55 : ∀ t, Steps p.tables e below (T53.setTop (mkF m 70 #[.val (.int p0), .val (.int p1), .val (.int p2), .val (.int p3), .val (.int p4), .val (.int p5), .val (.int (3 : Int32)), .val (.int x0), .val (.int x1), .val (.int x2), .val (.int (own_pk p1 (3 : Int32) (239 : Int32) p5)), .val (.ref b53), .unset, .unset] [(.int x0), (.int (0 : Int32)), (.ref b53)])) t → Steps p.tables e below (T53.setTop (mkF m 58 #[.val (.int p0), .val (.int p1), .val (.int p2), .val (.int p3), .val (.int p4), .val (.int p5), .val (.int (3 : Int32)), .val (.int x0), .val (.int x1), .val (.int x2), .val (.int (own_pk p1 (3 : Int32) (239 : Int32) p5)), .unset, .unset, .unset] [(.ref b53)])) t := by
      intro t kt
      show Steps p.tables e below (T53.setTop (mkF m 58 #[.val (.int p0), .val (.int p1), .val (.int p2), .val (.int p3), .val (.int p4), .val (.int p5), .val (.int (3 : Int32)), .val (.int x0), .val (.int x1), .val (.int x2), .val (.int (own_pk p1 (3 : Int32) (239 : Int32) p5)), .unset, .unset, .unset] [(.ref b53)])) _
      refine XS.astore X53.here hx rfl (hb hby at_58) rfl rfl (l' := #[.val (.int p0), .val (.int p1), .val (.int p2), .val (.int p3), .val (.int p4), .val (.int p5), .val (.int (3 : Int32)), .val (.int x0), .val (.int x1), .val (.int x2), .val (.int (own_pk p1 (3 : Int32) (239 : Int32) p5)), .val (.ref b53), .unset, .unset]) rfl ?_
      show Steps p.tables e below (T53.setTop (mkF m 60 #[.val (.int p0), .val (.int p1), .val (.int p2), .val (.int p3), .val (.int p4), .val (.int p5), .val (.int (3 : Int32)), .val (.int x0), .val (.int x1), .val (.int x2), .val (.int (own_pk p1 (3 : Int32) (239 : Int32) p5)), .val (.ref b53), .unset, .unset] [])) _
      refine XS.iload X53.here hx rfl (hb hby at_60) rfl ?_
      show Steps p.tables e below (T53.setTop (mkF m 62 #[.val (.int p0), .val (.int p1), .val (.int p2), .val (.int p3), .val (.int p4), .val (.int p5), .val (.int (3 : Int32)), .val (.int x0), .val (.int x1), .val (.int x2), .val (.int (own_pk p1 (3 : Int32) (239 : Int32) p5)), .val (.ref b53), .unset, .unset] [(.int (3 : Int32))])) _
      refine XS.ifNo X53.here hx rfl (hb hby at_62) rfl ((if0 _ _).trans (tlt (by decide : (0 : Int32) < (3 : Int32))).2.2.2) ?_
      show Steps p.tables e below (T53.setTop (mkF m 65 #[.val (.int p0), .val (.int p1), .val (.int p2), .val (.int p3), .val (.int p4), .val (.int p5), .val (.int (3 : Int32)), .val (.int x0), .val (.int x1), .val (.int x2), .val (.int (own_pk p1 (3 : Int32) (239 : Int32) p5)), .val (.ref b53), .unset, .unset] [])) _
      refine XS.aload X53.here hx rfl (hb hby at_65) rfl rfl ?_
      show Steps p.tables e below (T53.setTop (mkF m 67 #[.val (.int p0), .val (.int p1), .val (.int p2), .val (.int p3), .val (.int p4), .val (.int p5), .val (.int (3 : Int32)), .val (.int x0), .val (.int x1), .val (.int x2), .val (.int (own_pk p1 (3 : Int32) (239 : Int32) p5)), .val (.ref b53), .unset, .unset] [(.ref b53)])) _
      refine XS.iconst X53.here hx rfl (hb hby at_67) ?_
      show Steps p.tables e below (T53.setTop (mkF m 68 #[.val (.int p0), .val (.int p1), .val (.int p2), .val (.int p3), .val (.int p4), .val (.int p5), .val (.int (3 : Int32)), .val (.int x0), .val (.int x1), .val (.int x2), .val (.int (own_pk p1 (3 : Int32) (239 : Int32) p5)), .val (.ref b53), .unset, .unset] [(.int (0 : Int32)), (.ref b53)])) _
      refine XS.iload X53.here hx rfl (hb hby at_68) rfl ?_
      exact kt
    have Vc56 := V53
    obtain ⟨cl56, Ar56, qk56, S56, M56, H56, G56⟩ := Vc56
    have hin56 : ¬ ((0 : Int32) < 0 ∨ cl56.slots.size ≤ ((0 : Int32)).toNatClampNeg) := inb_of S56 ⟨by decide, by decide⟩
    obtain ⟨T57, h57, X57, e57, W57, st57⟩ := stB X53 hx hZ e53 Ar56 (j := (0 : Int32)) hin56 (g := (mkF m 70 #[.val (.int p0), .val (.int p1), .val (.int p2), .val (.int p3), .val (.int p4), .val (.int p5), .val (.int (3 : Int32)), .val (.int x0), .val (.int x1), .val (.int x2), .val (.int (own_pk p1 (3 : Int32) (239 : Int32) p5)), .val (.ref b53), .unset, .unset] [(.int x0), (.int (0 : Int32)), (.ref b53)])) rfl rfl (hb hby at_70)
    have V57 : Arv Z h57 b53 k53 .byte (3 : Int32) [(.int (x0.toInt8.toInt32)), (.int (0 : Int32)), (.int (0 : Int32))] (.int (0 : Int32)) := Arv.set Ar56 qk56 S56 M56 H56 G56 (fits_nar_byte _) W57 0 rfl (Nat.le_of_ble_eq_true rfl)
    have N57 := Fr.snoc X57 N14 g_b53
    have c58 : ∀ t, Steps p.tables e below (T57.setTop (mkF m 82 #[.val (.int p0), .val (.int p1), .val (.int p2), .val (.int p3), .val (.int p4), .val (.int p5), .val (.int (3 : Int32)), .val (.int x0), .val (.int x1), .val (.int x2), .val (.int (own_pk p1 (3 : Int32) (239 : Int32) p5)), .val (.ref b53), .unset, .unset] [(.int x1), (.int (1 : Int32)), (.ref b53)])) t → Steps p.tables e below (T57.setTop (mkF m 71 #[.val (.int p0), .val (.int p1), .val (.int p2), .val (.int p3), .val (.int p4), .val (.int p5), .val (.int (3 : Int32)), .val (.int x0), .val (.int x1), .val (.int x2), .val (.int (own_pk p1 (3 : Int32) (239 : Int32) p5)), .val (.ref b53), .unset, .unset] [])) t := by
      intro t kt
      show Steps p.tables e below (T57.setTop (mkF m 71 #[.val (.int p0), .val (.int p1), .val (.int p2), .val (.int p3), .val (.int p4), .val (.int p5), .val (.int (3 : Int32)), .val (.int x0), .val (.int x1), .val (.int x2), .val (.int (own_pk p1 (3 : Int32) (239 : Int32) p5)), .val (.ref b53), .unset, .unset] [])) _
      refine XS.iload X57.here hx rfl (hb hby at_71) rfl ?_
      show Steps p.tables e below (T57.setTop (mkF m 73 #[.val (.int p0), .val (.int p1), .val (.int p2), .val (.int p3), .val (.int p4), .val (.int p5), .val (.int (3 : Int32)), .val (.int x0), .val (.int x1), .val (.int x2), .val (.int (own_pk p1 (3 : Int32) (239 : Int32) p5)), .val (.ref b53), .unset, .unset] [(.int (3 : Int32))])) _
      refine XS.iconst X57.here hx rfl (hb hby at_73) ?_
      show Steps p.tables e below (T57.setTop (mkF m 74 #[.val (.int p0), .val (.int p1), .val (.int p2), .val (.int p3), .val (.int p4), .val (.int p5), .val (.int (3 : Int32)), .val (.int x0), .val (.int x1), .val (.int x2), .val (.int (own_pk p1 (3 : Int32) (239 : Int32) p5)), .val (.ref b53), .unset, .unset] [(.int (1 : Int32)), (.int (3 : Int32))])) _
      refine XS.icmpNo X57.here hx rfl (hb hby at_74) rfl (tlt (by decide : (1 : Int32) < (3 : Int32))).2.2.2 ?_
      show Steps p.tables e below (T57.setTop (mkF m 77 #[.val (.int p0), .val (.int p1), .val (.int p2), .val (.int p3), .val (.int p4), .val (.int p5), .val (.int (3 : Int32)), .val (.int x0), .val (.int x1), .val (.int x2), .val (.int (own_pk p1 (3 : Int32) (239 : Int32) p5)), .val (.ref b53), .unset, .unset] [])) _
      refine XS.aload X57.here hx rfl (hb hby at_77) rfl rfl ?_
      show Steps p.tables e below (T57.setTop (mkF m 79 #[.val (.int p0), .val (.int p1), .val (.int p2), .val (.int p3), .val (.int p4), .val (.int p5), .val (.int (3 : Int32)), .val (.int x0), .val (.int x1), .val (.int x2), .val (.int (own_pk p1 (3 : Int32) (239 : Int32) p5)), .val (.ref b53), .unset, .unset] [(.ref b53)])) _
      refine XS.iconst X57.here hx rfl (hb hby at_79) ?_
      show Steps p.tables e below (T57.setTop (mkF m 80 #[.val (.int p0), .val (.int p1), .val (.int p2), .val (.int p3), .val (.int p4), .val (.int p5), .val (.int (3 : Int32)), .val (.int x0), .val (.int x1), .val (.int x2), .val (.int (own_pk p1 (3 : Int32) (239 : Int32) p5)), .val (.ref b53), .unset, .unset] [(.int (1 : Int32)), (.ref b53)])) _
      refine XS.iload X57.here hx rfl (hb hby at_80) rfl ?_
      exact kt
    have Vc59 := V57
    obtain ⟨cl59, Ar59, qk59, S59, M59, H59, G59⟩ := Vc59
    have hin59 : ¬ ((1 : Int32) < 0 ∨ cl59.slots.size ≤ ((1 : Int32)).toNatClampNeg) := inb_of S59 ⟨by decide, by decide⟩
    obtain ⟨T60, h60, X60, e60, W60, st60⟩ := stB X57 hx hZ e57 Ar59 (j := (1 : Int32)) hin59 (g := (mkF m 82 #[.val (.int p0), .val (.int p1), .val (.int p2), .val (.int p3), .val (.int p4), .val (.int p5), .val (.int (3 : Int32)), .val (.int x0), .val (.int x1), .val (.int x2), .val (.int (own_pk p1 (3 : Int32) (239 : Int32) p5)), .val (.ref b53), .unset, .unset] [(.int x1), (.int (1 : Int32)), (.ref b53)])) rfl rfl (hb hby at_82)
    have V60 : Arv Z h60 b53 k53 .byte (3 : Int32) [(.int (x0.toInt8.toInt32)), (.int (x1.toInt8.toInt32)), (.int (0 : Int32))] (.int (0 : Int32)) := Arv.set Ar59 qk59 S59 M59 H59 G59 (fits_nar_byte _) W60 1 rfl (Nat.le_of_ble_eq_true rfl)
    have N60 := Fr.snoc X60 N57 g_b53
    have c61 : ∀ t, Steps p.tables e below (T60.setTop (mkF m 94 #[.val (.int p0), .val (.int p1), .val (.int p2), .val (.int p3), .val (.int p4), .val (.int p5), .val (.int (3 : Int32)), .val (.int x0), .val (.int x1), .val (.int x2), .val (.int (own_pk p1 (3 : Int32) (239 : Int32) p5)), .val (.ref b53), .unset, .unset] [(.int x2), (.int (2 : Int32)), (.ref b53)])) t → Steps p.tables e below (T60.setTop (mkF m 83 #[.val (.int p0), .val (.int p1), .val (.int p2), .val (.int p3), .val (.int p4), .val (.int p5), .val (.int (3 : Int32)), .val (.int x0), .val (.int x1), .val (.int x2), .val (.int (own_pk p1 (3 : Int32) (239 : Int32) p5)), .val (.ref b53), .unset, .unset] [])) t := by
      intro t kt
      show Steps p.tables e below (T60.setTop (mkF m 83 #[.val (.int p0), .val (.int p1), .val (.int p2), .val (.int p3), .val (.int p4), .val (.int p5), .val (.int (3 : Int32)), .val (.int x0), .val (.int x1), .val (.int x2), .val (.int (own_pk p1 (3 : Int32) (239 : Int32) p5)), .val (.ref b53), .unset, .unset] [])) _
      refine XS.iload X60.here hx rfl (hb hby at_83) rfl ?_
      show Steps p.tables e below (T60.setTop (mkF m 85 #[.val (.int p0), .val (.int p1), .val (.int p2), .val (.int p3), .val (.int p4), .val (.int p5), .val (.int (3 : Int32)), .val (.int x0), .val (.int x1), .val (.int x2), .val (.int (own_pk p1 (3 : Int32) (239 : Int32) p5)), .val (.ref b53), .unset, .unset] [(.int (3 : Int32))])) _
      refine XS.iconst X60.here hx rfl (hb hby at_85) ?_
      show Steps p.tables e below (T60.setTop (mkF m 86 #[.val (.int p0), .val (.int p1), .val (.int p2), .val (.int p3), .val (.int p4), .val (.int p5), .val (.int (3 : Int32)), .val (.int x0), .val (.int x1), .val (.int x2), .val (.int (own_pk p1 (3 : Int32) (239 : Int32) p5)), .val (.ref b53), .unset, .unset] [(.int (2 : Int32)), (.int (3 : Int32))])) _
      refine XS.icmpNo X60.here hx rfl (hb hby at_86) rfl (tlt (by decide : (2 : Int32) < (3 : Int32))).2.2.2 ?_
      show Steps p.tables e below (T60.setTop (mkF m 89 #[.val (.int p0), .val (.int p1), .val (.int p2), .val (.int p3), .val (.int p4), .val (.int p5), .val (.int (3 : Int32)), .val (.int x0), .val (.int x1), .val (.int x2), .val (.int (own_pk p1 (3 : Int32) (239 : Int32) p5)), .val (.ref b53), .unset, .unset] [])) _
      refine XS.aload X60.here hx rfl (hb hby at_89) rfl rfl ?_
      show Steps p.tables e below (T60.setTop (mkF m 91 #[.val (.int p0), .val (.int p1), .val (.int p2), .val (.int p3), .val (.int p4), .val (.int p5), .val (.int (3 : Int32)), .val (.int x0), .val (.int x1), .val (.int x2), .val (.int (own_pk p1 (3 : Int32) (239 : Int32) p5)), .val (.ref b53), .unset, .unset] [(.ref b53)])) _
      refine XS.iconst X60.here hx rfl (hb hby at_91) ?_
      show Steps p.tables e below (T60.setTop (mkF m 92 #[.val (.int p0), .val (.int p1), .val (.int p2), .val (.int p3), .val (.int p4), .val (.int p5), .val (.int (3 : Int32)), .val (.int x0), .val (.int x1), .val (.int x2), .val (.int (own_pk p1 (3 : Int32) (239 : Int32) p5)), .val (.ref b53), .unset, .unset] [(.int (2 : Int32)), (.ref b53)])) _
      refine XS.iload X60.here hx rfl (hb hby at_92) rfl ?_
      exact kt
    have Vc62 := V60
    obtain ⟨cl62, Ar62, qk62, S62, M62, H62, G62⟩ := Vc62
    have hin62 : ¬ ((2 : Int32) < 0 ∨ cl62.slots.size ≤ ((2 : Int32)).toNatClampNeg) := inb_of S62 ⟨by decide, by decide⟩
    obtain ⟨T63, h63, X63, e63, W63, st63⟩ := stB X60 hx hZ e60 Ar62 (j := (2 : Int32)) hin62 (g := (mkF m 94 #[.val (.int p0), .val (.int p1), .val (.int p2), .val (.int p3), .val (.int p4), .val (.int p5), .val (.int (3 : Int32)), .val (.int x0), .val (.int x1), .val (.int x2), .val (.int (own_pk p1 (3 : Int32) (239 : Int32) p5)), .val (.ref b53), .unset, .unset] [(.int x2), (.int (2 : Int32)), (.ref b53)])) rfl rfl (hb hby at_94)
    have V63 : Arv Z h63 b53 k53 .byte (3 : Int32) [(.int (x0.toInt8.toInt32)), (.int (x1.toInt8.toInt32)), (.int (x2.toInt8.toInt32))] (.int (0 : Int32)) := Arv.set Ar62 qk62 S62 M62 H62 G62 (fits_nar_byte _) W63 2 rfl (Nat.le_of_ble_eq_true rfl)
    have N63 := Fr.snoc X63 N60 g_b53
    have c64 : ∀ t, Steps p.tables e below (T63.setTop (mkF m 122 #[.val (.int p0), .val (.int p1), .val (.int p2), .val (.int p3), .val (.int p4), .val (.int p5), .val (.int (3 : Int32)), .val (.int x0), .val (.int x1), .val (.int x2), .val (.int (own_pk p1 (3 : Int32) (239 : Int32) p5)), .val (.ref b53), .unset, .unset] [(.int (239 : Int32)), (.int (x0 &&& (255 : Int32)))])) t → Steps p.tables e below (T63.setTop (mkF m 95 #[.val (.int p0), .val (.int p1), .val (.int p2), .val (.int p3), .val (.int p4), .val (.int p5), .val (.int (3 : Int32)), .val (.int x0), .val (.int x1), .val (.int x2), .val (.int (own_pk p1 (3 : Int32) (239 : Int32) p5)), .val (.ref b53), .unset, .unset] [])) t := by
      intro t kt
      show Steps p.tables e below (T63.setTop (mkF m 95 #[.val (.int p0), .val (.int p1), .val (.int p2), .val (.int p3), .val (.int p4), .val (.int p5), .val (.int (3 : Int32)), .val (.int x0), .val (.int x1), .val (.int x2), .val (.int (own_pk p1 (3 : Int32) (239 : Int32) p5)), .val (.ref b53), .unset, .unset] [])) _
      refine XS.iload X63.here hx rfl (hb hby at_95) rfl ?_
      show Steps p.tables e below (T63.setTop (mkF m 97 #[.val (.int p0), .val (.int p1), .val (.int p2), .val (.int p3), .val (.int p4), .val (.int p5), .val (.int (3 : Int32)), .val (.int x0), .val (.int x1), .val (.int x2), .val (.int (own_pk p1 (3 : Int32) (239 : Int32) p5)), .val (.ref b53), .unset, .unset] [(.int (3 : Int32))])) _
      refine XS.iconst X63.here hx rfl (hb hby at_97) ?_
      show Steps p.tables e below (T63.setTop (mkF m 98 #[.val (.int p0), .val (.int p1), .val (.int p2), .val (.int p3), .val (.int p4), .val (.int p5), .val (.int (3 : Int32)), .val (.int x0), .val (.int x1), .val (.int x2), .val (.int (own_pk p1 (3 : Int32) (239 : Int32) p5)), .val (.ref b53), .unset, .unset] [(.int (3 : Int32)), (.int (3 : Int32))])) _
      refine XS.icmpYes X63.here hx rfl (pc0 := 98) (pc' := 107) rfl (hb hby at_98) rfl (flt (by decide : ¬ ((3 : Int32) < (3 : Int32)))).2.2.2 (by decide) (by decide) ?_
      show Steps p.tables e below (T63.setTop (mkF m 107 #[.val (.int p0), .val (.int p1), .val (.int p2), .val (.int p3), .val (.int p4), .val (.int p5), .val (.int (3 : Int32)), .val (.int x0), .val (.int x1), .val (.int x2), .val (.int (own_pk p1 (3 : Int32) (239 : Int32) p5)), .val (.ref b53), .unset, .unset] [])) _
      refine XS.iload X63.here hx rfl (hb hby at_107) rfl ?_
      show Steps p.tables e below (T63.setTop (mkF m 109 #[.val (.int p0), .val (.int p1), .val (.int p2), .val (.int p3), .val (.int p4), .val (.int p5), .val (.int (3 : Int32)), .val (.int x0), .val (.int x1), .val (.int x2), .val (.int (own_pk p1 (3 : Int32) (239 : Int32) p5)), .val (.ref b53), .unset, .unset] [(.int (3 : Int32))])) _
      refine XS.iconst X63.here hx rfl (hb hby at_109) ?_
      show Steps p.tables e below (T63.setTop (mkF m 110 #[.val (.int p0), .val (.int p1), .val (.int p2), .val (.int p3), .val (.int p4), .val (.int p5), .val (.int (3 : Int32)), .val (.int x0), .val (.int x1), .val (.int x2), .val (.int (own_pk p1 (3 : Int32) (239 : Int32) p5)), .val (.ref b53), .unset, .unset] [(.int (3 : Int32)), (.int (3 : Int32))])) _
      refine XS.icmpNo X63.here hx rfl (hb hby at_110) rfl (flt (by decide : ¬ ((3 : Int32) < (3 : Int32)))).1 ?_
      show Steps p.tables e below (T63.setTop (mkF m 113 #[.val (.int p0), .val (.int p1), .val (.int p2), .val (.int p3), .val (.int p4), .val (.int p5), .val (.int (3 : Int32)), .val (.int x0), .val (.int x1), .val (.int x2), .val (.int (own_pk p1 (3 : Int32) (239 : Int32) p5)), .val (.ref b53), .unset, .unset] [])) _
      refine XS.iload X63.here hx rfl (hb hby at_113) rfl ?_
      show Steps p.tables e below (T63.setTop (mkF m 115 #[.val (.int p0), .val (.int p1), .val (.int p2), .val (.int p3), .val (.int p4), .val (.int p5), .val (.int (3 : Int32)), .val (.int x0), .val (.int x1), .val (.int x2), .val (.int (own_pk p1 (3 : Int32) (239 : Int32) p5)), .val (.ref b53), .unset, .unset] [(.int x0)])) _
      refine XS.sipush X63.here hx rfl (hb hby at_115) ?_
      show Steps p.tables e below (T63.setTop (mkF m 118 #[.val (.int p0), .val (.int p1), .val (.int p2), .val (.int p3), .val (.int p4), .val (.int p5), .val (.int (3 : Int32)), .val (.int x0), .val (.int x1), .val (.int x2), .val (.int (own_pk p1 (3 : Int32) (239 : Int32) p5)), .val (.ref b53), .unset, .unset] [(.int (255 : Int32)), (.int x0)])) _
      refine XS.iand X63.here hx rfl (hb hby at_118) rfl ?_
      show Steps p.tables e below (T63.setTop (mkF m 119 #[.val (.int p0), .val (.int p1), .val (.int p2), .val (.int p3), .val (.int p4), .val (.int p5), .val (.int (3 : Int32)), .val (.int x0), .val (.int x1), .val (.int x2), .val (.int (own_pk p1 (3 : Int32) (239 : Int32) p5)), .val (.ref b53), .unset, .unset] [(.int (x0 &&& (255 : Int32)))])) _
      refine XS.sipush X63.here hx rfl (hb hby at_119) ?_
      exact kt
    by_cases hc122 : (x0 &&& (255 : Int32)) = (239 : Int32)
    · -- it is
      have c65 : ∀ t, Steps p.tables e below (T63.setTop (mkF m 134 #[.val (.int p0), .val (.int p1), .val (.int p2), .val (.int p3), .val (.int p4), .val (.int p5), .val (.int (3 : Int32)), .val (.int x0), .val (.int x1), .val (.int x2), .val (.int (own_pk p1 (3 : Int32) (239 : Int32) p5)), .val (.ref b53), .unset, .unset] [(.int (187 : Int32)), (.int (x1 &&& (255 : Int32)))])) t → Steps p.tables e below (T63.setTop (mkF m 122 #[.val (.int p0), .val (.int p1), .val (.int p2), .val (.int p3), .val (.int p4), .val (.int p5), .val (.int (3 : Int32)), .val (.int x0), .val (.int x1), .val (.int x2), .val (.int (own_pk p1 (3 : Int32) (239 : Int32) p5)), .val (.ref b53), .unset, .unset] [(.int (239 : Int32)), (.int (x0 &&& (255 : Int32)))])) t := by
        intro t kt
        show Steps p.tables e below (T63.setTop (mkF m 122 #[.val (.int p0), .val (.int p1), .val (.int p2), .val (.int p3), .val (.int p4), .val (.int p5), .val (.int (3 : Int32)), .val (.int x0), .val (.int x1), .val (.int x2), .val (.int (own_pk p1 (3 : Int32) (239 : Int32) p5)), .val (.ref b53), .unset, .unset] [(.int (239 : Int32)), (.int (x0 &&& (255 : Int32)))])) _
        refine XS.icmpNo X63.here hx rfl (hb hby at_122) rfl (teq hc122).2 ?_
        show Steps p.tables e below (T63.setTop (mkF m 125 #[.val (.int p0), .val (.int p1), .val (.int p2), .val (.int p3), .val (.int p4), .val (.int p5), .val (.int (3 : Int32)), .val (.int x0), .val (.int x1), .val (.int x2), .val (.int (own_pk p1 (3 : Int32) (239 : Int32) p5)), .val (.ref b53), .unset, .unset] [])) _
        refine XS.iload X63.here hx rfl (hb hby at_125) rfl ?_
        show Steps p.tables e below (T63.setTop (mkF m 127 #[.val (.int p0), .val (.int p1), .val (.int p2), .val (.int p3), .val (.int p4), .val (.int p5), .val (.int (3 : Int32)), .val (.int x0), .val (.int x1), .val (.int x2), .val (.int (own_pk p1 (3 : Int32) (239 : Int32) p5)), .val (.ref b53), .unset, .unset] [(.int x1)])) _
        refine XS.sipush X63.here hx rfl (hb hby at_127) ?_
        show Steps p.tables e below (T63.setTop (mkF m 130 #[.val (.int p0), .val (.int p1), .val (.int p2), .val (.int p3), .val (.int p4), .val (.int p5), .val (.int (3 : Int32)), .val (.int x0), .val (.int x1), .val (.int x2), .val (.int (own_pk p1 (3 : Int32) (239 : Int32) p5)), .val (.ref b53), .unset, .unset] [(.int (255 : Int32)), (.int x1)])) _
        refine XS.iand X63.here hx rfl (hb hby at_130) rfl ?_
        show Steps p.tables e below (T63.setTop (mkF m 131 #[.val (.int p0), .val (.int p1), .val (.int p2), .val (.int p3), .val (.int p4), .val (.int p5), .val (.int (3 : Int32)), .val (.int x0), .val (.int x1), .val (.int x2), .val (.int (own_pk p1 (3 : Int32) (239 : Int32) p5)), .val (.ref b53), .unset, .unset] [(.int (x1 &&& (255 : Int32)))])) _
        refine XS.sipush X63.here hx rfl (hb hby at_131) ?_
        exact kt
      by_cases hc134 : (x1 &&& (255 : Int32)) = (187 : Int32)
      · -- it is
        have c66 : ∀ t, Steps p.tables e below (T63.setTop (mkF m 146 #[.val (.int p0), .val (.int p1), .val (.int p2), .val (.int p3), .val (.int p4), .val (.int p5), .val (.int (3 : Int32)), .val (.int x0), .val (.int x1), .val (.int x2), .val (.int (own_pk p1 (3 : Int32) (239 : Int32) p5)), .val (.ref b53), .unset, .unset] [(.int (191 : Int32)), (.int (x2 &&& (255 : Int32)))])) t → Steps p.tables e below (T63.setTop (mkF m 134 #[.val (.int p0), .val (.int p1), .val (.int p2), .val (.int p3), .val (.int p4), .val (.int p5), .val (.int (3 : Int32)), .val (.int x0), .val (.int x1), .val (.int x2), .val (.int (own_pk p1 (3 : Int32) (239 : Int32) p5)), .val (.ref b53), .unset, .unset] [(.int (187 : Int32)), (.int (x1 &&& (255 : Int32)))])) t := by
          intro t kt
          show Steps p.tables e below (T63.setTop (mkF m 134 #[.val (.int p0), .val (.int p1), .val (.int p2), .val (.int p3), .val (.int p4), .val (.int p5), .val (.int (3 : Int32)), .val (.int x0), .val (.int x1), .val (.int x2), .val (.int (own_pk p1 (3 : Int32) (239 : Int32) p5)), .val (.ref b53), .unset, .unset] [(.int (187 : Int32)), (.int (x1 &&& (255 : Int32)))])) _
          refine XS.icmpNo X63.here hx rfl (hb hby at_134) rfl (teq hc134).2 ?_
          show Steps p.tables e below (T63.setTop (mkF m 137 #[.val (.int p0), .val (.int p1), .val (.int p2), .val (.int p3), .val (.int p4), .val (.int p5), .val (.int (3 : Int32)), .val (.int x0), .val (.int x1), .val (.int x2), .val (.int (own_pk p1 (3 : Int32) (239 : Int32) p5)), .val (.ref b53), .unset, .unset] [])) _
          refine XS.iload X63.here hx rfl (hb hby at_137) rfl ?_
          show Steps p.tables e below (T63.setTop (mkF m 139 #[.val (.int p0), .val (.int p1), .val (.int p2), .val (.int p3), .val (.int p4), .val (.int p5), .val (.int (3 : Int32)), .val (.int x0), .val (.int x1), .val (.int x2), .val (.int (own_pk p1 (3 : Int32) (239 : Int32) p5)), .val (.ref b53), .unset, .unset] [(.int x2)])) _
          refine XS.sipush X63.here hx rfl (hb hby at_139) ?_
          show Steps p.tables e below (T63.setTop (mkF m 142 #[.val (.int p0), .val (.int p1), .val (.int p2), .val (.int p3), .val (.int p4), .val (.int p5), .val (.int (3 : Int32)), .val (.int x0), .val (.int x1), .val (.int x2), .val (.int (own_pk p1 (3 : Int32) (239 : Int32) p5)), .val (.ref b53), .unset, .unset] [(.int (255 : Int32)), (.int x2)])) _
          refine XS.iand X63.here hx rfl (hb hby at_142) rfl ?_
          show Steps p.tables e below (T63.setTop (mkF m 143 #[.val (.int p0), .val (.int p1), .val (.int p2), .val (.int p3), .val (.int p4), .val (.int p5), .val (.int (3 : Int32)), .val (.int x0), .val (.int x1), .val (.int x2), .val (.int (own_pk p1 (3 : Int32) (239 : Int32) p5)), .val (.ref b53), .unset, .unset] [(.int (x2 &&& (255 : Int32)))])) _
          refine XS.sipush X63.here hx rfl (hb hby at_143) ?_
          exact kt
        by_cases hc146 : (x2 &&& (255 : Int32)) = (191 : Int32)
        · -- it is
          have c67 : ∀ t, Steps p.tables e below (T63.setTop (mkF m 170 #[.val (.int p0), .val (.int p1), .val (.int p2), .val (.int p3), .val (.int p4), .val (.int p5), .val (.int (3 : Int32)), .val (.int x0), .val (.int x1), .val (.int x2), .val (.int (own_pk p1 (3 : Int32) (239 : Int32) p5)), .val (.ref b53), .val (.int (1 : Int32)), .val (.int (3 : Int32))] [(.ref b53)])) t → Steps p.tables e below (T63.setTop (mkF m 146 #[.val (.int p0), .val (.int p1), .val (.int p2), .val (.int p3), .val (.int p4), .val (.int p5), .val (.int (3 : Int32)), .val (.int x0), .val (.int x1), .val (.int x2), .val (.int (own_pk p1 (3 : Int32) (239 : Int32) p5)), .val (.ref b53), .unset, .unset] [(.int (191 : Int32)), (.int (x2 &&& (255 : Int32)))])) t := by
            intro t kt
            show Steps p.tables e below (T63.setTop (mkF m 146 #[.val (.int p0), .val (.int p1), .val (.int p2), .val (.int p3), .val (.int p4), .val (.int p5), .val (.int (3 : Int32)), .val (.int x0), .val (.int x1), .val (.int x2), .val (.int (own_pk p1 (3 : Int32) (239 : Int32) p5)), .val (.ref b53), .unset, .unset] [(.int (191 : Int32)), (.int (x2 &&& (255 : Int32)))])) _
            refine XS.icmpNo X63.here hx rfl (hb hby at_146) rfl (teq hc146).2 ?_
            show Steps p.tables e below (T63.setTop (mkF m 149 #[.val (.int p0), .val (.int p1), .val (.int p2), .val (.int p3), .val (.int p4), .val (.int p5), .val (.int (3 : Int32)), .val (.int x0), .val (.int x1), .val (.int x2), .val (.int (own_pk p1 (3 : Int32) (239 : Int32) p5)), .val (.ref b53), .unset, .unset] [])) _
            refine XS.iconst X63.here hx rfl (hb hby at_149) ?_
            show Steps p.tables e below (T63.setTop (mkF m 150 #[.val (.int p0), .val (.int p1), .val (.int p2), .val (.int p3), .val (.int p4), .val (.int p5), .val (.int (3 : Int32)), .val (.int x0), .val (.int x1), .val (.int x2), .val (.int (own_pk p1 (3 : Int32) (239 : Int32) p5)), .val (.ref b53), .unset, .unset] [(.int (1 : Int32))])) _
            refine XS.goto X63.here hx rfl (pc0 := 150) (pc' := 154) rfl (hb hby at_150) (by decide) (by decide) ?_
            show Steps p.tables e below (T63.setTop (mkF m 154 #[.val (.int p0), .val (.int p1), .val (.int p2), .val (.int p3), .val (.int p4), .val (.int p5), .val (.int (3 : Int32)), .val (.int x0), .val (.int x1), .val (.int x2), .val (.int (own_pk p1 (3 : Int32) (239 : Int32) p5)), .val (.ref b53), .unset, .unset] [(.int (1 : Int32))])) _
            refine XS.istore X63.here hx rfl (hb hby at_154) rfl (l' := #[.val (.int p0), .val (.int p1), .val (.int p2), .val (.int p3), .val (.int p4), .val (.int p5), .val (.int (3 : Int32)), .val (.int x0), .val (.int x1), .val (.int x2), .val (.int (own_pk p1 (3 : Int32) (239 : Int32) p5)), .val (.ref b53), .val (.int (1 : Int32)), .unset]) rfl ?_
            show Steps p.tables e below (T63.setTop (mkF m 156 #[.val (.int p0), .val (.int p1), .val (.int p2), .val (.int p3), .val (.int p4), .val (.int p5), .val (.int (3 : Int32)), .val (.int x0), .val (.int x1), .val (.int x2), .val (.int (own_pk p1 (3 : Int32) (239 : Int32) p5)), .val (.ref b53), .val (.int (1 : Int32)), .unset] [])) _
            refine XS.iload X63.here hx rfl (hb hby at_156) rfl ?_
            show Steps p.tables e below (T63.setTop (mkF m 158 #[.val (.int p0), .val (.int p1), .val (.int p2), .val (.int p3), .val (.int p4), .val (.int p5), .val (.int (3 : Int32)), .val (.int x0), .val (.int x1), .val (.int x2), .val (.int (own_pk p1 (3 : Int32) (239 : Int32) p5)), .val (.ref b53), .val (.int (1 : Int32)), .unset] [(.int (1 : Int32))])) _
            refine XS.ifNo X63.here hx rfl (hb hby at_158) rfl ((if0 _ _).trans (feq (by decide : ¬ ((1 : Int32) = (0 : Int32)))).1) ?_
            show Steps p.tables e below (T63.setTop (mkF m 161 #[.val (.int p0), .val (.int p1), .val (.int p2), .val (.int p3), .val (.int p4), .val (.int p5), .val (.int (3 : Int32)), .val (.int x0), .val (.int x1), .val (.int x2), .val (.int (own_pk p1 (3 : Int32) (239 : Int32) p5)), .val (.ref b53), .val (.int (1 : Int32)), .unset] [])) _
            refine XS.iconst X63.here hx rfl (hb hby at_161) ?_
            show Steps p.tables e below (T63.setTop (mkF m 162 #[.val (.int p0), .val (.int p1), .val (.int p2), .val (.int p3), .val (.int p4), .val (.int p5), .val (.int (3 : Int32)), .val (.int x0), .val (.int x1), .val (.int x2), .val (.int (own_pk p1 (3 : Int32) (239 : Int32) p5)), .val (.ref b53), .val (.int (1 : Int32)), .unset] [(.int (3 : Int32))])) _
            refine XS.goto X63.here hx rfl (pc0 := 162) (pc' := 166) rfl (hb hby at_162) (by decide) (by decide) ?_
            show Steps p.tables e below (T63.setTop (mkF m 166 #[.val (.int p0), .val (.int p1), .val (.int p2), .val (.int p3), .val (.int p4), .val (.int p5), .val (.int (3 : Int32)), .val (.int x0), .val (.int x1), .val (.int x2), .val (.int (own_pk p1 (3 : Int32) (239 : Int32) p5)), .val (.ref b53), .val (.int (1 : Int32)), .unset] [(.int (3 : Int32))])) _
            refine XS.istore X63.here hx rfl (hb hby at_166) rfl (l' := #[.val (.int p0), .val (.int p1), .val (.int p2), .val (.int p3), .val (.int p4), .val (.int p5), .val (.int (3 : Int32)), .val (.int x0), .val (.int x1), .val (.int x2), .val (.int (own_pk p1 (3 : Int32) (239 : Int32) p5)), .val (.ref b53), .val (.int (1 : Int32)), .val (.int (3 : Int32))]) rfl ?_
            show Steps p.tables e below (T63.setTop (mkF m 168 #[.val (.int p0), .val (.int p1), .val (.int p2), .val (.int p3), .val (.int p4), .val (.int p5), .val (.int (3 : Int32)), .val (.int x0), .val (.int x1), .val (.int x2), .val (.int (own_pk p1 (3 : Int32) (239 : Int32) p5)), .val (.ref b53), .val (.int (1 : Int32)), .val (.int (3 : Int32))] [])) _
            refine XS.aload X63.here hx rfl (hb hby at_168) rfl rfl ?_
            exact kt
          have f68 := (Nat.le_trans (Nat.le_trans (Nat.le_trans (Nat.le_trans Z0 E53.1) (Keep.of_wr W57).1) (Keep.of_wr W60).1) (Keep.of_wr W63).1)
          have f69 := ((((O0.ext E53).wr W57 g_b53).wr W60 g_b53).wr W63 g_b53)
          obtain ⟨_, _, ⟨T70, L70, k70, n70⟩, -, X70, ⟨Lc70, hQ70, l70, y70, z70⟩, st70⟩ := Jvm.LawKit.callS X63 hx (y := (⟨"com/example/ratewright/ratewright/io/Utf8Text", "start", "([B)I"⟩ : MethodName)) hown (mvT hZ (hw _ (List.mem_of_getElem? (i := 6) rfl))) (mvT hZ (hw _ (List.mem_of_getElem? (i := 7) rfl))) (mvT hZ (hw _ (List.mem_of_getElem? (i := 8) rfl))) (mvT hZ (hw _ (List.mem_of_getElem? (i := 9) rfl))) (by decide) (backOf (W := 0) (rm2_3 l Z a0 hw [] b53 k53 (x0.toInt8.toInt32) (x1.toInt8.toInt32) (x2.toInt8.toInt32) rm km h63 n0 f68 V63 (SB.ext f69.2) (VB.ext f69.2)) hZ (hw _ (List.mem_of_getElem? (i := 9) rfl)) (hw _ (List.mem_of_getElem? (i := 8) rfl)) (by decide) (by decide)) (g := (mkF m 170 #[.val (.int p0), .val (.int p1), .val (.int p2), .val (.int p3), .val (.int p4), .val (.int p5), .val (.int (3 : Int32)), .val (.int x0), .val (.int x1), .val (.int x2), .val (.int (own_pk p1 (3 : Int32) (239 : Int32) p5)), .val (.ref b53), .val (.int (1 : Int32)), .val (.int (3 : Int32))] [(.ref b53)])) rfl (by rw [hml]; rfl) (argsL := [(.ref b53)]) (rest := []) (lenOf pd_1 rfl) rfl (by show 2 * 0 + _ ≤ _; exact Nat.le_of_eq rfl) (hb hby at_170) (fun _ _ => ⟨rfl, e63, (by decide : 1 + 0 ≤ _), (by decide : 3 + 0 ≤ _)⟩)
          dsimp only [Pt.U, Pt.locs, Pt.cells, Pt.slots] at X70 l70 y70 z70 st70 hQ70
          subst l70 y70 z70
          obtain ⟨rfl, N70q, e70⟩ := hQ70
          have N70 := Fr.app N63 N70q
          have c72 : ∀ t, Steps p.tables e below (T70.setTop (mkF m 175 #[.val (.int p0), .val (.int p1), .val (.int p2), .val (.int p3), .val (.int p4), .val (.int p5), .val (.int (3 : Int32)), .val (.int x0), .val (.int x1), .val (.int x2), .val (.int (own_pk p1 (3 : Int32) (239 : Int32) p5)), .val (.ref b53), .val (.int (1 : Int32)), .val (.int (3 : Int32))] [(.int (3 : Int32)), (.int (own_st (x0.toInt8.toInt32) (x1.toInt8.toInt32) (x2.toInt8.toInt32)))])) t → Steps p.tables e below (T70.setTop (mkF m 173 #[.val (.int p0), .val (.int p1), .val (.int p2), .val (.int p3), .val (.int p4), .val (.int p5), .val (.int (3 : Int32)), .val (.int x0), .val (.int x1), .val (.int x2), .val (.int (own_pk p1 (3 : Int32) (239 : Int32) p5)), .val (.ref b53), .val (.int (1 : Int32)), .val (.int (3 : Int32))] [(.int (own_st (x0.toInt8.toInt32) (x1.toInt8.toInt32) (x2.toInt8.toInt32)))])) t := by
            intro t kt
            show Steps p.tables e below (T70.setTop (mkF m 173 #[.val (.int p0), .val (.int p1), .val (.int p2), .val (.int p3), .val (.int p4), .val (.int p5), .val (.int (3 : Int32)), .val (.int x0), .val (.int x1), .val (.int x2), .val (.int (own_pk p1 (3 : Int32) (239 : Int32) p5)), .val (.ref b53), .val (.int (1 : Int32)), .val (.int (3 : Int32))] [(.int (own_st (x0.toInt8.toInt32) (x1.toInt8.toInt32) (x2.toInt8.toInt32)))])) _
            refine XS.iload X70.here hx rfl (hb hby at_173) rfl ?_
            exact kt
          have hd71 : (own_st (x0.toInt8.toInt32) (x1.toInt8.toInt32) (x2.toInt8.toInt32)) = (3 : Int32) := by unfold own_st; rw [if_pos ⟨(own_m x0 239 (-17) rx0 (by decide) (by decide)).mp hc122, (own_m x1 187 (-69) rx1 (by decide) (by decide)).mp hc134, (own_m x2 191 (-65) rx2 (by decide) (by decide)).mp hc146⟩]
          have c73 : ∀ t, Steps p.tables e below (T70.setTop (mkF m 183 #[.val (.int p0), .val (.int p1), .val (.int p2), .val (.int p3), .val (.int p4), .val (.int p5), .val (.int (3 : Int32)), .val (.int x0), .val (.int x1), .val (.int x2), .val (.int (own_pk p1 (3 : Int32) (239 : Int32) p5)), .val (.ref b53), .val (.int (1 : Int32)), .val (.int (3 : Int32))] [(.int (1 : Int32))])) t → Steps p.tables e below (T70.setTop (mkF m 175 #[.val (.int p0), .val (.int p1), .val (.int p2), .val (.int p3), .val (.int p4), .val (.int p5), .val (.int (3 : Int32)), .val (.int x0), .val (.int x1), .val (.int x2), .val (.int (own_pk p1 (3 : Int32) (239 : Int32) p5)), .val (.ref b53), .val (.int (1 : Int32)), .val (.int (3 : Int32))] [(.int (3 : Int32)), (.int (own_st (x0.toInt8.toInt32) (x1.toInt8.toInt32) (x2.toInt8.toInt32)))])) t := by
            intro t kt
            show Steps p.tables e below (T70.setTop (mkF m 175 #[.val (.int p0), .val (.int p1), .val (.int p2), .val (.int p3), .val (.int p4), .val (.int p5), .val (.int (3 : Int32)), .val (.int x0), .val (.int x1), .val (.int x2), .val (.int (own_pk p1 (3 : Int32) (239 : Int32) p5)), .val (.ref b53), .val (.int (1 : Int32)), .val (.int (3 : Int32))] [(.int (3 : Int32)), (.int (own_st (x0.toInt8.toInt32) (x1.toInt8.toInt32) (x2.toInt8.toInt32)))])) _
            refine XS.icmpNo X70.here hx rfl (hb hby at_175) rfl (teq (hd71)).2 ?_
            show Steps p.tables e below (T70.setTop (mkF m 178 #[.val (.int p0), .val (.int p1), .val (.int p2), .val (.int p3), .val (.int p4), .val (.int p5), .val (.int (3 : Int32)), .val (.int x0), .val (.int x1), .val (.int x2), .val (.int (own_pk p1 (3 : Int32) (239 : Int32) p5)), .val (.ref b53), .val (.int (1 : Int32)), .val (.int (3 : Int32))] [])) _
            refine XS.iconst X70.here hx rfl (hb hby at_178) ?_
            show Steps p.tables e below (T70.setTop (mkF m 179 #[.val (.int p0), .val (.int p1), .val (.int p2), .val (.int p3), .val (.int p4), .val (.int p5), .val (.int (3 : Int32)), .val (.int x0), .val (.int x1), .val (.int x2), .val (.int (own_pk p1 (3 : Int32) (239 : Int32) p5)), .val (.ref b53), .val (.int (1 : Int32)), .val (.int (3 : Int32))] [(.int (1 : Int32))])) _
            refine XS.goto X70.here hx rfl (pc0 := 179) (pc' := 183) rfl (hb hby at_179) (by decide) (by decide) ?_
            exact kt
          obtain ⟨fs, hr, hrun, hended, hW, hsame⟩ := X70.leave (v := some (.int (1 : Int32))) (fun h => by rw [Bd.returns] at h; cases h)
          refine ⟨_, _, pre0 _ (c1 _ (st2 _ (c3 _ (c4 _ (c5 _ (st6 _ (c7 _ (c8 _ (c9 _ (st10 _ (c11 _ (c12 _ (c13 _ (st14 _ (c15 _ (c52 _ (c54 _ (st53 _ (c55 _ (st57 _ (c58 _ (st60 _ (c61 _ (st63 _ (c64 _ (c65 _ (c66 _ (c67 _ (st70 _ (c72 _ (c73 _ (?_)))))))))))))))))))))))))))))))), hrun, hended, _, _, rfl, ?_, ⟨_, rfl⟩, hW, hsame.mono (by decide) (by decide)⟩
          · show Steps p.tables e below (T70.setTop (mkF m 183 #[.val (.int p0), .val (.int p1), .val (.int p2), .val (.int p3), .val (.int p4), .val (.int p5), .val (.int (3 : Int32)), .val (.int x0), .val (.int x1), .val (.int x2), .val (.int (own_pk p1 (3 : Int32) (239 : Int32) p5)), .val (.ref b53), .val (.int (1 : Int32)), .val (.int (3 : Int32))] [(.int (1 : Int32))])) _
            exact retN X70 hx (t := .boolean) Bd.returns (by simp) (hb hby at_183) hr
          · show Q0 Z p0 p1 p2 p3 p4 p5 rm km h0 n0 _ T70.heap _
            rw [e70]
            exact ⟨congrArg (fun z => some (Value.int z)) (show (1 : Int32) = (1 : Int32) from by rfl), N70⟩
        · -- it isn't
          have c75 : ∀ t, Steps p.tables e below (T63.setTop (mkF m 170 #[.val (.int p0), .val (.int p1), .val (.int p2), .val (.int p3), .val (.int p4), .val (.int p5), .val (.int (3 : Int32)), .val (.int x0), .val (.int x1), .val (.int x2), .val (.int (own_pk p1 (3 : Int32) (239 : Int32) p5)), .val (.ref b53), .val (.int (0 : Int32)), .val (.int (0 : Int32))] [(.ref b53)])) t → Steps p.tables e below (T63.setTop (mkF m 146 #[.val (.int p0), .val (.int p1), .val (.int p2), .val (.int p3), .val (.int p4), .val (.int p5), .val (.int (3 : Int32)), .val (.int x0), .val (.int x1), .val (.int x2), .val (.int (own_pk p1 (3 : Int32) (239 : Int32) p5)), .val (.ref b53), .unset, .unset] [(.int (191 : Int32)), (.int (x2 &&& (255 : Int32)))])) t := by
            intro t kt
            show Steps p.tables e below (T63.setTop (mkF m 146 #[.val (.int p0), .val (.int p1), .val (.int p2), .val (.int p3), .val (.int p4), .val (.int p5), .val (.int (3 : Int32)), .val (.int x0), .val (.int x1), .val (.int x2), .val (.int (own_pk p1 (3 : Int32) (239 : Int32) p5)), .val (.ref b53), .unset, .unset] [(.int (191 : Int32)), (.int (x2 &&& (255 : Int32)))])) _
            refine XS.icmpYes X63.here hx rfl (pc0 := 146) (pc' := 153) rfl (hb hby at_146) rfl (feq hc146).2 (by decide) (by decide) ?_
            show Steps p.tables e below (T63.setTop (mkF m 153 #[.val (.int p0), .val (.int p1), .val (.int p2), .val (.int p3), .val (.int p4), .val (.int p5), .val (.int (3 : Int32)), .val (.int x0), .val (.int x1), .val (.int x2), .val (.int (own_pk p1 (3 : Int32) (239 : Int32) p5)), .val (.ref b53), .unset, .unset] [])) _
            refine XS.iconst X63.here hx rfl (hb hby at_153) ?_
            show Steps p.tables e below (T63.setTop (mkF m 154 #[.val (.int p0), .val (.int p1), .val (.int p2), .val (.int p3), .val (.int p4), .val (.int p5), .val (.int (3 : Int32)), .val (.int x0), .val (.int x1), .val (.int x2), .val (.int (own_pk p1 (3 : Int32) (239 : Int32) p5)), .val (.ref b53), .unset, .unset] [(.int (0 : Int32))])) _
            refine XS.istore X63.here hx rfl (hb hby at_154) rfl (l' := #[.val (.int p0), .val (.int p1), .val (.int p2), .val (.int p3), .val (.int p4), .val (.int p5), .val (.int (3 : Int32)), .val (.int x0), .val (.int x1), .val (.int x2), .val (.int (own_pk p1 (3 : Int32) (239 : Int32) p5)), .val (.ref b53), .val (.int (0 : Int32)), .unset]) rfl ?_
            show Steps p.tables e below (T63.setTop (mkF m 156 #[.val (.int p0), .val (.int p1), .val (.int p2), .val (.int p3), .val (.int p4), .val (.int p5), .val (.int (3 : Int32)), .val (.int x0), .val (.int x1), .val (.int x2), .val (.int (own_pk p1 (3 : Int32) (239 : Int32) p5)), .val (.ref b53), .val (.int (0 : Int32)), .unset] [])) _
            refine XS.iload X63.here hx rfl (hb hby at_156) rfl ?_
            show Steps p.tables e below (T63.setTop (mkF m 158 #[.val (.int p0), .val (.int p1), .val (.int p2), .val (.int p3), .val (.int p4), .val (.int p5), .val (.int (3 : Int32)), .val (.int x0), .val (.int x1), .val (.int x2), .val (.int (own_pk p1 (3 : Int32) (239 : Int32) p5)), .val (.ref b53), .val (.int (0 : Int32)), .unset] [(.int (0 : Int32))])) _
            refine XS.ifYes X63.here hx rfl (pc0 := 158) (pc' := 165) rfl (hb hby at_158) rfl ((if0 _ _).trans (teq (by decide : (0 : Int32) = (0 : Int32))).1) (by decide) (by decide) ?_
            show Steps p.tables e below (T63.setTop (mkF m 165 #[.val (.int p0), .val (.int p1), .val (.int p2), .val (.int p3), .val (.int p4), .val (.int p5), .val (.int (3 : Int32)), .val (.int x0), .val (.int x1), .val (.int x2), .val (.int (own_pk p1 (3 : Int32) (239 : Int32) p5)), .val (.ref b53), .val (.int (0 : Int32)), .unset] [])) _
            refine XS.iconst X63.here hx rfl (hb hby at_165) ?_
            show Steps p.tables e below (T63.setTop (mkF m 166 #[.val (.int p0), .val (.int p1), .val (.int p2), .val (.int p3), .val (.int p4), .val (.int p5), .val (.int (3 : Int32)), .val (.int x0), .val (.int x1), .val (.int x2), .val (.int (own_pk p1 (3 : Int32) (239 : Int32) p5)), .val (.ref b53), .val (.int (0 : Int32)), .unset] [(.int (0 : Int32))])) _
            refine XS.istore X63.here hx rfl (hb hby at_166) rfl (l' := #[.val (.int p0), .val (.int p1), .val (.int p2), .val (.int p3), .val (.int p4), .val (.int p5), .val (.int (3 : Int32)), .val (.int x0), .val (.int x1), .val (.int x2), .val (.int (own_pk p1 (3 : Int32) (239 : Int32) p5)), .val (.ref b53), .val (.int (0 : Int32)), .val (.int (0 : Int32))]) rfl ?_
            show Steps p.tables e below (T63.setTop (mkF m 168 #[.val (.int p0), .val (.int p1), .val (.int p2), .val (.int p3), .val (.int p4), .val (.int p5), .val (.int (3 : Int32)), .val (.int x0), .val (.int x1), .val (.int x2), .val (.int (own_pk p1 (3 : Int32) (239 : Int32) p5)), .val (.ref b53), .val (.int (0 : Int32)), .val (.int (0 : Int32))] [])) _
            refine XS.aload X63.here hx rfl (hb hby at_168) rfl rfl ?_
            exact kt
          have f76 := (Nat.le_trans (Nat.le_trans (Nat.le_trans (Nat.le_trans Z0 E53.1) (Keep.of_wr W57).1) (Keep.of_wr W60).1) (Keep.of_wr W63).1)
          have f77 := ((((O0.ext E53).wr W57 g_b53).wr W60 g_b53).wr W63 g_b53)
          obtain ⟨_, _, ⟨T78, L78, k78, n78⟩, -, X78, ⟨Lc78, hQ78, l78, y78, z78⟩, st78⟩ := Jvm.LawKit.callS X63 hx (y := (⟨"com/example/ratewright/ratewright/io/Utf8Text", "start", "([B)I"⟩ : MethodName)) hown (mvT hZ (hw _ (List.mem_of_getElem? (i := 6) rfl))) (mvT hZ (hw _ (List.mem_of_getElem? (i := 7) rfl))) (mvT hZ (hw _ (List.mem_of_getElem? (i := 8) rfl))) (mvT hZ (hw _ (List.mem_of_getElem? (i := 9) rfl))) (by decide) (backOf (W := 0) (rm2_3 l Z a0 hw [] b53 k53 (x0.toInt8.toInt32) (x1.toInt8.toInt32) (x2.toInt8.toInt32) rm km h63 n0 f76 V63 (SB.ext f77.2) (VB.ext f77.2)) hZ (hw _ (List.mem_of_getElem? (i := 9) rfl)) (hw _ (List.mem_of_getElem? (i := 8) rfl)) (by decide) (by decide)) (g := (mkF m 170 #[.val (.int p0), .val (.int p1), .val (.int p2), .val (.int p3), .val (.int p4), .val (.int p5), .val (.int (3 : Int32)), .val (.int x0), .val (.int x1), .val (.int x2), .val (.int (own_pk p1 (3 : Int32) (239 : Int32) p5)), .val (.ref b53), .val (.int (0 : Int32)), .val (.int (0 : Int32))] [(.ref b53)])) rfl (by rw [hml]; rfl) (argsL := [(.ref b53)]) (rest := []) (lenOf pd_1 rfl) rfl (by show 2 * 0 + _ ≤ _; exact Nat.le_of_eq rfl) (hb hby at_170) (fun _ _ => ⟨rfl, e63, (by decide : 1 + 0 ≤ _), (by decide : 3 + 0 ≤ _)⟩)
          dsimp only [Pt.U, Pt.locs, Pt.cells, Pt.slots] at X78 l78 y78 z78 st78 hQ78
          subst l78 y78 z78
          obtain ⟨rfl, N78q, e78⟩ := hQ78
          have N78 := Fr.app N63 N78q
          have c80 : ∀ t, Steps p.tables e below (T78.setTop (mkF m 175 #[.val (.int p0), .val (.int p1), .val (.int p2), .val (.int p3), .val (.int p4), .val (.int p5), .val (.int (3 : Int32)), .val (.int x0), .val (.int x1), .val (.int x2), .val (.int (own_pk p1 (3 : Int32) (239 : Int32) p5)), .val (.ref b53), .val (.int (0 : Int32)), .val (.int (0 : Int32))] [(.int (0 : Int32)), (.int (own_st (x0.toInt8.toInt32) (x1.toInt8.toInt32) (x2.toInt8.toInt32)))])) t → Steps p.tables e below (T78.setTop (mkF m 173 #[.val (.int p0), .val (.int p1), .val (.int p2), .val (.int p3), .val (.int p4), .val (.int p5), .val (.int (3 : Int32)), .val (.int x0), .val (.int x1), .val (.int x2), .val (.int (own_pk p1 (3 : Int32) (239 : Int32) p5)), .val (.ref b53), .val (.int (0 : Int32)), .val (.int (0 : Int32))] [(.int (own_st (x0.toInt8.toInt32) (x1.toInt8.toInt32) (x2.toInt8.toInt32)))])) t := by
            intro t kt
            show Steps p.tables e below (T78.setTop (mkF m 173 #[.val (.int p0), .val (.int p1), .val (.int p2), .val (.int p3), .val (.int p4), .val (.int p5), .val (.int (3 : Int32)), .val (.int x0), .val (.int x1), .val (.int x2), .val (.int (own_pk p1 (3 : Int32) (239 : Int32) p5)), .val (.ref b53), .val (.int (0 : Int32)), .val (.int (0 : Int32))] [(.int (own_st (x0.toInt8.toInt32) (x1.toInt8.toInt32) (x2.toInt8.toInt32)))])) _
            refine XS.iload X78.here hx rfl (hb hby at_173) rfl ?_
            exact kt
          have hd79 : (own_st (x0.toInt8.toInt32) (x1.toInt8.toInt32) (x2.toInt8.toInt32)) = (0 : Int32) := by unfold own_st; rw [if_neg (fun k => hc146 ((own_m x2 191 (-65) rx2 (by decide) (by decide)).mpr k.2.2))]
          have c81 : ∀ t, Steps p.tables e below (T78.setTop (mkF m 183 #[.val (.int p0), .val (.int p1), .val (.int p2), .val (.int p3), .val (.int p4), .val (.int p5), .val (.int (3 : Int32)), .val (.int x0), .val (.int x1), .val (.int x2), .val (.int (own_pk p1 (3 : Int32) (239 : Int32) p5)), .val (.ref b53), .val (.int (0 : Int32)), .val (.int (0 : Int32))] [(.int (1 : Int32))])) t → Steps p.tables e below (T78.setTop (mkF m 175 #[.val (.int p0), .val (.int p1), .val (.int p2), .val (.int p3), .val (.int p4), .val (.int p5), .val (.int (3 : Int32)), .val (.int x0), .val (.int x1), .val (.int x2), .val (.int (own_pk p1 (3 : Int32) (239 : Int32) p5)), .val (.ref b53), .val (.int (0 : Int32)), .val (.int (0 : Int32))] [(.int (0 : Int32)), (.int (own_st (x0.toInt8.toInt32) (x1.toInt8.toInt32) (x2.toInt8.toInt32)))])) t := by
            intro t kt
            show Steps p.tables e below (T78.setTop (mkF m 175 #[.val (.int p0), .val (.int p1), .val (.int p2), .val (.int p3), .val (.int p4), .val (.int p5), .val (.int (3 : Int32)), .val (.int x0), .val (.int x1), .val (.int x2), .val (.int (own_pk p1 (3 : Int32) (239 : Int32) p5)), .val (.ref b53), .val (.int (0 : Int32)), .val (.int (0 : Int32))] [(.int (0 : Int32)), (.int (own_st (x0.toInt8.toInt32) (x1.toInt8.toInt32) (x2.toInt8.toInt32)))])) _
            refine XS.icmpNo X78.here hx rfl (hb hby at_175) rfl (teq (hd79)).2 ?_
            show Steps p.tables e below (T78.setTop (mkF m 178 #[.val (.int p0), .val (.int p1), .val (.int p2), .val (.int p3), .val (.int p4), .val (.int p5), .val (.int (3 : Int32)), .val (.int x0), .val (.int x1), .val (.int x2), .val (.int (own_pk p1 (3 : Int32) (239 : Int32) p5)), .val (.ref b53), .val (.int (0 : Int32)), .val (.int (0 : Int32))] [])) _
            refine XS.iconst X78.here hx rfl (hb hby at_178) ?_
            show Steps p.tables e below (T78.setTop (mkF m 179 #[.val (.int p0), .val (.int p1), .val (.int p2), .val (.int p3), .val (.int p4), .val (.int p5), .val (.int (3 : Int32)), .val (.int x0), .val (.int x1), .val (.int x2), .val (.int (own_pk p1 (3 : Int32) (239 : Int32) p5)), .val (.ref b53), .val (.int (0 : Int32)), .val (.int (0 : Int32))] [(.int (1 : Int32))])) _
            refine XS.goto X78.here hx rfl (pc0 := 179) (pc' := 183) rfl (hb hby at_179) (by decide) (by decide) ?_
            exact kt
          obtain ⟨fs, hr, hrun, hended, hW, hsame⟩ := X78.leave (v := some (.int (1 : Int32))) (fun h => by rw [Bd.returns] at h; cases h)
          refine ⟨_, _, pre0 _ (c1 _ (st2 _ (c3 _ (c4 _ (c5 _ (st6 _ (c7 _ (c8 _ (c9 _ (st10 _ (c11 _ (c12 _ (c13 _ (st14 _ (c15 _ (c52 _ (c54 _ (st53 _ (c55 _ (st57 _ (c58 _ (st60 _ (c61 _ (st63 _ (c64 _ (c65 _ (c66 _ (c75 _ (st78 _ (c80 _ (c81 _ (?_)))))))))))))))))))))))))))))))), hrun, hended, _, _, rfl, ?_, ⟨_, rfl⟩, hW, hsame.mono (by decide) (by decide)⟩
          · show Steps p.tables e below (T78.setTop (mkF m 183 #[.val (.int p0), .val (.int p1), .val (.int p2), .val (.int p3), .val (.int p4), .val (.int p5), .val (.int (3 : Int32)), .val (.int x0), .val (.int x1), .val (.int x2), .val (.int (own_pk p1 (3 : Int32) (239 : Int32) p5)), .val (.ref b53), .val (.int (0 : Int32)), .val (.int (0 : Int32))] [(.int (1 : Int32))])) _
            exact retN X78 hx (t := .boolean) Bd.returns (by simp) (hb hby at_183) hr
          · show Q0 Z p0 p1 p2 p3 p4 p5 rm km h0 n0 _ T78.heap _
            rw [e78]
            exact ⟨congrArg (fun z => some (Value.int z)) (show (1 : Int32) = (1 : Int32) from by rfl), N78⟩
      · -- it isn't
        have c83 : ∀ t, Steps p.tables e below (T63.setTop (mkF m 170 #[.val (.int p0), .val (.int p1), .val (.int p2), .val (.int p3), .val (.int p4), .val (.int p5), .val (.int (3 : Int32)), .val (.int x0), .val (.int x1), .val (.int x2), .val (.int (own_pk p1 (3 : Int32) (239 : Int32) p5)), .val (.ref b53), .val (.int (0 : Int32)), .val (.int (0 : Int32))] [(.ref b53)])) t → Steps p.tables e below (T63.setTop (mkF m 134 #[.val (.int p0), .val (.int p1), .val (.int p2), .val (.int p3), .val (.int p4), .val (.int p5), .val (.int (3 : Int32)), .val (.int x0), .val (.int x1), .val (.int x2), .val (.int (own_pk p1 (3 : Int32) (239 : Int32) p5)), .val (.ref b53), .unset, .unset] [(.int (187 : Int32)), (.int (x1 &&& (255 : Int32)))])) t := by
          intro t kt
          show Steps p.tables e below (T63.setTop (mkF m 134 #[.val (.int p0), .val (.int p1), .val (.int p2), .val (.int p3), .val (.int p4), .val (.int p5), .val (.int (3 : Int32)), .val (.int x0), .val (.int x1), .val (.int x2), .val (.int (own_pk p1 (3 : Int32) (239 : Int32) p5)), .val (.ref b53), .unset, .unset] [(.int (187 : Int32)), (.int (x1 &&& (255 : Int32)))])) _
          refine XS.icmpYes X63.here hx rfl (pc0 := 134) (pc' := 153) rfl (hb hby at_134) rfl (feq hc134).2 (by decide) (by decide) ?_
          show Steps p.tables e below (T63.setTop (mkF m 153 #[.val (.int p0), .val (.int p1), .val (.int p2), .val (.int p3), .val (.int p4), .val (.int p5), .val (.int (3 : Int32)), .val (.int x0), .val (.int x1), .val (.int x2), .val (.int (own_pk p1 (3 : Int32) (239 : Int32) p5)), .val (.ref b53), .unset, .unset] [])) _
          refine XS.iconst X63.here hx rfl (hb hby at_153) ?_
          show Steps p.tables e below (T63.setTop (mkF m 154 #[.val (.int p0), .val (.int p1), .val (.int p2), .val (.int p3), .val (.int p4), .val (.int p5), .val (.int (3 : Int32)), .val (.int x0), .val (.int x1), .val (.int x2), .val (.int (own_pk p1 (3 : Int32) (239 : Int32) p5)), .val (.ref b53), .unset, .unset] [(.int (0 : Int32))])) _
          refine XS.istore X63.here hx rfl (hb hby at_154) rfl (l' := #[.val (.int p0), .val (.int p1), .val (.int p2), .val (.int p3), .val (.int p4), .val (.int p5), .val (.int (3 : Int32)), .val (.int x0), .val (.int x1), .val (.int x2), .val (.int (own_pk p1 (3 : Int32) (239 : Int32) p5)), .val (.ref b53), .val (.int (0 : Int32)), .unset]) rfl ?_
          show Steps p.tables e below (T63.setTop (mkF m 156 #[.val (.int p0), .val (.int p1), .val (.int p2), .val (.int p3), .val (.int p4), .val (.int p5), .val (.int (3 : Int32)), .val (.int x0), .val (.int x1), .val (.int x2), .val (.int (own_pk p1 (3 : Int32) (239 : Int32) p5)), .val (.ref b53), .val (.int (0 : Int32)), .unset] [])) _
          refine XS.iload X63.here hx rfl (hb hby at_156) rfl ?_
          show Steps p.tables e below (T63.setTop (mkF m 158 #[.val (.int p0), .val (.int p1), .val (.int p2), .val (.int p3), .val (.int p4), .val (.int p5), .val (.int (3 : Int32)), .val (.int x0), .val (.int x1), .val (.int x2), .val (.int (own_pk p1 (3 : Int32) (239 : Int32) p5)), .val (.ref b53), .val (.int (0 : Int32)), .unset] [(.int (0 : Int32))])) _
          refine XS.ifYes X63.here hx rfl (pc0 := 158) (pc' := 165) rfl (hb hby at_158) rfl ((if0 _ _).trans (teq (by decide : (0 : Int32) = (0 : Int32))).1) (by decide) (by decide) ?_
          show Steps p.tables e below (T63.setTop (mkF m 165 #[.val (.int p0), .val (.int p1), .val (.int p2), .val (.int p3), .val (.int p4), .val (.int p5), .val (.int (3 : Int32)), .val (.int x0), .val (.int x1), .val (.int x2), .val (.int (own_pk p1 (3 : Int32) (239 : Int32) p5)), .val (.ref b53), .val (.int (0 : Int32)), .unset] [])) _
          refine XS.iconst X63.here hx rfl (hb hby at_165) ?_
          show Steps p.tables e below (T63.setTop (mkF m 166 #[.val (.int p0), .val (.int p1), .val (.int p2), .val (.int p3), .val (.int p4), .val (.int p5), .val (.int (3 : Int32)), .val (.int x0), .val (.int x1), .val (.int x2), .val (.int (own_pk p1 (3 : Int32) (239 : Int32) p5)), .val (.ref b53), .val (.int (0 : Int32)), .unset] [(.int (0 : Int32))])) _
          refine XS.istore X63.here hx rfl (hb hby at_166) rfl (l' := #[.val (.int p0), .val (.int p1), .val (.int p2), .val (.int p3), .val (.int p4), .val (.int p5), .val (.int (3 : Int32)), .val (.int x0), .val (.int x1), .val (.int x2), .val (.int (own_pk p1 (3 : Int32) (239 : Int32) p5)), .val (.ref b53), .val (.int (0 : Int32)), .val (.int (0 : Int32))]) rfl ?_
          show Steps p.tables e below (T63.setTop (mkF m 168 #[.val (.int p0), .val (.int p1), .val (.int p2), .val (.int p3), .val (.int p4), .val (.int p5), .val (.int (3 : Int32)), .val (.int x0), .val (.int x1), .val (.int x2), .val (.int (own_pk p1 (3 : Int32) (239 : Int32) p5)), .val (.ref b53), .val (.int (0 : Int32)), .val (.int (0 : Int32))] [])) _
          refine XS.aload X63.here hx rfl (hb hby at_168) rfl rfl ?_
          exact kt
        have f84 := (Nat.le_trans (Nat.le_trans (Nat.le_trans (Nat.le_trans Z0 E53.1) (Keep.of_wr W57).1) (Keep.of_wr W60).1) (Keep.of_wr W63).1)
        have f85 := ((((O0.ext E53).wr W57 g_b53).wr W60 g_b53).wr W63 g_b53)
        obtain ⟨_, _, ⟨T86, L86, k86, n86⟩, -, X86, ⟨Lc86, hQ86, l86, y86, z86⟩, st86⟩ := Jvm.LawKit.callS X63 hx (y := (⟨"com/example/ratewright/ratewright/io/Utf8Text", "start", "([B)I"⟩ : MethodName)) hown (mvT hZ (hw _ (List.mem_of_getElem? (i := 6) rfl))) (mvT hZ (hw _ (List.mem_of_getElem? (i := 7) rfl))) (mvT hZ (hw _ (List.mem_of_getElem? (i := 8) rfl))) (mvT hZ (hw _ (List.mem_of_getElem? (i := 9) rfl))) (by decide) (backOf (W := 0) (rm2_3 l Z a0 hw [] b53 k53 (x0.toInt8.toInt32) (x1.toInt8.toInt32) (x2.toInt8.toInt32) rm km h63 n0 f84 V63 (SB.ext f85.2) (VB.ext f85.2)) hZ (hw _ (List.mem_of_getElem? (i := 9) rfl)) (hw _ (List.mem_of_getElem? (i := 8) rfl)) (by decide) (by decide)) (g := (mkF m 170 #[.val (.int p0), .val (.int p1), .val (.int p2), .val (.int p3), .val (.int p4), .val (.int p5), .val (.int (3 : Int32)), .val (.int x0), .val (.int x1), .val (.int x2), .val (.int (own_pk p1 (3 : Int32) (239 : Int32) p5)), .val (.ref b53), .val (.int (0 : Int32)), .val (.int (0 : Int32))] [(.ref b53)])) rfl (by rw [hml]; rfl) (argsL := [(.ref b53)]) (rest := []) (lenOf pd_1 rfl) rfl (by show 2 * 0 + _ ≤ _; exact Nat.le_of_eq rfl) (hb hby at_170) (fun _ _ => ⟨rfl, e63, (by decide : 1 + 0 ≤ _), (by decide : 3 + 0 ≤ _)⟩)
        dsimp only [Pt.U, Pt.locs, Pt.cells, Pt.slots] at X86 l86 y86 z86 st86 hQ86
        subst l86 y86 z86
        obtain ⟨rfl, N86q, e86⟩ := hQ86
        have N86 := Fr.app N63 N86q
        have c88 : ∀ t, Steps p.tables e below (T86.setTop (mkF m 175 #[.val (.int p0), .val (.int p1), .val (.int p2), .val (.int p3), .val (.int p4), .val (.int p5), .val (.int (3 : Int32)), .val (.int x0), .val (.int x1), .val (.int x2), .val (.int (own_pk p1 (3 : Int32) (239 : Int32) p5)), .val (.ref b53), .val (.int (0 : Int32)), .val (.int (0 : Int32))] [(.int (0 : Int32)), (.int (own_st (x0.toInt8.toInt32) (x1.toInt8.toInt32) (x2.toInt8.toInt32)))])) t → Steps p.tables e below (T86.setTop (mkF m 173 #[.val (.int p0), .val (.int p1), .val (.int p2), .val (.int p3), .val (.int p4), .val (.int p5), .val (.int (3 : Int32)), .val (.int x0), .val (.int x1), .val (.int x2), .val (.int (own_pk p1 (3 : Int32) (239 : Int32) p5)), .val (.ref b53), .val (.int (0 : Int32)), .val (.int (0 : Int32))] [(.int (own_st (x0.toInt8.toInt32) (x1.toInt8.toInt32) (x2.toInt8.toInt32)))])) t := by
          intro t kt
          show Steps p.tables e below (T86.setTop (mkF m 173 #[.val (.int p0), .val (.int p1), .val (.int p2), .val (.int p3), .val (.int p4), .val (.int p5), .val (.int (3 : Int32)), .val (.int x0), .val (.int x1), .val (.int x2), .val (.int (own_pk p1 (3 : Int32) (239 : Int32) p5)), .val (.ref b53), .val (.int (0 : Int32)), .val (.int (0 : Int32))] [(.int (own_st (x0.toInt8.toInt32) (x1.toInt8.toInt32) (x2.toInt8.toInt32)))])) _
          refine XS.iload X86.here hx rfl (hb hby at_173) rfl ?_
          exact kt
        have hd87 : (own_st (x0.toInt8.toInt32) (x1.toInt8.toInt32) (x2.toInt8.toInt32)) = (0 : Int32) := by unfold own_st; rw [if_neg (fun k => hc134 ((own_m x1 187 (-69) rx1 (by decide) (by decide)).mpr k.2.1))]
        have c89 : ∀ t, Steps p.tables e below (T86.setTop (mkF m 183 #[.val (.int p0), .val (.int p1), .val (.int p2), .val (.int p3), .val (.int p4), .val (.int p5), .val (.int (3 : Int32)), .val (.int x0), .val (.int x1), .val (.int x2), .val (.int (own_pk p1 (3 : Int32) (239 : Int32) p5)), .val (.ref b53), .val (.int (0 : Int32)), .val (.int (0 : Int32))] [(.int (1 : Int32))])) t → Steps p.tables e below (T86.setTop (mkF m 175 #[.val (.int p0), .val (.int p1), .val (.int p2), .val (.int p3), .val (.int p4), .val (.int p5), .val (.int (3 : Int32)), .val (.int x0), .val (.int x1), .val (.int x2), .val (.int (own_pk p1 (3 : Int32) (239 : Int32) p5)), .val (.ref b53), .val (.int (0 : Int32)), .val (.int (0 : Int32))] [(.int (0 : Int32)), (.int (own_st (x0.toInt8.toInt32) (x1.toInt8.toInt32) (x2.toInt8.toInt32)))])) t := by
          intro t kt
          show Steps p.tables e below (T86.setTop (mkF m 175 #[.val (.int p0), .val (.int p1), .val (.int p2), .val (.int p3), .val (.int p4), .val (.int p5), .val (.int (3 : Int32)), .val (.int x0), .val (.int x1), .val (.int x2), .val (.int (own_pk p1 (3 : Int32) (239 : Int32) p5)), .val (.ref b53), .val (.int (0 : Int32)), .val (.int (0 : Int32))] [(.int (0 : Int32)), (.int (own_st (x0.toInt8.toInt32) (x1.toInt8.toInt32) (x2.toInt8.toInt32)))])) _
          refine XS.icmpNo X86.here hx rfl (hb hby at_175) rfl (teq (hd87)).2 ?_
          show Steps p.tables e below (T86.setTop (mkF m 178 #[.val (.int p0), .val (.int p1), .val (.int p2), .val (.int p3), .val (.int p4), .val (.int p5), .val (.int (3 : Int32)), .val (.int x0), .val (.int x1), .val (.int x2), .val (.int (own_pk p1 (3 : Int32) (239 : Int32) p5)), .val (.ref b53), .val (.int (0 : Int32)), .val (.int (0 : Int32))] [])) _
          refine XS.iconst X86.here hx rfl (hb hby at_178) ?_
          show Steps p.tables e below (T86.setTop (mkF m 179 #[.val (.int p0), .val (.int p1), .val (.int p2), .val (.int p3), .val (.int p4), .val (.int p5), .val (.int (3 : Int32)), .val (.int x0), .val (.int x1), .val (.int x2), .val (.int (own_pk p1 (3 : Int32) (239 : Int32) p5)), .val (.ref b53), .val (.int (0 : Int32)), .val (.int (0 : Int32))] [(.int (1 : Int32))])) _
          refine XS.goto X86.here hx rfl (pc0 := 179) (pc' := 183) rfl (hb hby at_179) (by decide) (by decide) ?_
          exact kt
        obtain ⟨fs, hr, hrun, hended, hW, hsame⟩ := X86.leave (v := some (.int (1 : Int32))) (fun h => by rw [Bd.returns] at h; cases h)
        refine ⟨_, _, pre0 _ (c1 _ (st2 _ (c3 _ (c4 _ (c5 _ (st6 _ (c7 _ (c8 _ (c9 _ (st10 _ (c11 _ (c12 _ (c13 _ (st14 _ (c15 _ (c52 _ (c54 _ (st53 _ (c55 _ (st57 _ (c58 _ (st60 _ (c61 _ (st63 _ (c64 _ (c65 _ (c83 _ (st86 _ (c88 _ (c89 _ (?_))))))))))))))))))))))))))))))), hrun, hended, _, _, rfl, ?_, ⟨_, rfl⟩, hW, hsame.mono (by decide) (by decide)⟩
        · show Steps p.tables e below (T86.setTop (mkF m 183 #[.val (.int p0), .val (.int p1), .val (.int p2), .val (.int p3), .val (.int p4), .val (.int p5), .val (.int (3 : Int32)), .val (.int x0), .val (.int x1), .val (.int x2), .val (.int (own_pk p1 (3 : Int32) (239 : Int32) p5)), .val (.ref b53), .val (.int (0 : Int32)), .val (.int (0 : Int32))] [(.int (1 : Int32))])) _
          exact retN X86 hx (t := .boolean) Bd.returns (by simp) (hb hby at_183) hr
        · show Q0 Z p0 p1 p2 p3 p4 p5 rm km h0 n0 _ T86.heap _
          rw [e86]
          exact ⟨congrArg (fun z => some (Value.int z)) (show (1 : Int32) = (1 : Int32) from by rfl), N86⟩
    · -- it isn't
      have c91 : ∀ t, Steps p.tables e below (T63.setTop (mkF m 170 #[.val (.int p0), .val (.int p1), .val (.int p2), .val (.int p3), .val (.int p4), .val (.int p5), .val (.int (3 : Int32)), .val (.int x0), .val (.int x1), .val (.int x2), .val (.int (own_pk p1 (3 : Int32) (239 : Int32) p5)), .val (.ref b53), .val (.int (0 : Int32)), .val (.int (0 : Int32))] [(.ref b53)])) t → Steps p.tables e below (T63.setTop (mkF m 122 #[.val (.int p0), .val (.int p1), .val (.int p2), .val (.int p3), .val (.int p4), .val (.int p5), .val (.int (3 : Int32)), .val (.int x0), .val (.int x1), .val (.int x2), .val (.int (own_pk p1 (3 : Int32) (239 : Int32) p5)), .val (.ref b53), .unset, .unset] [(.int (239 : Int32)), (.int (x0 &&& (255 : Int32)))])) t := by
        intro t kt
        show Steps p.tables e below (T63.setTop (mkF m 122 #[.val (.int p0), .val (.int p1), .val (.int p2), .val (.int p3), .val (.int p4), .val (.int p5), .val (.int (3 : Int32)), .val (.int x0), .val (.int x1), .val (.int x2), .val (.int (own_pk p1 (3 : Int32) (239 : Int32) p5)), .val (.ref b53), .unset, .unset] [(.int (239 : Int32)), (.int (x0 &&& (255 : Int32)))])) _
        refine XS.icmpYes X63.here hx rfl (pc0 := 122) (pc' := 153) rfl (hb hby at_122) rfl (feq hc122).2 (by decide) (by decide) ?_
        show Steps p.tables e below (T63.setTop (mkF m 153 #[.val (.int p0), .val (.int p1), .val (.int p2), .val (.int p3), .val (.int p4), .val (.int p5), .val (.int (3 : Int32)), .val (.int x0), .val (.int x1), .val (.int x2), .val (.int (own_pk p1 (3 : Int32) (239 : Int32) p5)), .val (.ref b53), .unset, .unset] [])) _
        refine XS.iconst X63.here hx rfl (hb hby at_153) ?_
        show Steps p.tables e below (T63.setTop (mkF m 154 #[.val (.int p0), .val (.int p1), .val (.int p2), .val (.int p3), .val (.int p4), .val (.int p5), .val (.int (3 : Int32)), .val (.int x0), .val (.int x1), .val (.int x2), .val (.int (own_pk p1 (3 : Int32) (239 : Int32) p5)), .val (.ref b53), .unset, .unset] [(.int (0 : Int32))])) _
        refine XS.istore X63.here hx rfl (hb hby at_154) rfl (l' := #[.val (.int p0), .val (.int p1), .val (.int p2), .val (.int p3), .val (.int p4), .val (.int p5), .val (.int (3 : Int32)), .val (.int x0), .val (.int x1), .val (.int x2), .val (.int (own_pk p1 (3 : Int32) (239 : Int32) p5)), .val (.ref b53), .val (.int (0 : Int32)), .unset]) rfl ?_
        show Steps p.tables e below (T63.setTop (mkF m 156 #[.val (.int p0), .val (.int p1), .val (.int p2), .val (.int p3), .val (.int p4), .val (.int p5), .val (.int (3 : Int32)), .val (.int x0), .val (.int x1), .val (.int x2), .val (.int (own_pk p1 (3 : Int32) (239 : Int32) p5)), .val (.ref b53), .val (.int (0 : Int32)), .unset] [])) _
        refine XS.iload X63.here hx rfl (hb hby at_156) rfl ?_
        show Steps p.tables e below (T63.setTop (mkF m 158 #[.val (.int p0), .val (.int p1), .val (.int p2), .val (.int p3), .val (.int p4), .val (.int p5), .val (.int (3 : Int32)), .val (.int x0), .val (.int x1), .val (.int x2), .val (.int (own_pk p1 (3 : Int32) (239 : Int32) p5)), .val (.ref b53), .val (.int (0 : Int32)), .unset] [(.int (0 : Int32))])) _
        refine XS.ifYes X63.here hx rfl (pc0 := 158) (pc' := 165) rfl (hb hby at_158) rfl ((if0 _ _).trans (teq (by decide : (0 : Int32) = (0 : Int32))).1) (by decide) (by decide) ?_
        show Steps p.tables e below (T63.setTop (mkF m 165 #[.val (.int p0), .val (.int p1), .val (.int p2), .val (.int p3), .val (.int p4), .val (.int p5), .val (.int (3 : Int32)), .val (.int x0), .val (.int x1), .val (.int x2), .val (.int (own_pk p1 (3 : Int32) (239 : Int32) p5)), .val (.ref b53), .val (.int (0 : Int32)), .unset] [])) _
        refine XS.iconst X63.here hx rfl (hb hby at_165) ?_
        show Steps p.tables e below (T63.setTop (mkF m 166 #[.val (.int p0), .val (.int p1), .val (.int p2), .val (.int p3), .val (.int p4), .val (.int p5), .val (.int (3 : Int32)), .val (.int x0), .val (.int x1), .val (.int x2), .val (.int (own_pk p1 (3 : Int32) (239 : Int32) p5)), .val (.ref b53), .val (.int (0 : Int32)), .unset] [(.int (0 : Int32))])) _
        refine XS.istore X63.here hx rfl (hb hby at_166) rfl (l' := #[.val (.int p0), .val (.int p1), .val (.int p2), .val (.int p3), .val (.int p4), .val (.int p5), .val (.int (3 : Int32)), .val (.int x0), .val (.int x1), .val (.int x2), .val (.int (own_pk p1 (3 : Int32) (239 : Int32) p5)), .val (.ref b53), .val (.int (0 : Int32)), .val (.int (0 : Int32))]) rfl ?_
        show Steps p.tables e below (T63.setTop (mkF m 168 #[.val (.int p0), .val (.int p1), .val (.int p2), .val (.int p3), .val (.int p4), .val (.int p5), .val (.int (3 : Int32)), .val (.int x0), .val (.int x1), .val (.int x2), .val (.int (own_pk p1 (3 : Int32) (239 : Int32) p5)), .val (.ref b53), .val (.int (0 : Int32)), .val (.int (0 : Int32))] [])) _
        refine XS.aload X63.here hx rfl (hb hby at_168) rfl rfl ?_
        exact kt
      have f92 := (Nat.le_trans (Nat.le_trans (Nat.le_trans (Nat.le_trans Z0 E53.1) (Keep.of_wr W57).1) (Keep.of_wr W60).1) (Keep.of_wr W63).1)
      have f93 := ((((O0.ext E53).wr W57 g_b53).wr W60 g_b53).wr W63 g_b53)
      obtain ⟨_, _, ⟨T94, L94, k94, n94⟩, -, X94, ⟨Lc94, hQ94, l94, y94, z94⟩, st94⟩ := Jvm.LawKit.callS X63 hx (y := (⟨"com/example/ratewright/ratewright/io/Utf8Text", "start", "([B)I"⟩ : MethodName)) hown (mvT hZ (hw _ (List.mem_of_getElem? (i := 6) rfl))) (mvT hZ (hw _ (List.mem_of_getElem? (i := 7) rfl))) (mvT hZ (hw _ (List.mem_of_getElem? (i := 8) rfl))) (mvT hZ (hw _ (List.mem_of_getElem? (i := 9) rfl))) (by decide) (backOf (W := 0) (rm2_3 l Z a0 hw [] b53 k53 (x0.toInt8.toInt32) (x1.toInt8.toInt32) (x2.toInt8.toInt32) rm km h63 n0 f92 V63 (SB.ext f93.2) (VB.ext f93.2)) hZ (hw _ (List.mem_of_getElem? (i := 9) rfl)) (hw _ (List.mem_of_getElem? (i := 8) rfl)) (by decide) (by decide)) (g := (mkF m 170 #[.val (.int p0), .val (.int p1), .val (.int p2), .val (.int p3), .val (.int p4), .val (.int p5), .val (.int (3 : Int32)), .val (.int x0), .val (.int x1), .val (.int x2), .val (.int (own_pk p1 (3 : Int32) (239 : Int32) p5)), .val (.ref b53), .val (.int (0 : Int32)), .val (.int (0 : Int32))] [(.ref b53)])) rfl (by rw [hml]; rfl) (argsL := [(.ref b53)]) (rest := []) (lenOf pd_1 rfl) rfl (by show 2 * 0 + _ ≤ _; exact Nat.le_of_eq rfl) (hb hby at_170) (fun _ _ => ⟨rfl, e63, (by decide : 1 + 0 ≤ _), (by decide : 3 + 0 ≤ _)⟩)
      dsimp only [Pt.U, Pt.locs, Pt.cells, Pt.slots] at X94 l94 y94 z94 st94 hQ94
      subst l94 y94 z94
      obtain ⟨rfl, N94q, e94⟩ := hQ94
      have N94 := Fr.app N63 N94q
      have c96 : ∀ t, Steps p.tables e below (T94.setTop (mkF m 175 #[.val (.int p0), .val (.int p1), .val (.int p2), .val (.int p3), .val (.int p4), .val (.int p5), .val (.int (3 : Int32)), .val (.int x0), .val (.int x1), .val (.int x2), .val (.int (own_pk p1 (3 : Int32) (239 : Int32) p5)), .val (.ref b53), .val (.int (0 : Int32)), .val (.int (0 : Int32))] [(.int (0 : Int32)), (.int (own_st (x0.toInt8.toInt32) (x1.toInt8.toInt32) (x2.toInt8.toInt32)))])) t → Steps p.tables e below (T94.setTop (mkF m 173 #[.val (.int p0), .val (.int p1), .val (.int p2), .val (.int p3), .val (.int p4), .val (.int p5), .val (.int (3 : Int32)), .val (.int x0), .val (.int x1), .val (.int x2), .val (.int (own_pk p1 (3 : Int32) (239 : Int32) p5)), .val (.ref b53), .val (.int (0 : Int32)), .val (.int (0 : Int32))] [(.int (own_st (x0.toInt8.toInt32) (x1.toInt8.toInt32) (x2.toInt8.toInt32)))])) t := by
        intro t kt
        show Steps p.tables e below (T94.setTop (mkF m 173 #[.val (.int p0), .val (.int p1), .val (.int p2), .val (.int p3), .val (.int p4), .val (.int p5), .val (.int (3 : Int32)), .val (.int x0), .val (.int x1), .val (.int x2), .val (.int (own_pk p1 (3 : Int32) (239 : Int32) p5)), .val (.ref b53), .val (.int (0 : Int32)), .val (.int (0 : Int32))] [(.int (own_st (x0.toInt8.toInt32) (x1.toInt8.toInt32) (x2.toInt8.toInt32)))])) _
        refine XS.iload X94.here hx rfl (hb hby at_173) rfl ?_
        exact kt
      have hd95 : (own_st (x0.toInt8.toInt32) (x1.toInt8.toInt32) (x2.toInt8.toInt32)) = (0 : Int32) := by unfold own_st; rw [if_neg (fun k => hc122 ((own_m x0 239 (-17) rx0 (by decide) (by decide)).mpr k.1))]
      have c97 : ∀ t, Steps p.tables e below (T94.setTop (mkF m 183 #[.val (.int p0), .val (.int p1), .val (.int p2), .val (.int p3), .val (.int p4), .val (.int p5), .val (.int (3 : Int32)), .val (.int x0), .val (.int x1), .val (.int x2), .val (.int (own_pk p1 (3 : Int32) (239 : Int32) p5)), .val (.ref b53), .val (.int (0 : Int32)), .val (.int (0 : Int32))] [(.int (1 : Int32))])) t → Steps p.tables e below (T94.setTop (mkF m 175 #[.val (.int p0), .val (.int p1), .val (.int p2), .val (.int p3), .val (.int p4), .val (.int p5), .val (.int (3 : Int32)), .val (.int x0), .val (.int x1), .val (.int x2), .val (.int (own_pk p1 (3 : Int32) (239 : Int32) p5)), .val (.ref b53), .val (.int (0 : Int32)), .val (.int (0 : Int32))] [(.int (0 : Int32)), (.int (own_st (x0.toInt8.toInt32) (x1.toInt8.toInt32) (x2.toInt8.toInt32)))])) t := by
        intro t kt
        show Steps p.tables e below (T94.setTop (mkF m 175 #[.val (.int p0), .val (.int p1), .val (.int p2), .val (.int p3), .val (.int p4), .val (.int p5), .val (.int (3 : Int32)), .val (.int x0), .val (.int x1), .val (.int x2), .val (.int (own_pk p1 (3 : Int32) (239 : Int32) p5)), .val (.ref b53), .val (.int (0 : Int32)), .val (.int (0 : Int32))] [(.int (0 : Int32)), (.int (own_st (x0.toInt8.toInt32) (x1.toInt8.toInt32) (x2.toInt8.toInt32)))])) _
        refine XS.icmpNo X94.here hx rfl (hb hby at_175) rfl (teq (hd95)).2 ?_
        show Steps p.tables e below (T94.setTop (mkF m 178 #[.val (.int p0), .val (.int p1), .val (.int p2), .val (.int p3), .val (.int p4), .val (.int p5), .val (.int (3 : Int32)), .val (.int x0), .val (.int x1), .val (.int x2), .val (.int (own_pk p1 (3 : Int32) (239 : Int32) p5)), .val (.ref b53), .val (.int (0 : Int32)), .val (.int (0 : Int32))] [])) _
        refine XS.iconst X94.here hx rfl (hb hby at_178) ?_
        show Steps p.tables e below (T94.setTop (mkF m 179 #[.val (.int p0), .val (.int p1), .val (.int p2), .val (.int p3), .val (.int p4), .val (.int p5), .val (.int (3 : Int32)), .val (.int x0), .val (.int x1), .val (.int x2), .val (.int (own_pk p1 (3 : Int32) (239 : Int32) p5)), .val (.ref b53), .val (.int (0 : Int32)), .val (.int (0 : Int32))] [(.int (1 : Int32))])) _
        refine XS.goto X94.here hx rfl (pc0 := 179) (pc' := 183) rfl (hb hby at_179) (by decide) (by decide) ?_
        exact kt
      obtain ⟨fs, hr, hrun, hended, hW, hsame⟩ := X94.leave (v := some (.int (1 : Int32))) (fun h => by rw [Bd.returns] at h; cases h)
      refine ⟨_, _, pre0 _ (c1 _ (st2 _ (c3 _ (c4 _ (c5 _ (st6 _ (c7 _ (c8 _ (c9 _ (st10 _ (c11 _ (c12 _ (c13 _ (st14 _ (c15 _ (c52 _ (c54 _ (st53 _ (c55 _ (st57 _ (c58 _ (st60 _ (c61 _ (st63 _ (c64 _ (c91 _ (st94 _ (c96 _ (c97 _ (?_)))))))))))))))))))))))))))))), hrun, hended, _, _, rfl, ?_, ⟨_, rfl⟩, hW, hsame.mono (by decide) (by decide)⟩
      · show Steps p.tables e below (T94.setTop (mkF m 183 #[.val (.int p0), .val (.int p1), .val (.int p2), .val (.int p3), .val (.int p4), .val (.int p5), .val (.int (3 : Int32)), .val (.int x0), .val (.int x1), .val (.int x2), .val (.int (own_pk p1 (3 : Int32) (239 : Int32) p5)), .val (.ref b53), .val (.int (0 : Int32)), .val (.int (0 : Int32))] [(.int (1 : Int32))])) _
        exact retN X94 hx (t := .boolean) Bd.returns (by simp) (hb hby at_183) hr
      · show Q0 Z p0 p1 p2 p3 p4 p5 rm km h0 n0 _ T94.heap _
        rw [e94]
        exact ⟨congrArg (fun z => some (Value.int z)) (show (1 : Int32) = (1 : Int32) from by rfl), N94⟩
  · skip
    have c99 : ∀ t, Steps p.tables e below (T14.setTop (mkF m 54 #[.val (.int p0), .val (.int p1), .val (.int p2), .val (.int p3), .val (.int p4), .val (.int p5), .val (.int (4 : Int32)), .val (.int x0), .val (.int x1), .val (.int x2), .val (.int (own_pk p1 (3 : Int32) (239 : Int32) p5)), .unset, .unset, .unset] [])) t → Steps p.tables e below (T14.setTop (mkF m 54 #[.val (.int p0), .val (.int p1), .val (.int p2), .val (.int p3), .val (.int p4), .val (.int p5), .val (.int ((p0 &&& (2147483647 : Int32)) % (5 : Int32))), .val (.int x0), .val (.int x1), .val (.int x2), .val (.int (own_pk p1 (3 : Int32) (239 : Int32) p5)), .unset, .unset, .unset] [])) t := fun t kt => by rw [hln]; exact kt
    have c101 : ∀ t, Steps p.tables e below (T14.setTop (mkF m 56 #[.val (.int p0), .val (.int p1), .val (.int p2), .val (.int p3), .val (.int p4), .val (.int p5), .val (.int (4 : Int32)), .val (.int x0), .val (.int x1), .val (.int x2), .val (.int (own_pk p1 (3 : Int32) (239 : Int32) p5)), .unset, .unset, .unset] [(.int (4 : Int32))])) t → Steps p.tables e below (T14.setTop (mkF m 54 #[.val (.int p0), .val (.int p1), .val (.int p2), .val (.int p3), .val (.int p4), .val (.int p5), .val (.int (4 : Int32)), .val (.int x0), .val (.int x1), .val (.int x2), .val (.int (own_pk p1 (3 : Int32) (239 : Int32) p5)), .unset, .unset, .unset] [])) t := by
      intro t kt
      show Steps p.tables e below (T14.setTop (mkF m 54 #[.val (.int p0), .val (.int p1), .val (.int p2), .val (.int p3), .val (.int p4), .val (.int p5), .val (.int (4 : Int32)), .val (.int x0), .val (.int x1), .val (.int x2), .val (.int (own_pk p1 (3 : Int32) (239 : Int32) p5)), .unset, .unset, .unset] [])) _
      refine XS.iload X14.here hx rfl (hb hby at_54) rfl ?_
      exact kt
    obtain ⟨T100, h100, k100, X100, e100, E100, A100, st100⟩ := newP X14 hx hZ (hw _ (List.mem_of_getElem? (i := 5) rfl)) e14 (g := (mkF m 56 #[.val (.int p0), .val (.int p1), .val (.int p2), .val (.int p3), .val (.int p4), .val (.int p5), .val (.int (4 : Int32)), .val (.int x0), .val (.int x1), .val (.int x2), .val (.int (own_pk p1 (3 : Int32) (239 : Int32) p5)), .unset, .unset, .unset] [(.int (4 : Int32))])) rfl (hb hby at_56) rfl (by decide) (cap := 4) (by decide) (by decide) (by decide) (by decide)
    obtain ⟨b100, g100⟩ : ∃ z, z = h0.size := ⟨_, rfl⟩
    rw [← g100] at A100 st100
    have g_b100 : n0 ≤ b100 := Nat.le_trans Z0 (Nat.le_of_eq g100.symm)
    have sz_b100 : h0.size ≤ b100 := Nat.le_trans (Keep.refl h0 []).1 (Nat.le_of_eq g100.symm)
    have V100 : Arv Z h100 b100 k100 .byte (4 : Int32) [(.int (0 : Int32)), (.int (0 : Int32)), (.int (0 : Int32)), (.int (0 : Int32))] (.int (0 : Int32)) := (Arv.new A100 (by decide)).pad (pad_rep [] (.int (0 : Int32)) 4)
    have c102 : ∀ t, Steps p.tables e below (T100.setTop (mkF m 70 #[.val (.int p0), .val (.int p1), .val (.int p2), .val (.int p3), .val (.int p4), .val (.int p5), .val (.int (4 : Int32)), .val (.int x0), .val (.int x1), .val (.int x2), .val (.int (own_pk p1 (3 : Int32) (239 : Int32) p5)), .val (.ref b100), .unset, .unset] [(.int x0), (.int (0 : Int32)), (.ref b100)])) t → Steps p.tables e below (T100.setTop (mkF m 58 #[.val (.int p0), .val (.int p1), .val (.int p2), .val (.int p3), .val (.int p4), .val (.int p5), .val (.int (4 : Int32)), .val (.int x0), .val (.int x1), .val (.int x2), .val (.int (own_pk p1 (3 : Int32) (239 : Int32) p5)), .unset, .unset, .unset] [(.ref b100)])) t := by
      intro t kt
      show Steps p.tables e below (T100.setTop (mkF m 58 #[.val (.int p0), .val (.int p1), .val (.int p2), .val (.int p3), .val (.int p4), .val (.int p5), .val (.int (4 : Int32)), .val (.int x0), .val (.int x1), .val (.int x2), .val (.int (own_pk p1 (3 : Int32) (239 : Int32) p5)), .unset, .unset, .unset] [(.ref b100)])) _
      refine XS.astore X100.here hx rfl (hb hby at_58) rfl rfl (l' := #[.val (.int p0), .val (.int p1), .val (.int p2), .val (.int p3), .val (.int p4), .val (.int p5), .val (.int (4 : Int32)), .val (.int x0), .val (.int x1), .val (.int x2), .val (.int (own_pk p1 (3 : Int32) (239 : Int32) p5)), .val (.ref b100), .unset, .unset]) rfl ?_
      show Steps p.tables e below (T100.setTop (mkF m 60 #[.val (.int p0), .val (.int p1), .val (.int p2), .val (.int p3), .val (.int p4), .val (.int p5), .val (.int (4 : Int32)), .val (.int x0), .val (.int x1), .val (.int x2), .val (.int (own_pk p1 (3 : Int32) (239 : Int32) p5)), .val (.ref b100), .unset, .unset] [])) _
      refine XS.iload X100.here hx rfl (hb hby at_60) rfl ?_
      show Steps p.tables e below (T100.setTop (mkF m 62 #[.val (.int p0), .val (.int p1), .val (.int p2), .val (.int p3), .val (.int p4), .val (.int p5), .val (.int (4 : Int32)), .val (.int x0), .val (.int x1), .val (.int x2), .val (.int (own_pk p1 (3 : Int32) (239 : Int32) p5)), .val (.ref b100), .unset, .unset] [(.int (4 : Int32))])) _
      refine XS.ifNo X100.here hx rfl (hb hby at_62) rfl ((if0 _ _).trans (tlt (by decide : (0 : Int32) < (4 : Int32))).2.2.2) ?_
      show Steps p.tables e below (T100.setTop (mkF m 65 #[.val (.int p0), .val (.int p1), .val (.int p2), .val (.int p3), .val (.int p4), .val (.int p5), .val (.int (4 : Int32)), .val (.int x0), .val (.int x1), .val (.int x2), .val (.int (own_pk p1 (3 : Int32) (239 : Int32) p5)), .val (.ref b100), .unset, .unset] [])) _
      refine XS.aload X100.here hx rfl (hb hby at_65) rfl rfl ?_
      show Steps p.tables e below (T100.setTop (mkF m 67 #[.val (.int p0), .val (.int p1), .val (.int p2), .val (.int p3), .val (.int p4), .val (.int p5), .val (.int (4 : Int32)), .val (.int x0), .val (.int x1), .val (.int x2), .val (.int (own_pk p1 (3 : Int32) (239 : Int32) p5)), .val (.ref b100), .unset, .unset] [(.ref b100)])) _
      refine XS.iconst X100.here hx rfl (hb hby at_67) ?_
      show Steps p.tables e below (T100.setTop (mkF m 68 #[.val (.int p0), .val (.int p1), .val (.int p2), .val (.int p3), .val (.int p4), .val (.int p5), .val (.int (4 : Int32)), .val (.int x0), .val (.int x1), .val (.int x2), .val (.int (own_pk p1 (3 : Int32) (239 : Int32) p5)), .val (.ref b100), .unset, .unset] [(.int (0 : Int32)), (.ref b100)])) _
      refine XS.iload X100.here hx rfl (hb hby at_68) rfl ?_
      exact kt
    have Vc103 := V100
    obtain ⟨cl103, Ar103, qk103, S103, M103, H103, G103⟩ := Vc103
    have hin103 : ¬ ((0 : Int32) < 0 ∨ cl103.slots.size ≤ ((0 : Int32)).toNatClampNeg) := inb_of S103 ⟨by decide, by decide⟩
    obtain ⟨T104, h104, X104, e104, W104, st104⟩ := stB X100 hx hZ e100 Ar103 (j := (0 : Int32)) hin103 (g := (mkF m 70 #[.val (.int p0), .val (.int p1), .val (.int p2), .val (.int p3), .val (.int p4), .val (.int p5), .val (.int (4 : Int32)), .val (.int x0), .val (.int x1), .val (.int x2), .val (.int (own_pk p1 (3 : Int32) (239 : Int32) p5)), .val (.ref b100), .unset, .unset] [(.int x0), (.int (0 : Int32)), (.ref b100)])) rfl rfl (hb hby at_70)
    have V104 : Arv Z h104 b100 k100 .byte (4 : Int32) [(.int (x0.toInt8.toInt32)), (.int (0 : Int32)), (.int (0 : Int32)), (.int (0 : Int32))] (.int (0 : Int32)) := Arv.set Ar103 qk103 S103 M103 H103 G103 (fits_nar_byte _) W104 0 rfl (Nat.le_of_ble_eq_true rfl)
    have N104 := Fr.snoc X104 N14 g_b100
    have c105 : ∀ t, Steps p.tables e below (T104.setTop (mkF m 82 #[.val (.int p0), .val (.int p1), .val (.int p2), .val (.int p3), .val (.int p4), .val (.int p5), .val (.int (4 : Int32)), .val (.int x0), .val (.int x1), .val (.int x2), .val (.int (own_pk p1 (3 : Int32) (239 : Int32) p5)), .val (.ref b100), .unset, .unset] [(.int x1), (.int (1 : Int32)), (.ref b100)])) t → Steps p.tables e below (T104.setTop (mkF m 71 #[.val (.int p0), .val (.int p1), .val (.int p2), .val (.int p3), .val (.int p4), .val (.int p5), .val (.int (4 : Int32)), .val (.int x0), .val (.int x1), .val (.int x2), .val (.int (own_pk p1 (3 : Int32) (239 : Int32) p5)), .val (.ref b100), .unset, .unset] [])) t := by
      intro t kt
      show Steps p.tables e below (T104.setTop (mkF m 71 #[.val (.int p0), .val (.int p1), .val (.int p2), .val (.int p3), .val (.int p4), .val (.int p5), .val (.int (4 : Int32)), .val (.int x0), .val (.int x1), .val (.int x2), .val (.int (own_pk p1 (3 : Int32) (239 : Int32) p5)), .val (.ref b100), .unset, .unset] [])) _
      refine XS.iload X104.here hx rfl (hb hby at_71) rfl ?_
      show Steps p.tables e below (T104.setTop (mkF m 73 #[.val (.int p0), .val (.int p1), .val (.int p2), .val (.int p3), .val (.int p4), .val (.int p5), .val (.int (4 : Int32)), .val (.int x0), .val (.int x1), .val (.int x2), .val (.int (own_pk p1 (3 : Int32) (239 : Int32) p5)), .val (.ref b100), .unset, .unset] [(.int (4 : Int32))])) _
      refine XS.iconst X104.here hx rfl (hb hby at_73) ?_
      show Steps p.tables e below (T104.setTop (mkF m 74 #[.val (.int p0), .val (.int p1), .val (.int p2), .val (.int p3), .val (.int p4), .val (.int p5), .val (.int (4 : Int32)), .val (.int x0), .val (.int x1), .val (.int x2), .val (.int (own_pk p1 (3 : Int32) (239 : Int32) p5)), .val (.ref b100), .unset, .unset] [(.int (1 : Int32)), (.int (4 : Int32))])) _
      refine XS.icmpNo X104.here hx rfl (hb hby at_74) rfl (tlt (by decide : (1 : Int32) < (4 : Int32))).2.2.2 ?_
      show Steps p.tables e below (T104.setTop (mkF m 77 #[.val (.int p0), .val (.int p1), .val (.int p2), .val (.int p3), .val (.int p4), .val (.int p5), .val (.int (4 : Int32)), .val (.int x0), .val (.int x1), .val (.int x2), .val (.int (own_pk p1 (3 : Int32) (239 : Int32) p5)), .val (.ref b100), .unset, .unset] [])) _
      refine XS.aload X104.here hx rfl (hb hby at_77) rfl rfl ?_
      show Steps p.tables e below (T104.setTop (mkF m 79 #[.val (.int p0), .val (.int p1), .val (.int p2), .val (.int p3), .val (.int p4), .val (.int p5), .val (.int (4 : Int32)), .val (.int x0), .val (.int x1), .val (.int x2), .val (.int (own_pk p1 (3 : Int32) (239 : Int32) p5)), .val (.ref b100), .unset, .unset] [(.ref b100)])) _
      refine XS.iconst X104.here hx rfl (hb hby at_79) ?_
      show Steps p.tables e below (T104.setTop (mkF m 80 #[.val (.int p0), .val (.int p1), .val (.int p2), .val (.int p3), .val (.int p4), .val (.int p5), .val (.int (4 : Int32)), .val (.int x0), .val (.int x1), .val (.int x2), .val (.int (own_pk p1 (3 : Int32) (239 : Int32) p5)), .val (.ref b100), .unset, .unset] [(.int (1 : Int32)), (.ref b100)])) _
      refine XS.iload X104.here hx rfl (hb hby at_80) rfl ?_
      exact kt
    have Vc106 := V104
    obtain ⟨cl106, Ar106, qk106, S106, M106, H106, G106⟩ := Vc106
    have hin106 : ¬ ((1 : Int32) < 0 ∨ cl106.slots.size ≤ ((1 : Int32)).toNatClampNeg) := inb_of S106 ⟨by decide, by decide⟩
    obtain ⟨T107, h107, X107, e107, W107, st107⟩ := stB X104 hx hZ e104 Ar106 (j := (1 : Int32)) hin106 (g := (mkF m 82 #[.val (.int p0), .val (.int p1), .val (.int p2), .val (.int p3), .val (.int p4), .val (.int p5), .val (.int (4 : Int32)), .val (.int x0), .val (.int x1), .val (.int x2), .val (.int (own_pk p1 (3 : Int32) (239 : Int32) p5)), .val (.ref b100), .unset, .unset] [(.int x1), (.int (1 : Int32)), (.ref b100)])) rfl rfl (hb hby at_82)
    have V107 : Arv Z h107 b100 k100 .byte (4 : Int32) [(.int (x0.toInt8.toInt32)), (.int (x1.toInt8.toInt32)), (.int (0 : Int32)), (.int (0 : Int32))] (.int (0 : Int32)) := Arv.set Ar106 qk106 S106 M106 H106 G106 (fits_nar_byte _) W107 1 rfl (Nat.le_of_ble_eq_true rfl)
    have N107 := Fr.snoc X107 N104 g_b100
    have c108 : ∀ t, Steps p.tables e below (T107.setTop (mkF m 94 #[.val (.int p0), .val (.int p1), .val (.int p2), .val (.int p3), .val (.int p4), .val (.int p5), .val (.int (4 : Int32)), .val (.int x0), .val (.int x1), .val (.int x2), .val (.int (own_pk p1 (3 : Int32) (239 : Int32) p5)), .val (.ref b100), .unset, .unset] [(.int x2), (.int (2 : Int32)), (.ref b100)])) t → Steps p.tables e below (T107.setTop (mkF m 83 #[.val (.int p0), .val (.int p1), .val (.int p2), .val (.int p3), .val (.int p4), .val (.int p5), .val (.int (4 : Int32)), .val (.int x0), .val (.int x1), .val (.int x2), .val (.int (own_pk p1 (3 : Int32) (239 : Int32) p5)), .val (.ref b100), .unset, .unset] [])) t := by
      intro t kt
      show Steps p.tables e below (T107.setTop (mkF m 83 #[.val (.int p0), .val (.int p1), .val (.int p2), .val (.int p3), .val (.int p4), .val (.int p5), .val (.int (4 : Int32)), .val (.int x0), .val (.int x1), .val (.int x2), .val (.int (own_pk p1 (3 : Int32) (239 : Int32) p5)), .val (.ref b100), .unset, .unset] [])) _
      refine XS.iload X107.here hx rfl (hb hby at_83) rfl ?_
      show Steps p.tables e below (T107.setTop (mkF m 85 #[.val (.int p0), .val (.int p1), .val (.int p2), .val (.int p3), .val (.int p4), .val (.int p5), .val (.int (4 : Int32)), .val (.int x0), .val (.int x1), .val (.int x2), .val (.int (own_pk p1 (3 : Int32) (239 : Int32) p5)), .val (.ref b100), .unset, .unset] [(.int (4 : Int32))])) _
      refine XS.iconst X107.here hx rfl (hb hby at_85) ?_
      show Steps p.tables e below (T107.setTop (mkF m 86 #[.val (.int p0), .val (.int p1), .val (.int p2), .val (.int p3), .val (.int p4), .val (.int p5), .val (.int (4 : Int32)), .val (.int x0), .val (.int x1), .val (.int x2), .val (.int (own_pk p1 (3 : Int32) (239 : Int32) p5)), .val (.ref b100), .unset, .unset] [(.int (2 : Int32)), (.int (4 : Int32))])) _
      refine XS.icmpNo X107.here hx rfl (hb hby at_86) rfl (tlt (by decide : (2 : Int32) < (4 : Int32))).2.2.2 ?_
      show Steps p.tables e below (T107.setTop (mkF m 89 #[.val (.int p0), .val (.int p1), .val (.int p2), .val (.int p3), .val (.int p4), .val (.int p5), .val (.int (4 : Int32)), .val (.int x0), .val (.int x1), .val (.int x2), .val (.int (own_pk p1 (3 : Int32) (239 : Int32) p5)), .val (.ref b100), .unset, .unset] [])) _
      refine XS.aload X107.here hx rfl (hb hby at_89) rfl rfl ?_
      show Steps p.tables e below (T107.setTop (mkF m 91 #[.val (.int p0), .val (.int p1), .val (.int p2), .val (.int p3), .val (.int p4), .val (.int p5), .val (.int (4 : Int32)), .val (.int x0), .val (.int x1), .val (.int x2), .val (.int (own_pk p1 (3 : Int32) (239 : Int32) p5)), .val (.ref b100), .unset, .unset] [(.ref b100)])) _
      refine XS.iconst X107.here hx rfl (hb hby at_91) ?_
      show Steps p.tables e below (T107.setTop (mkF m 92 #[.val (.int p0), .val (.int p1), .val (.int p2), .val (.int p3), .val (.int p4), .val (.int p5), .val (.int (4 : Int32)), .val (.int x0), .val (.int x1), .val (.int x2), .val (.int (own_pk p1 (3 : Int32) (239 : Int32) p5)), .val (.ref b100), .unset, .unset] [(.int (2 : Int32)), (.ref b100)])) _
      refine XS.iload X107.here hx rfl (hb hby at_92) rfl ?_
      exact kt
    have Vc109 := V107
    obtain ⟨cl109, Ar109, qk109, S109, M109, H109, G109⟩ := Vc109
    have hin109 : ¬ ((2 : Int32) < 0 ∨ cl109.slots.size ≤ ((2 : Int32)).toNatClampNeg) := inb_of S109 ⟨by decide, by decide⟩
    obtain ⟨T110, h110, X110, e110, W110, st110⟩ := stB X107 hx hZ e107 Ar109 (j := (2 : Int32)) hin109 (g := (mkF m 94 #[.val (.int p0), .val (.int p1), .val (.int p2), .val (.int p3), .val (.int p4), .val (.int p5), .val (.int (4 : Int32)), .val (.int x0), .val (.int x1), .val (.int x2), .val (.int (own_pk p1 (3 : Int32) (239 : Int32) p5)), .val (.ref b100), .unset, .unset] [(.int x2), (.int (2 : Int32)), (.ref b100)])) rfl rfl (hb hby at_94)
    have V110 : Arv Z h110 b100 k100 .byte (4 : Int32) [(.int (x0.toInt8.toInt32)), (.int (x1.toInt8.toInt32)), (.int (x2.toInt8.toInt32)), (.int (0 : Int32))] (.int (0 : Int32)) := Arv.set Ar109 qk109 S109 M109 H109 G109 (fits_nar_byte _) W110 2 rfl (Nat.le_of_ble_eq_true rfl)
    have N110 := Fr.snoc X110 N107 g_b100
    have c111 : ∀ t, Steps p.tables e below (T110.setTop (mkF m 106 #[.val (.int p0), .val (.int p1), .val (.int p2), .val (.int p3), .val (.int p4), .val (.int p5), .val (.int (4 : Int32)), .val (.int x0), .val (.int x1), .val (.int x2), .val (.int (own_pk p1 (3 : Int32) (239 : Int32) p5)), .val (.ref b100), .unset, .unset] [(.int (own_pk p1 (3 : Int32) (239 : Int32) p5)), (.int (3 : Int32)), (.ref b100)])) t → Steps p.tables e below (T110.setTop (mkF m 95 #[.val (.int p0), .val (.int p1), .val (.int p2), .val (.int p3), .val (.int p4), .val (.int p5), .val (.int (4 : Int32)), .val (.int x0), .val (.int x1), .val (.int x2), .val (.int (own_pk p1 (3 : Int32) (239 : Int32) p5)), .val (.ref b100), .unset, .unset] [])) t := by
      intro t kt
      show Steps p.tables e below (T110.setTop (mkF m 95 #[.val (.int p0), .val (.int p1), .val (.int p2), .val (.int p3), .val (.int p4), .val (.int p5), .val (.int (4 : Int32)), .val (.int x0), .val (.int x1), .val (.int x2), .val (.int (own_pk p1 (3 : Int32) (239 : Int32) p5)), .val (.ref b100), .unset, .unset] [])) _
      refine XS.iload X110.here hx rfl (hb hby at_95) rfl ?_
      show Steps p.tables e below (T110.setTop (mkF m 97 #[.val (.int p0), .val (.int p1), .val (.int p2), .val (.int p3), .val (.int p4), .val (.int p5), .val (.int (4 : Int32)), .val (.int x0), .val (.int x1), .val (.int x2), .val (.int (own_pk p1 (3 : Int32) (239 : Int32) p5)), .val (.ref b100), .unset, .unset] [(.int (4 : Int32))])) _
      refine XS.iconst X110.here hx rfl (hb hby at_97) ?_
      show Steps p.tables e below (T110.setTop (mkF m 98 #[.val (.int p0), .val (.int p1), .val (.int p2), .val (.int p3), .val (.int p4), .val (.int p5), .val (.int (4 : Int32)), .val (.int x0), .val (.int x1), .val (.int x2), .val (.int (own_pk p1 (3 : Int32) (239 : Int32) p5)), .val (.ref b100), .unset, .unset] [(.int (3 : Int32)), (.int (4 : Int32))])) _
      refine XS.icmpNo X110.here hx rfl (hb hby at_98) rfl (tlt (by decide : (3 : Int32) < (4 : Int32))).2.2.2 ?_
      show Steps p.tables e below (T110.setTop (mkF m 101 #[.val (.int p0), .val (.int p1), .val (.int p2), .val (.int p3), .val (.int p4), .val (.int p5), .val (.int (4 : Int32)), .val (.int x0), .val (.int x1), .val (.int x2), .val (.int (own_pk p1 (3 : Int32) (239 : Int32) p5)), .val (.ref b100), .unset, .unset] [])) _
      refine XS.aload X110.here hx rfl (hb hby at_101) rfl rfl ?_
      show Steps p.tables e below (T110.setTop (mkF m 103 #[.val (.int p0), .val (.int p1), .val (.int p2), .val (.int p3), .val (.int p4), .val (.int p5), .val (.int (4 : Int32)), .val (.int x0), .val (.int x1), .val (.int x2), .val (.int (own_pk p1 (3 : Int32) (239 : Int32) p5)), .val (.ref b100), .unset, .unset] [(.ref b100)])) _
      refine XS.iconst X110.here hx rfl (hb hby at_103) ?_
      show Steps p.tables e below (T110.setTop (mkF m 104 #[.val (.int p0), .val (.int p1), .val (.int p2), .val (.int p3), .val (.int p4), .val (.int p5), .val (.int (4 : Int32)), .val (.int x0), .val (.int x1), .val (.int x2), .val (.int (own_pk p1 (3 : Int32) (239 : Int32) p5)), .val (.ref b100), .unset, .unset] [(.int (3 : Int32)), (.ref b100)])) _
      refine XS.iload X110.here hx rfl (hb hby at_104) rfl ?_
      exact kt
    have Vc112 := V110
    obtain ⟨cl112, Ar112, qk112, S112, M112, H112, G112⟩ := Vc112
    have hin112 : ¬ ((3 : Int32) < 0 ∨ cl112.slots.size ≤ ((3 : Int32)).toNatClampNeg) := inb_of S112 ⟨by decide, by decide⟩
    obtain ⟨T113, h113, X113, e113, W113, st113⟩ := stB X110 hx hZ e110 Ar112 (j := (3 : Int32)) hin112 (g := (mkF m 106 #[.val (.int p0), .val (.int p1), .val (.int p2), .val (.int p3), .val (.int p4), .val (.int p5), .val (.int (4 : Int32)), .val (.int x0), .val (.int x1), .val (.int x2), .val (.int (own_pk p1 (3 : Int32) (239 : Int32) p5)), .val (.ref b100), .unset, .unset] [(.int (own_pk p1 (3 : Int32) (239 : Int32) p5)), (.int (3 : Int32)), (.ref b100)])) rfl rfl (hb hby at_106)
    have V113 : Arv Z h113 b100 k100 .byte (4 : Int32) [(.int (x0.toInt8.toInt32)), (.int (x1.toInt8.toInt32)), (.int (x2.toInt8.toInt32)), (.int ((own_pk p1 (3 : Int32) (239 : Int32) p5).toInt8.toInt32))] (.int (0 : Int32)) := Arv.set Ar112 qk112 S112 M112 H112 G112 (fits_nar_byte _) W113 3 rfl (Nat.le_of_ble_eq_true rfl)
    have N113 := Fr.snoc X113 N110 g_b100
    have c114 : ∀ t, Steps p.tables e below (T113.setTop (mkF m 122 #[.val (.int p0), .val (.int p1), .val (.int p2), .val (.int p3), .val (.int p4), .val (.int p5), .val (.int (4 : Int32)), .val (.int x0), .val (.int x1), .val (.int x2), .val (.int (own_pk p1 (3 : Int32) (239 : Int32) p5)), .val (.ref b100), .unset, .unset] [(.int (239 : Int32)), (.int (x0 &&& (255 : Int32)))])) t → Steps p.tables e below (T113.setTop (mkF m 107 #[.val (.int p0), .val (.int p1), .val (.int p2), .val (.int p3), .val (.int p4), .val (.int p5), .val (.int (4 : Int32)), .val (.int x0), .val (.int x1), .val (.int x2), .val (.int (own_pk p1 (3 : Int32) (239 : Int32) p5)), .val (.ref b100), .unset, .unset] [])) t := by
      intro t kt
      show Steps p.tables e below (T113.setTop (mkF m 107 #[.val (.int p0), .val (.int p1), .val (.int p2), .val (.int p3), .val (.int p4), .val (.int p5), .val (.int (4 : Int32)), .val (.int x0), .val (.int x1), .val (.int x2), .val (.int (own_pk p1 (3 : Int32) (239 : Int32) p5)), .val (.ref b100), .unset, .unset] [])) _
      refine XS.iload X113.here hx rfl (hb hby at_107) rfl ?_
      show Steps p.tables e below (T113.setTop (mkF m 109 #[.val (.int p0), .val (.int p1), .val (.int p2), .val (.int p3), .val (.int p4), .val (.int p5), .val (.int (4 : Int32)), .val (.int x0), .val (.int x1), .val (.int x2), .val (.int (own_pk p1 (3 : Int32) (239 : Int32) p5)), .val (.ref b100), .unset, .unset] [(.int (4 : Int32))])) _
      refine XS.iconst X113.here hx rfl (hb hby at_109) ?_
      show Steps p.tables e below (T113.setTop (mkF m 110 #[.val (.int p0), .val (.int p1), .val (.int p2), .val (.int p3), .val (.int p4), .val (.int p5), .val (.int (4 : Int32)), .val (.int x0), .val (.int x1), .val (.int x2), .val (.int (own_pk p1 (3 : Int32) (239 : Int32) p5)), .val (.ref b100), .unset, .unset] [(.int (3 : Int32)), (.int (4 : Int32))])) _
      refine XS.icmpNo X113.here hx rfl (hb hby at_110) rfl (flt (by decide : ¬ ((4 : Int32) < (3 : Int32)))).1 ?_
      show Steps p.tables e below (T113.setTop (mkF m 113 #[.val (.int p0), .val (.int p1), .val (.int p2), .val (.int p3), .val (.int p4), .val (.int p5), .val (.int (4 : Int32)), .val (.int x0), .val (.int x1), .val (.int x2), .val (.int (own_pk p1 (3 : Int32) (239 : Int32) p5)), .val (.ref b100), .unset, .unset] [])) _
      refine XS.iload X113.here hx rfl (hb hby at_113) rfl ?_
      show Steps p.tables e below (T113.setTop (mkF m 115 #[.val (.int p0), .val (.int p1), .val (.int p2), .val (.int p3), .val (.int p4), .val (.int p5), .val (.int (4 : Int32)), .val (.int x0), .val (.int x1), .val (.int x2), .val (.int (own_pk p1 (3 : Int32) (239 : Int32) p5)), .val (.ref b100), .unset, .unset] [(.int x0)])) _
      refine XS.sipush X113.here hx rfl (hb hby at_115) ?_
      show Steps p.tables e below (T113.setTop (mkF m 118 #[.val (.int p0), .val (.int p1), .val (.int p2), .val (.int p3), .val (.int p4), .val (.int p5), .val (.int (4 : Int32)), .val (.int x0), .val (.int x1), .val (.int x2), .val (.int (own_pk p1 (3 : Int32) (239 : Int32) p5)), .val (.ref b100), .unset, .unset] [(.int (255 : Int32)), (.int x0)])) _
      refine XS.iand X113.here hx rfl (hb hby at_118) rfl ?_
      show Steps p.tables e below (T113.setTop (mkF m 119 #[.val (.int p0), .val (.int p1), .val (.int p2), .val (.int p3), .val (.int p4), .val (.int p5), .val (.int (4 : Int32)), .val (.int x0), .val (.int x1), .val (.int x2), .val (.int (own_pk p1 (3 : Int32) (239 : Int32) p5)), .val (.ref b100), .unset, .unset] [(.int (x0 &&& (255 : Int32)))])) _
      refine XS.sipush X113.here hx rfl (hb hby at_119) ?_
      exact kt
    by_cases hc122 : (x0 &&& (255 : Int32)) = (239 : Int32)
    · -- it is
      have c115 : ∀ t, Steps p.tables e below (T113.setTop (mkF m 134 #[.val (.int p0), .val (.int p1), .val (.int p2), .val (.int p3), .val (.int p4), .val (.int p5), .val (.int (4 : Int32)), .val (.int x0), .val (.int x1), .val (.int x2), .val (.int (own_pk p1 (3 : Int32) (239 : Int32) p5)), .val (.ref b100), .unset, .unset] [(.int (187 : Int32)), (.int (x1 &&& (255 : Int32)))])) t → Steps p.tables e below (T113.setTop (mkF m 122 #[.val (.int p0), .val (.int p1), .val (.int p2), .val (.int p3), .val (.int p4), .val (.int p5), .val (.int (4 : Int32)), .val (.int x0), .val (.int x1), .val (.int x2), .val (.int (own_pk p1 (3 : Int32) (239 : Int32) p5)), .val (.ref b100), .unset, .unset] [(.int (239 : Int32)), (.int (x0 &&& (255 : Int32)))])) t := by
        intro t kt
        show Steps p.tables e below (T113.setTop (mkF m 122 #[.val (.int p0), .val (.int p1), .val (.int p2), .val (.int p3), .val (.int p4), .val (.int p5), .val (.int (4 : Int32)), .val (.int x0), .val (.int x1), .val (.int x2), .val (.int (own_pk p1 (3 : Int32) (239 : Int32) p5)), .val (.ref b100), .unset, .unset] [(.int (239 : Int32)), (.int (x0 &&& (255 : Int32)))])) _
        refine XS.icmpNo X113.here hx rfl (hb hby at_122) rfl (teq hc122).2 ?_
        show Steps p.tables e below (T113.setTop (mkF m 125 #[.val (.int p0), .val (.int p1), .val (.int p2), .val (.int p3), .val (.int p4), .val (.int p5), .val (.int (4 : Int32)), .val (.int x0), .val (.int x1), .val (.int x2), .val (.int (own_pk p1 (3 : Int32) (239 : Int32) p5)), .val (.ref b100), .unset, .unset] [])) _
        refine XS.iload X113.here hx rfl (hb hby at_125) rfl ?_
        show Steps p.tables e below (T113.setTop (mkF m 127 #[.val (.int p0), .val (.int p1), .val (.int p2), .val (.int p3), .val (.int p4), .val (.int p5), .val (.int (4 : Int32)), .val (.int x0), .val (.int x1), .val (.int x2), .val (.int (own_pk p1 (3 : Int32) (239 : Int32) p5)), .val (.ref b100), .unset, .unset] [(.int x1)])) _
        refine XS.sipush X113.here hx rfl (hb hby at_127) ?_
        show Steps p.tables e below (T113.setTop (mkF m 130 #[.val (.int p0), .val (.int p1), .val (.int p2), .val (.int p3), .val (.int p4), .val (.int p5), .val (.int (4 : Int32)), .val (.int x0), .val (.int x1), .val (.int x2), .val (.int (own_pk p1 (3 : Int32) (239 : Int32) p5)), .val (.ref b100), .unset, .unset] [(.int (255 : Int32)), (.int x1)])) _
        refine XS.iand X113.here hx rfl (hb hby at_130) rfl ?_
        show Steps p.tables e below (T113.setTop (mkF m 131 #[.val (.int p0), .val (.int p1), .val (.int p2), .val (.int p3), .val (.int p4), .val (.int p5), .val (.int (4 : Int32)), .val (.int x0), .val (.int x1), .val (.int x2), .val (.int (own_pk p1 (3 : Int32) (239 : Int32) p5)), .val (.ref b100), .unset, .unset] [(.int (x1 &&& (255 : Int32)))])) _
        refine XS.sipush X113.here hx rfl (hb hby at_131) ?_
        exact kt
      by_cases hc134 : (x1 &&& (255 : Int32)) = (187 : Int32)
      · -- it is
        have c116 : ∀ t, Steps p.tables e below (T113.setTop (mkF m 146 #[.val (.int p0), .val (.int p1), .val (.int p2), .val (.int p3), .val (.int p4), .val (.int p5), .val (.int (4 : Int32)), .val (.int x0), .val (.int x1), .val (.int x2), .val (.int (own_pk p1 (3 : Int32) (239 : Int32) p5)), .val (.ref b100), .unset, .unset] [(.int (191 : Int32)), (.int (x2 &&& (255 : Int32)))])) t → Steps p.tables e below (T113.setTop (mkF m 134 #[.val (.int p0), .val (.int p1), .val (.int p2), .val (.int p3), .val (.int p4), .val (.int p5), .val (.int (4 : Int32)), .val (.int x0), .val (.int x1), .val (.int x2), .val (.int (own_pk p1 (3 : Int32) (239 : Int32) p5)), .val (.ref b100), .unset, .unset] [(.int (187 : Int32)), (.int (x1 &&& (255 : Int32)))])) t := by
          intro t kt
          show Steps p.tables e below (T113.setTop (mkF m 134 #[.val (.int p0), .val (.int p1), .val (.int p2), .val (.int p3), .val (.int p4), .val (.int p5), .val (.int (4 : Int32)), .val (.int x0), .val (.int x1), .val (.int x2), .val (.int (own_pk p1 (3 : Int32) (239 : Int32) p5)), .val (.ref b100), .unset, .unset] [(.int (187 : Int32)), (.int (x1 &&& (255 : Int32)))])) _
          refine XS.icmpNo X113.here hx rfl (hb hby at_134) rfl (teq hc134).2 ?_
          show Steps p.tables e below (T113.setTop (mkF m 137 #[.val (.int p0), .val (.int p1), .val (.int p2), .val (.int p3), .val (.int p4), .val (.int p5), .val (.int (4 : Int32)), .val (.int x0), .val (.int x1), .val (.int x2), .val (.int (own_pk p1 (3 : Int32) (239 : Int32) p5)), .val (.ref b100), .unset, .unset] [])) _
          refine XS.iload X113.here hx rfl (hb hby at_137) rfl ?_
          show Steps p.tables e below (T113.setTop (mkF m 139 #[.val (.int p0), .val (.int p1), .val (.int p2), .val (.int p3), .val (.int p4), .val (.int p5), .val (.int (4 : Int32)), .val (.int x0), .val (.int x1), .val (.int x2), .val (.int (own_pk p1 (3 : Int32) (239 : Int32) p5)), .val (.ref b100), .unset, .unset] [(.int x2)])) _
          refine XS.sipush X113.here hx rfl (hb hby at_139) ?_
          show Steps p.tables e below (T113.setTop (mkF m 142 #[.val (.int p0), .val (.int p1), .val (.int p2), .val (.int p3), .val (.int p4), .val (.int p5), .val (.int (4 : Int32)), .val (.int x0), .val (.int x1), .val (.int x2), .val (.int (own_pk p1 (3 : Int32) (239 : Int32) p5)), .val (.ref b100), .unset, .unset] [(.int (255 : Int32)), (.int x2)])) _
          refine XS.iand X113.here hx rfl (hb hby at_142) rfl ?_
          show Steps p.tables e below (T113.setTop (mkF m 143 #[.val (.int p0), .val (.int p1), .val (.int p2), .val (.int p3), .val (.int p4), .val (.int p5), .val (.int (4 : Int32)), .val (.int x0), .val (.int x1), .val (.int x2), .val (.int (own_pk p1 (3 : Int32) (239 : Int32) p5)), .val (.ref b100), .unset, .unset] [(.int (x2 &&& (255 : Int32)))])) _
          refine XS.sipush X113.here hx rfl (hb hby at_143) ?_
          exact kt
        by_cases hc146 : (x2 &&& (255 : Int32)) = (191 : Int32)
        · -- it is
          have c117 : ∀ t, Steps p.tables e below (T113.setTop (mkF m 170 #[.val (.int p0), .val (.int p1), .val (.int p2), .val (.int p3), .val (.int p4), .val (.int p5), .val (.int (4 : Int32)), .val (.int x0), .val (.int x1), .val (.int x2), .val (.int (own_pk p1 (3 : Int32) (239 : Int32) p5)), .val (.ref b100), .val (.int (1 : Int32)), .val (.int (3 : Int32))] [(.ref b100)])) t → Steps p.tables e below (T113.setTop (mkF m 146 #[.val (.int p0), .val (.int p1), .val (.int p2), .val (.int p3), .val (.int p4), .val (.int p5), .val (.int (4 : Int32)), .val (.int x0), .val (.int x1), .val (.int x2), .val (.int (own_pk p1 (3 : Int32) (239 : Int32) p5)), .val (.ref b100), .unset, .unset] [(.int (191 : Int32)), (.int (x2 &&& (255 : Int32)))])) t := by
            intro t kt
            show Steps p.tables e below (T113.setTop (mkF m 146 #[.val (.int p0), .val (.int p1), .val (.int p2), .val (.int p3), .val (.int p4), .val (.int p5), .val (.int (4 : Int32)), .val (.int x0), .val (.int x1), .val (.int x2), .val (.int (own_pk p1 (3 : Int32) (239 : Int32) p5)), .val (.ref b100), .unset, .unset] [(.int (191 : Int32)), (.int (x2 &&& (255 : Int32)))])) _
            refine XS.icmpNo X113.here hx rfl (hb hby at_146) rfl (teq hc146).2 ?_
            show Steps p.tables e below (T113.setTop (mkF m 149 #[.val (.int p0), .val (.int p1), .val (.int p2), .val (.int p3), .val (.int p4), .val (.int p5), .val (.int (4 : Int32)), .val (.int x0), .val (.int x1), .val (.int x2), .val (.int (own_pk p1 (3 : Int32) (239 : Int32) p5)), .val (.ref b100), .unset, .unset] [])) _
            refine XS.iconst X113.here hx rfl (hb hby at_149) ?_
            show Steps p.tables e below (T113.setTop (mkF m 150 #[.val (.int p0), .val (.int p1), .val (.int p2), .val (.int p3), .val (.int p4), .val (.int p5), .val (.int (4 : Int32)), .val (.int x0), .val (.int x1), .val (.int x2), .val (.int (own_pk p1 (3 : Int32) (239 : Int32) p5)), .val (.ref b100), .unset, .unset] [(.int (1 : Int32))])) _
            refine XS.goto X113.here hx rfl (pc0 := 150) (pc' := 154) rfl (hb hby at_150) (by decide) (by decide) ?_
            show Steps p.tables e below (T113.setTop (mkF m 154 #[.val (.int p0), .val (.int p1), .val (.int p2), .val (.int p3), .val (.int p4), .val (.int p5), .val (.int (4 : Int32)), .val (.int x0), .val (.int x1), .val (.int x2), .val (.int (own_pk p1 (3 : Int32) (239 : Int32) p5)), .val (.ref b100), .unset, .unset] [(.int (1 : Int32))])) _
            refine XS.istore X113.here hx rfl (hb hby at_154) rfl (l' := #[.val (.int p0), .val (.int p1), .val (.int p2), .val (.int p3), .val (.int p4), .val (.int p5), .val (.int (4 : Int32)), .val (.int x0), .val (.int x1), .val (.int x2), .val (.int (own_pk p1 (3 : Int32) (239 : Int32) p5)), .val (.ref b100), .val (.int (1 : Int32)), .unset]) rfl ?_
            show Steps p.tables e below (T113.setTop (mkF m 156 #[.val (.int p0), .val (.int p1), .val (.int p2), .val (.int p3), .val (.int p4), .val (.int p5), .val (.int (4 : Int32)), .val (.int x0), .val (.int x1), .val (.int x2), .val (.int (own_pk p1 (3 : Int32) (239 : Int32) p5)), .val (.ref b100), .val (.int (1 : Int32)), .unset] [])) _
            refine XS.iload X113.here hx rfl (hb hby at_156) rfl ?_
            show Steps p.tables e below (T113.setTop (mkF m 158 #[.val (.int p0), .val (.int p1), .val (.int p2), .val (.int p3), .val (.int p4), .val (.int p5), .val (.int (4 : Int32)), .val (.int x0), .val (.int x1), .val (.int x2), .val (.int (own_pk p1 (3 : Int32) (239 : Int32) p5)), .val (.ref b100), .val (.int (1 : Int32)), .unset] [(.int (1 : Int32))])) _
            refine XS.ifNo X113.here hx rfl (hb hby at_158) rfl ((if0 _ _).trans (feq (by decide : ¬ ((1 : Int32) = (0 : Int32)))).1) ?_
            show Steps p.tables e below (T113.setTop (mkF m 161 #[.val (.int p0), .val (.int p1), .val (.int p2), .val (.int p3), .val (.int p4), .val (.int p5), .val (.int (4 : Int32)), .val (.int x0), .val (.int x1), .val (.int x2), .val (.int (own_pk p1 (3 : Int32) (239 : Int32) p5)), .val (.ref b100), .val (.int (1 : Int32)), .unset] [])) _
            refine XS.iconst X113.here hx rfl (hb hby at_161) ?_
            show Steps p.tables e below (T113.setTop (mkF m 162 #[.val (.int p0), .val (.int p1), .val (.int p2), .val (.int p3), .val (.int p4), .val (.int p5), .val (.int (4 : Int32)), .val (.int x0), .val (.int x1), .val (.int x2), .val (.int (own_pk p1 (3 : Int32) (239 : Int32) p5)), .val (.ref b100), .val (.int (1 : Int32)), .unset] [(.int (3 : Int32))])) _
            refine XS.goto X113.here hx rfl (pc0 := 162) (pc' := 166) rfl (hb hby at_162) (by decide) (by decide) ?_
            show Steps p.tables e below (T113.setTop (mkF m 166 #[.val (.int p0), .val (.int p1), .val (.int p2), .val (.int p3), .val (.int p4), .val (.int p5), .val (.int (4 : Int32)), .val (.int x0), .val (.int x1), .val (.int x2), .val (.int (own_pk p1 (3 : Int32) (239 : Int32) p5)), .val (.ref b100), .val (.int (1 : Int32)), .unset] [(.int (3 : Int32))])) _
            refine XS.istore X113.here hx rfl (hb hby at_166) rfl (l' := #[.val (.int p0), .val (.int p1), .val (.int p2), .val (.int p3), .val (.int p4), .val (.int p5), .val (.int (4 : Int32)), .val (.int x0), .val (.int x1), .val (.int x2), .val (.int (own_pk p1 (3 : Int32) (239 : Int32) p5)), .val (.ref b100), .val (.int (1 : Int32)), .val (.int (3 : Int32))]) rfl ?_
            show Steps p.tables e below (T113.setTop (mkF m 168 #[.val (.int p0), .val (.int p1), .val (.int p2), .val (.int p3), .val (.int p4), .val (.int p5), .val (.int (4 : Int32)), .val (.int x0), .val (.int x1), .val (.int x2), .val (.int (own_pk p1 (3 : Int32) (239 : Int32) p5)), .val (.ref b100), .val (.int (1 : Int32)), .val (.int (3 : Int32))] [])) _
            refine XS.aload X113.here hx rfl (hb hby at_168) rfl rfl ?_
            exact kt
          have f118 := (Nat.le_trans (Nat.le_trans (Nat.le_trans (Nat.le_trans (Nat.le_trans Z0 E100.1) (Keep.of_wr W104).1) (Keep.of_wr W107).1) (Keep.of_wr W110).1) (Keep.of_wr W113).1)
          have f119 := (((((O0.ext E100).wr W104 g_b100).wr W107 g_b100).wr W110 g_b100).wr W113 g_b100)
          obtain ⟨_, _, ⟨T120, L120, k120, n120⟩, -, X120, ⟨Lc120, hQ120, l120, y120, z120⟩, st120⟩ := Jvm.LawKit.callS X113 hx (y := (⟨"com/example/ratewright/ratewright/io/Utf8Text", "start", "([B)I"⟩ : MethodName)) hown (mvT hZ (hw _ (List.mem_of_getElem? (i := 6) rfl))) (mvT hZ (hw _ (List.mem_of_getElem? (i := 7) rfl))) (mvT hZ (hw _ (List.mem_of_getElem? (i := 8) rfl))) (mvT hZ (hw _ (List.mem_of_getElem? (i := 9) rfl))) (by decide) (backOf (W := 0) (rm2_4 l Z a0 hw [] b100 k100 (x0.toInt8.toInt32) (x1.toInt8.toInt32) (x2.toInt8.toInt32) ((own_pk p1 (3 : Int32) (239 : Int32) p5).toInt8.toInt32) rm km h113 n0 f118 V113 (SB.ext f119.2) (VB.ext f119.2)) hZ (hw _ (List.mem_of_getElem? (i := 9) rfl)) (hw _ (List.mem_of_getElem? (i := 8) rfl)) (by decide) (by decide)) (g := (mkF m 170 #[.val (.int p0), .val (.int p1), .val (.int p2), .val (.int p3), .val (.int p4), .val (.int p5), .val (.int (4 : Int32)), .val (.int x0), .val (.int x1), .val (.int x2), .val (.int (own_pk p1 (3 : Int32) (239 : Int32) p5)), .val (.ref b100), .val (.int (1 : Int32)), .val (.int (3 : Int32))] [(.ref b100)])) rfl (by rw [hml]; rfl) (argsL := [(.ref b100)]) (rest := []) (lenOf pd_1 rfl) rfl (by show 2 * 0 + _ ≤ _; exact Nat.le_of_eq rfl) (hb hby at_170) (fun _ _ => ⟨rfl, e113, (by decide : 1 + 0 ≤ _), (by decide : 4 + 0 ≤ _)⟩)
          dsimp only [Pt.U, Pt.locs, Pt.cells, Pt.slots] at X120 l120 y120 z120 st120 hQ120
          subst l120 y120 z120
          obtain ⟨rfl, N120q, e120⟩ := hQ120
          have N120 := Fr.app N113 N120q
          have c122 : ∀ t, Steps p.tables e below (T120.setTop (mkF m 175 #[.val (.int p0), .val (.int p1), .val (.int p2), .val (.int p3), .val (.int p4), .val (.int p5), .val (.int (4 : Int32)), .val (.int x0), .val (.int x1), .val (.int x2), .val (.int (own_pk p1 (3 : Int32) (239 : Int32) p5)), .val (.ref b100), .val (.int (1 : Int32)), .val (.int (3 : Int32))] [(.int (3 : Int32)), (.int (own_st (x0.toInt8.toInt32) (x1.toInt8.toInt32) (x2.toInt8.toInt32)))])) t → Steps p.tables e below (T120.setTop (mkF m 173 #[.val (.int p0), .val (.int p1), .val (.int p2), .val (.int p3), .val (.int p4), .val (.int p5), .val (.int (4 : Int32)), .val (.int x0), .val (.int x1), .val (.int x2), .val (.int (own_pk p1 (3 : Int32) (239 : Int32) p5)), .val (.ref b100), .val (.int (1 : Int32)), .val (.int (3 : Int32))] [(.int (own_st (x0.toInt8.toInt32) (x1.toInt8.toInt32) (x2.toInt8.toInt32)))])) t := by
            intro t kt
            show Steps p.tables e below (T120.setTop (mkF m 173 #[.val (.int p0), .val (.int p1), .val (.int p2), .val (.int p3), .val (.int p4), .val (.int p5), .val (.int (4 : Int32)), .val (.int x0), .val (.int x1), .val (.int x2), .val (.int (own_pk p1 (3 : Int32) (239 : Int32) p5)), .val (.ref b100), .val (.int (1 : Int32)), .val (.int (3 : Int32))] [(.int (own_st (x0.toInt8.toInt32) (x1.toInt8.toInt32) (x2.toInt8.toInt32)))])) _
            refine XS.iload X120.here hx rfl (hb hby at_173) rfl ?_
            exact kt
          have hd121 : (own_st (x0.toInt8.toInt32) (x1.toInt8.toInt32) (x2.toInt8.toInt32)) = (3 : Int32) := by unfold own_st; rw [if_pos ⟨(own_m x0 239 (-17) rx0 (by decide) (by decide)).mp hc122, (own_m x1 187 (-69) rx1 (by decide) (by decide)).mp hc134, (own_m x2 191 (-65) rx2 (by decide) (by decide)).mp hc146⟩]
          have c123 : ∀ t, Steps p.tables e below (T120.setTop (mkF m 183 #[.val (.int p0), .val (.int p1), .val (.int p2), .val (.int p3), .val (.int p4), .val (.int p5), .val (.int (4 : Int32)), .val (.int x0), .val (.int x1), .val (.int x2), .val (.int (own_pk p1 (3 : Int32) (239 : Int32) p5)), .val (.ref b100), .val (.int (1 : Int32)), .val (.int (3 : Int32))] [(.int (1 : Int32))])) t → Steps p.tables e below (T120.setTop (mkF m 175 #[.val (.int p0), .val (.int p1), .val (.int p2), .val (.int p3), .val (.int p4), .val (.int p5), .val (.int (4 : Int32)), .val (.int x0), .val (.int x1), .val (.int x2), .val (.int (own_pk p1 (3 : Int32) (239 : Int32) p5)), .val (.ref b100), .val (.int (1 : Int32)), .val (.int (3 : Int32))] [(.int (3 : Int32)), (.int (own_st (x0.toInt8.toInt32) (x1.toInt8.toInt32) (x2.toInt8.toInt32)))])) t := by
            intro t kt
            show Steps p.tables e below (T120.setTop (mkF m 175 #[.val (.int p0), .val (.int p1), .val (.int p2), .val (.int p3), .val (.int p4), .val (.int p5), .val (.int (4 : Int32)), .val (.int x0), .val (.int x1), .val (.int x2), .val (.int (own_pk p1 (3 : Int32) (239 : Int32) p5)), .val (.ref b100), .val (.int (1 : Int32)), .val (.int (3 : Int32))] [(.int (3 : Int32)), (.int (own_st (x0.toInt8.toInt32) (x1.toInt8.toInt32) (x2.toInt8.toInt32)))])) _
            refine XS.icmpNo X120.here hx rfl (hb hby at_175) rfl (teq (hd121)).2 ?_
            show Steps p.tables e below (T120.setTop (mkF m 178 #[.val (.int p0), .val (.int p1), .val (.int p2), .val (.int p3), .val (.int p4), .val (.int p5), .val (.int (4 : Int32)), .val (.int x0), .val (.int x1), .val (.int x2), .val (.int (own_pk p1 (3 : Int32) (239 : Int32) p5)), .val (.ref b100), .val (.int (1 : Int32)), .val (.int (3 : Int32))] [])) _
            refine XS.iconst X120.here hx rfl (hb hby at_178) ?_
            show Steps p.tables e below (T120.setTop (mkF m 179 #[.val (.int p0), .val (.int p1), .val (.int p2), .val (.int p3), .val (.int p4), .val (.int p5), .val (.int (4 : Int32)), .val (.int x0), .val (.int x1), .val (.int x2), .val (.int (own_pk p1 (3 : Int32) (239 : Int32) p5)), .val (.ref b100), .val (.int (1 : Int32)), .val (.int (3 : Int32))] [(.int (1 : Int32))])) _
            refine XS.goto X120.here hx rfl (pc0 := 179) (pc' := 183) rfl (hb hby at_179) (by decide) (by decide) ?_
            exact kt
          obtain ⟨fs, hr, hrun, hended, hW, hsame⟩ := X120.leave (v := some (.int (1 : Int32))) (fun h => by rw [Bd.returns] at h; cases h)
          refine ⟨_, _, pre0 _ (c1 _ (st2 _ (c3 _ (c4 _ (c5 _ (st6 _ (c7 _ (c8 _ (c9 _ (st10 _ (c11 _ (c12 _ (c13 _ (st14 _ (c15 _ (c99 _ (c101 _ (st100 _ (c102 _ (st104 _ (c105 _ (st107 _ (c108 _ (st110 _ (c111 _ (st113 _ (c114 _ (c115 _ (c116 _ (c117 _ (st120 _ (c122 _ (c123 _ (?_)))))))))))))))))))))))))))))))))), hrun, hended, _, _, rfl, ?_, ⟨_, rfl⟩, hW, hsame.mono (by decide) (by decide)⟩
          · show Steps p.tables e below (T120.setTop (mkF m 183 #[.val (.int p0), .val (.int p1), .val (.int p2), .val (.int p3), .val (.int p4), .val (.int p5), .val (.int (4 : Int32)), .val (.int x0), .val (.int x1), .val (.int x2), .val (.int (own_pk p1 (3 : Int32) (239 : Int32) p5)), .val (.ref b100), .val (.int (1 : Int32)), .val (.int (3 : Int32))] [(.int (1 : Int32))])) _
            exact retN X120 hx (t := .boolean) Bd.returns (by simp) (hb hby at_183) hr
          · show Q0 Z p0 p1 p2 p3 p4 p5 rm km h0 n0 _ T120.heap _
            rw [e120]
            exact ⟨congrArg (fun z => some (Value.int z)) (show (1 : Int32) = (1 : Int32) from by rfl), N120⟩
        · -- it isn't
          have c125 : ∀ t, Steps p.tables e below (T113.setTop (mkF m 170 #[.val (.int p0), .val (.int p1), .val (.int p2), .val (.int p3), .val (.int p4), .val (.int p5), .val (.int (4 : Int32)), .val (.int x0), .val (.int x1), .val (.int x2), .val (.int (own_pk p1 (3 : Int32) (239 : Int32) p5)), .val (.ref b100), .val (.int (0 : Int32)), .val (.int (0 : Int32))] [(.ref b100)])) t → Steps p.tables e below (T113.setTop (mkF m 146 #[.val (.int p0), .val (.int p1), .val (.int p2), .val (.int p3), .val (.int p4), .val (.int p5), .val (.int (4 : Int32)), .val (.int x0), .val (.int x1), .val (.int x2), .val (.int (own_pk p1 (3 : Int32) (239 : Int32) p5)), .val (.ref b100), .unset, .unset] [(.int (191 : Int32)), (.int (x2 &&& (255 : Int32)))])) t := by
            intro t kt
            show Steps p.tables e below (T113.setTop (mkF m 146 #[.val (.int p0), .val (.int p1), .val (.int p2), .val (.int p3), .val (.int p4), .val (.int p5), .val (.int (4 : Int32)), .val (.int x0), .val (.int x1), .val (.int x2), .val (.int (own_pk p1 (3 : Int32) (239 : Int32) p5)), .val (.ref b100), .unset, .unset] [(.int (191 : Int32)), (.int (x2 &&& (255 : Int32)))])) _
            refine XS.icmpYes X113.here hx rfl (pc0 := 146) (pc' := 153) rfl (hb hby at_146) rfl (feq hc146).2 (by decide) (by decide) ?_
            show Steps p.tables e below (T113.setTop (mkF m 153 #[.val (.int p0), .val (.int p1), .val (.int p2), .val (.int p3), .val (.int p4), .val (.int p5), .val (.int (4 : Int32)), .val (.int x0), .val (.int x1), .val (.int x2), .val (.int (own_pk p1 (3 : Int32) (239 : Int32) p5)), .val (.ref b100), .unset, .unset] [])) _
            refine XS.iconst X113.here hx rfl (hb hby at_153) ?_
            show Steps p.tables e below (T113.setTop (mkF m 154 #[.val (.int p0), .val (.int p1), .val (.int p2), .val (.int p3), .val (.int p4), .val (.int p5), .val (.int (4 : Int32)), .val (.int x0), .val (.int x1), .val (.int x2), .val (.int (own_pk p1 (3 : Int32) (239 : Int32) p5)), .val (.ref b100), .unset, .unset] [(.int (0 : Int32))])) _
            refine XS.istore X113.here hx rfl (hb hby at_154) rfl (l' := #[.val (.int p0), .val (.int p1), .val (.int p2), .val (.int p3), .val (.int p4), .val (.int p5), .val (.int (4 : Int32)), .val (.int x0), .val (.int x1), .val (.int x2), .val (.int (own_pk p1 (3 : Int32) (239 : Int32) p5)), .val (.ref b100), .val (.int (0 : Int32)), .unset]) rfl ?_
            show Steps p.tables e below (T113.setTop (mkF m 156 #[.val (.int p0), .val (.int p1), .val (.int p2), .val (.int p3), .val (.int p4), .val (.int p5), .val (.int (4 : Int32)), .val (.int x0), .val (.int x1), .val (.int x2), .val (.int (own_pk p1 (3 : Int32) (239 : Int32) p5)), .val (.ref b100), .val (.int (0 : Int32)), .unset] [])) _
            refine XS.iload X113.here hx rfl (hb hby at_156) rfl ?_
            show Steps p.tables e below (T113.setTop (mkF m 158 #[.val (.int p0), .val (.int p1), .val (.int p2), .val (.int p3), .val (.int p4), .val (.int p5), .val (.int (4 : Int32)), .val (.int x0), .val (.int x1), .val (.int x2), .val (.int (own_pk p1 (3 : Int32) (239 : Int32) p5)), .val (.ref b100), .val (.int (0 : Int32)), .unset] [(.int (0 : Int32))])) _
            refine XS.ifYes X113.here hx rfl (pc0 := 158) (pc' := 165) rfl (hb hby at_158) rfl ((if0 _ _).trans (teq (by decide : (0 : Int32) = (0 : Int32))).1) (by decide) (by decide) ?_
            show Steps p.tables e below (T113.setTop (mkF m 165 #[.val (.int p0), .val (.int p1), .val (.int p2), .val (.int p3), .val (.int p4), .val (.int p5), .val (.int (4 : Int32)), .val (.int x0), .val (.int x1), .val (.int x2), .val (.int (own_pk p1 (3 : Int32) (239 : Int32) p5)), .val (.ref b100), .val (.int (0 : Int32)), .unset] [])) _
            refine XS.iconst X113.here hx rfl (hb hby at_165) ?_
            show Steps p.tables e below (T113.setTop (mkF m 166 #[.val (.int p0), .val (.int p1), .val (.int p2), .val (.int p3), .val (.int p4), .val (.int p5), .val (.int (4 : Int32)), .val (.int x0), .val (.int x1), .val (.int x2), .val (.int (own_pk p1 (3 : Int32) (239 : Int32) p5)), .val (.ref b100), .val (.int (0 : Int32)), .unset] [(.int (0 : Int32))])) _
            refine XS.istore X113.here hx rfl (hb hby at_166) rfl (l' := #[.val (.int p0), .val (.int p1), .val (.int p2), .val (.int p3), .val (.int p4), .val (.int p5), .val (.int (4 : Int32)), .val (.int x0), .val (.int x1), .val (.int x2), .val (.int (own_pk p1 (3 : Int32) (239 : Int32) p5)), .val (.ref b100), .val (.int (0 : Int32)), .val (.int (0 : Int32))]) rfl ?_
            show Steps p.tables e below (T113.setTop (mkF m 168 #[.val (.int p0), .val (.int p1), .val (.int p2), .val (.int p3), .val (.int p4), .val (.int p5), .val (.int (4 : Int32)), .val (.int x0), .val (.int x1), .val (.int x2), .val (.int (own_pk p1 (3 : Int32) (239 : Int32) p5)), .val (.ref b100), .val (.int (0 : Int32)), .val (.int (0 : Int32))] [])) _
            refine XS.aload X113.here hx rfl (hb hby at_168) rfl rfl ?_
            exact kt
          have f126 := (Nat.le_trans (Nat.le_trans (Nat.le_trans (Nat.le_trans (Nat.le_trans Z0 E100.1) (Keep.of_wr W104).1) (Keep.of_wr W107).1) (Keep.of_wr W110).1) (Keep.of_wr W113).1)
          have f127 := (((((O0.ext E100).wr W104 g_b100).wr W107 g_b100).wr W110 g_b100).wr W113 g_b100)
          obtain ⟨_, _, ⟨T128, L128, k128, n128⟩, -, X128, ⟨Lc128, hQ128, l128, y128, z128⟩, st128⟩ := Jvm.LawKit.callS X113 hx (y := (⟨"com/example/ratewright/ratewright/io/Utf8Text", "start", "([B)I"⟩ : MethodName)) hown (mvT hZ (hw _ (List.mem_of_getElem? (i := 6) rfl))) (mvT hZ (hw _ (List.mem_of_getElem? (i := 7) rfl))) (mvT hZ (hw _ (List.mem_of_getElem? (i := 8) rfl))) (mvT hZ (hw _ (List.mem_of_getElem? (i := 9) rfl))) (by decide) (backOf (W := 0) (rm2_4 l Z a0 hw [] b100 k100 (x0.toInt8.toInt32) (x1.toInt8.toInt32) (x2.toInt8.toInt32) ((own_pk p1 (3 : Int32) (239 : Int32) p5).toInt8.toInt32) rm km h113 n0 f126 V113 (SB.ext f127.2) (VB.ext f127.2)) hZ (hw _ (List.mem_of_getElem? (i := 9) rfl)) (hw _ (List.mem_of_getElem? (i := 8) rfl)) (by decide) (by decide)) (g := (mkF m 170 #[.val (.int p0), .val (.int p1), .val (.int p2), .val (.int p3), .val (.int p4), .val (.int p5), .val (.int (4 : Int32)), .val (.int x0), .val (.int x1), .val (.int x2), .val (.int (own_pk p1 (3 : Int32) (239 : Int32) p5)), .val (.ref b100), .val (.int (0 : Int32)), .val (.int (0 : Int32))] [(.ref b100)])) rfl (by rw [hml]; rfl) (argsL := [(.ref b100)]) (rest := []) (lenOf pd_1 rfl) rfl (by show 2 * 0 + _ ≤ _; exact Nat.le_of_eq rfl) (hb hby at_170) (fun _ _ => ⟨rfl, e113, (by decide : 1 + 0 ≤ _), (by decide : 4 + 0 ≤ _)⟩)
          dsimp only [Pt.U, Pt.locs, Pt.cells, Pt.slots] at X128 l128 y128 z128 st128 hQ128
          subst l128 y128 z128
          obtain ⟨rfl, N128q, e128⟩ := hQ128
          have N128 := Fr.app N113 N128q
          have c130 : ∀ t, Steps p.tables e below (T128.setTop (mkF m 175 #[.val (.int p0), .val (.int p1), .val (.int p2), .val (.int p3), .val (.int p4), .val (.int p5), .val (.int (4 : Int32)), .val (.int x0), .val (.int x1), .val (.int x2), .val (.int (own_pk p1 (3 : Int32) (239 : Int32) p5)), .val (.ref b100), .val (.int (0 : Int32)), .val (.int (0 : Int32))] [(.int (0 : Int32)), (.int (own_st (x0.toInt8.toInt32) (x1.toInt8.toInt32) (x2.toInt8.toInt32)))])) t → Steps p.tables e below (T128.setTop (mkF m 173 #[.val (.int p0), .val (.int p1), .val (.int p2), .val (.int p3), .val (.int p4), .val (.int p5), .val (.int (4 : Int32)), .val (.int x0), .val (.int x1), .val (.int x2), .val (.int (own_pk p1 (3 : Int32) (239 : Int32) p5)), .val (.ref b100), .val (.int (0 : Int32)), .val (.int (0 : Int32))] [(.int (own_st (x0.toInt8.toInt32) (x1.toInt8.toInt32) (x2.toInt8.toInt32)))])) t := by
            intro t kt
            show Steps p.tables e below (T128.setTop (mkF m 173 #[.val (.int p0), .val (.int p1), .val (.int p2), .val (.int p3), .val (.int p4), .val (.int p5), .val (.int (4 : Int32)), .val (.int x0), .val (.int x1), .val (.int x2), .val (.int (own_pk p1 (3 : Int32) (239 : Int32) p5)), .val (.ref b100), .val (.int (0 : Int32)), .val (.int (0 : Int32))] [(.int (own_st (x0.toInt8.toInt32) (x1.toInt8.toInt32) (x2.toInt8.toInt32)))])) _
            refine XS.iload X128.here hx rfl (hb hby at_173) rfl ?_
            exact kt
          have hd129 : (own_st (x0.toInt8.toInt32) (x1.toInt8.toInt32) (x2.toInt8.toInt32)) = (0 : Int32) := by unfold own_st; rw [if_neg (fun k => hc146 ((own_m x2 191 (-65) rx2 (by decide) (by decide)).mpr k.2.2))]
          have c131 : ∀ t, Steps p.tables e below (T128.setTop (mkF m 183 #[.val (.int p0), .val (.int p1), .val (.int p2), .val (.int p3), .val (.int p4), .val (.int p5), .val (.int (4 : Int32)), .val (.int x0), .val (.int x1), .val (.int x2), .val (.int (own_pk p1 (3 : Int32) (239 : Int32) p5)), .val (.ref b100), .val (.int (0 : Int32)), .val (.int (0 : Int32))] [(.int (1 : Int32))])) t → Steps p.tables e below (T128.setTop (mkF m 175 #[.val (.int p0), .val (.int p1), .val (.int p2), .val (.int p3), .val (.int p4), .val (.int p5), .val (.int (4 : Int32)), .val (.int x0), .val (.int x1), .val (.int x2), .val (.int (own_pk p1 (3 : Int32) (239 : Int32) p5)), .val (.ref b100), .val (.int (0 : Int32)), .val (.int (0 : Int32))] [(.int (0 : Int32)), (.int (own_st (x0.toInt8.toInt32) (x1.toInt8.toInt32) (x2.toInt8.toInt32)))])) t := by
            intro t kt
            show Steps p.tables e below (T128.setTop (mkF m 175 #[.val (.int p0), .val (.int p1), .val (.int p2), .val (.int p3), .val (.int p4), .val (.int p5), .val (.int (4 : Int32)), .val (.int x0), .val (.int x1), .val (.int x2), .val (.int (own_pk p1 (3 : Int32) (239 : Int32) p5)), .val (.ref b100), .val (.int (0 : Int32)), .val (.int (0 : Int32))] [(.int (0 : Int32)), (.int (own_st (x0.toInt8.toInt32) (x1.toInt8.toInt32) (x2.toInt8.toInt32)))])) _
            refine XS.icmpNo X128.here hx rfl (hb hby at_175) rfl (teq (hd129)).2 ?_
            show Steps p.tables e below (T128.setTop (mkF m 178 #[.val (.int p0), .val (.int p1), .val (.int p2), .val (.int p3), .val (.int p4), .val (.int p5), .val (.int (4 : Int32)), .val (.int x0), .val (.int x1), .val (.int x2), .val (.int (own_pk p1 (3 : Int32) (239 : Int32) p5)), .val (.ref b100), .val (.int (0 : Int32)), .val (.int (0 : Int32))] [])) _
            refine XS.iconst X128.here hx rfl (hb hby at_178) ?_
            show Steps p.tables e below (T128.setTop (mkF m 179 #[.val (.int p0), .val (.int p1), .val (.int p2), .val (.int p3), .val (.int p4), .val (.int p5), .val (.int (4 : Int32)), .val (.int x0), .val (.int x1), .val (.int x2), .val (.int (own_pk p1 (3 : Int32) (239 : Int32) p5)), .val (.ref b100), .val (.int (0 : Int32)), .val (.int (0 : Int32))] [(.int (1 : Int32))])) _
            refine XS.goto X128.here hx rfl (pc0 := 179) (pc' := 183) rfl (hb hby at_179) (by decide) (by decide) ?_
            exact kt
          obtain ⟨fs, hr, hrun, hended, hW, hsame⟩ := X128.leave (v := some (.int (1 : Int32))) (fun h => by rw [Bd.returns] at h; cases h)
          refine ⟨_, _, pre0 _ (c1 _ (st2 _ (c3 _ (c4 _ (c5 _ (st6 _ (c7 _ (c8 _ (c9 _ (st10 _ (c11 _ (c12 _ (c13 _ (st14 _ (c15 _ (c99 _ (c101 _ (st100 _ (c102 _ (st104 _ (c105 _ (st107 _ (c108 _ (st110 _ (c111 _ (st113 _ (c114 _ (c115 _ (c116 _ (c125 _ (st128 _ (c130 _ (c131 _ (?_)))))))))))))))))))))))))))))))))), hrun, hended, _, _, rfl, ?_, ⟨_, rfl⟩, hW, hsame.mono (by decide) (by decide)⟩
          · show Steps p.tables e below (T128.setTop (mkF m 183 #[.val (.int p0), .val (.int p1), .val (.int p2), .val (.int p3), .val (.int p4), .val (.int p5), .val (.int (4 : Int32)), .val (.int x0), .val (.int x1), .val (.int x2), .val (.int (own_pk p1 (3 : Int32) (239 : Int32) p5)), .val (.ref b100), .val (.int (0 : Int32)), .val (.int (0 : Int32))] [(.int (1 : Int32))])) _
            exact retN X128 hx (t := .boolean) Bd.returns (by simp) (hb hby at_183) hr
          · show Q0 Z p0 p1 p2 p3 p4 p5 rm km h0 n0 _ T128.heap _
            rw [e128]
            exact ⟨congrArg (fun z => some (Value.int z)) (show (1 : Int32) = (1 : Int32) from by rfl), N128⟩
      · -- it isn't
        have c133 : ∀ t, Steps p.tables e below (T113.setTop (mkF m 170 #[.val (.int p0), .val (.int p1), .val (.int p2), .val (.int p3), .val (.int p4), .val (.int p5), .val (.int (4 : Int32)), .val (.int x0), .val (.int x1), .val (.int x2), .val (.int (own_pk p1 (3 : Int32) (239 : Int32) p5)), .val (.ref b100), .val (.int (0 : Int32)), .val (.int (0 : Int32))] [(.ref b100)])) t → Steps p.tables e below (T113.setTop (mkF m 134 #[.val (.int p0), .val (.int p1), .val (.int p2), .val (.int p3), .val (.int p4), .val (.int p5), .val (.int (4 : Int32)), .val (.int x0), .val (.int x1), .val (.int x2), .val (.int (own_pk p1 (3 : Int32) (239 : Int32) p5)), .val (.ref b100), .unset, .unset] [(.int (187 : Int32)), (.int (x1 &&& (255 : Int32)))])) t := by
          intro t kt
          show Steps p.tables e below (T113.setTop (mkF m 134 #[.val (.int p0), .val (.int p1), .val (.int p2), .val (.int p3), .val (.int p4), .val (.int p5), .val (.int (4 : Int32)), .val (.int x0), .val (.int x1), .val (.int x2), .val (.int (own_pk p1 (3 : Int32) (239 : Int32) p5)), .val (.ref b100), .unset, .unset] [(.int (187 : Int32)), (.int (x1 &&& (255 : Int32)))])) _
          refine XS.icmpYes X113.here hx rfl (pc0 := 134) (pc' := 153) rfl (hb hby at_134) rfl (feq hc134).2 (by decide) (by decide) ?_
          show Steps p.tables e below (T113.setTop (mkF m 153 #[.val (.int p0), .val (.int p1), .val (.int p2), .val (.int p3), .val (.int p4), .val (.int p5), .val (.int (4 : Int32)), .val (.int x0), .val (.int x1), .val (.int x2), .val (.int (own_pk p1 (3 : Int32) (239 : Int32) p5)), .val (.ref b100), .unset, .unset] [])) _
          refine XS.iconst X113.here hx rfl (hb hby at_153) ?_
          show Steps p.tables e below (T113.setTop (mkF m 154 #[.val (.int p0), .val (.int p1), .val (.int p2), .val (.int p3), .val (.int p4), .val (.int p5), .val (.int (4 : Int32)), .val (.int x0), .val (.int x1), .val (.int x2), .val (.int (own_pk p1 (3 : Int32) (239 : Int32) p5)), .val (.ref b100), .unset, .unset] [(.int (0 : Int32))])) _
          refine XS.istore X113.here hx rfl (hb hby at_154) rfl (l' := #[.val (.int p0), .val (.int p1), .val (.int p2), .val (.int p3), .val (.int p4), .val (.int p5), .val (.int (4 : Int32)), .val (.int x0), .val (.int x1), .val (.int x2), .val (.int (own_pk p1 (3 : Int32) (239 : Int32) p5)), .val (.ref b100), .val (.int (0 : Int32)), .unset]) rfl ?_
          show Steps p.tables e below (T113.setTop (mkF m 156 #[.val (.int p0), .val (.int p1), .val (.int p2), .val (.int p3), .val (.int p4), .val (.int p5), .val (.int (4 : Int32)), .val (.int x0), .val (.int x1), .val (.int x2), .val (.int (own_pk p1 (3 : Int32) (239 : Int32) p5)), .val (.ref b100), .val (.int (0 : Int32)), .unset] [])) _
          refine XS.iload X113.here hx rfl (hb hby at_156) rfl ?_
          show Steps p.tables e below (T113.setTop (mkF m 158 #[.val (.int p0), .val (.int p1), .val (.int p2), .val (.int p3), .val (.int p4), .val (.int p5), .val (.int (4 : Int32)), .val (.int x0), .val (.int x1), .val (.int x2), .val (.int (own_pk p1 (3 : Int32) (239 : Int32) p5)), .val (.ref b100), .val (.int (0 : Int32)), .unset] [(.int (0 : Int32))])) _
          refine XS.ifYes X113.here hx rfl (pc0 := 158) (pc' := 165) rfl (hb hby at_158) rfl ((if0 _ _).trans (teq (by decide : (0 : Int32) = (0 : Int32))).1) (by decide) (by decide) ?_
          show Steps p.tables e below (T113.setTop (mkF m 165 #[.val (.int p0), .val (.int p1), .val (.int p2), .val (.int p3), .val (.int p4), .val (.int p5), .val (.int (4 : Int32)), .val (.int x0), .val (.int x1), .val (.int x2), .val (.int (own_pk p1 (3 : Int32) (239 : Int32) p5)), .val (.ref b100), .val (.int (0 : Int32)), .unset] [])) _
          refine XS.iconst X113.here hx rfl (hb hby at_165) ?_
          show Steps p.tables e below (T113.setTop (mkF m 166 #[.val (.int p0), .val (.int p1), .val (.int p2), .val (.int p3), .val (.int p4), .val (.int p5), .val (.int (4 : Int32)), .val (.int x0), .val (.int x1), .val (.int x2), .val (.int (own_pk p1 (3 : Int32) (239 : Int32) p5)), .val (.ref b100), .val (.int (0 : Int32)), .unset] [(.int (0 : Int32))])) _
          refine XS.istore X113.here hx rfl (hb hby at_166) rfl (l' := #[.val (.int p0), .val (.int p1), .val (.int p2), .val (.int p3), .val (.int p4), .val (.int p5), .val (.int (4 : Int32)), .val (.int x0), .val (.int x1), .val (.int x2), .val (.int (own_pk p1 (3 : Int32) (239 : Int32) p5)), .val (.ref b100), .val (.int (0 : Int32)), .val (.int (0 : Int32))]) rfl ?_
          show Steps p.tables e below (T113.setTop (mkF m 168 #[.val (.int p0), .val (.int p1), .val (.int p2), .val (.int p3), .val (.int p4), .val (.int p5), .val (.int (4 : Int32)), .val (.int x0), .val (.int x1), .val (.int x2), .val (.int (own_pk p1 (3 : Int32) (239 : Int32) p5)), .val (.ref b100), .val (.int (0 : Int32)), .val (.int (0 : Int32))] [])) _
          refine XS.aload X113.here hx rfl (hb hby at_168) rfl rfl ?_
          exact kt
        have f134 := (Nat.le_trans (Nat.le_trans (Nat.le_trans (Nat.le_trans (Nat.le_trans Z0 E100.1) (Keep.of_wr W104).1) (Keep.of_wr W107).1) (Keep.of_wr W110).1) (Keep.of_wr W113).1)
        have f135 := (((((O0.ext E100).wr W104 g_b100).wr W107 g_b100).wr W110 g_b100).wr W113 g_b100)
        obtain ⟨_, _, ⟨T136, L136, k136, n136⟩, -, X136, ⟨Lc136, hQ136, l136, y136, z136⟩, st136⟩ := Jvm.LawKit.callS X113 hx (y := (⟨"com/example/ratewright/ratewright/io/Utf8Text", "start", "([B)I"⟩ : MethodName)) hown (mvT hZ (hw _ (List.mem_of_getElem? (i := 6) rfl))) (mvT hZ (hw _ (List.mem_of_getElem? (i := 7) rfl))) (mvT hZ (hw _ (List.mem_of_getElem? (i := 8) rfl))) (mvT hZ (hw _ (List.mem_of_getElem? (i := 9) rfl))) (by decide) (backOf (W := 0) (rm2_4 l Z a0 hw [] b100 k100 (x0.toInt8.toInt32) (x1.toInt8.toInt32) (x2.toInt8.toInt32) ((own_pk p1 (3 : Int32) (239 : Int32) p5).toInt8.toInt32) rm km h113 n0 f134 V113 (SB.ext f135.2) (VB.ext f135.2)) hZ (hw _ (List.mem_of_getElem? (i := 9) rfl)) (hw _ (List.mem_of_getElem? (i := 8) rfl)) (by decide) (by decide)) (g := (mkF m 170 #[.val (.int p0), .val (.int p1), .val (.int p2), .val (.int p3), .val (.int p4), .val (.int p5), .val (.int (4 : Int32)), .val (.int x0), .val (.int x1), .val (.int x2), .val (.int (own_pk p1 (3 : Int32) (239 : Int32) p5)), .val (.ref b100), .val (.int (0 : Int32)), .val (.int (0 : Int32))] [(.ref b100)])) rfl (by rw [hml]; rfl) (argsL := [(.ref b100)]) (rest := []) (lenOf pd_1 rfl) rfl (by show 2 * 0 + _ ≤ _; exact Nat.le_of_eq rfl) (hb hby at_170) (fun _ _ => ⟨rfl, e113, (by decide : 1 + 0 ≤ _), (by decide : 4 + 0 ≤ _)⟩)
        dsimp only [Pt.U, Pt.locs, Pt.cells, Pt.slots] at X136 l136 y136 z136 st136 hQ136
        subst l136 y136 z136
        obtain ⟨rfl, N136q, e136⟩ := hQ136
        have N136 := Fr.app N113 N136q
        have c138 : ∀ t, Steps p.tables e below (T136.setTop (mkF m 175 #[.val (.int p0), .val (.int p1), .val (.int p2), .val (.int p3), .val (.int p4), .val (.int p5), .val (.int (4 : Int32)), .val (.int x0), .val (.int x1), .val (.int x2), .val (.int (own_pk p1 (3 : Int32) (239 : Int32) p5)), .val (.ref b100), .val (.int (0 : Int32)), .val (.int (0 : Int32))] [(.int (0 : Int32)), (.int (own_st (x0.toInt8.toInt32) (x1.toInt8.toInt32) (x2.toInt8.toInt32)))])) t → Steps p.tables e below (T136.setTop (mkF m 173 #[.val (.int p0), .val (.int p1), .val (.int p2), .val (.int p3), .val (.int p4), .val (.int p5), .val (.int (4 : Int32)), .val (.int x0), .val (.int x1), .val (.int x2), .val (.int (own_pk p1 (3 : Int32) (239 : Int32) p5)), .val (.ref b100), .val (.int (0 : Int32)), .val (.int (0 : Int32))] [(.int (own_st (x0.toInt8.toInt32) (x1.toInt8.toInt32) (x2.toInt8.toInt32)))])) t := by
          intro t kt
          show Steps p.tables e below (T136.setTop (mkF m 173 #[.val (.int p0), .val (.int p1), .val (.int p2), .val (.int p3), .val (.int p4), .val (.int p5), .val (.int (4 : Int32)), .val (.int x0), .val (.int x1), .val (.int x2), .val (.int (own_pk p1 (3 : Int32) (239 : Int32) p5)), .val (.ref b100), .val (.int (0 : Int32)), .val (.int (0 : Int32))] [(.int (own_st (x0.toInt8.toInt32) (x1.toInt8.toInt32) (x2.toInt8.toInt32)))])) _
          refine XS.iload X136.here hx rfl (hb hby at_173) rfl ?_
          exact kt
        have hd137 : (own_st (x0.toInt8.toInt32) (x1.toInt8.toInt32) (x2.toInt8.toInt32)) = (0 : Int32) := by unfold own_st; rw [if_neg (fun k => hc134 ((own_m x1 187 (-69) rx1 (by decide) (by decide)).mpr k.2.1))]
        have c139 : ∀ t, Steps p.tables e below (T136.setTop (mkF m 183 #[.val (.int p0), .val (.int p1), .val (.int p2), .val (.int p3), .val (.int p4), .val (.int p5), .val (.int (4 : Int32)), .val (.int x0), .val (.int x1), .val (.int x2), .val (.int (own_pk p1 (3 : Int32) (239 : Int32) p5)), .val (.ref b100), .val (.int (0 : Int32)), .val (.int (0 : Int32))] [(.int (1 : Int32))])) t → Steps p.tables e below (T136.setTop (mkF m 175 #[.val (.int p0), .val (.int p1), .val (.int p2), .val (.int p3), .val (.int p4), .val (.int p5), .val (.int (4 : Int32)), .val (.int x0), .val (.int x1), .val (.int x2), .val (.int (own_pk p1 (3 : Int32) (239 : Int32) p5)), .val (.ref b100), .val (.int (0 : Int32)), .val (.int (0 : Int32))] [(.int (0 : Int32)), (.int (own_st (x0.toInt8.toInt32) (x1.toInt8.toInt32) (x2.toInt8.toInt32)))])) t := by
          intro t kt
          show Steps p.tables e below (T136.setTop (mkF m 175 #[.val (.int p0), .val (.int p1), .val (.int p2), .val (.int p3), .val (.int p4), .val (.int p5), .val (.int (4 : Int32)), .val (.int x0), .val (.int x1), .val (.int x2), .val (.int (own_pk p1 (3 : Int32) (239 : Int32) p5)), .val (.ref b100), .val (.int (0 : Int32)), .val (.int (0 : Int32))] [(.int (0 : Int32)), (.int (own_st (x0.toInt8.toInt32) (x1.toInt8.toInt32) (x2.toInt8.toInt32)))])) _
          refine XS.icmpNo X136.here hx rfl (hb hby at_175) rfl (teq (hd137)).2 ?_
          show Steps p.tables e below (T136.setTop (mkF m 178 #[.val (.int p0), .val (.int p1), .val (.int p2), .val (.int p3), .val (.int p4), .val (.int p5), .val (.int (4 : Int32)), .val (.int x0), .val (.int x1), .val (.int x2), .val (.int (own_pk p1 (3 : Int32) (239 : Int32) p5)), .val (.ref b100), .val (.int (0 : Int32)), .val (.int (0 : Int32))] [])) _
          refine XS.iconst X136.here hx rfl (hb hby at_178) ?_
          show Steps p.tables e below (T136.setTop (mkF m 179 #[.val (.int p0), .val (.int p1), .val (.int p2), .val (.int p3), .val (.int p4), .val (.int p5), .val (.int (4 : Int32)), .val (.int x0), .val (.int x1), .val (.int x2), .val (.int (own_pk p1 (3 : Int32) (239 : Int32) p5)), .val (.ref b100), .val (.int (0 : Int32)), .val (.int (0 : Int32))] [(.int (1 : Int32))])) _
          refine XS.goto X136.here hx rfl (pc0 := 179) (pc' := 183) rfl (hb hby at_179) (by decide) (by decide) ?_
          exact kt
        obtain ⟨fs, hr, hrun, hended, hW, hsame⟩ := X136.leave (v := some (.int (1 : Int32))) (fun h => by rw [Bd.returns] at h; cases h)
        refine ⟨_, _, pre0 _ (c1 _ (st2 _ (c3 _ (c4 _ (c5 _ (st6 _ (c7 _ (c8 _ (c9 _ (st10 _ (c11 _ (c12 _ (c13 _ (st14 _ (c15 _ (c99 _ (c101 _ (st100 _ (c102 _ (st104 _ (c105 _ (st107 _ (c108 _ (st110 _ (c111 _ (st113 _ (c114 _ (c115 _ (c133 _ (st136 _ (c138 _ (c139 _ (?_))))))))))))))))))))))))))))))))), hrun, hended, _, _, rfl, ?_, ⟨_, rfl⟩, hW, hsame.mono (by decide) (by decide)⟩
        · show Steps p.tables e below (T136.setTop (mkF m 183 #[.val (.int p0), .val (.int p1), .val (.int p2), .val (.int p3), .val (.int p4), .val (.int p5), .val (.int (4 : Int32)), .val (.int x0), .val (.int x1), .val (.int x2), .val (.int (own_pk p1 (3 : Int32) (239 : Int32) p5)), .val (.ref b100), .val (.int (0 : Int32)), .val (.int (0 : Int32))] [(.int (1 : Int32))])) _
          exact retN X136 hx (t := .boolean) Bd.returns (by simp) (hb hby at_183) hr
        · show Q0 Z p0 p1 p2 p3 p4 p5 rm km h0 n0 _ T136.heap _
          rw [e136]
          exact ⟨congrArg (fun z => some (Value.int z)) (show (1 : Int32) = (1 : Int32) from by rfl), N136⟩
    · -- it isn't
      have c141 : ∀ t, Steps p.tables e below (T113.setTop (mkF m 170 #[.val (.int p0), .val (.int p1), .val (.int p2), .val (.int p3), .val (.int p4), .val (.int p5), .val (.int (4 : Int32)), .val (.int x0), .val (.int x1), .val (.int x2), .val (.int (own_pk p1 (3 : Int32) (239 : Int32) p5)), .val (.ref b100), .val (.int (0 : Int32)), .val (.int (0 : Int32))] [(.ref b100)])) t → Steps p.tables e below (T113.setTop (mkF m 122 #[.val (.int p0), .val (.int p1), .val (.int p2), .val (.int p3), .val (.int p4), .val (.int p5), .val (.int (4 : Int32)), .val (.int x0), .val (.int x1), .val (.int x2), .val (.int (own_pk p1 (3 : Int32) (239 : Int32) p5)), .val (.ref b100), .unset, .unset] [(.int (239 : Int32)), (.int (x0 &&& (255 : Int32)))])) t := by
        intro t kt
        show Steps p.tables e below (T113.setTop (mkF m 122 #[.val (.int p0), .val (.int p1), .val (.int p2), .val (.int p3), .val (.int p4), .val (.int p5), .val (.int (4 : Int32)), .val (.int x0), .val (.int x1), .val (.int x2), .val (.int (own_pk p1 (3 : Int32) (239 : Int32) p5)), .val (.ref b100), .unset, .unset] [(.int (239 : Int32)), (.int (x0 &&& (255 : Int32)))])) _
        refine XS.icmpYes X113.here hx rfl (pc0 := 122) (pc' := 153) rfl (hb hby at_122) rfl (feq hc122).2 (by decide) (by decide) ?_
        show Steps p.tables e below (T113.setTop (mkF m 153 #[.val (.int p0), .val (.int p1), .val (.int p2), .val (.int p3), .val (.int p4), .val (.int p5), .val (.int (4 : Int32)), .val (.int x0), .val (.int x1), .val (.int x2), .val (.int (own_pk p1 (3 : Int32) (239 : Int32) p5)), .val (.ref b100), .unset, .unset] [])) _
        refine XS.iconst X113.here hx rfl (hb hby at_153) ?_
        show Steps p.tables e below (T113.setTop (mkF m 154 #[.val (.int p0), .val (.int p1), .val (.int p2), .val (.int p3), .val (.int p4), .val (.int p5), .val (.int (4 : Int32)), .val (.int x0), .val (.int x1), .val (.int x2), .val (.int (own_pk p1 (3 : Int32) (239 : Int32) p5)), .val (.ref b100), .unset, .unset] [(.int (0 : Int32))])) _
        refine XS.istore X113.here hx rfl (hb hby at_154) rfl (l' := #[.val (.int p0), .val (.int p1), .val (.int p2), .val (.int p3), .val (.int p4), .val (.int p5), .val (.int (4 : Int32)), .val (.int x0), .val (.int x1), .val (.int x2), .val (.int (own_pk p1 (3 : Int32) (239 : Int32) p5)), .val (.ref b100), .val (.int (0 : Int32)), .unset]) rfl ?_
        show Steps p.tables e below (T113.setTop (mkF m 156 #[.val (.int p0), .val (.int p1), .val (.int p2), .val (.int p3), .val (.int p4), .val (.int p5), .val (.int (4 : Int32)), .val (.int x0), .val (.int x1), .val (.int x2), .val (.int (own_pk p1 (3 : Int32) (239 : Int32) p5)), .val (.ref b100), .val (.int (0 : Int32)), .unset] [])) _
        refine XS.iload X113.here hx rfl (hb hby at_156) rfl ?_
        show Steps p.tables e below (T113.setTop (mkF m 158 #[.val (.int p0), .val (.int p1), .val (.int p2), .val (.int p3), .val (.int p4), .val (.int p5), .val (.int (4 : Int32)), .val (.int x0), .val (.int x1), .val (.int x2), .val (.int (own_pk p1 (3 : Int32) (239 : Int32) p5)), .val (.ref b100), .val (.int (0 : Int32)), .unset] [(.int (0 : Int32))])) _
        refine XS.ifYes X113.here hx rfl (pc0 := 158) (pc' := 165) rfl (hb hby at_158) rfl ((if0 _ _).trans (teq (by decide : (0 : Int32) = (0 : Int32))).1) (by decide) (by decide) ?_
        show Steps p.tables e below (T113.setTop (mkF m 165 #[.val (.int p0), .val (.int p1), .val (.int p2), .val (.int p3), .val (.int p4), .val (.int p5), .val (.int (4 : Int32)), .val (.int x0), .val (.int x1), .val (.int x2), .val (.int (own_pk p1 (3 : Int32) (239 : Int32) p5)), .val (.ref b100), .val (.int (0 : Int32)), .unset] [])) _
        refine XS.iconst X113.here hx rfl (hb hby at_165) ?_
        show Steps p.tables e below (T113.setTop (mkF m 166 #[.val (.int p0), .val (.int p1), .val (.int p2), .val (.int p3), .val (.int p4), .val (.int p5), .val (.int (4 : Int32)), .val (.int x0), .val (.int x1), .val (.int x2), .val (.int (own_pk p1 (3 : Int32) (239 : Int32) p5)), .val (.ref b100), .val (.int (0 : Int32)), .unset] [(.int (0 : Int32))])) _
        refine XS.istore X113.here hx rfl (hb hby at_166) rfl (l' := #[.val (.int p0), .val (.int p1), .val (.int p2), .val (.int p3), .val (.int p4), .val (.int p5), .val (.int (4 : Int32)), .val (.int x0), .val (.int x1), .val (.int x2), .val (.int (own_pk p1 (3 : Int32) (239 : Int32) p5)), .val (.ref b100), .val (.int (0 : Int32)), .val (.int (0 : Int32))]) rfl ?_
        show Steps p.tables e below (T113.setTop (mkF m 168 #[.val (.int p0), .val (.int p1), .val (.int p2), .val (.int p3), .val (.int p4), .val (.int p5), .val (.int (4 : Int32)), .val (.int x0), .val (.int x1), .val (.int x2), .val (.int (own_pk p1 (3 : Int32) (239 : Int32) p5)), .val (.ref b100), .val (.int (0 : Int32)), .val (.int (0 : Int32))] [])) _
        refine XS.aload X113.here hx rfl (hb hby at_168) rfl rfl ?_
        exact kt
      have f142 := (Nat.le_trans (Nat.le_trans (Nat.le_trans (Nat.le_trans (Nat.le_trans Z0 E100.1) (Keep.of_wr W104).1) (Keep.of_wr W107).1) (Keep.of_wr W110).1) (Keep.of_wr W113).1)
      have f143 := (((((O0.ext E100).wr W104 g_b100).wr W107 g_b100).wr W110 g_b100).wr W113 g_b100)
      obtain ⟨_, _, ⟨T144, L144, k144, n144⟩, -, X144, ⟨Lc144, hQ144, l144, y144, z144⟩, st144⟩ := Jvm.LawKit.callS X113 hx (y := (⟨"com/example/ratewright/ratewright/io/Utf8Text", "start", "([B)I"⟩ : MethodName)) hown (mvT hZ (hw _ (List.mem_of_getElem? (i := 6) rfl))) (mvT hZ (hw _ (List.mem_of_getElem? (i := 7) rfl))) (mvT hZ (hw _ (List.mem_of_getElem? (i := 8) rfl))) (mvT hZ (hw _ (List.mem_of_getElem? (i := 9) rfl))) (by decide) (backOf (W := 0) (rm2_4 l Z a0 hw [] b100 k100 (x0.toInt8.toInt32) (x1.toInt8.toInt32) (x2.toInt8.toInt32) ((own_pk p1 (3 : Int32) (239 : Int32) p5).toInt8.toInt32) rm km h113 n0 f142 V113 (SB.ext f143.2) (VB.ext f143.2)) hZ (hw _ (List.mem_of_getElem? (i := 9) rfl)) (hw _ (List.mem_of_getElem? (i := 8) rfl)) (by decide) (by decide)) (g := (mkF m 170 #[.val (.int p0), .val (.int p1), .val (.int p2), .val (.int p3), .val (.int p4), .val (.int p5), .val (.int (4 : Int32)), .val (.int x0), .val (.int x1), .val (.int x2), .val (.int (own_pk p1 (3 : Int32) (239 : Int32) p5)), .val (.ref b100), .val (.int (0 : Int32)), .val (.int (0 : Int32))] [(.ref b100)])) rfl (by rw [hml]; rfl) (argsL := [(.ref b100)]) (rest := []) (lenOf pd_1 rfl) rfl (by show 2 * 0 + _ ≤ _; exact Nat.le_of_eq rfl) (hb hby at_170) (fun _ _ => ⟨rfl, e113, (by decide : 1 + 0 ≤ _), (by decide : 4 + 0 ≤ _)⟩)
      dsimp only [Pt.U, Pt.locs, Pt.cells, Pt.slots] at X144 l144 y144 z144 st144 hQ144
      subst l144 y144 z144
      obtain ⟨rfl, N144q, e144⟩ := hQ144
      have N144 := Fr.app N113 N144q
      have c146 : ∀ t, Steps p.tables e below (T144.setTop (mkF m 175 #[.val (.int p0), .val (.int p1), .val (.int p2), .val (.int p3), .val (.int p4), .val (.int p5), .val (.int (4 : Int32)), .val (.int x0), .val (.int x1), .val (.int x2), .val (.int (own_pk p1 (3 : Int32) (239 : Int32) p5)), .val (.ref b100), .val (.int (0 : Int32)), .val (.int (0 : Int32))] [(.int (0 : Int32)), (.int (own_st (x0.toInt8.toInt32) (x1.toInt8.toInt32) (x2.toInt8.toInt32)))])) t → Steps p.tables e below (T144.setTop (mkF m 173 #[.val (.int p0), .val (.int p1), .val (.int p2), .val (.int p3), .val (.int p4), .val (.int p5), .val (.int (4 : Int32)), .val (.int x0), .val (.int x1), .val (.int x2), .val (.int (own_pk p1 (3 : Int32) (239 : Int32) p5)), .val (.ref b100), .val (.int (0 : Int32)), .val (.int (0 : Int32))] [(.int (own_st (x0.toInt8.toInt32) (x1.toInt8.toInt32) (x2.toInt8.toInt32)))])) t := by
        intro t kt
        show Steps p.tables e below (T144.setTop (mkF m 173 #[.val (.int p0), .val (.int p1), .val (.int p2), .val (.int p3), .val (.int p4), .val (.int p5), .val (.int (4 : Int32)), .val (.int x0), .val (.int x1), .val (.int x2), .val (.int (own_pk p1 (3 : Int32) (239 : Int32) p5)), .val (.ref b100), .val (.int (0 : Int32)), .val (.int (0 : Int32))] [(.int (own_st (x0.toInt8.toInt32) (x1.toInt8.toInt32) (x2.toInt8.toInt32)))])) _
        refine XS.iload X144.here hx rfl (hb hby at_173) rfl ?_
        exact kt
      have hd145 : (own_st (x0.toInt8.toInt32) (x1.toInt8.toInt32) (x2.toInt8.toInt32)) = (0 : Int32) := by unfold own_st; rw [if_neg (fun k => hc122 ((own_m x0 239 (-17) rx0 (by decide) (by decide)).mpr k.1))]
      have c147 : ∀ t, Steps p.tables e below (T144.setTop (mkF m 183 #[.val (.int p0), .val (.int p1), .val (.int p2), .val (.int p3), .val (.int p4), .val (.int p5), .val (.int (4 : Int32)), .val (.int x0), .val (.int x1), .val (.int x2), .val (.int (own_pk p1 (3 : Int32) (239 : Int32) p5)), .val (.ref b100), .val (.int (0 : Int32)), .val (.int (0 : Int32))] [(.int (1 : Int32))])) t → Steps p.tables e below (T144.setTop (mkF m 175 #[.val (.int p0), .val (.int p1), .val (.int p2), .val (.int p3), .val (.int p4), .val (.int p5), .val (.int (4 : Int32)), .val (.int x0), .val (.int x1), .val (.int x2), .val (.int (own_pk p1 (3 : Int32) (239 : Int32) p5)), .val (.ref b100), .val (.int (0 : Int32)), .val (.int (0 : Int32))] [(.int (0 : Int32)), (.int (own_st (x0.toInt8.toInt32) (x1.toInt8.toInt32) (x2.toInt8.toInt32)))])) t := by
        intro t kt
        show Steps p.tables e below (T144.setTop (mkF m 175 #[.val (.int p0), .val (.int p1), .val (.int p2), .val (.int p3), .val (.int p4), .val (.int p5), .val (.int (4 : Int32)), .val (.int x0), .val (.int x1), .val (.int x2), .val (.int (own_pk p1 (3 : Int32) (239 : Int32) p5)), .val (.ref b100), .val (.int (0 : Int32)), .val (.int (0 : Int32))] [(.int (0 : Int32)), (.int (own_st (x0.toInt8.toInt32) (x1.toInt8.toInt32) (x2.toInt8.toInt32)))])) _
        refine XS.icmpNo X144.here hx rfl (hb hby at_175) rfl (teq (hd145)).2 ?_
        show Steps p.tables e below (T144.setTop (mkF m 178 #[.val (.int p0), .val (.int p1), .val (.int p2), .val (.int p3), .val (.int p4), .val (.int p5), .val (.int (4 : Int32)), .val (.int x0), .val (.int x1), .val (.int x2), .val (.int (own_pk p1 (3 : Int32) (239 : Int32) p5)), .val (.ref b100), .val (.int (0 : Int32)), .val (.int (0 : Int32))] [])) _
        refine XS.iconst X144.here hx rfl (hb hby at_178) ?_
        show Steps p.tables e below (T144.setTop (mkF m 179 #[.val (.int p0), .val (.int p1), .val (.int p2), .val (.int p3), .val (.int p4), .val (.int p5), .val (.int (4 : Int32)), .val (.int x0), .val (.int x1), .val (.int x2), .val (.int (own_pk p1 (3 : Int32) (239 : Int32) p5)), .val (.ref b100), .val (.int (0 : Int32)), .val (.int (0 : Int32))] [(.int (1 : Int32))])) _
        refine XS.goto X144.here hx rfl (pc0 := 179) (pc' := 183) rfl (hb hby at_179) (by decide) (by decide) ?_
        exact kt
      obtain ⟨fs, hr, hrun, hended, hW, hsame⟩ := X144.leave (v := some (.int (1 : Int32))) (fun h => by rw [Bd.returns] at h; cases h)
      refine ⟨_, _, pre0 _ (c1 _ (st2 _ (c3 _ (c4 _ (c5 _ (st6 _ (c7 _ (c8 _ (c9 _ (st10 _ (c11 _ (c12 _ (c13 _ (st14 _ (c15 _ (c99 _ (c101 _ (st100 _ (c102 _ (st104 _ (c105 _ (st107 _ (c108 _ (st110 _ (c111 _ (st113 _ (c114 _ (c141 _ (st144 _ (c146 _ (c147 _ (?_)))))))))))))))))))))))))))))))), hrun, hended, _, _, rfl, ?_, ⟨_, rfl⟩, hW, hsame.mono (by decide) (by decide)⟩
      · show Steps p.tables e below (T144.setTop (mkF m 183 #[.val (.int p0), .val (.int p1), .val (.int p2), .val (.int p3), .val (.int p4), .val (.int p5), .val (.int (4 : Int32)), .val (.int x0), .val (.int x1), .val (.int x2), .val (.int (own_pk p1 (3 : Int32) (239 : Int32) p5)), .val (.ref b100), .val (.int (0 : Int32)), .val (.int (0 : Int32))] [(.int (1 : Int32))])) _
        exact retN X144 hx (t := .boolean) Bd.returns (by simp) (hb hby at_183) hr
      · show Q0 Z p0 p1 p2 p3 p4 p5 rm km h0 n0 _ T144.heap _
        rw [e144]
        exact ⟨congrArg (fun z => some (Value.int z)) (show (1 : Int32) = (1 : Int32) from by rfl), N144⟩
set_option maxRecDepth 65536 in
set_option maxHeartbeats 40000000 in
theorem comes_1 {Post : Tables → Env → Array Value → State → Outcome → State → Prop} (hpost : ∀ tb e args s v u, (limb_1_1.after args s (.returned v) u = true ∧ limb_1_2.after args s (.returned v) u = true ∧ True) → FrameEnd s (.returned v) u (Jvm.fieldLocs frame_1_writes args s ++ Jvm.arrayLocs frame_1_arrays args s ++ Jvm.staticLocs frame_1_statics s) 16 128 → Post tb e args s (.returned v) u) :
    ArmFor flags0 classFile x code maxLocals ret World_1 tables_1 room_1 Calls_1 rest_1 Pre_1 Post := by
  intro l hfl _ _ p e ha hc hk s m args below hf hA hF happ hP
  obtain ⟨hcalls, hrest, hpre⟩ := hP
  obtain ⟨-, -, -, hnamed, -, -, -, hat⟩ := (Spec.applies_iff hf).mp happ
  obtain ⟨hg, hn⟩ := and_e (Cond.before_iff.mp (show (Jvm.Cond.and given_1 narrow_1).before args s = true from hpre))
  obtain ⟨g1, g2⟩ := and_e hg
  obtain ⟨g3, g4⟩ := and_e g2
  obtain ⟨g5, g6⟩ := and_e g4
  obtain ⟨g7, g8⟩ := and_e g6
  obtain ⟨g9, g10⟩ := and_e g8
  obtain ⟨g11, g12⟩ := and_e g10
  obtain ⟨w0, w1, w2, w3, w4, w5, rfl⟩ : ∃ w0 w1 w2 w3 w4 w5 : Value, args = #[w0, w1, w2, w3, w4, w5] := by
    have hs : args.size = 6 := by simpa [Cond.value, given_1] using g1
    obtain ⟨L⟩ := args
    match L, hs with
    | [w0, w1, w2, w3, w4, w5], _ => exact ⟨w0, w1, w2, w3, w4, w5, rfl⟩
  have hw := fun d (hd : d ∈ tables_1) => atoms_spec (ws := Jvm.Cond.code x code maxLocals ret :: tables_1) hat d (List.mem_cons_of_mem _ hd)
  have hfit : Fit s := fun {y c} hc i hi => by
    obtain ⟨ha, rfl⟩ := Array.getElem?_eq_some_iff.mp hc
    have q := List.all_eq_true.mp ((Array.all_eq_true_iff_forall_mem.mp hF) _ (Array.getElem_mem ha)) i (List.mem_range.mpr hi)
    simpa [Array.getElem?_eq_getElem hi] using q
  obtain ⟨i0, ei0⟩ := is_v g3
  obtain rfl : w0 = (.int i0) := Option.some.inj ei0
  obtain ⟨i1, ei1⟩ := is_v g5
  obtain rfl : w1 = (.int i1) := Option.some.inj ei1
  obtain ⟨i2, ei2⟩ := is_v g7
  obtain rfl : w2 = (.int i2) := Option.some.inj ei2
  obtain ⟨i3, ei3⟩ := is_v g9
  obtain rfl : w3 = (.int i3) := Option.some.inj ei3
  obtain ⟨i4, ei4⟩ := is_v g11
  obtain rfl : w4 = (.int i4) := Option.some.inj ei4
  obtain ⟨i5, ei5⟩ := is_v g12
  obtain rfl : w5 = (.int i5) := Option.some.inj ei5
  obtain ⟨n1, n2⟩ := and_e hn
  obtain ⟨n3, n4⟩ := and_e n2
  obtain ⟨n5, n6⟩ := and_e n4
  obtain ⟨n7, n8⟩ := and_e n6
  obtain ⟨rm, ev⟩ := arr_v n1
  obtain ⟨cl, A⟩ := Arr.start ev n1
  have SB := Sta.start ev (Or.inr ⟨(hw _ (List.mem_of_getElem? (i := 8) rfl)), (hw _ (List.mem_of_getElem? (i := 11) rfl))⟩)
  have VB := own_arr hfit ev A n3 n5 n7 n8
  obtain ⟨n, o, h1, h2, h3, _, L, rfl, ⟨rfl, N⟩, hq⟩ := rm0 l s _ hw tables_1 i0 i1 i2 i3 i4 i5 rm cl.cls s.heap s.heap.size (Nat.le_refl _) (Old.start s) SB VB p e ha hc hk s m _ below hf ((Spec.applies_iff_loose hf).mp happ).1 ⟨rfl, State.Warmed39.refl s, rfl⟩ trivial
  refine ⟨n, _, h1, h2, h3, hpost _ _ _ _ _ _ ⟨Cond.after_iff.mpr rfl, Cond.after_iff.mpr (eq_i res_at (Term.int_eval (1)) rfl), trivial⟩ ⟨hq.1, hq.2.1, (hq.2.2.sift fun y hy => Or.inr (N y hy)).mono (by decide) (by decide)⟩⟩
theorem main_1_1 : Claimed_1_1 := comes_1 fun _ _ _ _ _ _ h hF => ⟨h.1, hF⟩
theorem main_1_2 : Claimed_1_2 := comes_1 fun _ _ _ _ _ _ h hF => ⟨h.2.1, hF⟩
end Jvm.Pilot.@@N@@
namespace Jvm.Pilot.@@N@@
open Jvm Jvm.ClassFile Sem Op Lib Jvm.Free Jvm.Stand Jvm.Pilot.@@N@@.Jvm.D
/-! MADE BY PROGRAM (witnessworld.py) out of the Statement's table words and the real class files: 9 classes; the members and pool entries that the words name. The judged class is class 1, her method 1. -/
namespace start1
open Jvm.ClassFile
def u (s : String) : CpInfo := .utf8 (stringToUtf16 s)
/-- a pool by its gaps: so many unusable entries, then the entry; so many at the end -/
def gap : Nat → List CpInfo → List CpInfo
  | 0, r => r
  | n + 1, r => .unusable :: gap n r
def poolList (es : List (Nat × CpInfo)) (last : Nat) : List CpInfo := es.foldr (fun e r => gap e.1 (e.2 :: r)) (gap last [])
def pool (es : List (Nat × CpInfo)) (last : Nat) : Array CpInfo := ⟨poolList es last⟩
def fileOf (pool : Array CpInfo) (this : Nat) (attrs : Array Attribute := #[]) (ms : Array MethodInfo := #[]) (fl : Nat := 33) (sup : Nat := 0) (ifs : Array Nat := #[]) (fds : Array FieldInfo := #[]) : ClassFile where
  minorVersion := 0
  majorVersion := 65
  constantPool := pool
  accessFlags := fl
  thisClass := this
  superClass := sup
  interfaces := ifs
  fields := fds
  methods := ms
  attributes := attrs
def plain (name : String) (sup : Option ClassId) : Class where
  name := name
  kind := .ordinary
  loader := none
  accessFlags := 33
  super := sup
  interfaces := #[]
  cf := none
  fields := #[]
  methods := #[]
  instanceTypes := #[]
  staticTypes := #[]
  resolved := #[]
  callSites := []
  init := .initialized
  statics := none
  mirror := none

def pool0 : Array CpInfo := pool [(5, u "<init>"), (0, u "()V"), (1, .class_ 10), (1, u "java/lang/Object")] 113

def k0m0 : Method := { name := "<init>", desc := "()V", sig := { parameters := [], returnType := none }, accessFlags := 1, code := none }
/-- java/lang/Object -/
def k0 : Class := { plain "java/lang/Object" none with
  accessFlags := 33
  interfaces := #[]
  cf := some (fileOf pool0 8 #[] #[{ accessFlags := 1, nameIndex := 5, descriptorIndex := 6, attributes := #[] }] 33 0 #[] #[])
  fields := #[]
  methods := #[k0m0]
  instanceTypes := #[]
  staticTypes := #[]
  resolved := Array.replicate 124 none
  statics := none }

def pool1 : Array CpInfo := pool [(2, .class_ 4), (1, u "java/lang/Object"), (0, u "<init>"), (0, u "()V"), (0, .integer 2147483647), (0, .methodref 9 10), (0, .class_ 11), (0, .nameAndType 12 13), (0, u "com/example/ratewright/ratewright/io/Utf8TextStartPinLaw"), (0, u "pick"), (0, u "(IIII)B"), (0, .methodref 15 16), (0, .class_ 17), (0, .nameAndType 18 19), (0, u "com/example/ratewright/ratewright/io/Utf8Text"), (0, u "start"), (0, u "([B)I"), (2, u "law"), (0, u "(IIIIII)Z")] 5

def k1m0 : Method := { name := "<init>", desc := "()V", sig := { parameters := [], returnType := none }, accessFlags := 1, code := none }
def k1c1 : Code := { maxStack := 4, maxLocals := 14, code := code, exceptionTable := #[], attributes := #[] }
def k1m1 : Method := { name := "law", desc := "(IIIIII)Z", sig := { parameters := [.int, .int, .int, .int, .int, .int], returnType := some .boolean }, accessFlags := 9, code := some k1c1 }
def k1c2 : Code := { maxStack := 2, maxLocals := 4, code := method_3_code, exceptionTable := #[], attributes := #[] }
def k1m2 : Method := { name := "pick", desc := "(IIII)B", sig := { parameters := [.int, .int, .int, .int], returnType := some .byte }, accessFlags := 10, code := some k1c2 }
/-- com/example/ratewright/ratewright/io/Utf8TextStartPinLaw -/
def k1 : Class := { plain "com/example/ratewright/ratewright/io/Utf8TextStartPinLaw" (some 0) with
  accessFlags := 49
  interfaces := #[]
  cf := some (fileOf pool1 9 #[] #[{ accessFlags := 1, nameIndex := 5, descriptorIndex := 6, attributes := #[] }, { accessFlags := 9, nameIndex := 22, descriptorIndex := 23, attributes := #[] }, { accessFlags := 10, nameIndex := 12, descriptorIndex := 13, attributes := #[] }] 49 2 #[] #[])
  fields := #[]
  methods := #[k1m0, k1m1, k1m2]
  instanceTypes := #[]
  staticTypes := #[]
  resolved := Array.replicate 29 none
  statics := none }

def pool2 : Array CpInfo := pool [(2, .class_ 4), (1, u "java/lang/Object"), (0, u "<init>"), (0, u "()V"), (0, .fieldref 8 9), (0, .class_ 10), (0, .nameAndType 11 12), (0, u "com/example/ratewright/ratewright/io/Utf8Text"), (0, u "BYTE_ORDER_MARK"), (0, u "[B"), (10, u "BYTES"), (0, u "Ljava/util/HexFormat;"), (13, u "LEAST"), (0, u "[I"), (43, u "start"), (0, u "([B)I")] 30

def k2m0 : Method := { name := "<init>", desc := "()V", sig := { parameters := [], returnType := none }, accessFlags := 2, code := none }
def k2c1 : Code := { maxStack := 3, maxLocals := 2, code := prog_4_method_2_code, exceptionTable := #[], attributes := #[] }
def k2m1 : Method := { name := "start", desc := "([B)I", sig := { parameters := [(.array .byte)], returnType := some .int }, accessFlags := 8, code := some k2c1 }
/-- com/example/ratewright/ratewright/io/Utf8Text -/
def k2 : Class := { plain "com/example/ratewright/ratewright/io/Utf8Text" (some 0) with
  accessFlags := 48
  interfaces := #[]
  cf := some (fileOf pool2 8 #[] #[{ accessFlags := 2, nameIndex := 5, descriptorIndex := 6, attributes := #[] }, { accessFlags := 8, nameIndex := 83, descriptorIndex := 84, attributes := #[] }] 48 2 #[] #[{ accessFlags := 26, nameIndex := 11, descriptorIndex := 12, attributes := #[] }, { accessFlags := 26, nameIndex := 38, descriptorIndex := 39, attributes := #[] }, { accessFlags := 26, nameIndex := 23, descriptorIndex := 24, attributes := #[] }])
  fields := #[{ name := "BYTE_ORDER_MARK", type := (.array .byte), accessFlags := 26, slot := 0, constantValue := 0 }, { name := "LEAST", type := (.array .int), accessFlags := 26, slot := 1, constantValue := 0 }, { name := "BYTES", type := (.object "java/util/HexFormat"), accessFlags := 26, slot := 2, constantValue := 0 }]
  methods := #[k2m0, k2m1]
  instanceTypes := #[]
  staticTypes := #[(.array .byte), (.array .int), (.object "java/util/HexFormat")]
  resolved := Array.replicate 115 none
  statics := some 0 }

def pool3 : Array CpInfo := pool [(1, u "java/lang/Cloneable"), (0, .class_ 1), (0, u "java/lang/Object"), (0, .class_ 3)] 3

/-- java/lang/Cloneable -/
def k3 : Class := { plain "java/lang/Cloneable" (some 0) with
  accessFlags := 1537
  interfaces := #[]
  cf := some (fileOf pool3 2 #[] #[] 1537 4 #[] #[])
  fields := #[]
  methods := #[]
  instanceTypes := #[]
  staticTypes := #[]
  resolved := Array.replicate 8 none
  statics := none }

def pool4 : Array CpInfo := pool [(1, u "java/io/Serializable"), (0, .class_ 1), (0, u "java/lang/Object"), (0, .class_ 3)] 3

/-- java/io/Serializable -/
def k4 : Class := { plain "java/io/Serializable" (some 0) with
  accessFlags := 1537
  interfaces := #[]
  cf := some (fileOf pool4 2 #[] #[] 1537 4 #[] #[])
  fields := #[]
  methods := #[]
  instanceTypes := #[]
  staticTypes := #[]
  resolved := Array.replicate 8 none
  statics := none }

/-- the primitive byte -/
def k5 : Class := { plain "byte" none with kind := .primitive 'B', accessFlags := 0x411 }
/-- [B -/
def k6 : Class := { plain "[B" (some 0) with kind := .array 5 .byte, interfaces := #[3, 4], accessFlags := 1041 }

/-- the primitive int -/
def k7 : Class := { plain "int" none with kind := .primitive 'I', accessFlags := 0x411 }
/-- [I -/
def k8 : Class := { plain "[I" (some 0) with kind := .array 7 .int, interfaces := #[3, 4], accessFlags := 1041 }

def heap : Heap := #[{ cls := 2, slots := #[.ref 1, .null, .null], vm := .statics 2 },
  { cls := 6, slots := #[.int (-17), .int (-69), .int (-65)], vm := .none }]
def classes : Array Class := #[k0, k1, k2, k3, k4, k5, k6, k7, k8]
def interned : List (Array UInt16 × Addr) := []
def slotsUsed : Nat := 6
def theMethod : MethodId := ⟨1, 1⟩
def args0 : Array Value := #[.int 5, .int 5, .int 5, .int 5, .int 5, .int 5]
def aboutOver (below : List Frame) : State where
  vm := { classes := classes, interned := interned.toArray }
  heap := heap
  slotsUsed := slotsUsed
  threads := #[{ frames := .invoking theMethod args0 :: below }]
def below0 : List Frame := [.native { method := ⟨0, 0⟩, args := #[] }]
def about1 : State := aboutOver below0
def p0 : Program := .bare "" "" ""
def e0 : Env := launch0.env 0 0 0
theorem w_frames : about1.frames = Frame.invoking theMethod args0 :: below0 := rfl
set_option maxRecDepth 65536 in
theorem w_args : argsFit about1.vm theMethod args0 = true := by decide +kernel
set_option maxRecDepth 65536 in
theorem w_heap : heapFits about1 = true := by decide +kernel
set_option maxRecDepth 65536 in
theorem w_runnable : about1.curStatus? = some .runnable := by decide +kernel
set_option maxRecDepth 65536 in
theorem w_alone : about1.alone = true := by decide +kernel
set_option maxRecDepth 65536 in
theorem w_named : about1.methodNamed? x = some theMethod := by decide +kernel
set_option maxRecDepth 65536 in
theorem w_hears : about1.hears theMethod below0 = true := by decide +kernel
set_option maxRecDepth 65536 in
theorem w_ripe : about1.ripe theMethod args0 below0 = true := by decide +kernel
theorem w_running : about1.status = .running := rfl
set_option maxRecDepth 65536 in
theorem w_room : about1.hasRoom e0.platform room_1 = true :=
  launch0.hasRoom_least _ room_1 (by decide +kernel) (by decide +kernel) (by decide +kernel) (by decide +kernel) (by decide +kernel) (by decide +kernel)
theorem allAtoms_all (ts : List Jvm.Cond) (a : Array Jvm.Value) (st : Jvm.State) : (allAtoms ts).before a st = ts.all (fun c => c.before a st) := by
  induction ts with
  | nil => rfl
  | cons c t ih =>
    show (Jvm.Cond.and c (allAtoms t)).before a st = _
    rw [Jvm.Cond.before_and, ih, List.all_cons]
def words1 : List Jvm.Cond := Jvm.Cond.code x code maxLocals ret :: tables_1
/-- a 'code' word, met by the world's own term for the bytes: nothing is compared byte by byte -/
theorem code_word {y : MethodName} {bytes : ByteArray} {mx : Nat} {rt : Option FieldType} {a : Array Value} {s : State} {m : MethodId} {meth : Method} {c : Code} (h1 : s.methodNamed? y = some m) (h2 : s.vm.method? m = some meth) (h3 : meth.code = some c) (h4 : c.code = bytes)
    (h5 : (c.maxLocals == mx && c.exceptionTable.isEmpty && decide (c.maxStack ≤ mostOperands) && decide (meth.sig.returnType = rt) && !meth.locks && decide (parseMethodDescriptor y.desc = some meth.sig)) = true) : (Jvm.Cond.code y bytes mx rt).before a s = true := by
  simp only [Bool.and_eq_true, beq_iff_eq, Bool.not_eq_true', decide_eq_true_eq] at h5
  obtain ⟨⟨⟨⟨⟨g1, g2⟩, g3⟩, g4⟩, g5⟩, g6⟩ := h5
  simp [Cond.before, Cond.holds, Cond.value, h1, h2, h3, h4, g1, g2, g3, g4, g5, g6]
def isCode : Jvm.Cond → Bool
  | .code _ _ _ _ => true
  | _ => false
theorem all_split {L : List Jvm.Cond} {P : Jvm.Cond → Bool} (h1 : L.all (fun c => isCode c || P c) = true) (h2 : ∀ c ∈ L.filter isCode, P c = true) : L.all P = true := by
  refine List.all_eq_true.mpr fun c hc => ?_
  have h := List.all_eq_true.mp h1 c hc
  rcases Bool.eq_false_or_eq_true (isCode c) with hi | hi
  · exact h2 c (List.mem_filter.mpr ⟨hc, hi⟩)
  · simpa [hi] using h
set_option maxRecDepth 65536 in
theorem w_c0 : (Jvm.Cond.code x code maxLocals ret).before args0 about1 = true := code_word (m := ⟨1, 1⟩) (meth := k1m1) (c := k1c1) (by decide +kernel) rfl rfl rfl (by decide +kernel)
set_option maxRecDepth 65536 in
theorem w_c1 : (Jvm.Cond.code ({ cls := "com/example/ratewright/ratewright/io/Utf8TextStartPinLaw", name := "pick", desc := "(IIII)B" } : Jvm.MethodName) method_3_code (4 : Nat) (Option.some Jvm.ClassFile.FieldType.byte)).before args0 about1 = true := code_word (m := ⟨1, 2⟩) (meth := k1m2) (c := k1c2) (by decide +kernel) rfl rfl rfl (by decide +kernel)
set_option maxRecDepth 65536 in
theorem w_c2 : (Jvm.Cond.code ({ cls := "com/example/ratewright/ratewright/io/Utf8Text", name := "start", desc := "([B)I" } : Jvm.MethodName) prog_4_method_2_code (2 : Nat) (Option.some Jvm.ClassFile.FieldType.int)).before args0 about1 = true := code_word (m := ⟨2, 1⟩) (meth := k2m1) (c := k2c1) (by decide +kernel) rfl rfl rfl (by decide +kernel)
def codes1 : List Jvm.Cond := [Jvm.Cond.code x code maxLocals ret, Jvm.Cond.code ({ cls := "com/example/ratewright/ratewright/io/Utf8TextStartPinLaw", name := "pick", desc := "(IIII)B" } : Jvm.MethodName) method_3_code (4 : Nat) (Option.some Jvm.ClassFile.FieldType.byte), Jvm.Cond.code ({ cls := "com/example/ratewright/ratewright/io/Utf8Text", name := "start", desc := "([B)I" } : Jvm.MethodName) prog_4_method_2_code (2 : Nat) (Option.some Jvm.ClassFile.FieldType.int)]
set_option maxRecDepth 65536 in
theorem codes_eq : words1.filter isCode = codes1 := rfl
theorem w_codes : ∀ c ∈ words1.filter isCode, c.before args0 about1 = true := by
  rw [codes_eq]
  intro c hc
  simp only [codes1, List.mem_cons, List.not_mem_nil, or_false] at hc
  rcases hc with rfl | rfl | rfl
  · exact w_c0
  · exact w_c1
  · exact w_c2
set_option maxRecDepth 65536 in
theorem w_t1 : words1.all (fun c => isCode c || c.before args0 about1) = true := by decide +kernel
theorem w_tables : (allAtoms (Jvm.Cond.code x code maxLocals ret :: tables_1)).before args0 about1 = true := by
  rw [allAtoms_all]
  show words1.all (fun c => c.before args0 about1) = true
  refine all_split ?_ w_codes
  rw [w_t1]
set_option maxRecDepth 65536 in
theorem w_case : (Jvm.Cond.and given_1 narrow_1).before args0 about1 = true := by decide +kernel
theorem w_applies : (headSpec (Jvm.Cond.code x code maxLocals ret :: tables_1) room_1).applies x e0.platform about1 = true :=
  (Spec.applies_iff w_frames).mpr ⟨w_running, w_runnable, w_alone, w_named, w_hears, w_ripe, w_room, w_tables⟩
theorem atStart : AtStart classFile x code maxLocals ret World_1 tables_1 room_1 Calls_1 rest_1 Pre_1 launch0 p0 e0 about1 theMethod args0 below0 :=
  ⟨lists_1, trivial, launch0.admits_env _ _ _, launch0.least_env, fairChoices_fair.cas, fairChoices_fair.clock, w_frames, w_args, w_heap, w_applies, trivial, trivial, w_case⟩
end start1
theorem witness_1 : WitnessClaimed_1 := ⟨start1.p0, start1.e0, start1.about1, start1.theMethod, start1.args0, start1.below0, start1.atStart⟩
end Jvm.Pilot.@@N@@
