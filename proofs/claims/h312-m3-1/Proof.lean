import JvmDerived
import JvmDerived.Pilot.@@N@@Statement
import JvmDerived.Pilot.@@N@@Code
set_option linter.unusedVariables false
set_option linter.unusedSimpArgs false

namespace Jvm.RoadKit
open Sem ClassFile Op Lib Jvm.Stand Jvm.Free Jvm.LawKit
section New
variable {p : Program} {l : Launch} {e : Env} {R : Room} {s : State} {m : MethodId} {args : Array Value} {below : List Frame} {meth : Method} {c : Code} {T : State} {locs : List Loc} {cells slots : Nat}
theorem retI (X : Stand p l e R s m args below meth c T locs cells slots) (hx : p.tables.exec = Jvm.exec) {pc : Nat} {Ls : Array Slot} {z : Int32} {rest : List Value} (hret : meth.sig.returnType = some .int) (hd : decode c.code pc = .ok (.ireturn, 1)) {fs : List Frame}
    (hl : ∀ (f : JFrame) (acts : List Action), f.method = m → f.locked = none → f.entered = [] → (doReturn e (T.setTop f) acts (some (.int z))).1 = T.setFrames fs) : Steps p.tables e below (T.setTop (mkF m pc Ls (.int z :: rest))) (T.setFrames fs) := by
  have hm' : T.vm.method? m = some meth := X.method'
  have hn : narrow .int (.int z) = .int z := rfl
  show Steps p.tables e below (T.setTop { method := m, pc := pc, locals := Ls, stack := _ :: rest, locked := none }) _
  jvm_step X.here [X.here.top, hx, hd, hm', hret, hn]
  first | (intro acts; rw [hl _ acts rfl rfl rfl]) | rw [hl _ _ rfl rfl rfl]
  exact Steps.refl _
theorem own_lrem {g : JFrame} {target : State} (X : Stand p l e R s m args below meth c T locs cells slots) (hx : p.tables.exec = Jvm.exec) (hg : g.method = m) {x y : Int64} {rest : List Value} (hd : decode c.code g.pc = .ok (.lrem, 1)) (hs : g.stack = .long y :: .long x :: rest) (hy : y ≠ 0)
    (hr : Steps p.tables e below (T.setTop { g with pc := g.pc + 1, stack := .long (x % y) :: rest }) target) : Steps p.tables e below (T.setTop g) target := by
  have q : x - x / y * y = x % y := lrem_mod x y
  exact XS.lrem X.here hx hg hd hs hy (by rw [q]; exact hr)
end New
end Jvm.RoadKit

namespace Jvm.Pilot.@@N@@
open Jvm Jvm.ClassFile Sem Op Lib Jvm.Free Jvm.Stand Jvm.LawKit Jvm.RoadKit Bundle Jvm.Pilot.@@N@@.Jvm.D
def own_us (x : Int32) : Int32 := if x < (0 : Int32) then x + (256 : Int32) else x
def own_rs (x y : Int32) : Int32 := (((x &&& (255 : Int32)) <<< ((8 : Int32) &&& 31)) ||| (y &&& (255 : Int32)))
theorem own_usv (x : Int32) (h : -128 ≤ x.toInt ∧ x.toInt < 128) : (own_us x).toInt = x.toInt % 256 := by
  unfold own_us
  split
  · next k => have a := c_iadd x 256; have b := rng32 (x + 256); simp only [Int32.lt_iff_toInt_lt, Int32.reduceToInt] at *; omega
  · next k => simp only [Int32.lt_iff_toInt_lt, Int32.reduceToInt] at *; omega
theorem own_rsv (x y : Int32) : (own_rs x y).toInt = (x.toInt % 256) * 256 + y.toInt % 256 := by
  have a1 := c_mask x 255 8 (by decide) (by decide)
  have a2 := c_mask y 255 8 (by decide) (by decide)
  have a3 := c_ishl (x &&& (255 : Int32)) 8 8 (by decide)
  have r3 := rng32 ((x &&& (255 : Int32)) <<< ((8 : Int32) &&& 31))
  have a4 := c_or ((x &&& (255 : Int32)) <<< ((8 : Int32) &&& 31)) (y &&& (255 : Int32)) 8 (by decide) 256 rfl
  have r4 := rng32 (own_rs x y)
  unfold own_rs at *
  simp only [show ((2 ^ 8 : Nat) : Int) = 256 from rfl] at *
  omega
theorem own_eq (x y : Int32) (h : -128 ≤ x.toInt ∧ x.toInt < 128) (k : -128 ≤ y.toInt ∧ y.toInt < 128) : own_rs x y = ((own_us x * (256 : Int32)) + own_us y) ∧ ¬ own_rs x y < (0 : Int32) ∧ ¬ (65535 : Int32) < own_rs x y := by
  have a1 := own_usv x h
  have a2 := own_usv y k
  have a3 := own_rsv x y
  have a4 := c_imul (own_us x) 256
  have a5 := c_iadd (own_us x * (256 : Int32)) (own_us y)
  have r4 := rng32 (own_us x * (256 : Int32))
  have r5 := rng32 ((own_us x * (256 : Int32)) + own_us y)
  simp only [Int32.lt_iff_toInt_lt, ← Int32.toInt_inj, Int32.reduceToInt] at *
  omega
theorem own_by (x : Int32) : -128 ≤ (x.toInt8.toInt32).toInt ∧ (x.toInt8.toInt32).toInt < 128 := (c_i2b x).2
theorem own_mod3 (a : Int32) : ((a &&& (2147483647 : Int32)) % (3 : Int32)) = (0 : Int32) ∨ ((a &&& (2147483647 : Int32)) % (3 : Int32)) = (1 : Int32) ∨ ((a &&& (2147483647 : Int32)) % (3 : Int32)) = (2 : Int32) := by
  have h1 := c_mask a 2147483647 31 (by decide) (by decide)
  have h2 := (c_irem (a &&& (2147483647 : Int32)) 3 3 rfl).1
  simp only [← Int32.toInt_inj, Int32.reduceToInt]
  omega
theorem pd_0 : parseMethodDescriptor "(B)I" = some ⟨[.byte], some .int⟩ := by decide +kernel
theorem pd_1 : parseMethodDescriptor "([BI)I" = some ⟨[(.array .byte), .int], some .int⟩ := by decide +kernel
theorem d1_0 : decode method_2_code 0 = .ok (.iload_n 0, 1) := by decide +kernel
theorem d1_1 : decode method_2_code 1 = .ok (.istore_n 1, 1) := by decide +kernel
theorem d1_2 : decode method_2_code 2 = .ok (.iload_n 1, 1) := by decide +kernel
theorem d1_3 : decode method_2_code 3 = .ok (.ifCond .ge 9, 3) := by decide +kernel
theorem d1_6 : decode method_2_code 6 = .ok (.iload_n 1, 1) := by decide +kernel
theorem d1_7 : decode method_2_code 7 = .ok (.sipush 256, 3) := by decide +kernel
theorem d1_10 : decode method_2_code 10 = .ok (.iadd, 1) := by decide +kernel
theorem d1_11 : decode method_2_code 11 = .ok (.istore_n 1, 1) := by decide +kernel
theorem d1_12 : decode method_2_code 12 = .ok (.iload_n 1, 1) := by decide +kernel
theorem d1_13 : decode method_2_code 13 = .ok (.ireturn, 1) := by decide +kernel
theorem pn_1 : plainName "com/example/sequence_set/sequenceset/node/NodeReadShortPinLaw" = true := by first | (simp [plainName, overriddenIn]; done) | decide +kernel
theorem ef_1 (m : MethodId) (x0 : Int32) : entryFrame m #[(.int x0)] 2 = mkF m 0 #[.val (.int x0), .unset] [] := by first | (simp [entryFrame, mkF, argsToLocals, Value.category]; done) | rfl
def Q1 (Z : State) (p0 : Int32) (h0 : Heap) (n0 : Nat) (v : Option Value) (h : Heap) (L : List Loc) : Prop := v = some (.int (own_us p0)) ∧ Fr n0 L ∧ h = h0
set_option maxRecDepth 65536 in
set_option maxHeartbeats 40000000 in
theorem rm1 (l : Launch) (Z : State) (a0 : Array Value) (hw : ∀ d ∈ tables_1, d.before a0 Z = true) (ws : List Jvm.Cond) (p0 : Int32)  (h0 : Heap) (n0 : Nat) (Z0 : n0 ≤ h0.size) :
    MetFree l (⟨"com/example/sequence_set/sequenceset/node/NodeReadShortPinLaw", "unsigned", "(B)I"⟩ : MethodName) (head1 (Jvm.Cond.code (⟨"com/example/sequence_set/sequenceset/node/NodeReadShortPinLaw", "unsigned", "(B)I"⟩ : MethodName) method_2_code 2 (some .int) :: ws) ({ frames := 0, cells := 0, slots := 0, locals := 0 } : Room)) (fun a U => a = #[(.int p0)] ∧ Z.Warmed39 U.vm ∧ U.heap = h0) (fun _ _ _ _ _ => True) (fun _ U o U' => ∃ v L, o = .returned v ∧ Q1 Z p0 h0 n0 v U'.heap L ∧ FrameEnd U o U' L ({ frames := 0, cells := 0, slots := 0, locals := 0 } : Room).cells ({ frames := 0, cells := 0, slots := 0, locals := 0 } : Room).slots) := by
  refine MetFree.of_bodySF (plainFor_of_name pn_1) hisR ?_
  intro p e s m args below meth c s₁ Bd hml0 hP hK
  obtain ⟨rfl, hZ, hh⟩ := hP
  have hx := Bd.exec
  have hby := Bd.bytes
  have hml : c.maxLocals = 2 := hml0
  have hown : s.vm.findClass "com/example/sequence_set/sequenceset/node/NodeReadShortPinLaw" = some m.cls := findClass_of_methodNamed Bd.named
  have hnm := (name_of_methodNamed Bd.named Bd.method).1
  have X0 : Stand p l e ({ frames := 0, cells := 0, slots := 0, locals := 0 } : Room) s m #[(.int p0)] below meth c s₁ [] 0 0 := Stand.of_body Bd
  have e0 : s₁.heap = h0 := by rw [← hh, Bd.state]; rfl
  have N0 := Fr.nil n0
  have pre0 : ∀ t, Steps p.tables e below (s₁.setTop (mkF m 0 #[.val (.int p0), .unset] [])) t → Steps p.tables e below (s₁.setTop (entryFrame m #[(.int p0)] 2)) t := fun t k => castTop (ef_1 m p0) k
  have c1 : ∀ t, Steps p.tables e below (s₁.setTop (mkF m 3 #[.val (.int p0), .val (.int p0)] [(.int p0)])) t → Steps p.tables e below (s₁.setTop (mkF m 0 #[.val (.int p0), .unset] [])) t := by
    intro t kt
    show Steps p.tables e below (s₁.setTop (mkF m 0 #[.val (.int p0), .unset] [])) _
    refine XS.iloadN X0.here hx rfl (hb hby d1_0) rfl ?_
    show Steps p.tables e below (s₁.setTop (mkF m 1 #[.val (.int p0), .unset] [(.int p0)])) _
    refine XS.istoreN X0.here hx rfl (hb hby d1_1) rfl (l' := #[.val (.int p0), .val (.int p0)]) rfl ?_
    show Steps p.tables e below (s₁.setTop (mkF m 2 #[.val (.int p0), .val (.int p0)] [])) _
    refine XS.iloadN X0.here hx rfl (hb hby d1_2) rfl ?_
    exact kt
  by_cases hc3 : p0 < (0 : Int32)
  · -- it is
    have c2 : ∀ t, Steps p.tables e below (s₁.setTop (mkF m 13 #[.val (.int p0), .val (.int (p0 + (256 : Int32)))] [(.int (p0 + (256 : Int32)))])) t → Steps p.tables e below (s₁.setTop (mkF m 3 #[.val (.int p0), .val (.int p0)] [(.int p0)])) t := by
      intro t kt
      show Steps p.tables e below (s₁.setTop (mkF m 3 #[.val (.int p0), .val (.int p0)] [(.int p0)])) _
      refine XS.ifNo X0.here hx rfl (hb hby d1_3) rfl ((if0 _ _).trans (tlt hc3).2.1) ?_
      show Steps p.tables e below (s₁.setTop (mkF m 6 #[.val (.int p0), .val (.int p0)] [])) _
      refine XS.iloadN X0.here hx rfl (hb hby d1_6) rfl ?_
      show Steps p.tables e below (s₁.setTop (mkF m 7 #[.val (.int p0), .val (.int p0)] [(.int p0)])) _
      refine XS.sipush X0.here hx rfl (hb hby d1_7) ?_
      show Steps p.tables e below (s₁.setTop (mkF m 10 #[.val (.int p0), .val (.int p0)] [(.int (256 : Int32)), (.int p0)])) _
      refine XS.iadd X0.here hx rfl (hb hby d1_10) rfl ?_
      show Steps p.tables e below (s₁.setTop (mkF m 11 #[.val (.int p0), .val (.int p0)] [(.int (p0 + (256 : Int32)))])) _
      refine XS.istoreN X0.here hx rfl (hb hby d1_11) rfl (l' := #[.val (.int p0), .val (.int (p0 + (256 : Int32)))]) rfl ?_
      show Steps p.tables e below (s₁.setTop (mkF m 12 #[.val (.int p0), .val (.int (p0 + (256 : Int32)))] [])) _
      refine XS.iloadN X0.here hx rfl (hb hby d1_12) rfl ?_
      exact kt
    obtain ⟨fs, hr, hrun, hended, hW, hsame⟩ := X0.leave (v := some (.int (p0 + (256 : Int32)))) (fun h => by rw [Bd.returns] at h; cases h)
    refine ⟨_, _, pre0 _ (c1 _ (c2 _ (?_))), hrun, hended, _, _, rfl, ?_, ⟨_, rfl⟩, hW, hsame.mono (by decide) (by decide)⟩
    · show Steps p.tables e below (s₁.setTop (mkF m 13 #[.val (.int p0), .val (.int (p0 + (256 : Int32)))] [(.int (p0 + (256 : Int32)))])) _
      exact retI X0 hx Bd.returns (hb hby d1_13) hr
    · show Q1 Z p0 h0 n0 _ s₁.heap _
      rw [e0]
      exact ⟨congrArg (fun z => some (Value.int z)) (show (p0 + (256 : Int32)) = (own_us p0) from by simp [own_us, hc3]), N0, rfl⟩
  · -- it isn't
    have c4 : ∀ t, Steps p.tables e below (s₁.setTop (mkF m 13 #[.val (.int p0), .val (.int p0)] [(.int p0)])) t → Steps p.tables e below (s₁.setTop (mkF m 3 #[.val (.int p0), .val (.int p0)] [(.int p0)])) t := by
      intro t kt
      show Steps p.tables e below (s₁.setTop (mkF m 3 #[.val (.int p0), .val (.int p0)] [(.int p0)])) _
      refine XS.ifYes X0.here hx rfl (pc0 := 3) (pc' := 12) rfl (hb hby d1_3) rfl ((if0 _ _).trans (flt hc3).2.1) (by decide) (by decide) ?_
      show Steps p.tables e below (s₁.setTop (mkF m 12 #[.val (.int p0), .val (.int p0)] [])) _
      refine XS.iloadN X0.here hx rfl (hb hby d1_12) rfl ?_
      exact kt
    obtain ⟨fs, hr, hrun, hended, hW, hsame⟩ := X0.leave (v := some (.int p0)) (fun h => by rw [Bd.returns] at h; cases h)
    refine ⟨_, _, pre0 _ (c1 _ (c4 _ (?_))), hrun, hended, _, _, rfl, ?_, ⟨_, rfl⟩, hW, hsame.mono (by decide) (by decide)⟩
    · show Steps p.tables e below (s₁.setTop (mkF m 13 #[.val (.int p0), .val (.int p0)] [(.int p0)])) _
      exact retI X0 hx Bd.returns (hb hby d1_13) hr
    · show Q1 Z p0 h0 n0 _ s₁.heap _
      rw [e0]
      exact ⟨congrArg (fun z => some (Value.int z)) (show p0 = (own_us p0) from by simp [own_us, hc3]), N0, rfl⟩
theorem d2_0 : decode prog_39_method_17_code 0 = .ok (.aload_n 0, 1) := by decide +kernel
theorem d2_1 : decode prog_39_method_17_code 1 = .ok (.iload_n 1, 1) := by decide +kernel
theorem d2_2 : decode prog_39_method_17_code 2 = .ok (.baload, 1) := by decide +kernel
theorem d2_3 : decode prog_39_method_17_code 3 = .ok (.sipush 255, 3) := by decide +kernel
theorem d2_6 : decode prog_39_method_17_code 6 = .ok (.iand, 1) := by decide +kernel
theorem d2_7 : decode prog_39_method_17_code 7 = .ok (.bipush 8, 2) := by decide +kernel
theorem d2_9 : decode prog_39_method_17_code 9 = .ok (.ishl, 1) := by decide +kernel
theorem d2_10 : decode prog_39_method_17_code 10 = .ok (.aload_n 0, 1) := by decide +kernel
theorem d2_11 : decode prog_39_method_17_code 11 = .ok (.iload_n 1, 1) := by decide +kernel
theorem d2_12 : decode prog_39_method_17_code 12 = .ok (.iconst 1, 1) := by decide +kernel
theorem d2_13 : decode prog_39_method_17_code 13 = .ok (.iadd, 1) := by decide +kernel
theorem d2_14 : decode prog_39_method_17_code 14 = .ok (.baload, 1) := by decide +kernel
theorem d2_15 : decode prog_39_method_17_code 15 = .ok (.sipush 255, 3) := by decide +kernel
theorem d2_18 : decode prog_39_method_17_code 18 = .ok (.iand, 1) := by decide +kernel
theorem d2_19 : decode prog_39_method_17_code 19 = .ok (.ior, 1) := by decide +kernel
theorem d2_20 : decode prog_39_method_17_code 20 = .ok (.ireturn, 1) := by decide +kernel
theorem pn_2 : plainName "com/example/sequence_set/sequenceset/node/Node" = true := by first | (simp [plainName, overriddenIn]; done) | decide +kernel
theorem ef_2 (m : MethodId) (x0 : Addr) (x1 : Int32) : entryFrame m #[(.ref x0), (.int x1)] 2 = mkF m 0 #[.val (.ref x0), .val (.int x1)] [] := by first | (simp [entryFrame, mkF, argsToLocals, Value.category]; done) | rfl
def Q2 (Z : State) (r0 : Addr) (p1 : Int32) (kk : ClassId) (zz : Int32) (vs : List Value) (dv : Value) (w0 w1 : Int32) (h0 : Heap) (n0 : Nat) (v : Option Value) (h : Heap) (L : List Loc) : Prop := v = some (.int (own_rs w0 w1)) ∧ Fr n0 L ∧ h = h0
set_option maxRecDepth 65536 in
set_option maxHeartbeats 40000000 in
theorem rm2 (l : Launch) (Z : State) (a0 : Array Value) (hw : ∀ d ∈ tables_1, d.before a0 Z = true) (ws : List Jvm.Cond) (r0 : Addr) (p1 : Int32) (kk : ClassId) (zz : Int32) (vs : List Value) (dv : Value) (w0 w1 : Int32) (h0 : Heap) (n0 : Nat) (Z0 : n0 ≤ h0.size) (V : Arv Z h0 r0 kk .byte zz vs dv) (hi0 : ¬ p1 < 0 ∧ p1 < zz) (hi1 : ¬ (p1 + (1 : Int32)) < 0 ∧ (p1 + (1 : Int32)) < zz) (ha0 : vs.getD p1.toNatClampNeg dv = .int w0) (ha1 : vs.getD (p1 + (1 : Int32)).toNatClampNeg dv = .int w1) :
    MetFree l (⟨"com/example/sequence_set/sequenceset/node/Node", "readShort", "([BI)I"⟩ : MethodName) (head1 (Jvm.Cond.code (⟨"com/example/sequence_set/sequenceset/node/Node", "readShort", "([BI)I"⟩ : MethodName) prog_39_method_17_code 2 (some .int) :: ws) ({ frames := 0, cells := 0, slots := 0, locals := 0 } : Room)) (fun a U => a = #[(.ref r0), (.int p1)] ∧ Z.Warmed39 U.vm ∧ U.heap = h0) (fun _ _ _ _ _ => True) (fun _ U o U' => ∃ v L, o = .returned v ∧ Q2 Z r0 p1 kk zz vs dv w0 w1 h0 n0 v U'.heap L ∧ FrameEnd U o U' L ({ frames := 0, cells := 0, slots := 0, locals := 0 } : Room).cells ({ frames := 0, cells := 0, slots := 0, locals := 0 } : Room).slots) := by
  refine MetFree.of_bodySF (plainFor_of_name pn_2) hisR ?_
  intro p e s m args below meth c s₁ Bd hml0 hP hK
  obtain ⟨rfl, hZ, hh⟩ := hP
  have hx := Bd.exec
  have hby := Bd.bytes
  have hml : c.maxLocals = 2 := hml0
  have hown : s.vm.findClass "com/example/sequence_set/sequenceset/node/Node" = some m.cls := findClass_of_methodNamed Bd.named
  have hnm := (name_of_methodNamed Bd.named Bd.method).1
  have X0 : Stand p l e ({ frames := 0, cells := 0, slots := 0, locals := 0 } : Room) s m #[(.ref r0), (.int p1)] below meth c s₁ [] 0 0 := Stand.of_body Bd
  have e0 : s₁.heap = h0 := by rw [← hh, Bd.state]; rfl
  have N0 := Fr.nil n0
  have pre0 : ∀ t, Steps p.tables e below (s₁.setTop (mkF m 0 #[.val (.ref r0), .val (.int p1)] [])) t → Steps p.tables e below (s₁.setTop (entryFrame m #[(.ref r0), (.int p1)] 2)) t := fun t k => castTop (ef_2 m r0 p1) k
  have Vc1 := V
  obtain ⟨cl1, Ar1, qk1, S1, M1, H1, G1⟩ := Vc1
  have hin1 : ¬ (p1 < 0 ∨ cl1.slots.size ≤ (p1).toNatClampNeg) := inb_of S1 hi0
  have hat1 : cl1.slots[(p1).toNatClampNeg]? = some (.int w0) := H1.at hin1 ha0
  have Vc2 := V
  obtain ⟨cl2, Ar2, qk2, S2, M2, H2, G2⟩ := Vc2
  have hin2 : ¬ ((p1 + (1 : Int32)) < 0 ∨ cl2.slots.size ≤ ((p1 + (1 : Int32))).toNatClampNeg) := inb_of S2 hi1
  have hat2 : cl2.slots[((p1 + (1 : Int32))).toNatClampNeg]? = some (.int w1) := H2.at hin2 ha1
  have c3 : ∀ t, Steps p.tables e below (s₁.setTop (mkF m 20 #[.val (.ref r0), .val (.int p1)] [(.int (((w0 &&& (255 : Int32)) <<< ((8 : Int32) &&& 31)) ||| (w1 &&& (255 : Int32))))])) t → Steps p.tables e below (s₁.setTop (mkF m 0 #[.val (.ref r0), .val (.int p1)] [])) t := by
    intro t kt
    show Steps p.tables e below (s₁.setTop (mkF m 0 #[.val (.ref r0), .val (.int p1)] [])) _
    refine XS.aloadN X0.here hx rfl (hb hby d2_0) rfl rfl ?_
    show Steps p.tables e below (s₁.setTop (mkF m 1 #[.val (.ref r0), .val (.int p1)] [(.ref r0)])) _
    refine XS.iloadN X0.here hx rfl (hb hby d2_1) rfl ?_
    show Steps p.tables e below (s₁.setTop (mkF m 2 #[.val (.ref r0), .val (.int p1)] [(.int p1), (.ref r0)])) _
    refine X0.baloadBytes hx (j := p1) (v := (.int w0)) (by rw [e0]; exact Ar1.1) (State.isArrayOf_alike hZ.alike Ar1.2.1) Ar1.2.2 hin1 hat1 (g := (mkF m 2 #[.val (.ref r0), .val (.int p1)] [(.int p1), (.ref r0)])) rfl rfl (hb hby d2_2) _ ?_
    show Steps p.tables e below (s₁.setTop (mkF m 3 #[.val (.ref r0), .val (.int p1)] [(.int w0)])) _
    refine XS.sipush X0.here hx rfl (hb hby d2_3) ?_
    show Steps p.tables e below (s₁.setTop (mkF m 6 #[.val (.ref r0), .val (.int p1)] [(.int (255 : Int32)), (.int w0)])) _
    refine XS.iand X0.here hx rfl (hb hby d2_6) rfl ?_
    show Steps p.tables e below (s₁.setTop (mkF m 7 #[.val (.ref r0), .val (.int p1)] [(.int (w0 &&& (255 : Int32)))])) _
    refine XS.bipush X0.here hx rfl (hb hby d2_7) ?_
    show Steps p.tables e below (s₁.setTop (mkF m 9 #[.val (.ref r0), .val (.int p1)] [(.int (8 : Int32)), (.int (w0 &&& (255 : Int32)))])) _
    refine XS.ishl X0.here hx rfl (hb hby d2_9) rfl ?_
    show Steps p.tables e below (s₁.setTop (mkF m 10 #[.val (.ref r0), .val (.int p1)] [(.int ((w0 &&& (255 : Int32)) <<< ((8 : Int32) &&& 31)))])) _
    refine XS.aloadN X0.here hx rfl (hb hby d2_10) rfl rfl ?_
    show Steps p.tables e below (s₁.setTop (mkF m 11 #[.val (.ref r0), .val (.int p1)] [(.ref r0), (.int ((w0 &&& (255 : Int32)) <<< ((8 : Int32) &&& 31)))])) _
    refine XS.iloadN X0.here hx rfl (hb hby d2_11) rfl ?_
    show Steps p.tables e below (s₁.setTop (mkF m 12 #[.val (.ref r0), .val (.int p1)] [(.int p1), (.ref r0), (.int ((w0 &&& (255 : Int32)) <<< ((8 : Int32) &&& 31)))])) _
    refine XS.iconst X0.here hx rfl (hb hby d2_12) ?_
    show Steps p.tables e below (s₁.setTop (mkF m 13 #[.val (.ref r0), .val (.int p1)] [(.int (1 : Int32)), (.int p1), (.ref r0), (.int ((w0 &&& (255 : Int32)) <<< ((8 : Int32) &&& 31)))])) _
    refine XS.iadd X0.here hx rfl (hb hby d2_13) rfl ?_
    show Steps p.tables e below (s₁.setTop (mkF m 14 #[.val (.ref r0), .val (.int p1)] [(.int (p1 + (1 : Int32))), (.ref r0), (.int ((w0 &&& (255 : Int32)) <<< ((8 : Int32) &&& 31)))])) _
    refine X0.baloadBytes hx (j := (p1 + (1 : Int32))) (v := (.int w1)) (by rw [e0]; exact Ar2.1) (State.isArrayOf_alike hZ.alike Ar2.2.1) Ar2.2.2 hin2 hat2 (g := (mkF m 14 #[.val (.ref r0), .val (.int p1)] [(.int (p1 + (1 : Int32))), (.ref r0), (.int ((w0 &&& (255 : Int32)) <<< ((8 : Int32) &&& 31)))])) rfl rfl (hb hby d2_14) _ ?_
    show Steps p.tables e below (s₁.setTop (mkF m 15 #[.val (.ref r0), .val (.int p1)] [(.int w1), (.int ((w0 &&& (255 : Int32)) <<< ((8 : Int32) &&& 31)))])) _
    refine XS.sipush X0.here hx rfl (hb hby d2_15) ?_
    show Steps p.tables e below (s₁.setTop (mkF m 18 #[.val (.ref r0), .val (.int p1)] [(.int (255 : Int32)), (.int w1), (.int ((w0 &&& (255 : Int32)) <<< ((8 : Int32) &&& 31)))])) _
    refine XS.iand X0.here hx rfl (hb hby d2_18) rfl ?_
    show Steps p.tables e below (s₁.setTop (mkF m 19 #[.val (.ref r0), .val (.int p1)] [(.int (w1 &&& (255 : Int32))), (.int ((w0 &&& (255 : Int32)) <<< ((8 : Int32) &&& 31)))])) _
    refine XS.ior X0.here hx rfl (hb hby d2_19) rfl ?_
    exact kt
  obtain ⟨fs, hr, hrun, hended, hW, hsame⟩ := X0.leave (v := some (.int (((w0 &&& (255 : Int32)) <<< ((8 : Int32) &&& 31)) ||| (w1 &&& (255 : Int32))))) (fun h => by rw [Bd.returns] at h; cases h)
  refine ⟨_, _, pre0 _ (c3 _ (?_)), hrun, hended, _, _, rfl, ?_, ⟨_, rfl⟩, hW, hsame.mono (by decide) (by decide)⟩
  · show Steps p.tables e below (s₁.setTop (mkF m 20 #[.val (.ref r0), .val (.int p1)] [(.int (((w0 &&& (255 : Int32)) <<< ((8 : Int32) &&& 31)) ||| (w1 &&& (255 : Int32))))])) _
    exact retI X0 hx Bd.returns (hb hby d2_20) hr
  · show Q2 Z r0 p1 kk zz vs dv w0 w1 h0 n0 _ s₁.heap _
    rw [e0]
    exact ⟨congrArg (fun z => some (Value.int z)) (show (((w0 &&& (255 : Int32)) <<< ((8 : Int32) &&& 31)) ||| (w1 &&& (255 : Int32))) = (own_rs w0 w1) from by rfl), N0, rfl⟩
theorem pn_0 : plainName "com/example/sequence_set/sequenceset/node/NodeReadShortPinLaw" = true := by first | (simp [plainName, overriddenIn]; done) | decide +kernel
theorem ef_0 (m : MethodId) (x0 : Int32) (x1 : Int32) (x2 : Int32) (x3 : Int32) (x4 : Int32) : entryFrame m #[(.int x0), (.int x1), (.int x2), (.int x3), (.int x4)] maxLocals = mkF m 0 #[.val (.int x0), .val (.int x1), .val (.int x2), .val (.int x3), .val (.int x4), .unset, .unset, .unset, .unset] [] := by first | (simp [entryFrame, mkF, argsToLocals, Value.category, maxLocals]; done) | rfl
def Q0 (Z : State) (p0 : Int32) (p1 : Int32) (p2 : Int32) (p3 : Int32) (p4 : Int32) (h0 : Heap) (n0 : Nat) (v : Option Value) (h : Heap) (L : List Loc) : Prop := v = some (.int 1) ∧ Fr n0 L
set_option maxRecDepth 65536 in
set_option maxHeartbeats 40000000 in
theorem rm0 (l : Launch) (Z : State) (a0 : Array Value) (hw : ∀ d ∈ tables_1, d.before a0 Z = true) (ws : List Jvm.Cond) (p0 : Int32) (p1 : Int32) (p2 : Int32) (p3 : Int32) (p4 : Int32)  (h0 : Heap) (n0 : Nat) (Z0 : n0 ≤ h0.size) :
    MetFree l x (head1 (Jvm.Cond.code x code maxLocals ret :: ws) room_1) (fun a U => a = #[(.int p0), (.int p1), (.int p2), (.int p3), (.int p4)] ∧ Z.Warmed39 U.vm ∧ U.heap = h0) (fun _ _ _ _ _ => True) (fun _ U o U' => ∃ v L, o = .returned v ∧ Q0 Z p0 p1 p2 p3 p4 h0 n0 v U'.heap L ∧ FrameEnd U o U' L room_1.cells room_1.slots) := by
  refine MetFree.of_bodySF (plainFor_of_name pn_0) hisR ?_
  intro p e s m args below meth c s₁ Bd hml0 hP hK
  obtain ⟨rfl, hZ, hh⟩ := hP
  have hx := Bd.exec
  have hby := Bd.bytes
  have hml : c.maxLocals = 9 := hml0
  have hown : s.vm.findClass "com/example/sequence_set/sequenceset/node/NodeReadShortPinLaw" = some m.cls := findClass_of_methodNamed Bd.named
  have hnm := (name_of_methodNamed Bd.named Bd.method).1
  have X0 : Stand p l e room_1 s m #[(.int p0), (.int p1), (.int p2), (.int p3), (.int p4)] below meth c s₁ [] 0 0 := Stand.of_body Bd
  have e0 : s₁.heap = h0 := by rw [← hh, Bd.state]; rfl
  have N0 := Fr.nil n0
  have pre0 : ∀ t, Steps p.tables e below (s₁.setTop (mkF m 0 #[.val (.int p0), .val (.int p1), .val (.int p2), .val (.int p3), .val (.int p4), .unset, .unset, .unset, .unset] [])) t → Steps p.tables e below (s₁.setTop (entryFrame m #[(.int p0), (.int p1), (.int p2), (.int p3), (.int p4)] maxLocals)) t := fun t k => castTop (ef_0 m p0 p1 p2 p3 p4) k
  have c2 : ∀ t, Steps p.tables e below (s₁.setTop (mkF m 1 #[.val (.int p0), .val (.int p1), .val (.int p2), .val (.int p3), .val (.int p4), .unset, .unset, .unset, .unset] [(.int (4 : Int32))])) t → Steps p.tables e below (s₁.setTop (mkF m 0 #[.val (.int p0), .val (.int p1), .val (.int p2), .val (.int p3), .val (.int p4), .unset, .unset, .unset, .unset] [])) t := by
    intro t kt
    show Steps p.tables e below (s₁.setTop (mkF m 0 #[.val (.int p0), .val (.int p1), .val (.int p2), .val (.int p3), .val (.int p4), .unset, .unset, .unset, .unset] [])) _
    refine XS.iconst X0.here hx rfl (hb hby at_0) ?_
    exact kt
  obtain ⟨T1, h1, k1, X1, e1, E1, A1, st1⟩ := newP X0 hx hZ (hw _ (List.mem_of_getElem? (i := 0) rfl)) e0 (g := (mkF m 1 #[.val (.int p0), .val (.int p1), .val (.int p2), .val (.int p3), .val (.int p4), .unset, .unset, .unset, .unset] [(.int (4 : Int32))])) rfl (hb hby at_1) rfl (by decide) (cap := 4) (by decide) (by decide) (by decide) (by decide)
  obtain ⟨b1, g1⟩ : ∃ z, z = h0.size := ⟨_, rfl⟩
  rw [← g1] at A1 st1
  have g_b1 : n0 ≤ b1 := Nat.le_trans Z0 (Nat.le_of_eq g1.symm)
  have sz_b1 : h0.size ≤ b1 := Nat.le_trans (Keep.refl h0 []).1 (Nat.le_of_eq g1.symm)
  have V1 : Arv Z h1 b1 k1 .byte (4 : Int32) [(.int (0 : Int32)), (.int (0 : Int32)), (.int (0 : Int32)), (.int (0 : Int32))] (.int (0 : Int32)) := (Arv.new A1 (by decide)).pad (pad_rep [] (.int (0 : Int32)) 4)
  have c3 : ∀ t, Steps p.tables e below (T1.setTop (mkF m 10 #[.val (.int p0), .val (.int p1), .val (.int p2), .val (.int p3), .val (.int p4), .val (.ref b1), .unset, .unset, .unset] [(.int (p0.toInt8.toInt32)), (.int (0 : Int32)), (.ref b1)])) t → Steps p.tables e below (T1.setTop (mkF m 3 #[.val (.int p0), .val (.int p1), .val (.int p2), .val (.int p3), .val (.int p4), .unset, .unset, .unset, .unset] [(.ref b1)])) t := by
    intro t kt
    show Steps p.tables e below (T1.setTop (mkF m 3 #[.val (.int p0), .val (.int p1), .val (.int p2), .val (.int p3), .val (.int p4), .unset, .unset, .unset, .unset] [(.ref b1)])) _
    refine XS.astore X1.here hx rfl (hb hby at_3) rfl rfl (l' := #[.val (.int p0), .val (.int p1), .val (.int p2), .val (.int p3), .val (.int p4), .val (.ref b1), .unset, .unset, .unset]) rfl ?_
    show Steps p.tables e below (T1.setTop (mkF m 5 #[.val (.int p0), .val (.int p1), .val (.int p2), .val (.int p3), .val (.int p4), .val (.ref b1), .unset, .unset, .unset] [])) _
    refine XS.aload X1.here hx rfl (hb hby at_5) rfl rfl ?_
    show Steps p.tables e below (T1.setTop (mkF m 7 #[.val (.int p0), .val (.int p1), .val (.int p2), .val (.int p3), .val (.int p4), .val (.ref b1), .unset, .unset, .unset] [(.ref b1)])) _
    refine XS.iconst X1.here hx rfl (hb hby at_7) ?_
    show Steps p.tables e below (T1.setTop (mkF m 8 #[.val (.int p0), .val (.int p1), .val (.int p2), .val (.int p3), .val (.int p4), .val (.ref b1), .unset, .unset, .unset] [(.int (0 : Int32)), (.ref b1)])) _
    refine XS.iloadN X1.here hx rfl (hb hby at_8) rfl ?_
    show Steps p.tables e below (T1.setTop (mkF m 9 #[.val (.int p0), .val (.int p1), .val (.int p2), .val (.int p3), .val (.int p4), .val (.ref b1), .unset, .unset, .unset] [(.int p0), (.int (0 : Int32)), (.ref b1)])) _
    refine XS.i2b X1.here hx rfl (hb hby at_9) rfl ?_
    exact kt
  have Vc4 := V1
  obtain ⟨cl4, Ar4, qk4, S4, M4, H4, G4⟩ := Vc4
  have hin4 : ¬ ((0 : Int32) < 0 ∨ cl4.slots.size ≤ ((0 : Int32)).toNatClampNeg) := inb_of S4 ⟨by decide, by decide⟩
  obtain ⟨T5, h5, X5, e5, W5, st5⟩ := stB X1 hx hZ e1 Ar4 (j := (0 : Int32)) hin4 (g := (mkF m 10 #[.val (.int p0), .val (.int p1), .val (.int p2), .val (.int p3), .val (.int p4), .val (.ref b1), .unset, .unset, .unset] [(.int (p0.toInt8.toInt32)), (.int (0 : Int32)), (.ref b1)])) rfl rfl (hb hby at_10)
  have V5 : Arv Z h5 b1 k1 .byte (4 : Int32) [(.int ((p0.toInt8.toInt32).toInt8.toInt32)), (.int (0 : Int32)), (.int (0 : Int32)), (.int (0 : Int32))] (.int (0 : Int32)) := Arv.set Ar4 qk4 S4 M4 H4 G4 (fits_nar_byte _) W5 0 rfl (Nat.le_of_ble_eq_true rfl)
  have N5 := Fr.snoc X5 N0 g_b1
  have c6 : ∀ t, Steps p.tables e below (T5.setTop (mkF m 16 #[.val (.int p0), .val (.int p1), .val (.int p2), .val (.int p3), .val (.int p4), .val (.ref b1), .unset, .unset, .unset] [(.int (p1.toInt8.toInt32)), (.int (1 : Int32)), (.ref b1)])) t → Steps p.tables e below (T5.setTop (mkF m 11 #[.val (.int p0), .val (.int p1), .val (.int p2), .val (.int p3), .val (.int p4), .val (.ref b1), .unset, .unset, .unset] [])) t := by
    intro t kt
    show Steps p.tables e below (T5.setTop (mkF m 11 #[.val (.int p0), .val (.int p1), .val (.int p2), .val (.int p3), .val (.int p4), .val (.ref b1), .unset, .unset, .unset] [])) _
    refine XS.aload X5.here hx rfl (hb hby at_11) rfl rfl ?_
    show Steps p.tables e below (T5.setTop (mkF m 13 #[.val (.int p0), .val (.int p1), .val (.int p2), .val (.int p3), .val (.int p4), .val (.ref b1), .unset, .unset, .unset] [(.ref b1)])) _
    refine XS.iconst X5.here hx rfl (hb hby at_13) ?_
    show Steps p.tables e below (T5.setTop (mkF m 14 #[.val (.int p0), .val (.int p1), .val (.int p2), .val (.int p3), .val (.int p4), .val (.ref b1), .unset, .unset, .unset] [(.int (1 : Int32)), (.ref b1)])) _
    refine XS.iloadN X5.here hx rfl (hb hby at_14) rfl ?_
    show Steps p.tables e below (T5.setTop (mkF m 15 #[.val (.int p0), .val (.int p1), .val (.int p2), .val (.int p3), .val (.int p4), .val (.ref b1), .unset, .unset, .unset] [(.int p1), (.int (1 : Int32)), (.ref b1)])) _
    refine XS.i2b X5.here hx rfl (hb hby at_15) rfl ?_
    exact kt
  have Vc7 := V5
  obtain ⟨cl7, Ar7, qk7, S7, M7, H7, G7⟩ := Vc7
  have hin7 : ¬ ((1 : Int32) < 0 ∨ cl7.slots.size ≤ ((1 : Int32)).toNatClampNeg) := inb_of S7 ⟨by decide, by decide⟩
  obtain ⟨T8, h8, X8, e8, W8, st8⟩ := stB X5 hx hZ e5 Ar7 (j := (1 : Int32)) hin7 (g := (mkF m 16 #[.val (.int p0), .val (.int p1), .val (.int p2), .val (.int p3), .val (.int p4), .val (.ref b1), .unset, .unset, .unset] [(.int (p1.toInt8.toInt32)), (.int (1 : Int32)), (.ref b1)])) rfl rfl (hb hby at_16)
  have V8 : Arv Z h8 b1 k1 .byte (4 : Int32) [(.int ((p0.toInt8.toInt32).toInt8.toInt32)), (.int ((p1.toInt8.toInt32).toInt8.toInt32)), (.int (0 : Int32)), (.int (0 : Int32))] (.int (0 : Int32)) := Arv.set Ar7 qk7 S7 M7 H7 G7 (fits_nar_byte _) W8 1 rfl (Nat.le_of_ble_eq_true rfl)
  have N8 := Fr.snoc X8 N5 g_b1
  have c9 : ∀ t, Steps p.tables e below (T8.setTop (mkF m 22 #[.val (.int p0), .val (.int p1), .val (.int p2), .val (.int p3), .val (.int p4), .val (.ref b1), .unset, .unset, .unset] [(.int (p2.toInt8.toInt32)), (.int (2 : Int32)), (.ref b1)])) t → Steps p.tables e below (T8.setTop (mkF m 17 #[.val (.int p0), .val (.int p1), .val (.int p2), .val (.int p3), .val (.int p4), .val (.ref b1), .unset, .unset, .unset] [])) t := by
    intro t kt
    show Steps p.tables e below (T8.setTop (mkF m 17 #[.val (.int p0), .val (.int p1), .val (.int p2), .val (.int p3), .val (.int p4), .val (.ref b1), .unset, .unset, .unset] [])) _
    refine XS.aload X8.here hx rfl (hb hby at_17) rfl rfl ?_
    show Steps p.tables e below (T8.setTop (mkF m 19 #[.val (.int p0), .val (.int p1), .val (.int p2), .val (.int p3), .val (.int p4), .val (.ref b1), .unset, .unset, .unset] [(.ref b1)])) _
    refine XS.iconst X8.here hx rfl (hb hby at_19) ?_
    show Steps p.tables e below (T8.setTop (mkF m 20 #[.val (.int p0), .val (.int p1), .val (.int p2), .val (.int p3), .val (.int p4), .val (.ref b1), .unset, .unset, .unset] [(.int (2 : Int32)), (.ref b1)])) _
    refine XS.iloadN X8.here hx rfl (hb hby at_20) rfl ?_
    show Steps p.tables e below (T8.setTop (mkF m 21 #[.val (.int p0), .val (.int p1), .val (.int p2), .val (.int p3), .val (.int p4), .val (.ref b1), .unset, .unset, .unset] [(.int p2), (.int (2 : Int32)), (.ref b1)])) _
    refine XS.i2b X8.here hx rfl (hb hby at_21) rfl ?_
    exact kt
  have Vc10 := V8
  obtain ⟨cl10, Ar10, qk10, S10, M10, H10, G10⟩ := Vc10
  have hin10 : ¬ ((2 : Int32) < 0 ∨ cl10.slots.size ≤ ((2 : Int32)).toNatClampNeg) := inb_of S10 ⟨by decide, by decide⟩
  obtain ⟨T11, h11, X11, e11, W11, st11⟩ := stB X8 hx hZ e8 Ar10 (j := (2 : Int32)) hin10 (g := (mkF m 22 #[.val (.int p0), .val (.int p1), .val (.int p2), .val (.int p3), .val (.int p4), .val (.ref b1), .unset, .unset, .unset] [(.int (p2.toInt8.toInt32)), (.int (2 : Int32)), (.ref b1)])) rfl rfl (hb hby at_22)
  have V11 : Arv Z h11 b1 k1 .byte (4 : Int32) [(.int ((p0.toInt8.toInt32).toInt8.toInt32)), (.int ((p1.toInt8.toInt32).toInt8.toInt32)), (.int ((p2.toInt8.toInt32).toInt8.toInt32)), (.int (0 : Int32))] (.int (0 : Int32)) := Arv.set Ar10 qk10 S10 M10 H10 G10 (fits_nar_byte _) W11 2 rfl (Nat.le_of_ble_eq_true rfl)
  have N11 := Fr.snoc X11 N8 g_b1
  have c12 : ∀ t, Steps p.tables e below (T11.setTop (mkF m 28 #[.val (.int p0), .val (.int p1), .val (.int p2), .val (.int p3), .val (.int p4), .val (.ref b1), .unset, .unset, .unset] [(.int (p3.toInt8.toInt32)), (.int (3 : Int32)), (.ref b1)])) t → Steps p.tables e below (T11.setTop (mkF m 23 #[.val (.int p0), .val (.int p1), .val (.int p2), .val (.int p3), .val (.int p4), .val (.ref b1), .unset, .unset, .unset] [])) t := by
    intro t kt
    show Steps p.tables e below (T11.setTop (mkF m 23 #[.val (.int p0), .val (.int p1), .val (.int p2), .val (.int p3), .val (.int p4), .val (.ref b1), .unset, .unset, .unset] [])) _
    refine XS.aload X11.here hx rfl (hb hby at_23) rfl rfl ?_
    show Steps p.tables e below (T11.setTop (mkF m 25 #[.val (.int p0), .val (.int p1), .val (.int p2), .val (.int p3), .val (.int p4), .val (.ref b1), .unset, .unset, .unset] [(.ref b1)])) _
    refine XS.iconst X11.here hx rfl (hb hby at_25) ?_
    show Steps p.tables e below (T11.setTop (mkF m 26 #[.val (.int p0), .val (.int p1), .val (.int p2), .val (.int p3), .val (.int p4), .val (.ref b1), .unset, .unset, .unset] [(.int (3 : Int32)), (.ref b1)])) _
    refine XS.iloadN X11.here hx rfl (hb hby at_26) rfl ?_
    show Steps p.tables e below (T11.setTop (mkF m 27 #[.val (.int p0), .val (.int p1), .val (.int p2), .val (.int p3), .val (.int p4), .val (.ref b1), .unset, .unset, .unset] [(.int p3), (.int (3 : Int32)), (.ref b1)])) _
    refine XS.i2b X11.here hx rfl (hb hby at_27) rfl ?_
    exact kt
  have Vc13 := V11
  obtain ⟨cl13, Ar13, qk13, S13, M13, H13, G13⟩ := Vc13
  have hin13 : ¬ ((3 : Int32) < 0 ∨ cl13.slots.size ≤ ((3 : Int32)).toNatClampNeg) := inb_of S13 ⟨by decide, by decide⟩
  obtain ⟨T14, h14, X14, e14, W14, st14⟩ := stB X11 hx hZ e11 Ar13 (j := (3 : Int32)) hin13 (g := (mkF m 28 #[.val (.int p0), .val (.int p1), .val (.int p2), .val (.int p3), .val (.int p4), .val (.ref b1), .unset, .unset, .unset] [(.int (p3.toInt8.toInt32)), (.int (3 : Int32)), (.ref b1)])) rfl rfl (hb hby at_28)
  have V14 : Arv Z h14 b1 k1 .byte (4 : Int32) [(.int ((p0.toInt8.toInt32).toInt8.toInt32)), (.int ((p1.toInt8.toInt32).toInt8.toInt32)), (.int ((p2.toInt8.toInt32).toInt8.toInt32)), (.int ((p3.toInt8.toInt32).toInt8.toInt32))] (.int (0 : Int32)) := Arv.set Ar13 qk13 S13 M13 H13 G13 (fits_nar_byte _) W14 3 rfl (Nat.le_of_ble_eq_true rfl)
  have N14 := Fr.snoc X14 N11 g_b1
  have c15 : ∀ t, Steps p.tables e below (T14.setTop (mkF m 38 #[.val (.int p0), .val (.int p1), .val (.int p2), .val (.int p3), .val (.int p4), .val (.ref b1), .val (.int ((p4 &&& (2147483647 : Int32)) % (3 : Int32))), .unset, .unset] [])) t → Steps p.tables e below (T14.setTop (mkF m 29 #[.val (.int p0), .val (.int p1), .val (.int p2), .val (.int p3), .val (.int p4), .val (.ref b1), .unset, .unset, .unset] [])) t := by
    intro t kt
    show Steps p.tables e below (T14.setTop (mkF m 29 #[.val (.int p0), .val (.int p1), .val (.int p2), .val (.int p3), .val (.int p4), .val (.ref b1), .unset, .unset, .unset] [])) _
    refine XS.iload X14.here hx rfl (hb hby at_29) rfl ?_
    show Steps p.tables e below (T14.setTop (mkF m 31 #[.val (.int p0), .val (.int p1), .val (.int p2), .val (.int p3), .val (.int p4), .val (.ref b1), .unset, .unset, .unset] [(.int p4)])) _
    refine X14.ldcInt hx hown (mvT hZ (hw _ (List.mem_of_getElem? (i := 1) rfl))) (g := (mkF m 31 #[.val (.int p0), .val (.int p1), .val (.int p2), .val (.int p3), .val (.int p4), .val (.ref b1), .unset, .unset, .unset] [(.int p4)])) rfl (hb hby at_31) _ ?_
    show Steps p.tables e below (T14.setTop (mkF m 33 #[.val (.int p0), .val (.int p1), .val (.int p2), .val (.int p3), .val (.int p4), .val (.ref b1), .unset, .unset, .unset] [(.int (2147483647 : Int32)), (.int p4)])) _
    refine XS.iand X14.here hx rfl (hb hby at_33) rfl ?_
    show Steps p.tables e below (T14.setTop (mkF m 34 #[.val (.int p0), .val (.int p1), .val (.int p2), .val (.int p3), .val (.int p4), .val (.ref b1), .unset, .unset, .unset] [(.int (p4 &&& (2147483647 : Int32)))])) _
    refine XS.iconst X14.here hx rfl (hb hby at_34) ?_
    show Steps p.tables e below (T14.setTop (mkF m 35 #[.val (.int p0), .val (.int p1), .val (.int p2), .val (.int p3), .val (.int p4), .val (.ref b1), .unset, .unset, .unset] [(.int (3 : Int32)), (.int (p4 &&& (2147483647 : Int32)))])) _
    refine iremM X14 hx rfl (hb hby at_35) rfl (by decide) ?_
    show Steps p.tables e below (T14.setTop (mkF m 36 #[.val (.int p0), .val (.int p1), .val (.int p2), .val (.int p3), .val (.int p4), .val (.ref b1), .unset, .unset, .unset] [(.int ((p4 &&& (2147483647 : Int32)) % (3 : Int32)))])) _
    refine XS.istore X14.here hx rfl (hb hby at_36) rfl (l' := #[.val (.int p0), .val (.int p1), .val (.int p2), .val (.int p3), .val (.int p4), .val (.ref b1), .val (.int ((p4 &&& (2147483647 : Int32)) % (3 : Int32))), .unset, .unset]) rfl ?_
    exact kt
  rcases own_mod3 p4 with hat | hat | hat
  · skip
    have c16 : ∀ t, Steps p.tables e below (T14.setTop (mkF m 38 #[.val (.int p0), .val (.int p1), .val (.int p2), .val (.int p3), .val (.int p4), .val (.ref b1), .val (.int (0 : Int32)), .unset, .unset] [])) t → Steps p.tables e below (T14.setTop (mkF m 38 #[.val (.int p0), .val (.int p1), .val (.int p2), .val (.int p3), .val (.int p4), .val (.ref b1), .val (.int ((p4 &&& (2147483647 : Int32)) % (3 : Int32))), .unset, .unset] [])) t := fun t kt => by rw [hat]; exact kt
    have Vc17 := V14
    obtain ⟨cl17, Ar17, qk17, S17, M17, H17, G17⟩ := Vc17
    have hin17 : ¬ ((0 : Int32) < 0 ∨ cl17.slots.size ≤ ((0 : Int32)).toNatClampNeg) := inb_of S17 ⟨by decide, by decide⟩
    have hat17 : cl17.slots[((0 : Int32)).toNatClampNeg]? = some (.int ((p0.toInt8.toInt32).toInt8.toInt32)) := H17.at hin17 rfl
    have c18 : ∀ t, Steps p.tables e below (T14.setTop (mkF m 43 #[.val (.int p0), .val (.int p1), .val (.int p2), .val (.int p3), .val (.int p4), .val (.ref b1), .val (.int (0 : Int32)), .unset, .unset] [(.int ((p0.toInt8.toInt32).toInt8.toInt32))])) t → Steps p.tables e below (T14.setTop (mkF m 38 #[.val (.int p0), .val (.int p1), .val (.int p2), .val (.int p3), .val (.int p4), .val (.ref b1), .val (.int (0 : Int32)), .unset, .unset] [])) t := by
      intro t kt
      show Steps p.tables e below (T14.setTop (mkF m 38 #[.val (.int p0), .val (.int p1), .val (.int p2), .val (.int p3), .val (.int p4), .val (.ref b1), .val (.int (0 : Int32)), .unset, .unset] [])) _
      refine XS.aload X14.here hx rfl (hb hby at_38) rfl rfl ?_
      show Steps p.tables e below (T14.setTop (mkF m 40 #[.val (.int p0), .val (.int p1), .val (.int p2), .val (.int p3), .val (.int p4), .val (.ref b1), .val (.int (0 : Int32)), .unset, .unset] [(.ref b1)])) _
      refine XS.iload X14.here hx rfl (hb hby at_40) rfl ?_
      show Steps p.tables e below (T14.setTop (mkF m 42 #[.val (.int p0), .val (.int p1), .val (.int p2), .val (.int p3), .val (.int p4), .val (.ref b1), .val (.int (0 : Int32)), .unset, .unset] [(.int (0 : Int32)), (.ref b1)])) _
      refine X14.baloadBytes hx (j := (0 : Int32)) (v := (.int ((p0.toInt8.toInt32).toInt8.toInt32))) (by rw [e14]; exact Ar17.1) (State.isArrayOf_alike hZ.alike Ar17.2.1) Ar17.2.2 hin17 hat17 (g := (mkF m 42 #[.val (.int p0), .val (.int p1), .val (.int p2), .val (.int p3), .val (.int p4), .val (.ref b1), .val (.int (0 : Int32)), .unset, .unset] [(.int (0 : Int32)), (.ref b1)])) rfl rfl (hb hby at_42) _ ?_
      exact kt
    have f19 := (Nat.le_trans (Nat.le_trans (Nat.le_trans (Nat.le_trans (Nat.le_trans Z0 E1.1) (Keep.of_wr W5).1) (Keep.of_wr W8).1) (Keep.of_wr W11).1) (Keep.of_wr W14).1)
    obtain ⟨_, _, ⟨T20, L20, k20, n20⟩, -, X20, ⟨Lc20, hQ20, l20, y20, z20⟩, st20⟩ := Jvm.LawKit.callS X14 hx (y := (⟨"com/example/sequence_set/sequenceset/node/NodeReadShortPinLaw", "unsigned", "(B)I"⟩ : MethodName)) hown (mvT hZ (hw _ (List.mem_of_getElem? (i := 2) rfl))) (mvT hZ (hw _ (List.mem_of_getElem? (i := 3) rfl))) (mvT hZ (hw _ (List.mem_of_getElem? (i := 4) rfl))) (mvT hZ (hw _ (List.mem_of_getElem? (i := 5) rfl))) (by decide) (backOf (W := 0) (rm1 l Z a0 hw [] ((p0.toInt8.toInt32).toInt8.toInt32)  h14 n0 f19 ) hZ (hw _ (List.mem_of_getElem? (i := 5) rfl)) (hw _ (List.mem_of_getElem? (i := 4) rfl)) (by decide) (by decide)) (g := (mkF m 43 #[.val (.int p0), .val (.int p1), .val (.int p2), .val (.int p3), .val (.int p4), .val (.ref b1), .val (.int (0 : Int32)), .unset, .unset] [(.int ((p0.toInt8.toInt32).toInt8.toInt32))])) rfl (by rw [hml]; rfl) (argsL := [(.int ((p0.toInt8.toInt32).toInt8.toInt32))]) (rest := []) (lenOf pd_0 rfl) rfl (by show 2 * 0 + _ ≤ _; exact Nat.le_of_eq rfl) (hb hby at_43) (fun _ _ => ⟨rfl, e14, (by decide : 1 + 0 ≤ _), (by decide : 4 + 0 ≤ _)⟩)
    dsimp only [Pt.U, Pt.locs, Pt.cells, Pt.slots] at X20 l20 y20 z20 st20 hQ20
    subst l20 y20 z20
    obtain ⟨rfl, N20q, e20⟩ := hQ20
    have N20 := Fr.app N14 N20q
    have Vc21 := V14
    obtain ⟨cl21, Ar21, qk21, S21, M21, H21, G21⟩ := Vc21
    have hin21 : ¬ (((0 : Int32) + (1 : Int32)) < 0 ∨ cl21.slots.size ≤ (((0 : Int32) + (1 : Int32))).toNatClampNeg) := inb_of S21 ⟨by decide, by decide⟩
    have hat21 : cl21.slots[(((0 : Int32) + (1 : Int32))).toNatClampNeg]? = some (.int ((p1.toInt8.toInt32).toInt8.toInt32)) := H21.at hin21 rfl
    have c22 : ∀ t, Steps p.tables e below (T20.setTop (mkF m 57 #[.val (.int p0), .val (.int p1), .val (.int p2), .val (.int p3), .val (.int p4), .val (.ref b1), .val (.int (0 : Int32)), .unset, .unset] [(.int ((p1.toInt8.toInt32).toInt8.toInt32)), (.int ((own_us ((p0.toInt8.toInt32).toInt8.toInt32)) * (256 : Int32)))])) t → Steps p.tables e below (T20.setTop (mkF m 46 #[.val (.int p0), .val (.int p1), .val (.int p2), .val (.int p3), .val (.int p4), .val (.ref b1), .val (.int (0 : Int32)), .unset, .unset] [(.int (own_us ((p0.toInt8.toInt32).toInt8.toInt32)))])) t := by
      intro t kt
      show Steps p.tables e below (T20.setTop (mkF m 46 #[.val (.int p0), .val (.int p1), .val (.int p2), .val (.int p3), .val (.int p4), .val (.ref b1), .val (.int (0 : Int32)), .unset, .unset] [(.int (own_us ((p0.toInt8.toInt32).toInt8.toInt32)))])) _
      refine XS.sipush X20.here hx rfl (hb hby at_46) ?_
      show Steps p.tables e below (T20.setTop (mkF m 49 #[.val (.int p0), .val (.int p1), .val (.int p2), .val (.int p3), .val (.int p4), .val (.ref b1), .val (.int (0 : Int32)), .unset, .unset] [(.int (256 : Int32)), (.int (own_us ((p0.toInt8.toInt32).toInt8.toInt32)))])) _
      refine XS.imul X20.here hx rfl (hb hby at_49) rfl ?_
      show Steps p.tables e below (T20.setTop (mkF m 50 #[.val (.int p0), .val (.int p1), .val (.int p2), .val (.int p3), .val (.int p4), .val (.ref b1), .val (.int (0 : Int32)), .unset, .unset] [(.int ((own_us ((p0.toInt8.toInt32).toInt8.toInt32)) * (256 : Int32)))])) _
      refine XS.aload X20.here hx rfl (hb hby at_50) rfl rfl ?_
      show Steps p.tables e below (T20.setTop (mkF m 52 #[.val (.int p0), .val (.int p1), .val (.int p2), .val (.int p3), .val (.int p4), .val (.ref b1), .val (.int (0 : Int32)), .unset, .unset] [(.ref b1), (.int ((own_us ((p0.toInt8.toInt32).toInt8.toInt32)) * (256 : Int32)))])) _
      refine XS.iload X20.here hx rfl (hb hby at_52) rfl ?_
      show Steps p.tables e below (T20.setTop (mkF m 54 #[.val (.int p0), .val (.int p1), .val (.int p2), .val (.int p3), .val (.int p4), .val (.ref b1), .val (.int (0 : Int32)), .unset, .unset] [(.int (0 : Int32)), (.ref b1), (.int ((own_us ((p0.toInt8.toInt32).toInt8.toInt32)) * (256 : Int32)))])) _
      refine XS.iconst X20.here hx rfl (hb hby at_54) ?_
      show Steps p.tables e below (T20.setTop (mkF m 55 #[.val (.int p0), .val (.int p1), .val (.int p2), .val (.int p3), .val (.int p4), .val (.ref b1), .val (.int (0 : Int32)), .unset, .unset] [(.int (1 : Int32)), (.int (0 : Int32)), (.ref b1), (.int ((own_us ((p0.toInt8.toInt32).toInt8.toInt32)) * (256 : Int32)))])) _
      refine XS.iadd X20.here hx rfl (hb hby at_55) rfl ?_
      show Steps p.tables e below (T20.setTop (mkF m 56 #[.val (.int p0), .val (.int p1), .val (.int p2), .val (.int p3), .val (.int p4), .val (.ref b1), .val (.int (0 : Int32)), .unset, .unset] [(.int ((0 : Int32) + (1 : Int32))), (.ref b1), (.int ((own_us ((p0.toInt8.toInt32).toInt8.toInt32)) * (256 : Int32)))])) _
      refine X20.baloadBytes hx (j := ((0 : Int32) + (1 : Int32))) (v := (.int ((p1.toInt8.toInt32).toInt8.toInt32))) (by rw [e20]; exact Ar21.1) (State.isArrayOf_alike hZ.alike Ar21.2.1) Ar21.2.2 hin21 hat21 (g := (mkF m 56 #[.val (.int p0), .val (.int p1), .val (.int p2), .val (.int p3), .val (.int p4), .val (.ref b1), .val (.int (0 : Int32)), .unset, .unset] [(.int ((0 : Int32) + (1 : Int32))), (.ref b1), (.int ((own_us ((p0.toInt8.toInt32).toInt8.toInt32)) * (256 : Int32)))])) rfl rfl (hb hby at_56) _ ?_
      exact kt
    obtain ⟨_, _, ⟨T23, L23, k23, n23⟩, -, X23, ⟨Lc23, hQ23, l23, y23, z23⟩, st23⟩ := Jvm.LawKit.callS X20 hx (y := (⟨"com/example/sequence_set/sequenceset/node/NodeReadShortPinLaw", "unsigned", "(B)I"⟩ : MethodName)) hown (mvT hZ (hw _ (List.mem_of_getElem? (i := 2) rfl))) (mvT hZ (hw _ (List.mem_of_getElem? (i := 3) rfl))) (mvT hZ (hw _ (List.mem_of_getElem? (i := 4) rfl))) (mvT hZ (hw _ (List.mem_of_getElem? (i := 5) rfl))) (by decide) (backOf (W := 1) (rm1 l Z a0 hw [] ((p1.toInt8.toInt32).toInt8.toInt32)  h14 n0 f19 ) hZ (hw _ (List.mem_of_getElem? (i := 5) rfl)) (hw _ (List.mem_of_getElem? (i := 4) rfl)) (by decide) (by decide)) (g := (mkF m 57 #[.val (.int p0), .val (.int p1), .val (.int p2), .val (.int p3), .val (.int p4), .val (.ref b1), .val (.int (0 : Int32)), .unset, .unset] [(.int ((p1.toInt8.toInt32).toInt8.toInt32)), (.int ((own_us ((p0.toInt8.toInt32).toInt8.toInt32)) * (256 : Int32)))])) rfl (by rw [hml]; rfl) (argsL := [(.int ((p1.toInt8.toInt32).toInt8.toInt32))]) (rest := [(.int ((own_us ((p0.toInt8.toInt32).toInt8.toInt32)) * (256 : Int32)))]) (lenOf pd_0 rfl) rfl (by show 2 * 0 + _ ≤ _; exact Nat.le_of_eq rfl) (hb hby at_57) (fun _ _ => ⟨rfl, e20, (by decide : 1 + 0 ≤ _), (by decide : 4 + 0 ≤ _)⟩)
    dsimp only [Pt.U, Pt.locs, Pt.cells, Pt.slots] at X23 l23 y23 z23 st23 hQ23
    subst l23 y23 z23
    obtain ⟨rfl, N23q, e23⟩ := hQ23
    have N23 := Fr.app N20 N23q
    have c24 : ∀ t, Steps p.tables e below (T23.setTop (mkF m 67 #[.val (.int p0), .val (.int p1), .val (.int p2), .val (.int p3), .val (.int p4), .val (.ref b1), .val (.int (0 : Int32)), .val (.int (((own_us ((p0.toInt8.toInt32).toInt8.toInt32)) * (256 : Int32)) + (own_us ((p1.toInt8.toInt32).toInt8.toInt32)))), .unset] [(.int (0 : Int32)), (.ref b1)])) t → Steps p.tables e below (T23.setTop (mkF m 60 #[.val (.int p0), .val (.int p1), .val (.int p2), .val (.int p3), .val (.int p4), .val (.ref b1), .val (.int (0 : Int32)), .unset, .unset] [(.int (own_us ((p1.toInt8.toInt32).toInt8.toInt32))), (.int ((own_us ((p0.toInt8.toInt32).toInt8.toInt32)) * (256 : Int32)))])) t := by
      intro t kt
      show Steps p.tables e below (T23.setTop (mkF m 60 #[.val (.int p0), .val (.int p1), .val (.int p2), .val (.int p3), .val (.int p4), .val (.ref b1), .val (.int (0 : Int32)), .unset, .unset] [(.int (own_us ((p1.toInt8.toInt32).toInt8.toInt32))), (.int ((own_us ((p0.toInt8.toInt32).toInt8.toInt32)) * (256 : Int32)))])) _
      refine XS.iadd X23.here hx rfl (hb hby at_60) rfl ?_
      show Steps p.tables e below (T23.setTop (mkF m 61 #[.val (.int p0), .val (.int p1), .val (.int p2), .val (.int p3), .val (.int p4), .val (.ref b1), .val (.int (0 : Int32)), .unset, .unset] [(.int (((own_us ((p0.toInt8.toInt32).toInt8.toInt32)) * (256 : Int32)) + (own_us ((p1.toInt8.toInt32).toInt8.toInt32))))])) _
      refine XS.istore X23.here hx rfl (hb hby at_61) rfl (l' := #[.val (.int p0), .val (.int p1), .val (.int p2), .val (.int p3), .val (.int p4), .val (.ref b1), .val (.int (0 : Int32)), .val (.int (((own_us ((p0.toInt8.toInt32).toInt8.toInt32)) * (256 : Int32)) + (own_us ((p1.toInt8.toInt32).toInt8.toInt32)))), .unset]) rfl ?_
      show Steps p.tables e below (T23.setTop (mkF m 63 #[.val (.int p0), .val (.int p1), .val (.int p2), .val (.int p3), .val (.int p4), .val (.ref b1), .val (.int (0 : Int32)), .val (.int (((own_us ((p0.toInt8.toInt32).toInt8.toInt32)) * (256 : Int32)) + (own_us ((p1.toInt8.toInt32).toInt8.toInt32)))), .unset] [])) _
      refine XS.aload X23.here hx rfl (hb hby at_63) rfl rfl ?_
      show Steps p.tables e below (T23.setTop (mkF m 65 #[.val (.int p0), .val (.int p1), .val (.int p2), .val (.int p3), .val (.int p4), .val (.ref b1), .val (.int (0 : Int32)), .val (.int (((own_us ((p0.toInt8.toInt32).toInt8.toInt32)) * (256 : Int32)) + (own_us ((p1.toInt8.toInt32).toInt8.toInt32)))), .unset] [(.ref b1)])) _
      refine XS.iload X23.here hx rfl (hb hby at_65) rfl ?_
      exact kt
    obtain ⟨_, _, ⟨T25, L25, k25, n25⟩, -, X25, ⟨Lc25, hQ25, l25, y25, z25⟩, st25⟩ := Jvm.LawKit.callS X23 hx (y := (⟨"com/example/sequence_set/sequenceset/node/Node", "readShort", "([BI)I"⟩ : MethodName)) hown (mvT hZ (hw _ (List.mem_of_getElem? (i := 6) rfl))) (mvT hZ (hw _ (List.mem_of_getElem? (i := 7) rfl))) (mvT hZ (hw _ (List.mem_of_getElem? (i := 8) rfl))) (mvT hZ (hw _ (List.mem_of_getElem? (i := 9) rfl))) (by decide) (backOf (W := 0) (rm2 l Z a0 hw [] b1 (0 : Int32) k1 (4 : Int32) [(.int ((p0.toInt8.toInt32).toInt8.toInt32)), (.int ((p1.toInt8.toInt32).toInt8.toInt32)), (.int ((p2.toInt8.toInt32).toInt8.toInt32)), (.int ((p3.toInt8.toInt32).toInt8.toInt32))] (.int (0 : Int32)) ((p0.toInt8.toInt32).toInt8.toInt32) ((p1.toInt8.toInt32).toInt8.toInt32) h14 n0 f19 V14 ⟨by decide, by decide⟩ ⟨by decide, by decide⟩ rfl rfl) hZ (hw _ (List.mem_of_getElem? (i := 9) rfl)) (hw _ (List.mem_of_getElem? (i := 8) rfl)) (by decide) (by decide)) (g := (mkF m 67 #[.val (.int p0), .val (.int p1), .val (.int p2), .val (.int p3), .val (.int p4), .val (.ref b1), .val (.int (0 : Int32)), .val (.int (((own_us ((p0.toInt8.toInt32).toInt8.toInt32)) * (256 : Int32)) + (own_us ((p1.toInt8.toInt32).toInt8.toInt32)))), .unset] [(.int (0 : Int32)), (.ref b1)])) rfl (by rw [hml]; rfl) (argsL := [(.ref b1), (.int (0 : Int32))]) (rest := []) (lenOf pd_1 rfl) rfl (by show 2 * 0 + _ ≤ _; exact Nat.le_of_eq rfl) (hb hby at_67) (fun _ _ => ⟨rfl, e23, (by decide : 1 + 0 ≤ _), (by decide : 4 + 0 ≤ _)⟩)
    dsimp only [Pt.U, Pt.locs, Pt.cells, Pt.slots] at X25 l25 y25 z25 st25 hQ25
    subst l25 y25 z25
    obtain ⟨rfl, N25q, e25⟩ := hQ25
    have N25 := Fr.app N23 N25q
    have c27 : ∀ t, Steps p.tables e below (T25.setTop (mkF m 76 #[.val (.int p0), .val (.int p1), .val (.int p2), .val (.int p3), .val (.int p4), .val (.ref b1), .val (.int (0 : Int32)), .val (.int (((own_us ((p0.toInt8.toInt32).toInt8.toInt32)) * (256 : Int32)) + (own_us ((p1.toInt8.toInt32).toInt8.toInt32)))), .val (.int (own_rs ((p0.toInt8.toInt32).toInt8.toInt32) ((p1.toInt8.toInt32).toInt8.toInt32)))] [(.int (((own_us ((p0.toInt8.toInt32).toInt8.toInt32)) * (256 : Int32)) + (own_us ((p1.toInt8.toInt32).toInt8.toInt32)))), (.int (own_rs ((p0.toInt8.toInt32).toInt8.toInt32) ((p1.toInt8.toInt32).toInt8.toInt32)))])) t → Steps p.tables e below (T25.setTop (mkF m 70 #[.val (.int p0), .val (.int p1), .val (.int p2), .val (.int p3), .val (.int p4), .val (.ref b1), .val (.int (0 : Int32)), .val (.int (((own_us ((p0.toInt8.toInt32).toInt8.toInt32)) * (256 : Int32)) + (own_us ((p1.toInt8.toInt32).toInt8.toInt32)))), .unset] [(.int (own_rs ((p0.toInt8.toInt32).toInt8.toInt32) ((p1.toInt8.toInt32).toInt8.toInt32)))])) t := by
      intro t kt
      show Steps p.tables e below (T25.setTop (mkF m 70 #[.val (.int p0), .val (.int p1), .val (.int p2), .val (.int p3), .val (.int p4), .val (.ref b1), .val (.int (0 : Int32)), .val (.int (((own_us ((p0.toInt8.toInt32).toInt8.toInt32)) * (256 : Int32)) + (own_us ((p1.toInt8.toInt32).toInt8.toInt32)))), .unset] [(.int (own_rs ((p0.toInt8.toInt32).toInt8.toInt32) ((p1.toInt8.toInt32).toInt8.toInt32)))])) _
      refine XS.istore X25.here hx rfl (hb hby at_70) rfl (l' := #[.val (.int p0), .val (.int p1), .val (.int p2), .val (.int p3), .val (.int p4), .val (.ref b1), .val (.int (0 : Int32)), .val (.int (((own_us ((p0.toInt8.toInt32).toInt8.toInt32)) * (256 : Int32)) + (own_us ((p1.toInt8.toInt32).toInt8.toInt32)))), .val (.int (own_rs ((p0.toInt8.toInt32).toInt8.toInt32) ((p1.toInt8.toInt32).toInt8.toInt32)))]) rfl ?_
      show Steps p.tables e below (T25.setTop (mkF m 72 #[.val (.int p0), .val (.int p1), .val (.int p2), .val (.int p3), .val (.int p4), .val (.ref b1), .val (.int (0 : Int32)), .val (.int (((own_us ((p0.toInt8.toInt32).toInt8.toInt32)) * (256 : Int32)) + (own_us ((p1.toInt8.toInt32).toInt8.toInt32)))), .val (.int (own_rs ((p0.toInt8.toInt32).toInt8.toInt32) ((p1.toInt8.toInt32).toInt8.toInt32)))] [])) _
      refine XS.iload X25.here hx rfl (hb hby at_72) rfl ?_
      show Steps p.tables e below (T25.setTop (mkF m 74 #[.val (.int p0), .val (.int p1), .val (.int p2), .val (.int p3), .val (.int p4), .val (.ref b1), .val (.int (0 : Int32)), .val (.int (((own_us ((p0.toInt8.toInt32).toInt8.toInt32)) * (256 : Int32)) + (own_us ((p1.toInt8.toInt32).toInt8.toInt32)))), .val (.int (own_rs ((p0.toInt8.toInt32).toInt8.toInt32) ((p1.toInt8.toInt32).toInt8.toInt32)))] [(.int (own_rs ((p0.toInt8.toInt32).toInt8.toInt32) ((p1.toInt8.toInt32).toInt8.toInt32)))])) _
      refine XS.iload X25.here hx rfl (hb hby at_74) rfl ?_
      exact kt
    have hd26 : (own_rs ((p0.toInt8.toInt32).toInt8.toInt32) ((p1.toInt8.toInt32).toInt8.toInt32)) = (((own_us ((p0.toInt8.toInt32).toInt8.toInt32)) * (256 : Int32)) + (own_us ((p1.toInt8.toInt32).toInt8.toInt32))) := (own_eq _ _ (own_by _) (own_by _)).1
    have c29 : ∀ t, Steps p.tables e below (T25.setTop (mkF m 81 #[.val (.int p0), .val (.int p1), .val (.int p2), .val (.int p3), .val (.int p4), .val (.ref b1), .val (.int (0 : Int32)), .val (.int (((own_us ((p0.toInt8.toInt32).toInt8.toInt32)) * (256 : Int32)) + (own_us ((p1.toInt8.toInt32).toInt8.toInt32)))), .val (.int (own_rs ((p0.toInt8.toInt32).toInt8.toInt32) ((p1.toInt8.toInt32).toInt8.toInt32)))] [(.int (own_rs ((p0.toInt8.toInt32).toInt8.toInt32) ((p1.toInt8.toInt32).toInt8.toInt32)))])) t → Steps p.tables e below (T25.setTop (mkF m 76 #[.val (.int p0), .val (.int p1), .val (.int p2), .val (.int p3), .val (.int p4), .val (.ref b1), .val (.int (0 : Int32)), .val (.int (((own_us ((p0.toInt8.toInt32).toInt8.toInt32)) * (256 : Int32)) + (own_us ((p1.toInt8.toInt32).toInt8.toInt32)))), .val (.int (own_rs ((p0.toInt8.toInt32).toInt8.toInt32) ((p1.toInt8.toInt32).toInt8.toInt32)))] [(.int (((own_us ((p0.toInt8.toInt32).toInt8.toInt32)) * (256 : Int32)) + (own_us ((p1.toInt8.toInt32).toInt8.toInt32)))), (.int (own_rs ((p0.toInt8.toInt32).toInt8.toInt32) ((p1.toInt8.toInt32).toInt8.toInt32)))])) t := by
      intro t kt
      show Steps p.tables e below (T25.setTop (mkF m 76 #[.val (.int p0), .val (.int p1), .val (.int p2), .val (.int p3), .val (.int p4), .val (.ref b1), .val (.int (0 : Int32)), .val (.int (((own_us ((p0.toInt8.toInt32).toInt8.toInt32)) * (256 : Int32)) + (own_us ((p1.toInt8.toInt32).toInt8.toInt32)))), .val (.int (own_rs ((p0.toInt8.toInt32).toInt8.toInt32) ((p1.toInt8.toInt32).toInt8.toInt32)))] [(.int (((own_us ((p0.toInt8.toInt32).toInt8.toInt32)) * (256 : Int32)) + (own_us ((p1.toInt8.toInt32).toInt8.toInt32)))), (.int (own_rs ((p0.toInt8.toInt32).toInt8.toInt32) ((p1.toInt8.toInt32).toInt8.toInt32)))])) _
      refine XS.icmpNo X25.here hx rfl (hb hby at_76) rfl (teq (hd26)).2 ?_
      show Steps p.tables e below (T25.setTop (mkF m 79 #[.val (.int p0), .val (.int p1), .val (.int p2), .val (.int p3), .val (.int p4), .val (.ref b1), .val (.int (0 : Int32)), .val (.int (((own_us ((p0.toInt8.toInt32).toInt8.toInt32)) * (256 : Int32)) + (own_us ((p1.toInt8.toInt32).toInt8.toInt32)))), .val (.int (own_rs ((p0.toInt8.toInt32).toInt8.toInt32) ((p1.toInt8.toInt32).toInt8.toInt32)))] [])) _
      refine XS.iload X25.here hx rfl (hb hby at_79) rfl ?_
      exact kt
    have hd28 : ¬ ((own_rs ((p0.toInt8.toInt32).toInt8.toInt32) ((p1.toInt8.toInt32).toInt8.toInt32)) < (0 : Int32)) := (own_eq _ _ (own_by _) (own_by _)).2.1
    have c31 : ∀ t, Steps p.tables e below (T25.setTop (mkF m 88 #[.val (.int p0), .val (.int p1), .val (.int p2), .val (.int p3), .val (.int p4), .val (.ref b1), .val (.int (0 : Int32)), .val (.int (((own_us ((p0.toInt8.toInt32).toInt8.toInt32)) * (256 : Int32)) + (own_us ((p1.toInt8.toInt32).toInt8.toInt32)))), .val (.int (own_rs ((p0.toInt8.toInt32).toInt8.toInt32) ((p1.toInt8.toInt32).toInt8.toInt32)))] [(.int (65535 : Int32)), (.int (own_rs ((p0.toInt8.toInt32).toInt8.toInt32) ((p1.toInt8.toInt32).toInt8.toInt32)))])) t → Steps p.tables e below (T25.setTop (mkF m 81 #[.val (.int p0), .val (.int p1), .val (.int p2), .val (.int p3), .val (.int p4), .val (.ref b1), .val (.int (0 : Int32)), .val (.int (((own_us ((p0.toInt8.toInt32).toInt8.toInt32)) * (256 : Int32)) + (own_us ((p1.toInt8.toInt32).toInt8.toInt32)))), .val (.int (own_rs ((p0.toInt8.toInt32).toInt8.toInt32) ((p1.toInt8.toInt32).toInt8.toInt32)))] [(.int (own_rs ((p0.toInt8.toInt32).toInt8.toInt32) ((p1.toInt8.toInt32).toInt8.toInt32)))])) t := by
      intro t kt
      show Steps p.tables e below (T25.setTop (mkF m 81 #[.val (.int p0), .val (.int p1), .val (.int p2), .val (.int p3), .val (.int p4), .val (.ref b1), .val (.int (0 : Int32)), .val (.int (((own_us ((p0.toInt8.toInt32).toInt8.toInt32)) * (256 : Int32)) + (own_us ((p1.toInt8.toInt32).toInt8.toInt32)))), .val (.int (own_rs ((p0.toInt8.toInt32).toInt8.toInt32) ((p1.toInt8.toInt32).toInt8.toInt32)))] [(.int (own_rs ((p0.toInt8.toInt32).toInt8.toInt32) ((p1.toInt8.toInt32).toInt8.toInt32)))])) _
      refine XS.ifNo X25.here hx rfl (hb hby at_81) rfl ((if0 _ _).trans (flt (hd28)).1) ?_
      show Steps p.tables e below (T25.setTop (mkF m 84 #[.val (.int p0), .val (.int p1), .val (.int p2), .val (.int p3), .val (.int p4), .val (.ref b1), .val (.int (0 : Int32)), .val (.int (((own_us ((p0.toInt8.toInt32).toInt8.toInt32)) * (256 : Int32)) + (own_us ((p1.toInt8.toInt32).toInt8.toInt32)))), .val (.int (own_rs ((p0.toInt8.toInt32).toInt8.toInt32) ((p1.toInt8.toInt32).toInt8.toInt32)))] [])) _
      refine XS.iload X25.here hx rfl (hb hby at_84) rfl ?_
      show Steps p.tables e below (T25.setTop (mkF m 86 #[.val (.int p0), .val (.int p1), .val (.int p2), .val (.int p3), .val (.int p4), .val (.ref b1), .val (.int (0 : Int32)), .val (.int (((own_us ((p0.toInt8.toInt32).toInt8.toInt32)) * (256 : Int32)) + (own_us ((p1.toInt8.toInt32).toInt8.toInt32)))), .val (.int (own_rs ((p0.toInt8.toInt32).toInt8.toInt32) ((p1.toInt8.toInt32).toInt8.toInt32)))] [(.int (own_rs ((p0.toInt8.toInt32).toInt8.toInt32) ((p1.toInt8.toInt32).toInt8.toInt32)))])) _
      refine X25.ldcInt hx hown (mvT hZ (hw _ (List.mem_of_getElem? (i := 10) rfl))) (g := (mkF m 86 #[.val (.int p0), .val (.int p1), .val (.int p2), .val (.int p3), .val (.int p4), .val (.ref b1), .val (.int (0 : Int32)), .val (.int (((own_us ((p0.toInt8.toInt32).toInt8.toInt32)) * (256 : Int32)) + (own_us ((p1.toInt8.toInt32).toInt8.toInt32)))), .val (.int (own_rs ((p0.toInt8.toInt32).toInt8.toInt32) ((p1.toInt8.toInt32).toInt8.toInt32)))] [(.int (own_rs ((p0.toInt8.toInt32).toInt8.toInt32) ((p1.toInt8.toInt32).toInt8.toInt32)))])) rfl (hb hby at_86) _ ?_
      exact kt
    have hd30 : ¬ ((65535 : Int32) < (own_rs ((p0.toInt8.toInt32).toInt8.toInt32) ((p1.toInt8.toInt32).toInt8.toInt32))) := (own_eq _ _ (own_by _) (own_by _)).2.2
    have c32 : ∀ t, Steps p.tables e below (T25.setTop (mkF m 96 #[.val (.int p0), .val (.int p1), .val (.int p2), .val (.int p3), .val (.int p4), .val (.ref b1), .val (.int (0 : Int32)), .val (.int (((own_us ((p0.toInt8.toInt32).toInt8.toInt32)) * (256 : Int32)) + (own_us ((p1.toInt8.toInt32).toInt8.toInt32)))), .val (.int (own_rs ((p0.toInt8.toInt32).toInt8.toInt32) ((p1.toInt8.toInt32).toInt8.toInt32)))] [(.int (1 : Int32))])) t → Steps p.tables e below (T25.setTop (mkF m 88 #[.val (.int p0), .val (.int p1), .val (.int p2), .val (.int p3), .val (.int p4), .val (.ref b1), .val (.int (0 : Int32)), .val (.int (((own_us ((p0.toInt8.toInt32).toInt8.toInt32)) * (256 : Int32)) + (own_us ((p1.toInt8.toInt32).toInt8.toInt32)))), .val (.int (own_rs ((p0.toInt8.toInt32).toInt8.toInt32) ((p1.toInt8.toInt32).toInt8.toInt32)))] [(.int (65535 : Int32)), (.int (own_rs ((p0.toInt8.toInt32).toInt8.toInt32) ((p1.toInt8.toInt32).toInt8.toInt32)))])) t := by
      intro t kt
      show Steps p.tables e below (T25.setTop (mkF m 88 #[.val (.int p0), .val (.int p1), .val (.int p2), .val (.int p3), .val (.int p4), .val (.ref b1), .val (.int (0 : Int32)), .val (.int (((own_us ((p0.toInt8.toInt32).toInt8.toInt32)) * (256 : Int32)) + (own_us ((p1.toInt8.toInt32).toInt8.toInt32)))), .val (.int (own_rs ((p0.toInt8.toInt32).toInt8.toInt32) ((p1.toInt8.toInt32).toInt8.toInt32)))] [(.int (65535 : Int32)), (.int (own_rs ((p0.toInt8.toInt32).toInt8.toInt32) ((p1.toInt8.toInt32).toInt8.toInt32)))])) _
      refine XS.icmpNo X25.here hx rfl (hb hby at_88) rfl (flt (hd30)).2.2.1 ?_
      show Steps p.tables e below (T25.setTop (mkF m 91 #[.val (.int p0), .val (.int p1), .val (.int p2), .val (.int p3), .val (.int p4), .val (.ref b1), .val (.int (0 : Int32)), .val (.int (((own_us ((p0.toInt8.toInt32).toInt8.toInt32)) * (256 : Int32)) + (own_us ((p1.toInt8.toInt32).toInt8.toInt32)))), .val (.int (own_rs ((p0.toInt8.toInt32).toInt8.toInt32) ((p1.toInt8.toInt32).toInt8.toInt32)))] [])) _
      refine XS.iconst X25.here hx rfl (hb hby at_91) ?_
      show Steps p.tables e below (T25.setTop (mkF m 92 #[.val (.int p0), .val (.int p1), .val (.int p2), .val (.int p3), .val (.int p4), .val (.ref b1), .val (.int (0 : Int32)), .val (.int (((own_us ((p0.toInt8.toInt32).toInt8.toInt32)) * (256 : Int32)) + (own_us ((p1.toInt8.toInt32).toInt8.toInt32)))), .val (.int (own_rs ((p0.toInt8.toInt32).toInt8.toInt32) ((p1.toInt8.toInt32).toInt8.toInt32)))] [(.int (1 : Int32))])) _
      refine XS.goto X25.here hx rfl (pc0 := 92) (pc' := 96) rfl (hb hby at_92) (by decide) (by decide) ?_
      exact kt
    obtain ⟨fs, hr, hrun, hended, hW, hsame⟩ := X25.leave (v := some (.int (1 : Int32))) (fun h => by rw [Bd.returns] at h; cases h)
    refine ⟨_, _, pre0 _ (c2 _ (st1 _ (c3 _ (st5 _ (c6 _ (st8 _ (c9 _ (st11 _ (c12 _ (st14 _ (c15 _ (c16 _ (c18 _ (st20 _ (c22 _ (st23 _ (c24 _ (st25 _ (c27 _ (c29 _ (c31 _ (c32 _ (?_))))))))))))))))))))))), hrun, hended, _, _, rfl, ?_, ⟨_, rfl⟩, hW, hsame.mono (by decide) (by decide)⟩
    · show Steps p.tables e below (T25.setTop (mkF m 96 #[.val (.int p0), .val (.int p1), .val (.int p2), .val (.int p3), .val (.int p4), .val (.ref b1), .val (.int (0 : Int32)), .val (.int (((own_us ((p0.toInt8.toInt32).toInt8.toInt32)) * (256 : Int32)) + (own_us ((p1.toInt8.toInt32).toInt8.toInt32)))), .val (.int (own_rs ((p0.toInt8.toInt32).toInt8.toInt32) ((p1.toInt8.toInt32).toInt8.toInt32)))] [(.int (1 : Int32))])) _
      exact retN X25 hx (t := .boolean) Bd.returns (by simp) (hb hby at_96) hr
    · show Q0 Z p0 p1 p2 p3 p4 h0 n0 _ T25.heap _
      rw [e25]
      exact ⟨congrArg (fun z => some (Value.int z)) (show (1 : Int32) = (1 : Int32) from by rfl), N25⟩
  · skip
    have c34 : ∀ t, Steps p.tables e below (T14.setTop (mkF m 38 #[.val (.int p0), .val (.int p1), .val (.int p2), .val (.int p3), .val (.int p4), .val (.ref b1), .val (.int (1 : Int32)), .unset, .unset] [])) t → Steps p.tables e below (T14.setTop (mkF m 38 #[.val (.int p0), .val (.int p1), .val (.int p2), .val (.int p3), .val (.int p4), .val (.ref b1), .val (.int ((p4 &&& (2147483647 : Int32)) % (3 : Int32))), .unset, .unset] [])) t := fun t kt => by rw [hat]; exact kt
    have Vc35 := V14
    obtain ⟨cl35, Ar35, qk35, S35, M35, H35, G35⟩ := Vc35
    have hin35 : ¬ ((1 : Int32) < 0 ∨ cl35.slots.size ≤ ((1 : Int32)).toNatClampNeg) := inb_of S35 ⟨by decide, by decide⟩
    have hat35 : cl35.slots[((1 : Int32)).toNatClampNeg]? = some (.int ((p1.toInt8.toInt32).toInt8.toInt32)) := H35.at hin35 rfl
    have c36 : ∀ t, Steps p.tables e below (T14.setTop (mkF m 43 #[.val (.int p0), .val (.int p1), .val (.int p2), .val (.int p3), .val (.int p4), .val (.ref b1), .val (.int (1 : Int32)), .unset, .unset] [(.int ((p1.toInt8.toInt32).toInt8.toInt32))])) t → Steps p.tables e below (T14.setTop (mkF m 38 #[.val (.int p0), .val (.int p1), .val (.int p2), .val (.int p3), .val (.int p4), .val (.ref b1), .val (.int (1 : Int32)), .unset, .unset] [])) t := by
      intro t kt
      show Steps p.tables e below (T14.setTop (mkF m 38 #[.val (.int p0), .val (.int p1), .val (.int p2), .val (.int p3), .val (.int p4), .val (.ref b1), .val (.int (1 : Int32)), .unset, .unset] [])) _
      refine XS.aload X14.here hx rfl (hb hby at_38) rfl rfl ?_
      show Steps p.tables e below (T14.setTop (mkF m 40 #[.val (.int p0), .val (.int p1), .val (.int p2), .val (.int p3), .val (.int p4), .val (.ref b1), .val (.int (1 : Int32)), .unset, .unset] [(.ref b1)])) _
      refine XS.iload X14.here hx rfl (hb hby at_40) rfl ?_
      show Steps p.tables e below (T14.setTop (mkF m 42 #[.val (.int p0), .val (.int p1), .val (.int p2), .val (.int p3), .val (.int p4), .val (.ref b1), .val (.int (1 : Int32)), .unset, .unset] [(.int (1 : Int32)), (.ref b1)])) _
      refine X14.baloadBytes hx (j := (1 : Int32)) (v := (.int ((p1.toInt8.toInt32).toInt8.toInt32))) (by rw [e14]; exact Ar35.1) (State.isArrayOf_alike hZ.alike Ar35.2.1) Ar35.2.2 hin35 hat35 (g := (mkF m 42 #[.val (.int p0), .val (.int p1), .val (.int p2), .val (.int p3), .val (.int p4), .val (.ref b1), .val (.int (1 : Int32)), .unset, .unset] [(.int (1 : Int32)), (.ref b1)])) rfl rfl (hb hby at_42) _ ?_
      exact kt
    have f37 := (Nat.le_trans (Nat.le_trans (Nat.le_trans (Nat.le_trans (Nat.le_trans Z0 E1.1) (Keep.of_wr W5).1) (Keep.of_wr W8).1) (Keep.of_wr W11).1) (Keep.of_wr W14).1)
    obtain ⟨_, _, ⟨T38, L38, k38, n38⟩, -, X38, ⟨Lc38, hQ38, l38, y38, z38⟩, st38⟩ := Jvm.LawKit.callS X14 hx (y := (⟨"com/example/sequence_set/sequenceset/node/NodeReadShortPinLaw", "unsigned", "(B)I"⟩ : MethodName)) hown (mvT hZ (hw _ (List.mem_of_getElem? (i := 2) rfl))) (mvT hZ (hw _ (List.mem_of_getElem? (i := 3) rfl))) (mvT hZ (hw _ (List.mem_of_getElem? (i := 4) rfl))) (mvT hZ (hw _ (List.mem_of_getElem? (i := 5) rfl))) (by decide) (backOf (W := 0) (rm1 l Z a0 hw [] ((p1.toInt8.toInt32).toInt8.toInt32)  h14 n0 f37 ) hZ (hw _ (List.mem_of_getElem? (i := 5) rfl)) (hw _ (List.mem_of_getElem? (i := 4) rfl)) (by decide) (by decide)) (g := (mkF m 43 #[.val (.int p0), .val (.int p1), .val (.int p2), .val (.int p3), .val (.int p4), .val (.ref b1), .val (.int (1 : Int32)), .unset, .unset] [(.int ((p1.toInt8.toInt32).toInt8.toInt32))])) rfl (by rw [hml]; rfl) (argsL := [(.int ((p1.toInt8.toInt32).toInt8.toInt32))]) (rest := []) (lenOf pd_0 rfl) rfl (by show 2 * 0 + _ ≤ _; exact Nat.le_of_eq rfl) (hb hby at_43) (fun _ _ => ⟨rfl, e14, (by decide : 1 + 0 ≤ _), (by decide : 4 + 0 ≤ _)⟩)
    dsimp only [Pt.U, Pt.locs, Pt.cells, Pt.slots] at X38 l38 y38 z38 st38 hQ38
    subst l38 y38 z38
    obtain ⟨rfl, N38q, e38⟩ := hQ38
    have N38 := Fr.app N14 N38q
    have Vc39 := V14
    obtain ⟨cl39, Ar39, qk39, S39, M39, H39, G39⟩ := Vc39
    have hin39 : ¬ (((1 : Int32) + (1 : Int32)) < 0 ∨ cl39.slots.size ≤ (((1 : Int32) + (1 : Int32))).toNatClampNeg) := inb_of S39 ⟨by decide, by decide⟩
    have hat39 : cl39.slots[(((1 : Int32) + (1 : Int32))).toNatClampNeg]? = some (.int ((p2.toInt8.toInt32).toInt8.toInt32)) := H39.at hin39 rfl
    have c40 : ∀ t, Steps p.tables e below (T38.setTop (mkF m 57 #[.val (.int p0), .val (.int p1), .val (.int p2), .val (.int p3), .val (.int p4), .val (.ref b1), .val (.int (1 : Int32)), .unset, .unset] [(.int ((p2.toInt8.toInt32).toInt8.toInt32)), (.int ((own_us ((p1.toInt8.toInt32).toInt8.toInt32)) * (256 : Int32)))])) t → Steps p.tables e below (T38.setTop (mkF m 46 #[.val (.int p0), .val (.int p1), .val (.int p2), .val (.int p3), .val (.int p4), .val (.ref b1), .val (.int (1 : Int32)), .unset, .unset] [(.int (own_us ((p1.toInt8.toInt32).toInt8.toInt32)))])) t := by
      intro t kt
      show Steps p.tables e below (T38.setTop (mkF m 46 #[.val (.int p0), .val (.int p1), .val (.int p2), .val (.int p3), .val (.int p4), .val (.ref b1), .val (.int (1 : Int32)), .unset, .unset] [(.int (own_us ((p1.toInt8.toInt32).toInt8.toInt32)))])) _
      refine XS.sipush X38.here hx rfl (hb hby at_46) ?_
      show Steps p.tables e below (T38.setTop (mkF m 49 #[.val (.int p0), .val (.int p1), .val (.int p2), .val (.int p3), .val (.int p4), .val (.ref b1), .val (.int (1 : Int32)), .unset, .unset] [(.int (256 : Int32)), (.int (own_us ((p1.toInt8.toInt32).toInt8.toInt32)))])) _
      refine XS.imul X38.here hx rfl (hb hby at_49) rfl ?_
      show Steps p.tables e below (T38.setTop (mkF m 50 #[.val (.int p0), .val (.int p1), .val (.int p2), .val (.int p3), .val (.int p4), .val (.ref b1), .val (.int (1 : Int32)), .unset, .unset] [(.int ((own_us ((p1.toInt8.toInt32).toInt8.toInt32)) * (256 : Int32)))])) _
      refine XS.aload X38.here hx rfl (hb hby at_50) rfl rfl ?_
      show Steps p.tables e below (T38.setTop (mkF m 52 #[.val (.int p0), .val (.int p1), .val (.int p2), .val (.int p3), .val (.int p4), .val (.ref b1), .val (.int (1 : Int32)), .unset, .unset] [(.ref b1), (.int ((own_us ((p1.toInt8.toInt32).toInt8.toInt32)) * (256 : Int32)))])) _
      refine XS.iload X38.here hx rfl (hb hby at_52) rfl ?_
      show Steps p.tables e below (T38.setTop (mkF m 54 #[.val (.int p0), .val (.int p1), .val (.int p2), .val (.int p3), .val (.int p4), .val (.ref b1), .val (.int (1 : Int32)), .unset, .unset] [(.int (1 : Int32)), (.ref b1), (.int ((own_us ((p1.toInt8.toInt32).toInt8.toInt32)) * (256 : Int32)))])) _
      refine XS.iconst X38.here hx rfl (hb hby at_54) ?_
      show Steps p.tables e below (T38.setTop (mkF m 55 #[.val (.int p0), .val (.int p1), .val (.int p2), .val (.int p3), .val (.int p4), .val (.ref b1), .val (.int (1 : Int32)), .unset, .unset] [(.int (1 : Int32)), (.int (1 : Int32)), (.ref b1), (.int ((own_us ((p1.toInt8.toInt32).toInt8.toInt32)) * (256 : Int32)))])) _
      refine XS.iadd X38.here hx rfl (hb hby at_55) rfl ?_
      show Steps p.tables e below (T38.setTop (mkF m 56 #[.val (.int p0), .val (.int p1), .val (.int p2), .val (.int p3), .val (.int p4), .val (.ref b1), .val (.int (1 : Int32)), .unset, .unset] [(.int ((1 : Int32) + (1 : Int32))), (.ref b1), (.int ((own_us ((p1.toInt8.toInt32).toInt8.toInt32)) * (256 : Int32)))])) _
      refine X38.baloadBytes hx (j := ((1 : Int32) + (1 : Int32))) (v := (.int ((p2.toInt8.toInt32).toInt8.toInt32))) (by rw [e38]; exact Ar39.1) (State.isArrayOf_alike hZ.alike Ar39.2.1) Ar39.2.2 hin39 hat39 (g := (mkF m 56 #[.val (.int p0), .val (.int p1), .val (.int p2), .val (.int p3), .val (.int p4), .val (.ref b1), .val (.int (1 : Int32)), .unset, .unset] [(.int ((1 : Int32) + (1 : Int32))), (.ref b1), (.int ((own_us ((p1.toInt8.toInt32).toInt8.toInt32)) * (256 : Int32)))])) rfl rfl (hb hby at_56) _ ?_
      exact kt
    obtain ⟨_, _, ⟨T41, L41, k41, n41⟩, -, X41, ⟨Lc41, hQ41, l41, y41, z41⟩, st41⟩ := Jvm.LawKit.callS X38 hx (y := (⟨"com/example/sequence_set/sequenceset/node/NodeReadShortPinLaw", "unsigned", "(B)I"⟩ : MethodName)) hown (mvT hZ (hw _ (List.mem_of_getElem? (i := 2) rfl))) (mvT hZ (hw _ (List.mem_of_getElem? (i := 3) rfl))) (mvT hZ (hw _ (List.mem_of_getElem? (i := 4) rfl))) (mvT hZ (hw _ (List.mem_of_getElem? (i := 5) rfl))) (by decide) (backOf (W := 1) (rm1 l Z a0 hw [] ((p2.toInt8.toInt32).toInt8.toInt32)  h14 n0 f37 ) hZ (hw _ (List.mem_of_getElem? (i := 5) rfl)) (hw _ (List.mem_of_getElem? (i := 4) rfl)) (by decide) (by decide)) (g := (mkF m 57 #[.val (.int p0), .val (.int p1), .val (.int p2), .val (.int p3), .val (.int p4), .val (.ref b1), .val (.int (1 : Int32)), .unset, .unset] [(.int ((p2.toInt8.toInt32).toInt8.toInt32)), (.int ((own_us ((p1.toInt8.toInt32).toInt8.toInt32)) * (256 : Int32)))])) rfl (by rw [hml]; rfl) (argsL := [(.int ((p2.toInt8.toInt32).toInt8.toInt32))]) (rest := [(.int ((own_us ((p1.toInt8.toInt32).toInt8.toInt32)) * (256 : Int32)))]) (lenOf pd_0 rfl) rfl (by show 2 * 0 + _ ≤ _; exact Nat.le_of_eq rfl) (hb hby at_57) (fun _ _ => ⟨rfl, e38, (by decide : 1 + 0 ≤ _), (by decide : 4 + 0 ≤ _)⟩)
    dsimp only [Pt.U, Pt.locs, Pt.cells, Pt.slots] at X41 l41 y41 z41 st41 hQ41
    subst l41 y41 z41
    obtain ⟨rfl, N41q, e41⟩ := hQ41
    have N41 := Fr.app N38 N41q
    have c42 : ∀ t, Steps p.tables e below (T41.setTop (mkF m 67 #[.val (.int p0), .val (.int p1), .val (.int p2), .val (.int p3), .val (.int p4), .val (.ref b1), .val (.int (1 : Int32)), .val (.int (((own_us ((p1.toInt8.toInt32).toInt8.toInt32)) * (256 : Int32)) + (own_us ((p2.toInt8.toInt32).toInt8.toInt32)))), .unset] [(.int (1 : Int32)), (.ref b1)])) t → Steps p.tables e below (T41.setTop (mkF m 60 #[.val (.int p0), .val (.int p1), .val (.int p2), .val (.int p3), .val (.int p4), .val (.ref b1), .val (.int (1 : Int32)), .unset, .unset] [(.int (own_us ((p2.toInt8.toInt32).toInt8.toInt32))), (.int ((own_us ((p1.toInt8.toInt32).toInt8.toInt32)) * (256 : Int32)))])) t := by
      intro t kt
      show Steps p.tables e below (T41.setTop (mkF m 60 #[.val (.int p0), .val (.int p1), .val (.int p2), .val (.int p3), .val (.int p4), .val (.ref b1), .val (.int (1 : Int32)), .unset, .unset] [(.int (own_us ((p2.toInt8.toInt32).toInt8.toInt32))), (.int ((own_us ((p1.toInt8.toInt32).toInt8.toInt32)) * (256 : Int32)))])) _
      refine XS.iadd X41.here hx rfl (hb hby at_60) rfl ?_
      show Steps p.tables e below (T41.setTop (mkF m 61 #[.val (.int p0), .val (.int p1), .val (.int p2), .val (.int p3), .val (.int p4), .val (.ref b1), .val (.int (1 : Int32)), .unset, .unset] [(.int (((own_us ((p1.toInt8.toInt32).toInt8.toInt32)) * (256 : Int32)) + (own_us ((p2.toInt8.toInt32).toInt8.toInt32))))])) _
      refine XS.istore X41.here hx rfl (hb hby at_61) rfl (l' := #[.val (.int p0), .val (.int p1), .val (.int p2), .val (.int p3), .val (.int p4), .val (.ref b1), .val (.int (1 : Int32)), .val (.int (((own_us ((p1.toInt8.toInt32).toInt8.toInt32)) * (256 : Int32)) + (own_us ((p2.toInt8.toInt32).toInt8.toInt32)))), .unset]) rfl ?_
      show Steps p.tables e below (T41.setTop (mkF m 63 #[.val (.int p0), .val (.int p1), .val (.int p2), .val (.int p3), .val (.int p4), .val (.ref b1), .val (.int (1 : Int32)), .val (.int (((own_us ((p1.toInt8.toInt32).toInt8.toInt32)) * (256 : Int32)) + (own_us ((p2.toInt8.toInt32).toInt8.toInt32)))), .unset] [])) _
      refine XS.aload X41.here hx rfl (hb hby at_63) rfl rfl ?_
      show Steps p.tables e below (T41.setTop (mkF m 65 #[.val (.int p0), .val (.int p1), .val (.int p2), .val (.int p3), .val (.int p4), .val (.ref b1), .val (.int (1 : Int32)), .val (.int (((own_us ((p1.toInt8.toInt32).toInt8.toInt32)) * (256 : Int32)) + (own_us ((p2.toInt8.toInt32).toInt8.toInt32)))), .unset] [(.ref b1)])) _
      refine XS.iload X41.here hx rfl (hb hby at_65) rfl ?_
      exact kt
    obtain ⟨_, _, ⟨T43, L43, k43, n43⟩, -, X43, ⟨Lc43, hQ43, l43, y43, z43⟩, st43⟩ := Jvm.LawKit.callS X41 hx (y := (⟨"com/example/sequence_set/sequenceset/node/Node", "readShort", "([BI)I"⟩ : MethodName)) hown (mvT hZ (hw _ (List.mem_of_getElem? (i := 6) rfl))) (mvT hZ (hw _ (List.mem_of_getElem? (i := 7) rfl))) (mvT hZ (hw _ (List.mem_of_getElem? (i := 8) rfl))) (mvT hZ (hw _ (List.mem_of_getElem? (i := 9) rfl))) (by decide) (backOf (W := 0) (rm2 l Z a0 hw [] b1 (1 : Int32) k1 (4 : Int32) [(.int ((p0.toInt8.toInt32).toInt8.toInt32)), (.int ((p1.toInt8.toInt32).toInt8.toInt32)), (.int ((p2.toInt8.toInt32).toInt8.toInt32)), (.int ((p3.toInt8.toInt32).toInt8.toInt32))] (.int (0 : Int32)) ((p1.toInt8.toInt32).toInt8.toInt32) ((p2.toInt8.toInt32).toInt8.toInt32) h14 n0 f37 V14 ⟨by decide, by decide⟩ ⟨by decide, by decide⟩ rfl rfl) hZ (hw _ (List.mem_of_getElem? (i := 9) rfl)) (hw _ (List.mem_of_getElem? (i := 8) rfl)) (by decide) (by decide)) (g := (mkF m 67 #[.val (.int p0), .val (.int p1), .val (.int p2), .val (.int p3), .val (.int p4), .val (.ref b1), .val (.int (1 : Int32)), .val (.int (((own_us ((p1.toInt8.toInt32).toInt8.toInt32)) * (256 : Int32)) + (own_us ((p2.toInt8.toInt32).toInt8.toInt32)))), .unset] [(.int (1 : Int32)), (.ref b1)])) rfl (by rw [hml]; rfl) (argsL := [(.ref b1), (.int (1 : Int32))]) (rest := []) (lenOf pd_1 rfl) rfl (by show 2 * 0 + _ ≤ _; exact Nat.le_of_eq rfl) (hb hby at_67) (fun _ _ => ⟨rfl, e41, (by decide : 1 + 0 ≤ _), (by decide : 4 + 0 ≤ _)⟩)
    dsimp only [Pt.U, Pt.locs, Pt.cells, Pt.slots] at X43 l43 y43 z43 st43 hQ43
    subst l43 y43 z43
    obtain ⟨rfl, N43q, e43⟩ := hQ43
    have N43 := Fr.app N41 N43q
    have c45 : ∀ t, Steps p.tables e below (T43.setTop (mkF m 76 #[.val (.int p0), .val (.int p1), .val (.int p2), .val (.int p3), .val (.int p4), .val (.ref b1), .val (.int (1 : Int32)), .val (.int (((own_us ((p1.toInt8.toInt32).toInt8.toInt32)) * (256 : Int32)) + (own_us ((p2.toInt8.toInt32).toInt8.toInt32)))), .val (.int (own_rs ((p1.toInt8.toInt32).toInt8.toInt32) ((p2.toInt8.toInt32).toInt8.toInt32)))] [(.int (((own_us ((p1.toInt8.toInt32).toInt8.toInt32)) * (256 : Int32)) + (own_us ((p2.toInt8.toInt32).toInt8.toInt32)))), (.int (own_rs ((p1.toInt8.toInt32).toInt8.toInt32) ((p2.toInt8.toInt32).toInt8.toInt32)))])) t → Steps p.tables e below (T43.setTop (mkF m 70 #[.val (.int p0), .val (.int p1), .val (.int p2), .val (.int p3), .val (.int p4), .val (.ref b1), .val (.int (1 : Int32)), .val (.int (((own_us ((p1.toInt8.toInt32).toInt8.toInt32)) * (256 : Int32)) + (own_us ((p2.toInt8.toInt32).toInt8.toInt32)))), .unset] [(.int (own_rs ((p1.toInt8.toInt32).toInt8.toInt32) ((p2.toInt8.toInt32).toInt8.toInt32)))])) t := by
      intro t kt
      show Steps p.tables e below (T43.setTop (mkF m 70 #[.val (.int p0), .val (.int p1), .val (.int p2), .val (.int p3), .val (.int p4), .val (.ref b1), .val (.int (1 : Int32)), .val (.int (((own_us ((p1.toInt8.toInt32).toInt8.toInt32)) * (256 : Int32)) + (own_us ((p2.toInt8.toInt32).toInt8.toInt32)))), .unset] [(.int (own_rs ((p1.toInt8.toInt32).toInt8.toInt32) ((p2.toInt8.toInt32).toInt8.toInt32)))])) _
      refine XS.istore X43.here hx rfl (hb hby at_70) rfl (l' := #[.val (.int p0), .val (.int p1), .val (.int p2), .val (.int p3), .val (.int p4), .val (.ref b1), .val (.int (1 : Int32)), .val (.int (((own_us ((p1.toInt8.toInt32).toInt8.toInt32)) * (256 : Int32)) + (own_us ((p2.toInt8.toInt32).toInt8.toInt32)))), .val (.int (own_rs ((p1.toInt8.toInt32).toInt8.toInt32) ((p2.toInt8.toInt32).toInt8.toInt32)))]) rfl ?_
      show Steps p.tables e below (T43.setTop (mkF m 72 #[.val (.int p0), .val (.int p1), .val (.int p2), .val (.int p3), .val (.int p4), .val (.ref b1), .val (.int (1 : Int32)), .val (.int (((own_us ((p1.toInt8.toInt32).toInt8.toInt32)) * (256 : Int32)) + (own_us ((p2.toInt8.toInt32).toInt8.toInt32)))), .val (.int (own_rs ((p1.toInt8.toInt32).toInt8.toInt32) ((p2.toInt8.toInt32).toInt8.toInt32)))] [])) _
      refine XS.iload X43.here hx rfl (hb hby at_72) rfl ?_
      show Steps p.tables e below (T43.setTop (mkF m 74 #[.val (.int p0), .val (.int p1), .val (.int p2), .val (.int p3), .val (.int p4), .val (.ref b1), .val (.int (1 : Int32)), .val (.int (((own_us ((p1.toInt8.toInt32).toInt8.toInt32)) * (256 : Int32)) + (own_us ((p2.toInt8.toInt32).toInt8.toInt32)))), .val (.int (own_rs ((p1.toInt8.toInt32).toInt8.toInt32) ((p2.toInt8.toInt32).toInt8.toInt32)))] [(.int (own_rs ((p1.toInt8.toInt32).toInt8.toInt32) ((p2.toInt8.toInt32).toInt8.toInt32)))])) _
      refine XS.iload X43.here hx rfl (hb hby at_74) rfl ?_
      exact kt
    have hd44 : (own_rs ((p1.toInt8.toInt32).toInt8.toInt32) ((p2.toInt8.toInt32).toInt8.toInt32)) = (((own_us ((p1.toInt8.toInt32).toInt8.toInt32)) * (256 : Int32)) + (own_us ((p2.toInt8.toInt32).toInt8.toInt32))) := (own_eq _ _ (own_by _) (own_by _)).1
    have c47 : ∀ t, Steps p.tables e below (T43.setTop (mkF m 81 #[.val (.int p0), .val (.int p1), .val (.int p2), .val (.int p3), .val (.int p4), .val (.ref b1), .val (.int (1 : Int32)), .val (.int (((own_us ((p1.toInt8.toInt32).toInt8.toInt32)) * (256 : Int32)) + (own_us ((p2.toInt8.toInt32).toInt8.toInt32)))), .val (.int (own_rs ((p1.toInt8.toInt32).toInt8.toInt32) ((p2.toInt8.toInt32).toInt8.toInt32)))] [(.int (own_rs ((p1.toInt8.toInt32).toInt8.toInt32) ((p2.toInt8.toInt32).toInt8.toInt32)))])) t → Steps p.tables e below (T43.setTop (mkF m 76 #[.val (.int p0), .val (.int p1), .val (.int p2), .val (.int p3), .val (.int p4), .val (.ref b1), .val (.int (1 : Int32)), .val (.int (((own_us ((p1.toInt8.toInt32).toInt8.toInt32)) * (256 : Int32)) + (own_us ((p2.toInt8.toInt32).toInt8.toInt32)))), .val (.int (own_rs ((p1.toInt8.toInt32).toInt8.toInt32) ((p2.toInt8.toInt32).toInt8.toInt32)))] [(.int (((own_us ((p1.toInt8.toInt32).toInt8.toInt32)) * (256 : Int32)) + (own_us ((p2.toInt8.toInt32).toInt8.toInt32)))), (.int (own_rs ((p1.toInt8.toInt32).toInt8.toInt32) ((p2.toInt8.toInt32).toInt8.toInt32)))])) t := by
      intro t kt
      show Steps p.tables e below (T43.setTop (mkF m 76 #[.val (.int p0), .val (.int p1), .val (.int p2), .val (.int p3), .val (.int p4), .val (.ref b1), .val (.int (1 : Int32)), .val (.int (((own_us ((p1.toInt8.toInt32).toInt8.toInt32)) * (256 : Int32)) + (own_us ((p2.toInt8.toInt32).toInt8.toInt32)))), .val (.int (own_rs ((p1.toInt8.toInt32).toInt8.toInt32) ((p2.toInt8.toInt32).toInt8.toInt32)))] [(.int (((own_us ((p1.toInt8.toInt32).toInt8.toInt32)) * (256 : Int32)) + (own_us ((p2.toInt8.toInt32).toInt8.toInt32)))), (.int (own_rs ((p1.toInt8.toInt32).toInt8.toInt32) ((p2.toInt8.toInt32).toInt8.toInt32)))])) _
      refine XS.icmpNo X43.here hx rfl (hb hby at_76) rfl (teq (hd44)).2 ?_
      show Steps p.tables e below (T43.setTop (mkF m 79 #[.val (.int p0), .val (.int p1), .val (.int p2), .val (.int p3), .val (.int p4), .val (.ref b1), .val (.int (1 : Int32)), .val (.int (((own_us ((p1.toInt8.toInt32).toInt8.toInt32)) * (256 : Int32)) + (own_us ((p2.toInt8.toInt32).toInt8.toInt32)))), .val (.int (own_rs ((p1.toInt8.toInt32).toInt8.toInt32) ((p2.toInt8.toInt32).toInt8.toInt32)))] [])) _
      refine XS.iload X43.here hx rfl (hb hby at_79) rfl ?_
      exact kt
    have hd46 : ¬ ((own_rs ((p1.toInt8.toInt32).toInt8.toInt32) ((p2.toInt8.toInt32).toInt8.toInt32)) < (0 : Int32)) := (own_eq _ _ (own_by _) (own_by _)).2.1
    have c49 : ∀ t, Steps p.tables e below (T43.setTop (mkF m 88 #[.val (.int p0), .val (.int p1), .val (.int p2), .val (.int p3), .val (.int p4), .val (.ref b1), .val (.int (1 : Int32)), .val (.int (((own_us ((p1.toInt8.toInt32).toInt8.toInt32)) * (256 : Int32)) + (own_us ((p2.toInt8.toInt32).toInt8.toInt32)))), .val (.int (own_rs ((p1.toInt8.toInt32).toInt8.toInt32) ((p2.toInt8.toInt32).toInt8.toInt32)))] [(.int (65535 : Int32)), (.int (own_rs ((p1.toInt8.toInt32).toInt8.toInt32) ((p2.toInt8.toInt32).toInt8.toInt32)))])) t → Steps p.tables e below (T43.setTop (mkF m 81 #[.val (.int p0), .val (.int p1), .val (.int p2), .val (.int p3), .val (.int p4), .val (.ref b1), .val (.int (1 : Int32)), .val (.int (((own_us ((p1.toInt8.toInt32).toInt8.toInt32)) * (256 : Int32)) + (own_us ((p2.toInt8.toInt32).toInt8.toInt32)))), .val (.int (own_rs ((p1.toInt8.toInt32).toInt8.toInt32) ((p2.toInt8.toInt32).toInt8.toInt32)))] [(.int (own_rs ((p1.toInt8.toInt32).toInt8.toInt32) ((p2.toInt8.toInt32).toInt8.toInt32)))])) t := by
      intro t kt
      show Steps p.tables e below (T43.setTop (mkF m 81 #[.val (.int p0), .val (.int p1), .val (.int p2), .val (.int p3), .val (.int p4), .val (.ref b1), .val (.int (1 : Int32)), .val (.int (((own_us ((p1.toInt8.toInt32).toInt8.toInt32)) * (256 : Int32)) + (own_us ((p2.toInt8.toInt32).toInt8.toInt32)))), .val (.int (own_rs ((p1.toInt8.toInt32).toInt8.toInt32) ((p2.toInt8.toInt32).toInt8.toInt32)))] [(.int (own_rs ((p1.toInt8.toInt32).toInt8.toInt32) ((p2.toInt8.toInt32).toInt8.toInt32)))])) _
      refine XS.ifNo X43.here hx rfl (hb hby at_81) rfl ((if0 _ _).trans (flt (hd46)).1) ?_
      show Steps p.tables e below (T43.setTop (mkF m 84 #[.val (.int p0), .val (.int p1), .val (.int p2), .val (.int p3), .val (.int p4), .val (.ref b1), .val (.int (1 : Int32)), .val (.int (((own_us ((p1.toInt8.toInt32).toInt8.toInt32)) * (256 : Int32)) + (own_us ((p2.toInt8.toInt32).toInt8.toInt32)))), .val (.int (own_rs ((p1.toInt8.toInt32).toInt8.toInt32) ((p2.toInt8.toInt32).toInt8.toInt32)))] [])) _
      refine XS.iload X43.here hx rfl (hb hby at_84) rfl ?_
      show Steps p.tables e below (T43.setTop (mkF m 86 #[.val (.int p0), .val (.int p1), .val (.int p2), .val (.int p3), .val (.int p4), .val (.ref b1), .val (.int (1 : Int32)), .val (.int (((own_us ((p1.toInt8.toInt32).toInt8.toInt32)) * (256 : Int32)) + (own_us ((p2.toInt8.toInt32).toInt8.toInt32)))), .val (.int (own_rs ((p1.toInt8.toInt32).toInt8.toInt32) ((p2.toInt8.toInt32).toInt8.toInt32)))] [(.int (own_rs ((p1.toInt8.toInt32).toInt8.toInt32) ((p2.toInt8.toInt32).toInt8.toInt32)))])) _
      refine X43.ldcInt hx hown (mvT hZ (hw _ (List.mem_of_getElem? (i := 10) rfl))) (g := (mkF m 86 #[.val (.int p0), .val (.int p1), .val (.int p2), .val (.int p3), .val (.int p4), .val (.ref b1), .val (.int (1 : Int32)), .val (.int (((own_us ((p1.toInt8.toInt32).toInt8.toInt32)) * (256 : Int32)) + (own_us ((p2.toInt8.toInt32).toInt8.toInt32)))), .val (.int (own_rs ((p1.toInt8.toInt32).toInt8.toInt32) ((p2.toInt8.toInt32).toInt8.toInt32)))] [(.int (own_rs ((p1.toInt8.toInt32).toInt8.toInt32) ((p2.toInt8.toInt32).toInt8.toInt32)))])) rfl (hb hby at_86) _ ?_
      exact kt
    have hd48 : ¬ ((65535 : Int32) < (own_rs ((p1.toInt8.toInt32).toInt8.toInt32) ((p2.toInt8.toInt32).toInt8.toInt32))) := (own_eq _ _ (own_by _) (own_by _)).2.2
    have c50 : ∀ t, Steps p.tables e below (T43.setTop (mkF m 96 #[.val (.int p0), .val (.int p1), .val (.int p2), .val (.int p3), .val (.int p4), .val (.ref b1), .val (.int (1 : Int32)), .val (.int (((own_us ((p1.toInt8.toInt32).toInt8.toInt32)) * (256 : Int32)) + (own_us ((p2.toInt8.toInt32).toInt8.toInt32)))), .val (.int (own_rs ((p1.toInt8.toInt32).toInt8.toInt32) ((p2.toInt8.toInt32).toInt8.toInt32)))] [(.int (1 : Int32))])) t → Steps p.tables e below (T43.setTop (mkF m 88 #[.val (.int p0), .val (.int p1), .val (.int p2), .val (.int p3), .val (.int p4), .val (.ref b1), .val (.int (1 : Int32)), .val (.int (((own_us ((p1.toInt8.toInt32).toInt8.toInt32)) * (256 : Int32)) + (own_us ((p2.toInt8.toInt32).toInt8.toInt32)))), .val (.int (own_rs ((p1.toInt8.toInt32).toInt8.toInt32) ((p2.toInt8.toInt32).toInt8.toInt32)))] [(.int (65535 : Int32)), (.int (own_rs ((p1.toInt8.toInt32).toInt8.toInt32) ((p2.toInt8.toInt32).toInt8.toInt32)))])) t := by
      intro t kt
      show Steps p.tables e below (T43.setTop (mkF m 88 #[.val (.int p0), .val (.int p1), .val (.int p2), .val (.int p3), .val (.int p4), .val (.ref b1), .val (.int (1 : Int32)), .val (.int (((own_us ((p1.toInt8.toInt32).toInt8.toInt32)) * (256 : Int32)) + (own_us ((p2.toInt8.toInt32).toInt8.toInt32)))), .val (.int (own_rs ((p1.toInt8.toInt32).toInt8.toInt32) ((p2.toInt8.toInt32).toInt8.toInt32)))] [(.int (65535 : Int32)), (.int (own_rs ((p1.toInt8.toInt32).toInt8.toInt32) ((p2.toInt8.toInt32).toInt8.toInt32)))])) _
      refine XS.icmpNo X43.here hx rfl (hb hby at_88) rfl (flt (hd48)).2.2.1 ?_
      show Steps p.tables e below (T43.setTop (mkF m 91 #[.val (.int p0), .val (.int p1), .val (.int p2), .val (.int p3), .val (.int p4), .val (.ref b1), .val (.int (1 : Int32)), .val (.int (((own_us ((p1.toInt8.toInt32).toInt8.toInt32)) * (256 : Int32)) + (own_us ((p2.toInt8.toInt32).toInt8.toInt32)))), .val (.int (own_rs ((p1.toInt8.toInt32).toInt8.toInt32) ((p2.toInt8.toInt32).toInt8.toInt32)))] [])) _
      refine XS.iconst X43.here hx rfl (hb hby at_91) ?_
      show Steps p.tables e below (T43.setTop (mkF m 92 #[.val (.int p0), .val (.int p1), .val (.int p2), .val (.int p3), .val (.int p4), .val (.ref b1), .val (.int (1 : Int32)), .val (.int (((own_us ((p1.toInt8.toInt32).toInt8.toInt32)) * (256 : Int32)) + (own_us ((p2.toInt8.toInt32).toInt8.toInt32)))), .val (.int (own_rs ((p1.toInt8.toInt32).toInt8.toInt32) ((p2.toInt8.toInt32).toInt8.toInt32)))] [(.int (1 : Int32))])) _
      refine XS.goto X43.here hx rfl (pc0 := 92) (pc' := 96) rfl (hb hby at_92) (by decide) (by decide) ?_
      exact kt
    obtain ⟨fs, hr, hrun, hended, hW, hsame⟩ := X43.leave (v := some (.int (1 : Int32))) (fun h => by rw [Bd.returns] at h; cases h)
    refine ⟨_, _, pre0 _ (c2 _ (st1 _ (c3 _ (st5 _ (c6 _ (st8 _ (c9 _ (st11 _ (c12 _ (st14 _ (c15 _ (c34 _ (c36 _ (st38 _ (c40 _ (st41 _ (c42 _ (st43 _ (c45 _ (c47 _ (c49 _ (c50 _ (?_))))))))))))))))))))))), hrun, hended, _, _, rfl, ?_, ⟨_, rfl⟩, hW, hsame.mono (by decide) (by decide)⟩
    · show Steps p.tables e below (T43.setTop (mkF m 96 #[.val (.int p0), .val (.int p1), .val (.int p2), .val (.int p3), .val (.int p4), .val (.ref b1), .val (.int (1 : Int32)), .val (.int (((own_us ((p1.toInt8.toInt32).toInt8.toInt32)) * (256 : Int32)) + (own_us ((p2.toInt8.toInt32).toInt8.toInt32)))), .val (.int (own_rs ((p1.toInt8.toInt32).toInt8.toInt32) ((p2.toInt8.toInt32).toInt8.toInt32)))] [(.int (1 : Int32))])) _
      exact retN X43 hx (t := .boolean) Bd.returns (by simp) (hb hby at_96) hr
    · show Q0 Z p0 p1 p2 p3 p4 h0 n0 _ T43.heap _
      rw [e43]
      exact ⟨congrArg (fun z => some (Value.int z)) (show (1 : Int32) = (1 : Int32) from by rfl), N43⟩
  · skip
    have c52 : ∀ t, Steps p.tables e below (T14.setTop (mkF m 38 #[.val (.int p0), .val (.int p1), .val (.int p2), .val (.int p3), .val (.int p4), .val (.ref b1), .val (.int (2 : Int32)), .unset, .unset] [])) t → Steps p.tables e below (T14.setTop (mkF m 38 #[.val (.int p0), .val (.int p1), .val (.int p2), .val (.int p3), .val (.int p4), .val (.ref b1), .val (.int ((p4 &&& (2147483647 : Int32)) % (3 : Int32))), .unset, .unset] [])) t := fun t kt => by rw [hat]; exact kt
    have Vc53 := V14
    obtain ⟨cl53, Ar53, qk53, S53, M53, H53, G53⟩ := Vc53
    have hin53 : ¬ ((2 : Int32) < 0 ∨ cl53.slots.size ≤ ((2 : Int32)).toNatClampNeg) := inb_of S53 ⟨by decide, by decide⟩
    have hat53 : cl53.slots[((2 : Int32)).toNatClampNeg]? = some (.int ((p2.toInt8.toInt32).toInt8.toInt32)) := H53.at hin53 rfl
    have c54 : ∀ t, Steps p.tables e below (T14.setTop (mkF m 43 #[.val (.int p0), .val (.int p1), .val (.int p2), .val (.int p3), .val (.int p4), .val (.ref b1), .val (.int (2 : Int32)), .unset, .unset] [(.int ((p2.toInt8.toInt32).toInt8.toInt32))])) t → Steps p.tables e below (T14.setTop (mkF m 38 #[.val (.int p0), .val (.int p1), .val (.int p2), .val (.int p3), .val (.int p4), .val (.ref b1), .val (.int (2 : Int32)), .unset, .unset] [])) t := by
      intro t kt
      show Steps p.tables e below (T14.setTop (mkF m 38 #[.val (.int p0), .val (.int p1), .val (.int p2), .val (.int p3), .val (.int p4), .val (.ref b1), .val (.int (2 : Int32)), .unset, .unset] [])) _
      refine XS.aload X14.here hx rfl (hb hby at_38) rfl rfl ?_
      show Steps p.tables e below (T14.setTop (mkF m 40 #[.val (.int p0), .val (.int p1), .val (.int p2), .val (.int p3), .val (.int p4), .val (.ref b1), .val (.int (2 : Int32)), .unset, .unset] [(.ref b1)])) _
      refine XS.iload X14.here hx rfl (hb hby at_40) rfl ?_
      show Steps p.tables e below (T14.setTop (mkF m 42 #[.val (.int p0), .val (.int p1), .val (.int p2), .val (.int p3), .val (.int p4), .val (.ref b1), .val (.int (2 : Int32)), .unset, .unset] [(.int (2 : Int32)), (.ref b1)])) _
      refine X14.baloadBytes hx (j := (2 : Int32)) (v := (.int ((p2.toInt8.toInt32).toInt8.toInt32))) (by rw [e14]; exact Ar53.1) (State.isArrayOf_alike hZ.alike Ar53.2.1) Ar53.2.2 hin53 hat53 (g := (mkF m 42 #[.val (.int p0), .val (.int p1), .val (.int p2), .val (.int p3), .val (.int p4), .val (.ref b1), .val (.int (2 : Int32)), .unset, .unset] [(.int (2 : Int32)), (.ref b1)])) rfl rfl (hb hby at_42) _ ?_
      exact kt
    have f55 := (Nat.le_trans (Nat.le_trans (Nat.le_trans (Nat.le_trans (Nat.le_trans Z0 E1.1) (Keep.of_wr W5).1) (Keep.of_wr W8).1) (Keep.of_wr W11).1) (Keep.of_wr W14).1)
    obtain ⟨_, _, ⟨T56, L56, k56, n56⟩, -, X56, ⟨Lc56, hQ56, l56, y56, z56⟩, st56⟩ := Jvm.LawKit.callS X14 hx (y := (⟨"com/example/sequence_set/sequenceset/node/NodeReadShortPinLaw", "unsigned", "(B)I"⟩ : MethodName)) hown (mvT hZ (hw _ (List.mem_of_getElem? (i := 2) rfl))) (mvT hZ (hw _ (List.mem_of_getElem? (i := 3) rfl))) (mvT hZ (hw _ (List.mem_of_getElem? (i := 4) rfl))) (mvT hZ (hw _ (List.mem_of_getElem? (i := 5) rfl))) (by decide) (backOf (W := 0) (rm1 l Z a0 hw [] ((p2.toInt8.toInt32).toInt8.toInt32)  h14 n0 f55 ) hZ (hw _ (List.mem_of_getElem? (i := 5) rfl)) (hw _ (List.mem_of_getElem? (i := 4) rfl)) (by decide) (by decide)) (g := (mkF m 43 #[.val (.int p0), .val (.int p1), .val (.int p2), .val (.int p3), .val (.int p4), .val (.ref b1), .val (.int (2 : Int32)), .unset, .unset] [(.int ((p2.toInt8.toInt32).toInt8.toInt32))])) rfl (by rw [hml]; rfl) (argsL := [(.int ((p2.toInt8.toInt32).toInt8.toInt32))]) (rest := []) (lenOf pd_0 rfl) rfl (by show 2 * 0 + _ ≤ _; exact Nat.le_of_eq rfl) (hb hby at_43) (fun _ _ => ⟨rfl, e14, (by decide : 1 + 0 ≤ _), (by decide : 4 + 0 ≤ _)⟩)
    dsimp only [Pt.U, Pt.locs, Pt.cells, Pt.slots] at X56 l56 y56 z56 st56 hQ56
    subst l56 y56 z56
    obtain ⟨rfl, N56q, e56⟩ := hQ56
    have N56 := Fr.app N14 N56q
    have Vc57 := V14
    obtain ⟨cl57, Ar57, qk57, S57, M57, H57, G57⟩ := Vc57
    have hin57 : ¬ (((2 : Int32) + (1 : Int32)) < 0 ∨ cl57.slots.size ≤ (((2 : Int32) + (1 : Int32))).toNatClampNeg) := inb_of S57 ⟨by decide, by decide⟩
    have hat57 : cl57.slots[(((2 : Int32) + (1 : Int32))).toNatClampNeg]? = some (.int ((p3.toInt8.toInt32).toInt8.toInt32)) := H57.at hin57 rfl
    have c58 : ∀ t, Steps p.tables e below (T56.setTop (mkF m 57 #[.val (.int p0), .val (.int p1), .val (.int p2), .val (.int p3), .val (.int p4), .val (.ref b1), .val (.int (2 : Int32)), .unset, .unset] [(.int ((p3.toInt8.toInt32).toInt8.toInt32)), (.int ((own_us ((p2.toInt8.toInt32).toInt8.toInt32)) * (256 : Int32)))])) t → Steps p.tables e below (T56.setTop (mkF m 46 #[.val (.int p0), .val (.int p1), .val (.int p2), .val (.int p3), .val (.int p4), .val (.ref b1), .val (.int (2 : Int32)), .unset, .unset] [(.int (own_us ((p2.toInt8.toInt32).toInt8.toInt32)))])) t := by
      intro t kt
      show Steps p.tables e below (T56.setTop (mkF m 46 #[.val (.int p0), .val (.int p1), .val (.int p2), .val (.int p3), .val (.int p4), .val (.ref b1), .val (.int (2 : Int32)), .unset, .unset] [(.int (own_us ((p2.toInt8.toInt32).toInt8.toInt32)))])) _
      refine XS.sipush X56.here hx rfl (hb hby at_46) ?_
      show Steps p.tables e below (T56.setTop (mkF m 49 #[.val (.int p0), .val (.int p1), .val (.int p2), .val (.int p3), .val (.int p4), .val (.ref b1), .val (.int (2 : Int32)), .unset, .unset] [(.int (256 : Int32)), (.int (own_us ((p2.toInt8.toInt32).toInt8.toInt32)))])) _
      refine XS.imul X56.here hx rfl (hb hby at_49) rfl ?_
      show Steps p.tables e below (T56.setTop (mkF m 50 #[.val (.int p0), .val (.int p1), .val (.int p2), .val (.int p3), .val (.int p4), .val (.ref b1), .val (.int (2 : Int32)), .unset, .unset] [(.int ((own_us ((p2.toInt8.toInt32).toInt8.toInt32)) * (256 : Int32)))])) _
      refine XS.aload X56.here hx rfl (hb hby at_50) rfl rfl ?_
      show Steps p.tables e below (T56.setTop (mkF m 52 #[.val (.int p0), .val (.int p1), .val (.int p2), .val (.int p3), .val (.int p4), .val (.ref b1), .val (.int (2 : Int32)), .unset, .unset] [(.ref b1), (.int ((own_us ((p2.toInt8.toInt32).toInt8.toInt32)) * (256 : Int32)))])) _
      refine XS.iload X56.here hx rfl (hb hby at_52) rfl ?_
      show Steps p.tables e below (T56.setTop (mkF m 54 #[.val (.int p0), .val (.int p1), .val (.int p2), .val (.int p3), .val (.int p4), .val (.ref b1), .val (.int (2 : Int32)), .unset, .unset] [(.int (2 : Int32)), (.ref b1), (.int ((own_us ((p2.toInt8.toInt32).toInt8.toInt32)) * (256 : Int32)))])) _
      refine XS.iconst X56.here hx rfl (hb hby at_54) ?_
      show Steps p.tables e below (T56.setTop (mkF m 55 #[.val (.int p0), .val (.int p1), .val (.int p2), .val (.int p3), .val (.int p4), .val (.ref b1), .val (.int (2 : Int32)), .unset, .unset] [(.int (1 : Int32)), (.int (2 : Int32)), (.ref b1), (.int ((own_us ((p2.toInt8.toInt32).toInt8.toInt32)) * (256 : Int32)))])) _
      refine XS.iadd X56.here hx rfl (hb hby at_55) rfl ?_
      show Steps p.tables e below (T56.setTop (mkF m 56 #[.val (.int p0), .val (.int p1), .val (.int p2), .val (.int p3), .val (.int p4), .val (.ref b1), .val (.int (2 : Int32)), .unset, .unset] [(.int ((2 : Int32) + (1 : Int32))), (.ref b1), (.int ((own_us ((p2.toInt8.toInt32).toInt8.toInt32)) * (256 : Int32)))])) _
      refine X56.baloadBytes hx (j := ((2 : Int32) + (1 : Int32))) (v := (.int ((p3.toInt8.toInt32).toInt8.toInt32))) (by rw [e56]; exact Ar57.1) (State.isArrayOf_alike hZ.alike Ar57.2.1) Ar57.2.2 hin57 hat57 (g := (mkF m 56 #[.val (.int p0), .val (.int p1), .val (.int p2), .val (.int p3), .val (.int p4), .val (.ref b1), .val (.int (2 : Int32)), .unset, .unset] [(.int ((2 : Int32) + (1 : Int32))), (.ref b1), (.int ((own_us ((p2.toInt8.toInt32).toInt8.toInt32)) * (256 : Int32)))])) rfl rfl (hb hby at_56) _ ?_
      exact kt
    obtain ⟨_, _, ⟨T59, L59, k59, n59⟩, -, X59, ⟨Lc59, hQ59, l59, y59, z59⟩, st59⟩ := Jvm.LawKit.callS X56 hx (y := (⟨"com/example/sequence_set/sequenceset/node/NodeReadShortPinLaw", "unsigned", "(B)I"⟩ : MethodName)) hown (mvT hZ (hw _ (List.mem_of_getElem? (i := 2) rfl))) (mvT hZ (hw _ (List.mem_of_getElem? (i := 3) rfl))) (mvT hZ (hw _ (List.mem_of_getElem? (i := 4) rfl))) (mvT hZ (hw _ (List.mem_of_getElem? (i := 5) rfl))) (by decide) (backOf (W := 1) (rm1 l Z a0 hw [] ((p3.toInt8.toInt32).toInt8.toInt32)  h14 n0 f55 ) hZ (hw _ (List.mem_of_getElem? (i := 5) rfl)) (hw _ (List.mem_of_getElem? (i := 4) rfl)) (by decide) (by decide)) (g := (mkF m 57 #[.val (.int p0), .val (.int p1), .val (.int p2), .val (.int p3), .val (.int p4), .val (.ref b1), .val (.int (2 : Int32)), .unset, .unset] [(.int ((p3.toInt8.toInt32).toInt8.toInt32)), (.int ((own_us ((p2.toInt8.toInt32).toInt8.toInt32)) * (256 : Int32)))])) rfl (by rw [hml]; rfl) (argsL := [(.int ((p3.toInt8.toInt32).toInt8.toInt32))]) (rest := [(.int ((own_us ((p2.toInt8.toInt32).toInt8.toInt32)) * (256 : Int32)))]) (lenOf pd_0 rfl) rfl (by show 2 * 0 + _ ≤ _; exact Nat.le_of_eq rfl) (hb hby at_57) (fun _ _ => ⟨rfl, e56, (by decide : 1 + 0 ≤ _), (by decide : 4 + 0 ≤ _)⟩)
    dsimp only [Pt.U, Pt.locs, Pt.cells, Pt.slots] at X59 l59 y59 z59 st59 hQ59
    subst l59 y59 z59
    obtain ⟨rfl, N59q, e59⟩ := hQ59
    have N59 := Fr.app N56 N59q
    have c60 : ∀ t, Steps p.tables e below (T59.setTop (mkF m 67 #[.val (.int p0), .val (.int p1), .val (.int p2), .val (.int p3), .val (.int p4), .val (.ref b1), .val (.int (2 : Int32)), .val (.int (((own_us ((p2.toInt8.toInt32).toInt8.toInt32)) * (256 : Int32)) + (own_us ((p3.toInt8.toInt32).toInt8.toInt32)))), .unset] [(.int (2 : Int32)), (.ref b1)])) t → Steps p.tables e below (T59.setTop (mkF m 60 #[.val (.int p0), .val (.int p1), .val (.int p2), .val (.int p3), .val (.int p4), .val (.ref b1), .val (.int (2 : Int32)), .unset, .unset] [(.int (own_us ((p3.toInt8.toInt32).toInt8.toInt32))), (.int ((own_us ((p2.toInt8.toInt32).toInt8.toInt32)) * (256 : Int32)))])) t := by
      intro t kt
      show Steps p.tables e below (T59.setTop (mkF m 60 #[.val (.int p0), .val (.int p1), .val (.int p2), .val (.int p3), .val (.int p4), .val (.ref b1), .val (.int (2 : Int32)), .unset, .unset] [(.int (own_us ((p3.toInt8.toInt32).toInt8.toInt32))), (.int ((own_us ((p2.toInt8.toInt32).toInt8.toInt32)) * (256 : Int32)))])) _
      refine XS.iadd X59.here hx rfl (hb hby at_60) rfl ?_
      show Steps p.tables e below (T59.setTop (mkF m 61 #[.val (.int p0), .val (.int p1), .val (.int p2), .val (.int p3), .val (.int p4), .val (.ref b1), .val (.int (2 : Int32)), .unset, .unset] [(.int (((own_us ((p2.toInt8.toInt32).toInt8.toInt32)) * (256 : Int32)) + (own_us ((p3.toInt8.toInt32).toInt8.toInt32))))])) _
      refine XS.istore X59.here hx rfl (hb hby at_61) rfl (l' := #[.val (.int p0), .val (.int p1), .val (.int p2), .val (.int p3), .val (.int p4), .val (.ref b1), .val (.int (2 : Int32)), .val (.int (((own_us ((p2.toInt8.toInt32).toInt8.toInt32)) * (256 : Int32)) + (own_us ((p3.toInt8.toInt32).toInt8.toInt32)))), .unset]) rfl ?_
      show Steps p.tables e below (T59.setTop (mkF m 63 #[.val (.int p0), .val (.int p1), .val (.int p2), .val (.int p3), .val (.int p4), .val (.ref b1), .val (.int (2 : Int32)), .val (.int (((own_us ((p2.toInt8.toInt32).toInt8.toInt32)) * (256 : Int32)) + (own_us ((p3.toInt8.toInt32).toInt8.toInt32)))), .unset] [])) _
      refine XS.aload X59.here hx rfl (hb hby at_63) rfl rfl ?_
      show Steps p.tables e below (T59.setTop (mkF m 65 #[.val (.int p0), .val (.int p1), .val (.int p2), .val (.int p3), .val (.int p4), .val (.ref b1), .val (.int (2 : Int32)), .val (.int (((own_us ((p2.toInt8.toInt32).toInt8.toInt32)) * (256 : Int32)) + (own_us ((p3.toInt8.toInt32).toInt8.toInt32)))), .unset] [(.ref b1)])) _
      refine XS.iload X59.here hx rfl (hb hby at_65) rfl ?_
      exact kt
    obtain ⟨_, _, ⟨T61, L61, k61, n61⟩, -, X61, ⟨Lc61, hQ61, l61, y61, z61⟩, st61⟩ := Jvm.LawKit.callS X59 hx (y := (⟨"com/example/sequence_set/sequenceset/node/Node", "readShort", "([BI)I"⟩ : MethodName)) hown (mvT hZ (hw _ (List.mem_of_getElem? (i := 6) rfl))) (mvT hZ (hw _ (List.mem_of_getElem? (i := 7) rfl))) (mvT hZ (hw _ (List.mem_of_getElem? (i := 8) rfl))) (mvT hZ (hw _ (List.mem_of_getElem? (i := 9) rfl))) (by decide) (backOf (W := 0) (rm2 l Z a0 hw [] b1 (2 : Int32) k1 (4 : Int32) [(.int ((p0.toInt8.toInt32).toInt8.toInt32)), (.int ((p1.toInt8.toInt32).toInt8.toInt32)), (.int ((p2.toInt8.toInt32).toInt8.toInt32)), (.int ((p3.toInt8.toInt32).toInt8.toInt32))] (.int (0 : Int32)) ((p2.toInt8.toInt32).toInt8.toInt32) ((p3.toInt8.toInt32).toInt8.toInt32) h14 n0 f55 V14 ⟨by decide, by decide⟩ ⟨by decide, by decide⟩ rfl rfl) hZ (hw _ (List.mem_of_getElem? (i := 9) rfl)) (hw _ (List.mem_of_getElem? (i := 8) rfl)) (by decide) (by decide)) (g := (mkF m 67 #[.val (.int p0), .val (.int p1), .val (.int p2), .val (.int p3), .val (.int p4), .val (.ref b1), .val (.int (2 : Int32)), .val (.int (((own_us ((p2.toInt8.toInt32).toInt8.toInt32)) * (256 : Int32)) + (own_us ((p3.toInt8.toInt32).toInt8.toInt32)))), .unset] [(.int (2 : Int32)), (.ref b1)])) rfl (by rw [hml]; rfl) (argsL := [(.ref b1), (.int (2 : Int32))]) (rest := []) (lenOf pd_1 rfl) rfl (by show 2 * 0 + _ ≤ _; exact Nat.le_of_eq rfl) (hb hby at_67) (fun _ _ => ⟨rfl, e59, (by decide : 1 + 0 ≤ _), (by decide : 4 + 0 ≤ _)⟩)
    dsimp only [Pt.U, Pt.locs, Pt.cells, Pt.slots] at X61 l61 y61 z61 st61 hQ61
    subst l61 y61 z61
    obtain ⟨rfl, N61q, e61⟩ := hQ61
    have N61 := Fr.app N59 N61q
    have c63 : ∀ t, Steps p.tables e below (T61.setTop (mkF m 76 #[.val (.int p0), .val (.int p1), .val (.int p2), .val (.int p3), .val (.int p4), .val (.ref b1), .val (.int (2 : Int32)), .val (.int (((own_us ((p2.toInt8.toInt32).toInt8.toInt32)) * (256 : Int32)) + (own_us ((p3.toInt8.toInt32).toInt8.toInt32)))), .val (.int (own_rs ((p2.toInt8.toInt32).toInt8.toInt32) ((p3.toInt8.toInt32).toInt8.toInt32)))] [(.int (((own_us ((p2.toInt8.toInt32).toInt8.toInt32)) * (256 : Int32)) + (own_us ((p3.toInt8.toInt32).toInt8.toInt32)))), (.int (own_rs ((p2.toInt8.toInt32).toInt8.toInt32) ((p3.toInt8.toInt32).toInt8.toInt32)))])) t → Steps p.tables e below (T61.setTop (mkF m 70 #[.val (.int p0), .val (.int p1), .val (.int p2), .val (.int p3), .val (.int p4), .val (.ref b1), .val (.int (2 : Int32)), .val (.int (((own_us ((p2.toInt8.toInt32).toInt8.toInt32)) * (256 : Int32)) + (own_us ((p3.toInt8.toInt32).toInt8.toInt32)))), .unset] [(.int (own_rs ((p2.toInt8.toInt32).toInt8.toInt32) ((p3.toInt8.toInt32).toInt8.toInt32)))])) t := by
      intro t kt
      show Steps p.tables e below (T61.setTop (mkF m 70 #[.val (.int p0), .val (.int p1), .val (.int p2), .val (.int p3), .val (.int p4), .val (.ref b1), .val (.int (2 : Int32)), .val (.int (((own_us ((p2.toInt8.toInt32).toInt8.toInt32)) * (256 : Int32)) + (own_us ((p3.toInt8.toInt32).toInt8.toInt32)))), .unset] [(.int (own_rs ((p2.toInt8.toInt32).toInt8.toInt32) ((p3.toInt8.toInt32).toInt8.toInt32)))])) _
      refine XS.istore X61.here hx rfl (hb hby at_70) rfl (l' := #[.val (.int p0), .val (.int p1), .val (.int p2), .val (.int p3), .val (.int p4), .val (.ref b1), .val (.int (2 : Int32)), .val (.int (((own_us ((p2.toInt8.toInt32).toInt8.toInt32)) * (256 : Int32)) + (own_us ((p3.toInt8.toInt32).toInt8.toInt32)))), .val (.int (own_rs ((p2.toInt8.toInt32).toInt8.toInt32) ((p3.toInt8.toInt32).toInt8.toInt32)))]) rfl ?_
      show Steps p.tables e below (T61.setTop (mkF m 72 #[.val (.int p0), .val (.int p1), .val (.int p2), .val (.int p3), .val (.int p4), .val (.ref b1), .val (.int (2 : Int32)), .val (.int (((own_us ((p2.toInt8.toInt32).toInt8.toInt32)) * (256 : Int32)) + (own_us ((p3.toInt8.toInt32).toInt8.toInt32)))), .val (.int (own_rs ((p2.toInt8.toInt32).toInt8.toInt32) ((p3.toInt8.toInt32).toInt8.toInt32)))] [])) _
      refine XS.iload X61.here hx rfl (hb hby at_72) rfl ?_
      show Steps p.tables e below (T61.setTop (mkF m 74 #[.val (.int p0), .val (.int p1), .val (.int p2), .val (.int p3), .val (.int p4), .val (.ref b1), .val (.int (2 : Int32)), .val (.int (((own_us ((p2.toInt8.toInt32).toInt8.toInt32)) * (256 : Int32)) + (own_us ((p3.toInt8.toInt32).toInt8.toInt32)))), .val (.int (own_rs ((p2.toInt8.toInt32).toInt8.toInt32) ((p3.toInt8.toInt32).toInt8.toInt32)))] [(.int (own_rs ((p2.toInt8.toInt32).toInt8.toInt32) ((p3.toInt8.toInt32).toInt8.toInt32)))])) _
      refine XS.iload X61.here hx rfl (hb hby at_74) rfl ?_
      exact kt
    have hd62 : (own_rs ((p2.toInt8.toInt32).toInt8.toInt32) ((p3.toInt8.toInt32).toInt8.toInt32)) = (((own_us ((p2.toInt8.toInt32).toInt8.toInt32)) * (256 : Int32)) + (own_us ((p3.toInt8.toInt32).toInt8.toInt32))) := (own_eq _ _ (own_by _) (own_by _)).1
    have c65 : ∀ t, Steps p.tables e below (T61.setTop (mkF m 81 #[.val (.int p0), .val (.int p1), .val (.int p2), .val (.int p3), .val (.int p4), .val (.ref b1), .val (.int (2 : Int32)), .val (.int (((own_us ((p2.toInt8.toInt32).toInt8.toInt32)) * (256 : Int32)) + (own_us ((p3.toInt8.toInt32).toInt8.toInt32)))), .val (.int (own_rs ((p2.toInt8.toInt32).toInt8.toInt32) ((p3.toInt8.toInt32).toInt8.toInt32)))] [(.int (own_rs ((p2.toInt8.toInt32).toInt8.toInt32) ((p3.toInt8.toInt32).toInt8.toInt32)))])) t → Steps p.tables e below (T61.setTop (mkF m 76 #[.val (.int p0), .val (.int p1), .val (.int p2), .val (.int p3), .val (.int p4), .val (.ref b1), .val (.int (2 : Int32)), .val (.int (((own_us ((p2.toInt8.toInt32).toInt8.toInt32)) * (256 : Int32)) + (own_us ((p3.toInt8.toInt32).toInt8.toInt32)))), .val (.int (own_rs ((p2.toInt8.toInt32).toInt8.toInt32) ((p3.toInt8.toInt32).toInt8.toInt32)))] [(.int (((own_us ((p2.toInt8.toInt32).toInt8.toInt32)) * (256 : Int32)) + (own_us ((p3.toInt8.toInt32).toInt8.toInt32)))), (.int (own_rs ((p2.toInt8.toInt32).toInt8.toInt32) ((p3.toInt8.toInt32).toInt8.toInt32)))])) t := by
      intro t kt
      show Steps p.tables e below (T61.setTop (mkF m 76 #[.val (.int p0), .val (.int p1), .val (.int p2), .val (.int p3), .val (.int p4), .val (.ref b1), .val (.int (2 : Int32)), .val (.int (((own_us ((p2.toInt8.toInt32).toInt8.toInt32)) * (256 : Int32)) + (own_us ((p3.toInt8.toInt32).toInt8.toInt32)))), .val (.int (own_rs ((p2.toInt8.toInt32).toInt8.toInt32) ((p3.toInt8.toInt32).toInt8.toInt32)))] [(.int (((own_us ((p2.toInt8.toInt32).toInt8.toInt32)) * (256 : Int32)) + (own_us ((p3.toInt8.toInt32).toInt8.toInt32)))), (.int (own_rs ((p2.toInt8.toInt32).toInt8.toInt32) ((p3.toInt8.toInt32).toInt8.toInt32)))])) _
      refine XS.icmpNo X61.here hx rfl (hb hby at_76) rfl (teq (hd62)).2 ?_
      show Steps p.tables e below (T61.setTop (mkF m 79 #[.val (.int p0), .val (.int p1), .val (.int p2), .val (.int p3), .val (.int p4), .val (.ref b1), .val (.int (2 : Int32)), .val (.int (((own_us ((p2.toInt8.toInt32).toInt8.toInt32)) * (256 : Int32)) + (own_us ((p3.toInt8.toInt32).toInt8.toInt32)))), .val (.int (own_rs ((p2.toInt8.toInt32).toInt8.toInt32) ((p3.toInt8.toInt32).toInt8.toInt32)))] [])) _
      refine XS.iload X61.here hx rfl (hb hby at_79) rfl ?_
      exact kt
    have hd64 : ¬ ((own_rs ((p2.toInt8.toInt32).toInt8.toInt32) ((p3.toInt8.toInt32).toInt8.toInt32)) < (0 : Int32)) := (own_eq _ _ (own_by _) (own_by _)).2.1
    have c67 : ∀ t, Steps p.tables e below (T61.setTop (mkF m 88 #[.val (.int p0), .val (.int p1), .val (.int p2), .val (.int p3), .val (.int p4), .val (.ref b1), .val (.int (2 : Int32)), .val (.int (((own_us ((p2.toInt8.toInt32).toInt8.toInt32)) * (256 : Int32)) + (own_us ((p3.toInt8.toInt32).toInt8.toInt32)))), .val (.int (own_rs ((p2.toInt8.toInt32).toInt8.toInt32) ((p3.toInt8.toInt32).toInt8.toInt32)))] [(.int (65535 : Int32)), (.int (own_rs ((p2.toInt8.toInt32).toInt8.toInt32) ((p3.toInt8.toInt32).toInt8.toInt32)))])) t → Steps p.tables e below (T61.setTop (mkF m 81 #[.val (.int p0), .val (.int p1), .val (.int p2), .val (.int p3), .val (.int p4), .val (.ref b1), .val (.int (2 : Int32)), .val (.int (((own_us ((p2.toInt8.toInt32).toInt8.toInt32)) * (256 : Int32)) + (own_us ((p3.toInt8.toInt32).toInt8.toInt32)))), .val (.int (own_rs ((p2.toInt8.toInt32).toInt8.toInt32) ((p3.toInt8.toInt32).toInt8.toInt32)))] [(.int (own_rs ((p2.toInt8.toInt32).toInt8.toInt32) ((p3.toInt8.toInt32).toInt8.toInt32)))])) t := by
      intro t kt
      show Steps p.tables e below (T61.setTop (mkF m 81 #[.val (.int p0), .val (.int p1), .val (.int p2), .val (.int p3), .val (.int p4), .val (.ref b1), .val (.int (2 : Int32)), .val (.int (((own_us ((p2.toInt8.toInt32).toInt8.toInt32)) * (256 : Int32)) + (own_us ((p3.toInt8.toInt32).toInt8.toInt32)))), .val (.int (own_rs ((p2.toInt8.toInt32).toInt8.toInt32) ((p3.toInt8.toInt32).toInt8.toInt32)))] [(.int (own_rs ((p2.toInt8.toInt32).toInt8.toInt32) ((p3.toInt8.toInt32).toInt8.toInt32)))])) _
      refine XS.ifNo X61.here hx rfl (hb hby at_81) rfl ((if0 _ _).trans (flt (hd64)).1) ?_
      show Steps p.tables e below (T61.setTop (mkF m 84 #[.val (.int p0), .val (.int p1), .val (.int p2), .val (.int p3), .val (.int p4), .val (.ref b1), .val (.int (2 : Int32)), .val (.int (((own_us ((p2.toInt8.toInt32).toInt8.toInt32)) * (256 : Int32)) + (own_us ((p3.toInt8.toInt32).toInt8.toInt32)))), .val (.int (own_rs ((p2.toInt8.toInt32).toInt8.toInt32) ((p3.toInt8.toInt32).toInt8.toInt32)))] [])) _
      refine XS.iload X61.here hx rfl (hb hby at_84) rfl ?_
      show Steps p.tables e below (T61.setTop (mkF m 86 #[.val (.int p0), .val (.int p1), .val (.int p2), .val (.int p3), .val (.int p4), .val (.ref b1), .val (.int (2 : Int32)), .val (.int (((own_us ((p2.toInt8.toInt32).toInt8.toInt32)) * (256 : Int32)) + (own_us ((p3.toInt8.toInt32).toInt8.toInt32)))), .val (.int (own_rs ((p2.toInt8.toInt32).toInt8.toInt32) ((p3.toInt8.toInt32).toInt8.toInt32)))] [(.int (own_rs ((p2.toInt8.toInt32).toInt8.toInt32) ((p3.toInt8.toInt32).toInt8.toInt32)))])) _
      refine X61.ldcInt hx hown (mvT hZ (hw _ (List.mem_of_getElem? (i := 10) rfl))) (g := (mkF m 86 #[.val (.int p0), .val (.int p1), .val (.int p2), .val (.int p3), .val (.int p4), .val (.ref b1), .val (.int (2 : Int32)), .val (.int (((own_us ((p2.toInt8.toInt32).toInt8.toInt32)) * (256 : Int32)) + (own_us ((p3.toInt8.toInt32).toInt8.toInt32)))), .val (.int (own_rs ((p2.toInt8.toInt32).toInt8.toInt32) ((p3.toInt8.toInt32).toInt8.toInt32)))] [(.int (own_rs ((p2.toInt8.toInt32).toInt8.toInt32) ((p3.toInt8.toInt32).toInt8.toInt32)))])) rfl (hb hby at_86) _ ?_
      exact kt
    have hd66 : ¬ ((65535 : Int32) < (own_rs ((p2.toInt8.toInt32).toInt8.toInt32) ((p3.toInt8.toInt32).toInt8.toInt32))) := (own_eq _ _ (own_by _) (own_by _)).2.2
    have c68 : ∀ t, Steps p.tables e below (T61.setTop (mkF m 96 #[.val (.int p0), .val (.int p1), .val (.int p2), .val (.int p3), .val (.int p4), .val (.ref b1), .val (.int (2 : Int32)), .val (.int (((own_us ((p2.toInt8.toInt32).toInt8.toInt32)) * (256 : Int32)) + (own_us ((p3.toInt8.toInt32).toInt8.toInt32)))), .val (.int (own_rs ((p2.toInt8.toInt32).toInt8.toInt32) ((p3.toInt8.toInt32).toInt8.toInt32)))] [(.int (1 : Int32))])) t → Steps p.tables e below (T61.setTop (mkF m 88 #[.val (.int p0), .val (.int p1), .val (.int p2), .val (.int p3), .val (.int p4), .val (.ref b1), .val (.int (2 : Int32)), .val (.int (((own_us ((p2.toInt8.toInt32).toInt8.toInt32)) * (256 : Int32)) + (own_us ((p3.toInt8.toInt32).toInt8.toInt32)))), .val (.int (own_rs ((p2.toInt8.toInt32).toInt8.toInt32) ((p3.toInt8.toInt32).toInt8.toInt32)))] [(.int (65535 : Int32)), (.int (own_rs ((p2.toInt8.toInt32).toInt8.toInt32) ((p3.toInt8.toInt32).toInt8.toInt32)))])) t := by
      intro t kt
      show Steps p.tables e below (T61.setTop (mkF m 88 #[.val (.int p0), .val (.int p1), .val (.int p2), .val (.int p3), .val (.int p4), .val (.ref b1), .val (.int (2 : Int32)), .val (.int (((own_us ((p2.toInt8.toInt32).toInt8.toInt32)) * (256 : Int32)) + (own_us ((p3.toInt8.toInt32).toInt8.toInt32)))), .val (.int (own_rs ((p2.toInt8.toInt32).toInt8.toInt32) ((p3.toInt8.toInt32).toInt8.toInt32)))] [(.int (65535 : Int32)), (.int (own_rs ((p2.toInt8.toInt32).toInt8.toInt32) ((p3.toInt8.toInt32).toInt8.toInt32)))])) _
      refine XS.icmpNo X61.here hx rfl (hb hby at_88) rfl (flt (hd66)).2.2.1 ?_
      show Steps p.tables e below (T61.setTop (mkF m 91 #[.val (.int p0), .val (.int p1), .val (.int p2), .val (.int p3), .val (.int p4), .val (.ref b1), .val (.int (2 : Int32)), .val (.int (((own_us ((p2.toInt8.toInt32).toInt8.toInt32)) * (256 : Int32)) + (own_us ((p3.toInt8.toInt32).toInt8.toInt32)))), .val (.int (own_rs ((p2.toInt8.toInt32).toInt8.toInt32) ((p3.toInt8.toInt32).toInt8.toInt32)))] [])) _
      refine XS.iconst X61.here hx rfl (hb hby at_91) ?_
      show Steps p.tables e below (T61.setTop (mkF m 92 #[.val (.int p0), .val (.int p1), .val (.int p2), .val (.int p3), .val (.int p4), .val (.ref b1), .val (.int (2 : Int32)), .val (.int (((own_us ((p2.toInt8.toInt32).toInt8.toInt32)) * (256 : Int32)) + (own_us ((p3.toInt8.toInt32).toInt8.toInt32)))), .val (.int (own_rs ((p2.toInt8.toInt32).toInt8.toInt32) ((p3.toInt8.toInt32).toInt8.toInt32)))] [(.int (1 : Int32))])) _
      refine XS.goto X61.here hx rfl (pc0 := 92) (pc' := 96) rfl (hb hby at_92) (by decide) (by decide) ?_
      exact kt
    obtain ⟨fs, hr, hrun, hended, hW, hsame⟩ := X61.leave (v := some (.int (1 : Int32))) (fun h => by rw [Bd.returns] at h; cases h)
    refine ⟨_, _, pre0 _ (c2 _ (st1 _ (c3 _ (st5 _ (c6 _ (st8 _ (c9 _ (st11 _ (c12 _ (st14 _ (c15 _ (c52 _ (c54 _ (st56 _ (c58 _ (st59 _ (c60 _ (st61 _ (c63 _ (c65 _ (c67 _ (c68 _ (?_))))))))))))))))))))))), hrun, hended, _, _, rfl, ?_, ⟨_, rfl⟩, hW, hsame.mono (by decide) (by decide)⟩
    · show Steps p.tables e below (T61.setTop (mkF m 96 #[.val (.int p0), .val (.int p1), .val (.int p2), .val (.int p3), .val (.int p4), .val (.ref b1), .val (.int (2 : Int32)), .val (.int (((own_us ((p2.toInt8.toInt32).toInt8.toInt32)) * (256 : Int32)) + (own_us ((p3.toInt8.toInt32).toInt8.toInt32)))), .val (.int (own_rs ((p2.toInt8.toInt32).toInt8.toInt32) ((p3.toInt8.toInt32).toInt8.toInt32)))] [(.int (1 : Int32))])) _
      exact retN X61 hx (t := .boolean) Bd.returns (by simp) (hb hby at_96) hr
    · show Q0 Z p0 p1 p2 p3 p4 h0 n0 _ T61.heap _
      rw [e61]
      exact ⟨congrArg (fun z => some (Value.int z)) (show (1 : Int32) = (1 : Int32) from by rfl), N61⟩
set_option maxRecDepth 65536 in
set_option maxHeartbeats 40000000 in
theorem comes_1 {Post : Tables → Env → Array Value → State → Outcome → State → Prop} (hpost : ∀ tb e args s v u, (limb_1_1.after args s (.returned v) u = true ∧ limb_1_2.after args s (.returned v) u = true ∧ True) → FrameEnd s (.returned v) u (Jvm.fieldLocs frame_1_writes args s ++ Jvm.arrayLocs frame_1_arrays args s ++ Jvm.staticLocs frame_1_statics s) 16 128 → Post tb e args s (.returned v) u) :
    ArmFor flags0 classFile x code maxLocals ret World_1 tables_1 room_1 Calls_1 rest_1 Pre_1 Post := by
  intro l hfl _ _ p e ha hc hk s m args below hf hA hF happ hP
  obtain ⟨hcalls, hrest, hpre⟩ := hP
  obtain ⟨-, -, -, hnamed, -, -, -, hat⟩ := (Spec.applies_iff hf).mp happ
  obtain ⟨hg, hn⟩ := and_e (Cond.before_iff.mp (show (Jvm.Cond.and given_1 narrow_1).before args s = true from hpre))
  obtain ⟨g1, g2⟩ := and_e hg
  obtain ⟨g3, g4⟩ := and_e g2
  obtain ⟨g5, g6⟩ := and_e g4
  obtain ⟨g7, g8⟩ := and_e g6
  obtain ⟨g9, g10⟩ := and_e g8
  obtain ⟨w0, w1, w2, w3, w4, rfl⟩ : ∃ w0 w1 w2 w3 w4 : Value, args = #[w0, w1, w2, w3, w4] := by
    have hs : args.size = 5 := by simpa [Cond.value, given_1] using g1
    obtain ⟨L⟩ := args
    match L, hs with
    | [w0, w1, w2, w3, w4], _ => exact ⟨w0, w1, w2, w3, w4, rfl⟩
  have hw := fun d (hd : d ∈ tables_1) => atoms_spec (ws := Jvm.Cond.code x code maxLocals ret :: tables_1) hat d (List.mem_cons_of_mem _ hd)
  have hfit : Fit s := fun {y c} hc i hi => by
    obtain ⟨ha, rfl⟩ := Array.getElem?_eq_some_iff.mp hc
    have q := List.all_eq_true.mp ((Array.all_eq_true_iff_forall_mem.mp hF) _ (Array.getElem_mem ha)) i (List.mem_range.mpr hi)
    simpa [Array.getElem?_eq_getElem hi] using q
  obtain ⟨i0, ei0⟩ := is_v g3
  obtain rfl : w0 = (.int i0) := Option.some.inj ei0
  obtain ⟨i1, ei1⟩ := is_v g5
  obtain rfl : w1 = (.int i1) := Option.some.inj ei1
  obtain ⟨i2, ei2⟩ := is_v g7
  obtain rfl : w2 = (.int i2) := Option.some.inj ei2
  obtain ⟨i3, ei3⟩ := is_v g9
  obtain rfl : w3 = (.int i3) := Option.some.inj ei3
  obtain ⟨i4, ei4⟩ := is_v g10
  obtain rfl : w4 = (.int i4) := Option.some.inj ei4
  obtain ⟨n, o, h1, h2, h3, _, L, rfl, ⟨rfl, N⟩, hq⟩ := rm0 l s _ hw tables_1 i0 i1 i2 i3 i4  s.heap s.heap.size (Nat.le_refl _)  p e ha hc hk s m _ below hf ((Spec.applies_iff_loose hf).mp happ).1 ⟨rfl, State.Warmed39.refl s, rfl⟩ trivial
  refine ⟨n, _, h1, h2, h3, hpost _ _ _ _ _ _ ⟨Cond.after_iff.mpr rfl, Cond.after_iff.mpr (eq_i res_at (Term.int_eval (1)) rfl), trivial⟩ ⟨hq.1, hq.2.1, (hq.2.2.sift fun y hy => Or.inr (N y hy)).mono (by decide) (by decide)⟩⟩
theorem main_1_1 : Claimed_1_1 := comes_1 fun _ _ _ _ _ _ h hF => ⟨h.1, hF⟩
theorem main_1_2 : Claimed_1_2 := comes_1 fun _ _ _ _ _ _ h hF => ⟨h.2.1, hF⟩
end Jvm.Pilot.@@N@@
namespace Jvm.Pilot.@@N@@
open Jvm Jvm.ClassFile Sem Op Lib Jvm.Free Jvm.Stand Jvm.Pilot.@@N@@.Jvm.D
/-! MADE BY PROGRAM (witnessworld.py) out of the Statement's table words and the real class files: 10 classes; the members and pool entries that the words name. The judged class is class 1, her method 2. -/
namespace start1
open Jvm.ClassFile
def u (s : String) : CpInfo := .utf8 (stringToUtf16 s)
/-- a pool by its gaps: so many unusable entries, then the entry; so many at the end -/
def gap : Nat → List CpInfo → List CpInfo
  | 0, r => r
  | n + 1, r => .unusable :: gap n r
def poolList (es : List (Nat × CpInfo)) (last : Nat) : List CpInfo := es.foldr (fun e r => gap e.1 (e.2 :: r)) (gap last [])
def pool (es : List (Nat × CpInfo)) (last : Nat) : Array CpInfo := ⟨poolList es last⟩
def fileOf (pool : Array CpInfo) (this : Nat) (attrs : Array Attribute := #[]) (ms : Array MethodInfo := #[]) (fl : Nat := 33) (sup : Nat := 0) (ifs : Array Nat := #[]) (fds : Array FieldInfo := #[]) : ClassFile where
  minorVersion := 0
  majorVersion := 65
  constantPool := pool
  accessFlags := fl
  thisClass := this
  superClass := sup
  interfaces := ifs
  fields := fds
  methods := ms
  attributes := attrs
def plain (name : String) (sup : Option ClassId) : Class where
  name := name
  kind := .ordinary
  loader := none
  accessFlags := 33
  super := sup
  interfaces := #[]
  cf := none
  fields := #[]
  methods := #[]
  instanceTypes := #[]
  staticTypes := #[]
  resolved := #[]
  callSites := []
  init := .initialized
  statics := none
  mirror := none

def pool0 : Array CpInfo := pool [(5, u "<init>"), (0, u "()V"), (1, .class_ 10), (1, u "java/lang/Object")] 113

def k0m0 : Method := { name := "<init>", desc := "()V", sig := { parameters := [], returnType := none }, accessFlags := 1, code := none }
/-- java/lang/Object -/
def k0 : Class := { plain "java/lang/Object" none with
  accessFlags := 33
  interfaces := #[]
  cf := some (fileOf pool0 8 #[] #[{ accessFlags := 1, nameIndex := 5, descriptorIndex := 6, attributes := #[] }] 33 0 #[] #[])
  fields := #[]
  methods := #[k0m0]
  instanceTypes := #[]
  staticTypes := #[]
  resolved := Array.replicate 124 none
  statics := none }

def pool1 : Array CpInfo := pool [(2, .class_ 4), (1, u "java/lang/Object"), (0, u "<init>"), (0, u "()V"), (0, .integer 2147483647), (0, .methodref 9 10), (0, .class_ 11), (0, .nameAndType 12 13), (0, u "com/example/sequence_set/sequenceset/node/NodeReadShortPinLaw"), (0, u "unsigned"), (0, u "(B)I"), (0, .methodref 15 16), (0, .class_ 17), (0, .nameAndType 18 19), (0, u "com/example/sequence_set/sequenceset/node/Node"), (0, u "readShort"), (0, u "([BI)I"), (0, .integer 65535), (3, u "law"), (0, u "(IIIII)Z")] 4

def k1m0 : Method := { name := "<init>", desc := "()V", sig := { parameters := [], returnType := none }, accessFlags := 2, code := none }
def k1c1 : Code := { maxStack := 2, maxLocals := 2, code := method_2_code, exceptionTable := #[], attributes := #[] }
def k1m1 : Method := { name := "unsigned", desc := "(B)I", sig := { parameters := [.byte], returnType := some .int }, accessFlags := 10, code := some k1c1 }
def k1c2 : Code := { maxStack := 4, maxLocals := 9, code := code, exceptionTable := #[], attributes := #[] }
def k1m2 : Method := { name := "law", desc := "(IIIII)Z", sig := { parameters := [.int, .int, .int, .int, .int], returnType := some .boolean }, accessFlags := 9, code := some k1c2 }
/-- com/example/sequence_set/sequenceset/node/NodeReadShortPinLaw -/
def k1 : Class := { plain "com/example/sequence_set/sequenceset/node/NodeReadShortPinLaw" (some 0) with
  accessFlags := 49
  interfaces := #[]
  cf := some (fileOf pool1 9 #[] #[{ accessFlags := 2, nameIndex := 5, descriptorIndex := 6, attributes := #[] }, { accessFlags := 10, nameIndex := 12, descriptorIndex := 13, attributes := #[] }, { accessFlags := 9, nameIndex := 24, descriptorIndex := 25, attributes := #[] }] 49 2 #[] #[])
  fields := #[]
  methods := #[k1m0, k1m1, k1m2]
  instanceTypes := #[]
  staticTypes := #[]
  resolved := Array.replicate 30 none
  statics := none }

def pool2 : Array CpInfo := pool [(1, .class_ 2), (0, u "java/lang/AutoCloseable"), (0, .class_ 4), (0, u "java/lang/Object")] 7

/-- java/lang/AutoCloseable -/
def k2 : Class := { plain "java/lang/AutoCloseable" (some 0) with
  accessFlags := 1537
  interfaces := #[]
  cf := some (fileOf pool2 1 #[] #[] 1537 3 #[] #[])
  fields := #[]
  methods := #[]
  instanceTypes := #[]
  staticTypes := #[]
  resolved := Array.replicate 12 none
  statics := none }

def pool3 : Array CpInfo := pool [(2, .class_ 4), (1, u "java/lang/Object"), (3, .class_ 10), (1, u "com/example/sequence_set/sequenceset/node/Node"), (0, u "frame"), (0, u "Lcom/example/sequence_set/sequenceset/pool/Frame;"), (14, u "bytes"), (0, u "[B"), (2, u "capacity"), (0, u "I"), (2, u "keysAt"), (2, u "latch"), (0, u "Lcom/example/sequence_set/sequenceset/pool/Frame$Latch;"), (26, u "closed"), (0, u "Z"), (27, u "LONGS"), (0, u "Ljava/lang/invoke/VarHandle;"), (11, u "readShort"), (0, u "([BI)I"), (36, .class_ 147), (0, u "java/lang/AutoCloseable")] 37

def k3c0 : Code := { maxStack := 4, maxLocals := 2, code := prog_39_method_17_code, exceptionTable := #[], attributes := #[] }
def k3m0 : Method := { name := "readShort", desc := "([BI)I", sig := { parameters := [(.array .byte), .int], returnType := some .int }, accessFlags := 8, code := some k3c0 }
/-- com/example/sequence_set/sequenceset/node/Node -/
def k3 : Class := { plain "com/example/sequence_set/sequenceset/node/Node" (some 0) with
  accessFlags := 1057
  interfaces := #[2]
  cf := some (fileOf pool3 8 #[] #[{ accessFlags := 8, nameIndex := 108, descriptorIndex := 109, attributes := #[] }] 1057 2 #[146] #[{ accessFlags := 26, nameIndex := 95, descriptorIndex := 96, attributes := #[] }, { accessFlags := 16, nameIndex := 11, descriptorIndex := 12, attributes := #[] }, { accessFlags := 16, nameIndex := 27, descriptorIndex := 28, attributes := #[] }, { accessFlags := 16, nameIndex := 31, descriptorIndex := 32, attributes := #[] }, { accessFlags := 18, nameIndex := 35, descriptorIndex := 32, attributes := #[] }, { accessFlags := 18, nameIndex := 38, descriptorIndex := 39, attributes := #[] }, { accessFlags := 2, nameIndex := 66, descriptorIndex := 67, attributes := #[] }])
  fields := #[{ name := "LONGS", type := (.object "java/lang/invoke/VarHandle"), accessFlags := 26, slot := 0, constantValue := 0 }, { name := "frame", type := (.object "com/example/sequence_set/sequenceset/pool/Frame"), accessFlags := 16, slot := 0, constantValue := 0 }, { name := "bytes", type := (.array .byte), accessFlags := 16, slot := 1, constantValue := 0 }, { name := "capacity", type := .int, accessFlags := 16, slot := 2, constantValue := 0 }, { name := "keysAt", type := .int, accessFlags := 18, slot := 3, constantValue := 0 }, { name := "latch", type := (.object "com/example/sequence_set/sequenceset/pool/Frame$Latch"), accessFlags := 18, slot := 4, constantValue := 0 }, { name := "closed", type := .boolean, accessFlags := 2, slot := 5, constantValue := 0 }]
  methods := #[k3m0]
  instanceTypes := #[(.object "com/example/sequence_set/sequenceset/pool/Frame"), (.array .byte), .int, .int, (.object "com/example/sequence_set/sequenceset/pool/Frame$Latch"), .boolean]
  staticTypes := #[(.object "java/lang/invoke/VarHandle")]
  resolved := Array.replicate 185 none
  statics := none }

def pool4 : Array CpInfo := pool [(1, u "java/lang/Cloneable"), (0, .class_ 1), (0, u "java/lang/Object"), (0, .class_ 3)] 3

/-- java/lang/Cloneable -/
def k4 : Class := { plain "java/lang/Cloneable" (some 0) with
  accessFlags := 1537
  interfaces := #[]
  cf := some (fileOf pool4 2 #[] #[] 1537 4 #[] #[])
  fields := #[]
  methods := #[]
  instanceTypes := #[]
  staticTypes := #[]
  resolved := Array.replicate 8 none
  statics := none }

def pool5 : Array CpInfo := pool [(1, u "java/io/Serializable"), (0, .class_ 1), (0, u "java/lang/Object"), (0, .class_ 3)] 3

/-- java/io/Serializable -/
def k5 : Class := { plain "java/io/Serializable" (some 0) with
  accessFlags := 1537
  interfaces := #[]
  cf := some (fileOf pool5 2 #[] #[] 1537 4 #[] #[])
  fields := #[]
  methods := #[]
  instanceTypes := #[]
  staticTypes := #[]
  resolved := Array.replicate 8 none
  statics := none }

/-- the primitive byte -/
def k6 : Class := { plain "byte" none with kind := .primitive 'B', accessFlags := 0x411 }
/-- [B -/
def k7 : Class := { plain "[B" (some 0) with kind := .array 6 .byte, interfaces := #[4, 5], accessFlags := 1041 }

/-- the primitive int -/
def k8 : Class := { plain "int" none with kind := .primitive 'I', accessFlags := 0x411 }
/-- [I -/
def k9 : Class := { plain "[I" (some 0) with kind := .array 8 .int, interfaces := #[4, 5], accessFlags := 1041 }

def heap : Heap := #[]
def classes : Array Class := #[k0, k1, k2, k3, k4, k5, k6, k7, k8, k9]
def interned : List (Array UInt16 × Addr) := []
def slotsUsed : Nat := 0
def theMethod : MethodId := ⟨1, 2⟩
def args0 : Array Value := #[.int 5, .int 5, .int 5, .int 5, .int 5]
def aboutOver (below : List Frame) : State where
  vm := { classes := classes, interned := interned.toArray }
  heap := heap
  slotsUsed := slotsUsed
  threads := #[{ frames := .invoking theMethod args0 :: below }]
def below0 : List Frame := [.native { method := ⟨0, 0⟩, args := #[] }]
def about1 : State := aboutOver below0
def p0 : Program := .bare "" "" ""
def e0 : Env := launch0.env 0 0 0
theorem w_frames : about1.frames = Frame.invoking theMethod args0 :: below0 := rfl
set_option maxRecDepth 65536 in
theorem w_args : argsFit about1.vm theMethod args0 = true := by decide +kernel
set_option maxRecDepth 65536 in
theorem w_heap : heapFits about1 = true := by decide +kernel
set_option maxRecDepth 65536 in
theorem w_runnable : about1.curStatus? = some .runnable := by decide +kernel
set_option maxRecDepth 65536 in
theorem w_alone : about1.alone = true := by decide +kernel
set_option maxRecDepth 65536 in
theorem w_named : about1.methodNamed? x = some theMethod := by decide +kernel
set_option maxRecDepth 65536 in
theorem w_hears : about1.hears theMethod below0 = true := by decide +kernel
set_option maxRecDepth 65536 in
theorem w_ripe : about1.ripe theMethod args0 below0 = true := by decide +kernel
theorem w_running : about1.status = .running := rfl
set_option maxRecDepth 65536 in
theorem w_room : about1.hasRoom e0.platform room_1 = true :=
  launch0.hasRoom_least _ room_1 (by decide +kernel) (by decide +kernel) (by decide +kernel) (by decide +kernel) (by decide +kernel) (by decide +kernel)
theorem allAtoms_all (ts : List Jvm.Cond) (a : Array Jvm.Value) (st : Jvm.State) : (allAtoms ts).before a st = ts.all (fun c => c.before a st) := by
  induction ts with
  | nil => rfl
  | cons c t ih =>
    show (Jvm.Cond.and c (allAtoms t)).before a st = _
    rw [Jvm.Cond.before_and, ih, List.all_cons]
def words1 : List Jvm.Cond := Jvm.Cond.code x code maxLocals ret :: tables_1
/-- a 'code' word, met by the world's own term for the bytes: nothing is compared byte by byte -/
theorem code_word {y : MethodName} {bytes : ByteArray} {mx : Nat} {rt : Option FieldType} {a : Array Value} {s : State} {m : MethodId} {meth : Method} {c : Code} (h1 : s.methodNamed? y = some m) (h2 : s.vm.method? m = some meth) (h3 : meth.code = some c) (h4 : c.code = bytes)
    (h5 : (c.maxLocals == mx && c.exceptionTable.isEmpty && decide (c.maxStack ≤ mostOperands) && decide (meth.sig.returnType = rt) && !meth.locks && decide (parseMethodDescriptor y.desc = some meth.sig)) = true) : (Jvm.Cond.code y bytes mx rt).before a s = true := by
  simp only [Bool.and_eq_true, beq_iff_eq, Bool.not_eq_true', decide_eq_true_eq] at h5
  obtain ⟨⟨⟨⟨⟨g1, g2⟩, g3⟩, g4⟩, g5⟩, g6⟩ := h5
  simp [Cond.before, Cond.holds, Cond.value, h1, h2, h3, h4, g1, g2, g3, g4, g5, g6]
def isCode : Jvm.Cond → Bool
  | .code _ _ _ _ => true
  | _ => false
theorem all_split {L : List Jvm.Cond} {P : Jvm.Cond → Bool} (h1 : L.all (fun c => isCode c || P c) = true) (h2 : ∀ c ∈ L.filter isCode, P c = true) : L.all P = true := by
  refine List.all_eq_true.mpr fun c hc => ?_
  have h := List.all_eq_true.mp h1 c hc
  rcases Bool.eq_false_or_eq_true (isCode c) with hi | hi
  · exact h2 c (List.mem_filter.mpr ⟨hc, hi⟩)
  · simpa [hi] using h
set_option maxRecDepth 65536 in
theorem w_c0 : (Jvm.Cond.code x code maxLocals ret).before args0 about1 = true := code_word (m := ⟨1, 2⟩) (meth := k1m2) (c := k1c2) (by decide +kernel) rfl rfl rfl (by decide +kernel)
set_option maxRecDepth 65536 in
theorem w_c1 : (Jvm.Cond.code ({ cls := "com/example/sequence_set/sequenceset/node/NodeReadShortPinLaw", name := "unsigned", desc := "(B)I" } : Jvm.MethodName) method_2_code (2 : Nat) (Option.some Jvm.ClassFile.FieldType.int)).before args0 about1 = true := code_word (m := ⟨1, 1⟩) (meth := k1m1) (c := k1c1) (by decide +kernel) rfl rfl rfl (by decide +kernel)
set_option maxRecDepth 65536 in
theorem w_c2 : (Jvm.Cond.code ({ cls := "com/example/sequence_set/sequenceset/node/Node", name := "readShort", desc := "([BI)I" } : Jvm.MethodName) prog_39_method_17_code (2 : Nat) (Option.some Jvm.ClassFile.FieldType.int)).before args0 about1 = true := code_word (m := ⟨3, 0⟩) (meth := k3m0) (c := k3c0) (by decide +kernel) rfl rfl rfl (by decide +kernel)
def codes1 : List Jvm.Cond := [Jvm.Cond.code x code maxLocals ret, Jvm.Cond.code ({ cls := "com/example/sequence_set/sequenceset/node/NodeReadShortPinLaw", name := "unsigned", desc := "(B)I" } : Jvm.MethodName) method_2_code (2 : Nat) (Option.some Jvm.ClassFile.FieldType.int), Jvm.Cond.code ({ cls := "com/example/sequence_set/sequenceset/node/Node", name := "readShort", desc := "([BI)I" } : Jvm.MethodName) prog_39_method_17_code (2 : Nat) (Option.some Jvm.ClassFile.FieldType.int)]
set_option maxRecDepth 65536 in
theorem codes_eq : words1.filter isCode = codes1 := rfl
theorem w_codes : ∀ c ∈ words1.filter isCode, c.before args0 about1 = true := by
  rw [codes_eq]
  intro c hc
  simp only [codes1, List.mem_cons, List.not_mem_nil, or_false] at hc
  rcases hc with rfl | rfl | rfl
  · exact w_c0
  · exact w_c1
  · exact w_c2
set_option maxRecDepth 65536 in
theorem w_t1 : words1.all (fun c => isCode c || c.before args0 about1) = true := by decide +kernel
theorem w_tables : (allAtoms (Jvm.Cond.code x code maxLocals ret :: tables_1)).before args0 about1 = true := by
  rw [allAtoms_all]
  show words1.all (fun c => c.before args0 about1) = true
  refine all_split ?_ w_codes
  rw [w_t1]
set_option maxRecDepth 65536 in
theorem w_case : (Jvm.Cond.and given_1 narrow_1).before args0 about1 = true := by decide +kernel
theorem w_applies : (headSpec (Jvm.Cond.code x code maxLocals ret :: tables_1) room_1).applies x e0.platform about1 = true :=
  (Spec.applies_iff w_frames).mpr ⟨w_running, w_runnable, w_alone, w_named, w_hears, w_ripe, w_room, w_tables⟩
theorem atStart : AtStart classFile x code maxLocals ret World_1 tables_1 room_1 Calls_1 rest_1 Pre_1 launch0 p0 e0 about1 theMethod args0 below0 :=
  ⟨lists_1, trivial, launch0.admits_env _ _ _, launch0.least_env, fairChoices_fair.cas, fairChoices_fair.clock, w_frames, w_args, w_heap, w_applies, trivial, trivial, w_case⟩
end start1
theorem witness_1 : WitnessClaimed_1 := ⟨start1.p0, start1.e0, start1.about1, start1.theMethod, start1.args0, start1.below0, start1.atStart⟩
end Jvm.Pilot.@@N@@
