import JvmDerived
import JvmDerived.Pilot.@@N@@Statement
import JvmDerived.Pilot.@@N@@Code
set_option linter.unusedVariables false
set_option linter.unusedSimpArgs false

namespace Jvm.RoadKit
open Sem ClassFile Op Lib Jvm.Stand Jvm.Free Jvm.LawKit
section New
variable {p : Program} {l : Launch} {e : Env} {R : Room} {s : State} {m : MethodId} {args : Array Value} {below : List Frame} {meth : Method} {c : Code} {T : State} {locs : List Loc} {cells slots : Nat}
theorem retI (X : Stand p l e R s m args below meth c T locs cells slots) (hx : p.tables.exec = Jvm.exec) {pc : Nat} {Ls : Array Slot} {z : Int32} {rest : List Value} (hret : meth.sig.returnType = some .int) (hd : decode c.code pc = .ok (.ireturn, 1)) {fs : List Frame}
    (hl : ∀ (f : JFrame) (acts : List Action), f.method = m → f.locked = none → f.entered = [] → (doReturn e (T.setTop f) acts (some (.int z))).1 = T.setFrames fs) : Steps p.tables e below (T.setTop (mkF m pc Ls (.int z :: rest))) (T.setFrames fs) := by
  have hm' : T.vm.method? m = some meth := X.method'
  have hn : narrow .int (.int z) = .int z := rfl
  show Steps p.tables e below (T.setTop { method := m, pc := pc, locals := Ls, stack := _ :: rest, locked := none }) _
  jvm_step X.here [X.here.top, hx, hd, hm', hret, hn]
  first | (intro acts; rw [hl _ acts rfl rfl rfl]) | rw [hl _ _ rfl rfl rfl]
  exact Steps.refl _
theorem own_lrem {g : JFrame} {target : State} (X : Stand p l e R s m args below meth c T locs cells slots) (hx : p.tables.exec = Jvm.exec) (hg : g.method = m) {x y : Int64} {rest : List Value} (hd : decode c.code g.pc = .ok (.lrem, 1)) (hs : g.stack = .long y :: .long x :: rest) (hy : y ≠ 0)
    (hr : Steps p.tables e below (T.setTop { g with pc := g.pc + 1, stack := .long (x % y) :: rest }) target) : Steps p.tables e below (T.setTop g) target := by
  have q : x - x / y * y = x % y := lrem_mod x y
  exact XS.lrem X.here hx hg hd hs hy (by rw [q]; exact hr)
end New
end Jvm.RoadKit

namespace Jvm.Pilot.@@N@@
open Jvm Jvm.ClassFile Sem Op Lib Jvm.Free Jvm.Stand Jvm.LawKit Jvm.RoadKit Bundle Jvm.Pilot.@@N@@.Jvm.D
def own_us (x : Int32) : Int32 := if x < (0 : Int32) then x + (256 : Int32) else x
def own_ch (x : Int32) : Int32 := ((x &&& (255 : Int32)).toUInt32.toUInt16.toUInt32.toInt32).toUInt32.toUInt16.toUInt32.toInt32
theorem own_eq (x : Int32) (h : -128 ≤ x.toInt ∧ x.toInt < 128) : own_ch x = own_us x := by
  have a1 := c_mask x 255 8 (by decide) (by decide)
  have a2 := c_i2c (x &&& (255 : Int32))
  have a3 := c_i2c ((x &&& (255 : Int32)).toUInt32.toUInt16.toUInt32.toInt32)
  have a := c_iadd x 256
  have b := rng32 (x + 256)
  unfold own_ch own_us
  simp only [show ((2 ^ 8 : Nat) : Int) = 256 from rfl] at *
  split
  · next k => simp only [Int32.lt_iff_toInt_lt, ← Int32.toInt_inj, Int32.reduceToInt] at *; omega
  · next k => simp only [Int32.lt_iff_toInt_lt, ← Int32.toInt_inj, Int32.reduceToInt] at *; omega
theorem own_by (x : Int32) : -128 ≤ (x.toInt8.toInt32).toInt ∧ (x.toInt8.toInt32).toInt < 128 := (c_i2b x).2
theorem pd_0 : parseMethodDescriptor "(B)I" = some ⟨[.byte], some .int⟩ := by decide +kernel
theorem pd_1 : parseMethodDescriptor "([B)V" = some ⟨[(.array .byte)], none⟩ := by decide +kernel
theorem pd_2 : parseMethodDescriptor "(I)C" = some ⟨[.int], some .char⟩ := by decide +kernel
theorem d1_0 : decode method_2_code 0 = .ok (.iload_n 0, 1) := by decide +kernel
theorem d1_1 : decode method_2_code 1 = .ok (.istore_n 1, 1) := by decide +kernel
theorem d1_2 : decode method_2_code 2 = .ok (.iload_n 1, 1) := by decide +kernel
theorem d1_3 : decode method_2_code 3 = .ok (.ifCond .ge 9, 3) := by decide +kernel
theorem d1_6 : decode method_2_code 6 = .ok (.iload_n 1, 1) := by decide +kernel
theorem d1_7 : decode method_2_code 7 = .ok (.sipush 256, 3) := by decide +kernel
theorem d1_10 : decode method_2_code 10 = .ok (.iadd, 1) := by decide +kernel
theorem d1_11 : decode method_2_code 11 = .ok (.ireturn, 1) := by decide +kernel
theorem d1_12 : decode method_2_code 12 = .ok (.iload_n 1, 1) := by decide +kernel
theorem d1_13 : decode method_2_code 13 = .ok (.ireturn, 1) := by decide +kernel
theorem pn_1 : plainName "com/example/mapstone/mapstone/rf2/LineBytesCharAtPinLaw" = true := by first | (simp [plainName, overriddenIn]; done) | decide +kernel
theorem ef_1 (m : MethodId) (x0 : Int32) : entryFrame m #[(.int x0)] 2 = mkF m 0 #[.val (.int x0), .unset] [] := by first | (simp [entryFrame, mkF, argsToLocals, Value.category]; done) | rfl
def Q1 (Z : State) (p0 : Int32) (h0 : Heap) (n0 : Nat) (v : Option Value) (h : Heap) (L : List Loc) : Prop := v = some (.int (own_us p0)) ∧ Fr n0 L ∧ h = h0
set_option maxRecDepth 65536 in
set_option maxHeartbeats 40000000 in
theorem rm1 (l : Launch) (Z : State) (a0 : Array Value) (hw : ∀ d ∈ tables_1, d.before a0 Z = true) (ws : List Jvm.Cond) (p0 : Int32)  (h0 : Heap) (n0 : Nat) (Z0 : n0 ≤ h0.size) :
    MetFree l (⟨"com/example/mapstone/mapstone/rf2/LineBytesCharAtPinLaw", "expected", "(B)I"⟩ : MethodName) (head1 (Jvm.Cond.code (⟨"com/example/mapstone/mapstone/rf2/LineBytesCharAtPinLaw", "expected", "(B)I"⟩ : MethodName) method_2_code 2 (some .int) :: ws) ({ frames := 0, cells := 0, slots := 0, locals := 0 } : Room)) (fun a U => a = #[(.int p0)] ∧ Z.Warmed39 U.vm ∧ U.heap = h0) (fun _ _ _ _ _ => True) (fun _ U o U' => ∃ v L, o = .returned v ∧ Q1 Z p0 h0 n0 v U'.heap L ∧ FrameEnd U o U' L ({ frames := 0, cells := 0, slots := 0, locals := 0 } : Room).cells ({ frames := 0, cells := 0, slots := 0, locals := 0 } : Room).slots) := by
  refine MetFree.of_bodySF (plainFor_of_name pn_1) hisR ?_
  intro p e s m args below meth c s₁ Bd hml0 hP hK
  obtain ⟨rfl, hZ, hh⟩ := hP
  have hx := Bd.exec
  have hby := Bd.bytes
  have hml : c.maxLocals = 2 := hml0
  have hown : s.vm.findClass "com/example/mapstone/mapstone/rf2/LineBytesCharAtPinLaw" = some m.cls := findClass_of_methodNamed Bd.named
  have hnm := (name_of_methodNamed Bd.named Bd.method).1
  have X0 : Stand p l e ({ frames := 0, cells := 0, slots := 0, locals := 0 } : Room) s m #[(.int p0)] below meth c s₁ [] 0 0 := Stand.of_body Bd
  have e0 : s₁.heap = h0 := by rw [← hh, Bd.state]; rfl
  have N0 := Fr.nil n0
  have pre0 : ∀ t, Steps p.tables e below (s₁.setTop (mkF m 0 #[.val (.int p0), .unset] [])) t → Steps p.tables e below (s₁.setTop (entryFrame m #[(.int p0)] 2)) t := fun t k => castTop (ef_1 m p0) k
  have c1 : ∀ t, Steps p.tables e below (s₁.setTop (mkF m 3 #[.val (.int p0), .val (.int p0)] [(.int p0)])) t → Steps p.tables e below (s₁.setTop (mkF m 0 #[.val (.int p0), .unset] [])) t := by
    intro t kt
    show Steps p.tables e below (s₁.setTop (mkF m 0 #[.val (.int p0), .unset] [])) _
    refine XS.iloadN X0.here hx rfl (hb hby d1_0) rfl ?_
    show Steps p.tables e below (s₁.setTop (mkF m 1 #[.val (.int p0), .unset] [(.int p0)])) _
    refine XS.istoreN X0.here hx rfl (hb hby d1_1) rfl (l' := #[.val (.int p0), .val (.int p0)]) rfl ?_
    show Steps p.tables e below (s₁.setTop (mkF m 2 #[.val (.int p0), .val (.int p0)] [])) _
    refine XS.iloadN X0.here hx rfl (hb hby d1_2) rfl ?_
    exact kt
  by_cases hc3 : p0 < (0 : Int32)
  · -- it is
    have c2 : ∀ t, Steps p.tables e below (s₁.setTop (mkF m 11 #[.val (.int p0), .val (.int p0)] [(.int (p0 + (256 : Int32)))])) t → Steps p.tables e below (s₁.setTop (mkF m 3 #[.val (.int p0), .val (.int p0)] [(.int p0)])) t := by
      intro t kt
      show Steps p.tables e below (s₁.setTop (mkF m 3 #[.val (.int p0), .val (.int p0)] [(.int p0)])) _
      refine XS.ifNo X0.here hx rfl (hb hby d1_3) rfl ((if0 _ _).trans (tlt hc3).2.1) ?_
      show Steps p.tables e below (s₁.setTop (mkF m 6 #[.val (.int p0), .val (.int p0)] [])) _
      refine XS.iloadN X0.here hx rfl (hb hby d1_6) rfl ?_
      show Steps p.tables e below (s₁.setTop (mkF m 7 #[.val (.int p0), .val (.int p0)] [(.int p0)])) _
      refine XS.sipush X0.here hx rfl (hb hby d1_7) ?_
      show Steps p.tables e below (s₁.setTop (mkF m 10 #[.val (.int p0), .val (.int p0)] [(.int (256 : Int32)), (.int p0)])) _
      refine XS.iadd X0.here hx rfl (hb hby d1_10) rfl ?_
      exact kt
    obtain ⟨fs, hr, hrun, hended, hW, hsame⟩ := X0.leave (v := some (.int (p0 + (256 : Int32)))) (fun h => by rw [Bd.returns] at h; cases h)
    refine ⟨_, _, pre0 _ (c1 _ (c2 _ (?_))), hrun, hended, _, _, rfl, ?_, ⟨_, rfl⟩, hW, hsame.mono (by decide) (by decide)⟩
    · show Steps p.tables e below (s₁.setTop (mkF m 11 #[.val (.int p0), .val (.int p0)] [(.int (p0 + (256 : Int32)))])) _
      exact retI X0 hx Bd.returns (hb hby d1_11) hr
    · show Q1 Z p0 h0 n0 _ s₁.heap _
      rw [e0]
      exact ⟨congrArg (fun z => some (Value.int z)) (show (p0 + (256 : Int32)) = (own_us p0) from by simp [own_us, hc3]), N0, rfl⟩
  · -- it isn't
    have c4 : ∀ t, Steps p.tables e below (s₁.setTop (mkF m 13 #[.val (.int p0), .val (.int p0)] [(.int p0)])) t → Steps p.tables e below (s₁.setTop (mkF m 3 #[.val (.int p0), .val (.int p0)] [(.int p0)])) t := by
      intro t kt
      show Steps p.tables e below (s₁.setTop (mkF m 3 #[.val (.int p0), .val (.int p0)] [(.int p0)])) _
      refine XS.ifYes X0.here hx rfl (pc0 := 3) (pc' := 12) rfl (hb hby d1_3) rfl ((if0 _ _).trans (flt hc3).2.1) (by decide) (by decide) ?_
      show Steps p.tables e below (s₁.setTop (mkF m 12 #[.val (.int p0), .val (.int p0)] [])) _
      refine XS.iloadN X0.here hx rfl (hb hby d1_12) rfl ?_
      exact kt
    obtain ⟨fs, hr, hrun, hended, hW, hsame⟩ := X0.leave (v := some (.int p0)) (fun h => by rw [Bd.returns] at h; cases h)
    refine ⟨_, _, pre0 _ (c1 _ (c4 _ (?_))), hrun, hended, _, _, rfl, ?_, ⟨_, rfl⟩, hW, hsame.mono (by decide) (by decide)⟩
    · show Steps p.tables e below (s₁.setTop (mkF m 13 #[.val (.int p0), .val (.int p0)] [(.int p0)])) _
      exact retI X0 hx Bd.returns (hb hby d1_13) hr
    · show Q1 Z p0 h0 n0 _ s₁.heap _
      rw [e0]
      exact ⟨congrArg (fun z => some (Value.int z)) (show p0 = (own_us p0) from by simp [own_us, hc3]), N0, rfl⟩
theorem d2_0 : decode prog_72_method_1_code 0 = .ok (.aload_n 0, 1) := by decide +kernel
theorem d2_1 : decode prog_72_method_1_code 1 = .ok (.invokespecial 1, 3) := by decide +kernel
theorem d2_4 : decode prog_72_method_1_code 4 = .ok (.aload_n 0, 1) := by decide +kernel
theorem d2_5 : decode prog_72_method_1_code 5 = .ok (.aload_n 1, 1) := by decide +kernel
theorem d2_6 : decode prog_72_method_1_code 6 = .ok (.putfield 7, 3) := by decide +kernel
theorem d2_9 : decode prog_72_method_1_code 9 = .ok (.return_, 1) := by decide +kernel
theorem pn_2 : plainName "com/example/mapstone/mapstone/rf2/LineBytes" = true := by first | (simp [plainName, overriddenIn]; done) | decide +kernel
theorem ef_2 (m : MethodId) (x0 : Addr) (x1 : Addr) : entryFrame m #[(.ref x0), (.ref x1)] 2 = mkF m 0 #[.val (.ref x0), .val (.ref x1)] [] := by first | (simp [entryFrame, mkF, argsToLocals, Value.category]; done) | rfl
def Q2 (Z : State) (r0 : Addr) (r1 : Addr) (h0 : Heap) (n0 : Nat) (v : Option Value) (h : Heap) (L : List Loc) : Prop := v = none ∧ Fr n0 L ∧ Keep h0 h [r0] ∧ Exa Z h r0 "com/example/mapstone/mapstone/rf2/LineBytes" ∧ Fld Z h r0 "com/example/mapstone/mapstone/rf2/LineBytes" "bytes" "[B" (.ref r1)
set_option maxRecDepth 65536 in
set_option maxHeartbeats 40000000 in
theorem rm2 (l : Launch) (Z : State) (a0 : Array Value) (hw : ∀ d ∈ tables_1, d.before a0 Z = true) (ws : List Jvm.Cond) (r0 : Addr) (r1 : Addr)  (h0 : Heap) (n0 : Nat) (Z0 : n0 ≤ h0.size) (F0 : Fld Z h0 r0 "com/example/mapstone/mapstone/rf2/LineBytes" "bytes" "[B" .null) (E0 : Exa Z h0 r0 "com/example/mapstone/mapstone/rf2/LineBytes") (g_r0 : n0 ≤ r0) :
    MetFree l (⟨"com/example/mapstone/mapstone/rf2/LineBytes", "<init>", "([B)V"⟩ : MethodName) (head1 (Jvm.Cond.code (⟨"com/example/mapstone/mapstone/rf2/LineBytes", "<init>", "([B)V"⟩ : MethodName) prog_72_method_1_code 2 none :: ws) ({ frames := 1, cells := 0, slots := 0, locals := 12 } : Room)) (fun a U => a = #[(.ref r0), (.ref r1)] ∧ Z.Warmed39 U.vm ∧ U.heap = h0) (fun _ _ _ _ _ => True) (fun _ U o U' => ∃ v L, o = .returned v ∧ Q2 Z r0 r1 h0 n0 v U'.heap L ∧ FrameEnd U o U' L ({ frames := 1, cells := 0, slots := 0, locals := 12 } : Room).cells ({ frames := 1, cells := 0, slots := 0, locals := 12 } : Room).slots) := by
  refine MetFree.of_bodySF (plainFor_of_name pn_2) hisR ?_
  intro p e s m args below meth c s₁ Bd hml0 hP hK
  obtain ⟨rfl, hZ, hh⟩ := hP
  have hx := Bd.exec
  have hby := Bd.bytes
  have hml : c.maxLocals = 2 := hml0
  have hown : s.vm.findClass "com/example/mapstone/mapstone/rf2/LineBytes" = some m.cls := findClass_of_methodNamed Bd.named
  have hnm := (name_of_methodNamed Bd.named Bd.method).1
  have X0 : Stand p l e ({ frames := 1, cells := 0, slots := 0, locals := 12 } : Room) s m #[(.ref r0), (.ref r1)] below meth c s₁ [] 0 0 := Stand.of_body Bd
  have e0 : s₁.heap = h0 := by rw [← hh, Bd.state]; rfl
  have N0 := Fr.nil n0
  have pre0 : ∀ t, Steps p.tables e below (s₁.setTop (mkF m 0 #[.val (.ref r0), .val (.ref r1)] [])) t → Steps p.tables e below (s₁.setTop (entryFrame m #[(.ref r0), (.ref r1)] 2)) t := fun t k => castTop (ef_2 m r0 r1) k
  have c2 : ∀ t, Steps p.tables e below (s₁.setTop (mkF m 1 #[.val (.ref r0), .val (.ref r1)] [(.ref r0)])) t → Steps p.tables e below (s₁.setTop (mkF m 0 #[.val (.ref r0), .val (.ref r1)] [])) t := by
    intro t kt
    show Steps p.tables e below (s₁.setTop (mkF m 0 #[.val (.ref r0), .val (.ref r1)] [])) _
    refine XS.aloadN X0.here hx rfl (hb hby d2_0) rfl rfl ?_
    exact kt
  obtain ⟨T1, X1, e1, st1⟩ := initO X0 hx hZ hown (hw _ (List.mem_of_getElem? (i := 11) rfl)) (hw _ (List.mem_of_getElem? (i := 12) rfl)) (hw _ (List.mem_of_getElem? (i := 13) rfl)) e0 (g := (mkF m 1 #[.val (.ref r0), .val (.ref r1)] [(.ref r0)])) rfl (by rw [hml]; rfl) rfl (hb hby d2_1) (by decide) (W := 0) (by show 2 * 0 + _ ≤ _; exact Nat.le_of_eq rfl) (by decide)
  have c4 : ∀ t, Steps p.tables e below (T1.setTop (mkF m 6 #[.val (.ref r0), .val (.ref r1)] [(.ref r1), (.ref r0)])) t → Steps p.tables e below (T1.setTop (mkF m 4 #[.val (.ref r0), .val (.ref r1)] [])) t := by
    intro t kt
    show Steps p.tables e below (T1.setTop (mkF m 4 #[.val (.ref r0), .val (.ref r1)] [])) _
    refine XS.aloadN X1.here hx rfl (hb hby d2_4) rfl rfl ?_
    show Steps p.tables e below (T1.setTop (mkF m 5 #[.val (.ref r0), .val (.ref r1)] [(.ref r0)])) _
    refine XS.aloadN X1.here hx rfl (hb hby d2_5) rfl rfl ?_
    exact kt
  obtain ⟨T3, h3, X3, e3, W3, st3⟩ := putF X1 hx hZ hown (host := "") (Or.inl (hw _ (List.mem_of_getElem? (i := 14) rfl))) Via.refl e1 F0 E0 (Or.inr ⟨(hw _ (List.mem_of_getElem? (i := 15) rfl)), rfl, hnm⟩) (hw _ (List.mem_of_getElem? (i := 6) rfl)) (ty := (.array .byte)) (by decide) rfl rfl (g := (mkF m 6 #[.val (.ref r0), .val (.ref r1)] [(.ref r1), (.ref r0)])) rfl rfl (hb hby d2_6)
  have Fw3 := F0.same W3
  have N3 := Fr.snoc X3 N0 g_r0
  obtain ⟨fs, hr, hrun, hended, hW, hsame⟩ := X3.leave (v := none) (fun _ => rfl)
  have f6 := ((Keep.refl h0 [r0]).wr W3 (Or.inl (List.mem_of_getElem? (i := 0) rfl)))
  have f7 := (E0.wr W3)
  refine ⟨_, _, pre0 _ (c2 _ (st1 _ (c4 _ (st3 _ (?_))))), hrun, hended, _, _, rfl, ?_, ⟨_, rfl⟩, hW, hsame.mono (by decide) (by decide)⟩
  · show Steps p.tables e below (T3.setTop (mkF m 9 #[.val (.ref r0), .val (.ref r1)] [])) _
    exact X3.returnOut hx Bd.returns (hb hby d2_9) hr
  · show Q2 Z r0 r1 h0 n0 _ T3.heap _
    rw [e3]
    exact ⟨rfl, N3, f6, f7, Fw3⟩
theorem d4_0 : decode prog_72_method_3_code 0 = .ok (.aload_n 0, 1) := by decide +kernel
theorem d4_1 : decode prog_72_method_3_code 1 = .ok (.getfield 7, 3) := by decide +kernel
theorem d4_4 : decode prog_72_method_3_code 4 = .ok (.iload_n 1, 1) := by decide +kernel
theorem d4_5 : decode prog_72_method_3_code 5 = .ok (.baload, 1) := by decide +kernel
theorem d4_6 : decode prog_72_method_3_code 6 = .ok (.sipush 255, 3) := by decide +kernel
theorem d4_9 : decode prog_72_method_3_code 9 = .ok (.iand, 1) := by decide +kernel
theorem d4_10 : decode prog_72_method_3_code 10 = .ok (.i2c, 1) := by decide +kernel
theorem d4_11 : decode prog_72_method_3_code 11 = .ok (.ireturn, 1) := by decide +kernel
theorem pn_4 : plainName "com/example/mapstone/mapstone/rf2/LineBytes" = true := by first | (simp [plainName, overriddenIn]; done) | decide +kernel
theorem ef_4 (m : MethodId) (x0 : Addr) (x1 : Int32) : entryFrame m #[(.ref x0), (.int x1)] 2 = mkF m 0 #[.val (.ref x0), .val (.int x1)] [] := by first | (simp [entryFrame, mkF, argsToLocals, Value.category]; done) | rfl
def Q4 (Z : State) (r0 : Addr) (p1 : Int32) (rb : Addr) (kk : ClassId) (zz : Int32) (vs : List Value) (dv : Value) (w0 : Int32) (h0 : Heap) (n0 : Nat) (v : Option Value) (h : Heap) (L : List Loc) : Prop := v = some (.int (own_ch w0)) ∧ Fr n0 L ∧ h = h0
set_option maxRecDepth 65536 in
set_option maxHeartbeats 40000000 in
theorem rm4 (l : Launch) (Z : State) (a0 : Array Value) (hw : ∀ d ∈ tables_1, d.before a0 Z = true) (ws : List Jvm.Cond) (r0 : Addr) (p1 : Int32) (rb : Addr) (kk : ClassId) (zz : Int32) (vs : List Value) (dv : Value) (w0 : Int32) (h0 : Heap) (n0 : Nat) (Z0 : n0 ≤ h0.size) (F0 : Fld Z h0 r0 "com/example/mapstone/mapstone/rf2/LineBytes" "bytes" "[B" (.ref rb)) (V : Arv Z h0 rb kk .byte zz vs dv) (hi0 : ¬ p1 < 0 ∧ p1 < zz) (ha0 : vs.getD p1.toNatClampNeg dv = .int w0) :
    MetFree l (⟨"com/example/mapstone/mapstone/rf2/LineBytes", "charAt", "(I)C"⟩ : MethodName) (head1 (Jvm.Cond.code (⟨"com/example/mapstone/mapstone/rf2/LineBytes", "charAt", "(I)C"⟩ : MethodName) prog_72_method_3_code 2 (some .char) :: ws) ({ frames := 0, cells := 0, slots := 0, locals := 0 } : Room)) (fun a U => a = #[(.ref r0), (.int p1)] ∧ Z.Warmed39 U.vm ∧ U.heap = h0) (fun _ _ _ _ _ => True) (fun _ U o U' => ∃ v L, o = .returned v ∧ Q4 Z r0 p1 rb kk zz vs dv w0 h0 n0 v U'.heap L ∧ FrameEnd U o U' L ({ frames := 0, cells := 0, slots := 0, locals := 0 } : Room).cells ({ frames := 0, cells := 0, slots := 0, locals := 0 } : Room).slots) := by
  refine MetFree.of_bodySF (plainFor_of_name pn_4) hisR ?_
  intro p e s m args below meth c s₁ Bd hml0 hP hK
  obtain ⟨rfl, hZ, hh⟩ := hP
  have hx := Bd.exec
  have hby := Bd.bytes
  have hml : c.maxLocals = 2 := hml0
  have hown : s.vm.findClass "com/example/mapstone/mapstone/rf2/LineBytes" = some m.cls := findClass_of_methodNamed Bd.named
  have hnm := (name_of_methodNamed Bd.named Bd.method).1
  have X0 : Stand p l e ({ frames := 0, cells := 0, slots := 0, locals := 0 } : Room) s m #[(.ref r0), (.int p1)] below meth c s₁ [] 0 0 := Stand.of_body Bd
  have e0 : s₁.heap = h0 := by rw [← hh, Bd.state]; rfl
  have N0 := Fr.nil n0
  have pre0 : ∀ t, Steps p.tables e below (s₁.setTop (mkF m 0 #[.val (.ref r0), .val (.int p1)] [])) t → Steps p.tables e below (s₁.setTop (entryFrame m #[(.ref r0), (.int p1)] 2)) t := fun t k => castTop (ef_4 m r0 p1) k
  have c2 : ∀ t, Steps p.tables e below (s₁.setTop (mkF m 1 #[.val (.ref r0), .val (.int p1)] [(.ref r0)])) t → Steps p.tables e below (s₁.setTop (mkF m 0 #[.val (.ref r0), .val (.int p1)] [])) t := by
    intro t kt
    show Steps p.tables e below (s₁.setTop (mkF m 0 #[.val (.ref r0), .val (.int p1)] [])) _
    refine XS.aloadN X0.here hx rfl (hb hby d4_0) rfl rfl ?_
    exact kt
  obtain ⟨T1, X1, e1, st1⟩ := getF X0 hx hZ hown (host := "") (Or.inl (hw _ (List.mem_of_getElem? (i := 14) rfl))) Via.refl e0 F0 (g := (mkF m 1 #[.val (.ref r0), .val (.int p1)] [(.ref r0)])) rfl rfl (hb hby d4_1)
  have Vc3 := V
  obtain ⟨cl3, Ar3, qk3, S3, M3, H3, G3⟩ := Vc3
  have hin3 : ¬ (p1 < 0 ∨ cl3.slots.size ≤ (p1).toNatClampNeg) := inb_of S3 hi0
  have hat3 : cl3.slots[(p1).toNatClampNeg]? = some (.int w0) := H3.at hin3 ha0
  have c4 : ∀ t, Steps p.tables e below (T1.setTop (mkF m 11 #[.val (.ref r0), .val (.int p1)] [(.int ((w0 &&& (255 : Int32)).toUInt32.toUInt16.toUInt32.toInt32))])) t → Steps p.tables e below (T1.setTop (mkF m 4 #[.val (.ref r0), .val (.int p1)] [(.ref rb)])) t := by
    intro t kt
    show Steps p.tables e below (T1.setTop (mkF m 4 #[.val (.ref r0), .val (.int p1)] [(.ref rb)])) _
    refine XS.iloadN X1.here hx rfl (hb hby d4_4) rfl ?_
    show Steps p.tables e below (T1.setTop (mkF m 5 #[.val (.ref r0), .val (.int p1)] [(.int p1), (.ref rb)])) _
    refine X1.baloadBytes hx (j := p1) (v := (.int w0)) (by rw [e1]; exact Ar3.1) (State.isArrayOf_alike hZ.alike Ar3.2.1) Ar3.2.2 hin3 hat3 (g := (mkF m 5 #[.val (.ref r0), .val (.int p1)] [(.int p1), (.ref rb)])) rfl rfl (hb hby d4_5) _ ?_
    show Steps p.tables e below (T1.setTop (mkF m 6 #[.val (.ref r0), .val (.int p1)] [(.int w0)])) _
    refine XS.sipush X1.here hx rfl (hb hby d4_6) ?_
    show Steps p.tables e below (T1.setTop (mkF m 9 #[.val (.ref r0), .val (.int p1)] [(.int (255 : Int32)), (.int w0)])) _
    refine XS.iand X1.here hx rfl (hb hby d4_9) rfl ?_
    show Steps p.tables e below (T1.setTop (mkF m 10 #[.val (.ref r0), .val (.int p1)] [(.int (w0 &&& (255 : Int32)))])) _
    refine XS.i2c X1.here hx rfl (hb hby d4_10) rfl ?_
    exact kt
  obtain ⟨fs, hr, hrun, hended, hW, hsame⟩ := X1.leave (v := some (.int (((w0 &&& (255 : Int32)).toUInt32.toUInt16.toUInt32.toInt32).toUInt32.toUInt16.toUInt32.toInt32))) (fun h => by rw [Bd.returns] at h; cases h)
  refine ⟨_, _, pre0 _ (c2 _ (st1 _ (c4 _ (?_)))), hrun, hended, _, _, rfl, ?_, ⟨_, rfl⟩, hW, hsame.mono (by decide) (by decide)⟩
  · show Steps p.tables e below (T1.setTop (mkF m 11 #[.val (.ref r0), .val (.int p1)] [(.int ((w0 &&& (255 : Int32)).toUInt32.toUInt16.toUInt32.toInt32))])) _
    exact retN X1 hx (t := .char) Bd.returns (by simp) (hb hby d4_11) hr
  · show Q4 Z r0 p1 rb kk zz vs dv w0 h0 n0 _ T1.heap _
    rw [e1]
    exact ⟨congrArg (fun z => some (Value.int z)) (show (((w0 &&& (255 : Int32)).toUInt32.toUInt16.toUInt32.toInt32).toUInt32.toUInt16.toUInt32.toInt32) = (own_ch w0) from by rfl), N0, rfl⟩
theorem pn_0 : plainName "com/example/mapstone/mapstone/rf2/LineBytesCharAtPinLaw" = true := by first | (simp [plainName, overriddenIn]; done) | decide +kernel
theorem ef_0 (m : MethodId) (x0 : Int32) (x1 : Int32) (x2 : Int32) : entryFrame m #[(.int x0), (.int x1), (.int x2)] maxLocals = mkF m 0 #[.val (.int x0), .val (.int x1), .val (.int x2), .unset, .unset, .unset, .unset, .unset, .unset, .unset, .unset] [] := by first | (simp [entryFrame, mkF, argsToLocals, Value.category, maxLocals]; done) | rfl
def Q0 (Z : State) (p0 : Int32) (p1 : Int32) (p2 : Int32) (h0 : Heap) (n0 : Nat) (v : Option Value) (h : Heap) (L : List Loc) : Prop := v = some (.int 1) ∧ Fr n0 L
set_option maxRecDepth 65536 in
set_option maxHeartbeats 40000000 in
theorem rm0 (l : Launch) (Z : State) (a0 : Array Value) (hw : ∀ d ∈ tables_1, d.before a0 Z = true) (ws : List Jvm.Cond) (p0 : Int32) (p1 : Int32) (p2 : Int32)  (h0 : Heap) (n0 : Nat) (Z0 : n0 ≤ h0.size) :
    MetFree l x (head1 (Jvm.Cond.code x code maxLocals ret :: ws) room_1) (fun a U => a = #[(.int p0), (.int p1), (.int p2)] ∧ Z.Warmed39 U.vm ∧ U.heap = h0) (fun _ _ _ _ _ => True) (fun _ U o U' => ∃ v L, o = .returned v ∧ Q0 Z p0 p1 p2 h0 n0 v U'.heap L ∧ FrameEnd U o U' L room_1.cells room_1.slots) := by
  refine MetFree.of_bodySF (plainFor_of_name pn_0) hisR ?_
  intro p e s m args below meth c s₁ Bd hml0 hP hK
  obtain ⟨rfl, hZ, hh⟩ := hP
  have hx := Bd.exec
  have hby := Bd.bytes
  have hml : c.maxLocals = 11 := hml0
  have hown : s.vm.findClass "com/example/mapstone/mapstone/rf2/LineBytesCharAtPinLaw" = some m.cls := findClass_of_methodNamed Bd.named
  have hnm := (name_of_methodNamed Bd.named Bd.method).1
  have X0 : Stand p l e room_1 s m #[(.int p0), (.int p1), (.int p2)] below meth c s₁ [] 0 0 := Stand.of_body Bd
  have e0 : s₁.heap = h0 := by rw [← hh, Bd.state]; rfl
  have N0 := Fr.nil n0
  have pre0 : ∀ t, Steps p.tables e below (s₁.setTop (mkF m 0 #[.val (.int p0), .val (.int p1), .val (.int p2), .unset, .unset, .unset, .unset, .unset, .unset, .unset, .unset] [])) t → Steps p.tables e below (s₁.setTop (entryFrame m #[(.int p0), (.int p1), (.int p2)] maxLocals)) t := fun t k => castTop (ef_0 m p0 p1 p2) k
  have c2 : ∀ t, Steps p.tables e below (s₁.setTop (mkF m 1 #[.val (.int p0), .val (.int p1), .val (.int p2), .unset, .unset, .unset, .unset, .unset, .unset, .unset, .unset] [(.int (3 : Int32))])) t → Steps p.tables e below (s₁.setTop (mkF m 0 #[.val (.int p0), .val (.int p1), .val (.int p2), .unset, .unset, .unset, .unset, .unset, .unset, .unset, .unset] [])) t := by
    intro t kt
    show Steps p.tables e below (s₁.setTop (mkF m 0 #[.val (.int p0), .val (.int p1), .val (.int p2), .unset, .unset, .unset, .unset, .unset, .unset, .unset, .unset] [])) _
    refine XS.iconst X0.here hx rfl (hb hby at_0) ?_
    exact kt
  obtain ⟨T1, h1, k1, X1, e1, E1, A1, st1⟩ := newP X0 hx hZ (hw _ (List.mem_of_getElem? (i := 0) rfl)) e0 (g := (mkF m 1 #[.val (.int p0), .val (.int p1), .val (.int p2), .unset, .unset, .unset, .unset, .unset, .unset, .unset, .unset] [(.int (3 : Int32))])) rfl (hb hby at_1) rfl (by decide) (cap := 3) (by decide) (by decide) (by decide) (by decide)
  obtain ⟨b1, g1⟩ : ∃ z, z = h0.size := ⟨_, rfl⟩
  rw [← g1] at A1 st1
  have g_b1 : n0 ≤ b1 := Nat.le_trans Z0 (Nat.le_of_eq g1.symm)
  have sz_b1 : h0.size ≤ b1 := Nat.le_trans (Keep.refl h0 []).1 (Nat.le_of_eq g1.symm)
  have V1 : Arv Z h1 b1 k1 .byte (3 : Int32) [(.int (0 : Int32)), (.int (0 : Int32)), (.int (0 : Int32))] (.int (0 : Int32)) := (Arv.new A1 (by decide)).pad (pad_rep [] (.int (0 : Int32)) 3)
  have c3 : ∀ t, Steps p.tables e below (T1.setTop (mkF m 8 #[.val (.int p0), .val (.int p1), .val (.int p2), .val (.ref b1), .unset, .unset, .unset, .unset, .unset, .unset, .unset] [(.int (p0.toInt8.toInt32)), (.int (0 : Int32)), (.ref b1)])) t → Steps p.tables e below (T1.setTop (mkF m 3 #[.val (.int p0), .val (.int p1), .val (.int p2), .unset, .unset, .unset, .unset, .unset, .unset, .unset, .unset] [(.ref b1)])) t := by
    intro t kt
    show Steps p.tables e below (T1.setTop (mkF m 3 #[.val (.int p0), .val (.int p1), .val (.int p2), .unset, .unset, .unset, .unset, .unset, .unset, .unset, .unset] [(.ref b1)])) _
    refine XS.astoreN X1.here hx rfl (hb hby at_3) rfl rfl (l' := #[.val (.int p0), .val (.int p1), .val (.int p2), .val (.ref b1), .unset, .unset, .unset, .unset, .unset, .unset, .unset]) rfl ?_
    show Steps p.tables e below (T1.setTop (mkF m 4 #[.val (.int p0), .val (.int p1), .val (.int p2), .val (.ref b1), .unset, .unset, .unset, .unset, .unset, .unset, .unset] [])) _
    refine XS.aloadN X1.here hx rfl (hb hby at_4) rfl rfl ?_
    show Steps p.tables e below (T1.setTop (mkF m 5 #[.val (.int p0), .val (.int p1), .val (.int p2), .val (.ref b1), .unset, .unset, .unset, .unset, .unset, .unset, .unset] [(.ref b1)])) _
    refine XS.iconst X1.here hx rfl (hb hby at_5) ?_
    show Steps p.tables e below (T1.setTop (mkF m 6 #[.val (.int p0), .val (.int p1), .val (.int p2), .val (.ref b1), .unset, .unset, .unset, .unset, .unset, .unset, .unset] [(.int (0 : Int32)), (.ref b1)])) _
    refine XS.iloadN X1.here hx rfl (hb hby at_6) rfl ?_
    show Steps p.tables e below (T1.setTop (mkF m 7 #[.val (.int p0), .val (.int p1), .val (.int p2), .val (.ref b1), .unset, .unset, .unset, .unset, .unset, .unset, .unset] [(.int p0), (.int (0 : Int32)), (.ref b1)])) _
    refine XS.i2b X1.here hx rfl (hb hby at_7) rfl ?_
    exact kt
  have Vc4 := V1
  obtain ⟨cl4, Ar4, qk4, S4, M4, H4, G4⟩ := Vc4
  have hin4 : ¬ ((0 : Int32) < 0 ∨ cl4.slots.size ≤ ((0 : Int32)).toNatClampNeg) := inb_of S4 ⟨by decide, by decide⟩
  obtain ⟨T5, h5, X5, e5, W5, st5⟩ := stB X1 hx hZ e1 Ar4 (j := (0 : Int32)) hin4 (g := (mkF m 8 #[.val (.int p0), .val (.int p1), .val (.int p2), .val (.ref b1), .unset, .unset, .unset, .unset, .unset, .unset, .unset] [(.int (p0.toInt8.toInt32)), (.int (0 : Int32)), (.ref b1)])) rfl rfl (hb hby at_8)
  have V5 : Arv Z h5 b1 k1 .byte (3 : Int32) [(.int ((p0.toInt8.toInt32).toInt8.toInt32)), (.int (0 : Int32)), (.int (0 : Int32))] (.int (0 : Int32)) := Arv.set Ar4 qk4 S4 M4 H4 G4 (fits_nar_byte _) W5 0 rfl (Nat.le_of_ble_eq_true rfl)
  have N5 := Fr.snoc X5 N0 g_b1
  have c6 : ∀ t, Steps p.tables e below (T5.setTop (mkF m 13 #[.val (.int p0), .val (.int p1), .val (.int p2), .val (.ref b1), .unset, .unset, .unset, .unset, .unset, .unset, .unset] [(.int (p1.toInt8.toInt32)), (.int (1 : Int32)), (.ref b1)])) t → Steps p.tables e below (T5.setTop (mkF m 9 #[.val (.int p0), .val (.int p1), .val (.int p2), .val (.ref b1), .unset, .unset, .unset, .unset, .unset, .unset, .unset] [])) t := by
    intro t kt
    show Steps p.tables e below (T5.setTop (mkF m 9 #[.val (.int p0), .val (.int p1), .val (.int p2), .val (.ref b1), .unset, .unset, .unset, .unset, .unset, .unset, .unset] [])) _
    refine XS.aloadN X5.here hx rfl (hb hby at_9) rfl rfl ?_
    show Steps p.tables e below (T5.setTop (mkF m 10 #[.val (.int p0), .val (.int p1), .val (.int p2), .val (.ref b1), .unset, .unset, .unset, .unset, .unset, .unset, .unset] [(.ref b1)])) _
    refine XS.iconst X5.here hx rfl (hb hby at_10) ?_
    show Steps p.tables e below (T5.setTop (mkF m 11 #[.val (.int p0), .val (.int p1), .val (.int p2), .val (.ref b1), .unset, .unset, .unset, .unset, .unset, .unset, .unset] [(.int (1 : Int32)), (.ref b1)])) _
    refine XS.iloadN X5.here hx rfl (hb hby at_11) rfl ?_
    show Steps p.tables e below (T5.setTop (mkF m 12 #[.val (.int p0), .val (.int p1), .val (.int p2), .val (.ref b1), .unset, .unset, .unset, .unset, .unset, .unset, .unset] [(.int p1), (.int (1 : Int32)), (.ref b1)])) _
    refine XS.i2b X5.here hx rfl (hb hby at_12) rfl ?_
    exact kt
  have Vc7 := V5
  obtain ⟨cl7, Ar7, qk7, S7, M7, H7, G7⟩ := Vc7
  have hin7 : ¬ ((1 : Int32) < 0 ∨ cl7.slots.size ≤ ((1 : Int32)).toNatClampNeg) := inb_of S7 ⟨by decide, by decide⟩
  obtain ⟨T8, h8, X8, e8, W8, st8⟩ := stB X5 hx hZ e5 Ar7 (j := (1 : Int32)) hin7 (g := (mkF m 13 #[.val (.int p0), .val (.int p1), .val (.int p2), .val (.ref b1), .unset, .unset, .unset, .unset, .unset, .unset, .unset] [(.int (p1.toInt8.toInt32)), (.int (1 : Int32)), (.ref b1)])) rfl rfl (hb hby at_13)
  have V8 : Arv Z h8 b1 k1 .byte (3 : Int32) [(.int ((p0.toInt8.toInt32).toInt8.toInt32)), (.int ((p1.toInt8.toInt32).toInt8.toInt32)), (.int (0 : Int32))] (.int (0 : Int32)) := Arv.set Ar7 qk7 S7 M7 H7 G7 (fits_nar_byte _) W8 1 rfl (Nat.le_of_ble_eq_true rfl)
  have N8 := Fr.snoc X8 N5 g_b1
  have c9 : ∀ t, Steps p.tables e below (T8.setTop (mkF m 18 #[.val (.int p0), .val (.int p1), .val (.int p2), .val (.ref b1), .unset, .unset, .unset, .unset, .unset, .unset, .unset] [(.int (p2.toInt8.toInt32)), (.int (2 : Int32)), (.ref b1)])) t → Steps p.tables e below (T8.setTop (mkF m 14 #[.val (.int p0), .val (.int p1), .val (.int p2), .val (.ref b1), .unset, .unset, .unset, .unset, .unset, .unset, .unset] [])) t := by
    intro t kt
    show Steps p.tables e below (T8.setTop (mkF m 14 #[.val (.int p0), .val (.int p1), .val (.int p2), .val (.ref b1), .unset, .unset, .unset, .unset, .unset, .unset, .unset] [])) _
    refine XS.aloadN X8.here hx rfl (hb hby at_14) rfl rfl ?_
    show Steps p.tables e below (T8.setTop (mkF m 15 #[.val (.int p0), .val (.int p1), .val (.int p2), .val (.ref b1), .unset, .unset, .unset, .unset, .unset, .unset, .unset] [(.ref b1)])) _
    refine XS.iconst X8.here hx rfl (hb hby at_15) ?_
    show Steps p.tables e below (T8.setTop (mkF m 16 #[.val (.int p0), .val (.int p1), .val (.int p2), .val (.ref b1), .unset, .unset, .unset, .unset, .unset, .unset, .unset] [(.int (2 : Int32)), (.ref b1)])) _
    refine XS.iloadN X8.here hx rfl (hb hby at_16) rfl ?_
    show Steps p.tables e below (T8.setTop (mkF m 17 #[.val (.int p0), .val (.int p1), .val (.int p2), .val (.ref b1), .unset, .unset, .unset, .unset, .unset, .unset, .unset] [(.int p2), (.int (2 : Int32)), (.ref b1)])) _
    refine XS.i2b X8.here hx rfl (hb hby at_17) rfl ?_
    exact kt
  have Vc10 := V8
  obtain ⟨cl10, Ar10, qk10, S10, M10, H10, G10⟩ := Vc10
  have hin10 : ¬ ((2 : Int32) < 0 ∨ cl10.slots.size ≤ ((2 : Int32)).toNatClampNeg) := inb_of S10 ⟨by decide, by decide⟩
  obtain ⟨T11, h11, X11, e11, W11, st11⟩ := stB X8 hx hZ e8 Ar10 (j := (2 : Int32)) hin10 (g := (mkF m 18 #[.val (.int p0), .val (.int p1), .val (.int p2), .val (.ref b1), .unset, .unset, .unset, .unset, .unset, .unset, .unset] [(.int (p2.toInt8.toInt32)), (.int (2 : Int32)), (.ref b1)])) rfl rfl (hb hby at_18)
  have V11 : Arv Z h11 b1 k1 .byte (3 : Int32) [(.int ((p0.toInt8.toInt32).toInt8.toInt32)), (.int ((p1.toInt8.toInt32).toInt8.toInt32)), (.int ((p2.toInt8.toInt32).toInt8.toInt32))] (.int (0 : Int32)) := Arv.set Ar10 qk10 S10 M10 H10 G10 (fits_nar_byte _) W11 2 rfl (Nat.le_of_ble_eq_true rfl)
  have N11 := Fr.snoc X11 N8 g_b1
  have Vc12 := V11
  obtain ⟨cl12, Ar12, qk12, S12, M12, H12, G12⟩ := Vc12
  have hin12 : ¬ ((0 : Int32) < 0 ∨ cl12.slots.size ≤ ((0 : Int32)).toNatClampNeg) := inb_of S12 ⟨by decide, by decide⟩
  have hat12 : cl12.slots[((0 : Int32)).toNatClampNeg]? = some (.int ((p0.toInt8.toInt32).toInt8.toInt32)) := H12.at hin12 rfl
  have c13 : ∀ t, Steps p.tables e below (T11.setTop (mkF m 22 #[.val (.int p0), .val (.int p1), .val (.int p2), .val (.ref b1), .unset, .unset, .unset, .unset, .unset, .unset, .unset] [(.int ((p0.toInt8.toInt32).toInt8.toInt32))])) t → Steps p.tables e below (T11.setTop (mkF m 19 #[.val (.int p0), .val (.int p1), .val (.int p2), .val (.ref b1), .unset, .unset, .unset, .unset, .unset, .unset, .unset] [])) t := by
    intro t kt
    show Steps p.tables e below (T11.setTop (mkF m 19 #[.val (.int p0), .val (.int p1), .val (.int p2), .val (.ref b1), .unset, .unset, .unset, .unset, .unset, .unset, .unset] [])) _
    refine XS.aloadN X11.here hx rfl (hb hby at_19) rfl rfl ?_
    show Steps p.tables e below (T11.setTop (mkF m 20 #[.val (.int p0), .val (.int p1), .val (.int p2), .val (.ref b1), .unset, .unset, .unset, .unset, .unset, .unset, .unset] [(.ref b1)])) _
    refine XS.iconst X11.here hx rfl (hb hby at_20) ?_
    show Steps p.tables e below (T11.setTop (mkF m 21 #[.val (.int p0), .val (.int p1), .val (.int p2), .val (.ref b1), .unset, .unset, .unset, .unset, .unset, .unset, .unset] [(.int (0 : Int32)), (.ref b1)])) _
    refine X11.baloadBytes hx (j := (0 : Int32)) (v := (.int ((p0.toInt8.toInt32).toInt8.toInt32))) (by rw [e11]; exact Ar12.1) (State.isArrayOf_alike hZ.alike Ar12.2.1) Ar12.2.2 hin12 hat12 (g := (mkF m 21 #[.val (.int p0), .val (.int p1), .val (.int p2), .val (.ref b1), .unset, .unset, .unset, .unset, .unset, .unset, .unset] [(.int (0 : Int32)), (.ref b1)])) rfl rfl (hb hby at_21) _ ?_
    exact kt
  have f14 := (Nat.le_trans (Nat.le_trans (Nat.le_trans (Nat.le_trans Z0 E1.1) (Keep.of_wr W5).1) (Keep.of_wr W8).1) (Keep.of_wr W11).1)
  obtain ⟨_, _, ⟨T15, L15, k15, n15⟩, -, X15, ⟨Lc15, hQ15, l15, y15, z15⟩, st15⟩ := Jvm.LawKit.callS X11 hx (y := (⟨"com/example/mapstone/mapstone/rf2/LineBytesCharAtPinLaw", "expected", "(B)I"⟩ : MethodName)) hown (mvT hZ (hw _ (List.mem_of_getElem? (i := 1) rfl))) (mvT hZ (hw _ (List.mem_of_getElem? (i := 2) rfl))) (mvT hZ (hw _ (List.mem_of_getElem? (i := 3) rfl))) (mvT hZ (hw _ (List.mem_of_getElem? (i := 4) rfl))) (by decide) (backOf (W := 0) (rm1 l Z a0 hw [] ((p0.toInt8.toInt32).toInt8.toInt32)  h11 n0 f14 ) hZ (hw _ (List.mem_of_getElem? (i := 4) rfl)) (hw _ (List.mem_of_getElem? (i := 3) rfl)) (by decide) (by decide)) (g := (mkF m 22 #[.val (.int p0), .val (.int p1), .val (.int p2), .val (.ref b1), .unset, .unset, .unset, .unset, .unset, .unset, .unset] [(.int ((p0.toInt8.toInt32).toInt8.toInt32))])) rfl (by rw [hml]; rfl) (argsL := [(.int ((p0.toInt8.toInt32).toInt8.toInt32))]) (rest := []) (lenOf pd_0 rfl) rfl (by show 2 * 0 + _ ≤ _; exact Nat.le_of_eq rfl) (hb hby at_22) (fun _ _ => ⟨rfl, e11, (by decide : 1 + 0 ≤ _), (by decide : 3 + 0 ≤ _)⟩)
  dsimp only [Pt.U, Pt.locs, Pt.cells, Pt.slots] at X15 l15 y15 z15 st15 hQ15
  subst l15 y15 z15
  obtain ⟨rfl, N15q, e15⟩ := hQ15
  have N15 := Fr.app N11 N15q
  have Vc16 := V11
  obtain ⟨cl16, Ar16, qk16, S16, M16, H16, G16⟩ := Vc16
  have hin16 : ¬ ((1 : Int32) < 0 ∨ cl16.slots.size ≤ ((1 : Int32)).toNatClampNeg) := inb_of S16 ⟨by decide, by decide⟩
  have hat16 : cl16.slots[((1 : Int32)).toNatClampNeg]? = some (.int ((p1.toInt8.toInt32).toInt8.toInt32)) := H16.at hin16 rfl
  have c17 : ∀ t, Steps p.tables e below (T15.setTop (mkF m 30 #[.val (.int p0), .val (.int p1), .val (.int p2), .val (.ref b1), .val (.int (own_us ((p0.toInt8.toInt32).toInt8.toInt32))), .unset, .unset, .unset, .unset, .unset, .unset] [(.int ((p1.toInt8.toInt32).toInt8.toInt32))])) t → Steps p.tables e below (T15.setTop (mkF m 25 #[.val (.int p0), .val (.int p1), .val (.int p2), .val (.ref b1), .unset, .unset, .unset, .unset, .unset, .unset, .unset] [(.int (own_us ((p0.toInt8.toInt32).toInt8.toInt32)))])) t := by
    intro t kt
    show Steps p.tables e below (T15.setTop (mkF m 25 #[.val (.int p0), .val (.int p1), .val (.int p2), .val (.ref b1), .unset, .unset, .unset, .unset, .unset, .unset, .unset] [(.int (own_us ((p0.toInt8.toInt32).toInt8.toInt32)))])) _
    refine XS.istore X15.here hx rfl (hb hby at_25) rfl (l' := #[.val (.int p0), .val (.int p1), .val (.int p2), .val (.ref b1), .val (.int (own_us ((p0.toInt8.toInt32).toInt8.toInt32))), .unset, .unset, .unset, .unset, .unset, .unset]) rfl ?_
    show Steps p.tables e below (T15.setTop (mkF m 27 #[.val (.int p0), .val (.int p1), .val (.int p2), .val (.ref b1), .val (.int (own_us ((p0.toInt8.toInt32).toInt8.toInt32))), .unset, .unset, .unset, .unset, .unset, .unset] [])) _
    refine XS.aloadN X15.here hx rfl (hb hby at_27) rfl rfl ?_
    show Steps p.tables e below (T15.setTop (mkF m 28 #[.val (.int p0), .val (.int p1), .val (.int p2), .val (.ref b1), .val (.int (own_us ((p0.toInt8.toInt32).toInt8.toInt32))), .unset, .unset, .unset, .unset, .unset, .unset] [(.ref b1)])) _
    refine XS.iconst X15.here hx rfl (hb hby at_28) ?_
    show Steps p.tables e below (T15.setTop (mkF m 29 #[.val (.int p0), .val (.int p1), .val (.int p2), .val (.ref b1), .val (.int (own_us ((p0.toInt8.toInt32).toInt8.toInt32))), .unset, .unset, .unset, .unset, .unset, .unset] [(.int (1 : Int32)), (.ref b1)])) _
    refine X15.baloadBytes hx (j := (1 : Int32)) (v := (.int ((p1.toInt8.toInt32).toInt8.toInt32))) (by rw [e15]; exact Ar16.1) (State.isArrayOf_alike hZ.alike Ar16.2.1) Ar16.2.2 hin16 hat16 (g := (mkF m 29 #[.val (.int p0), .val (.int p1), .val (.int p2), .val (.ref b1), .val (.int (own_us ((p0.toInt8.toInt32).toInt8.toInt32))), .unset, .unset, .unset, .unset, .unset, .unset] [(.int (1 : Int32)), (.ref b1)])) rfl rfl (hb hby at_29) _ ?_
    exact kt
  obtain ⟨_, _, ⟨T18, L18, k18, n18⟩, -, X18, ⟨Lc18, hQ18, l18, y18, z18⟩, st18⟩ := Jvm.LawKit.callS X15 hx (y := (⟨"com/example/mapstone/mapstone/rf2/LineBytesCharAtPinLaw", "expected", "(B)I"⟩ : MethodName)) hown (mvT hZ (hw _ (List.mem_of_getElem? (i := 1) rfl))) (mvT hZ (hw _ (List.mem_of_getElem? (i := 2) rfl))) (mvT hZ (hw _ (List.mem_of_getElem? (i := 3) rfl))) (mvT hZ (hw _ (List.mem_of_getElem? (i := 4) rfl))) (by decide) (backOf (W := 0) (rm1 l Z a0 hw [] ((p1.toInt8.toInt32).toInt8.toInt32)  h11 n0 f14 ) hZ (hw _ (List.mem_of_getElem? (i := 4) rfl)) (hw _ (List.mem_of_getElem? (i := 3) rfl)) (by decide) (by decide)) (g := (mkF m 30 #[.val (.int p0), .val (.int p1), .val (.int p2), .val (.ref b1), .val (.int (own_us ((p0.toInt8.toInt32).toInt8.toInt32))), .unset, .unset, .unset, .unset, .unset, .unset] [(.int ((p1.toInt8.toInt32).toInt8.toInt32))])) rfl (by rw [hml]; rfl) (argsL := [(.int ((p1.toInt8.toInt32).toInt8.toInt32))]) (rest := []) (lenOf pd_0 rfl) rfl (by show 2 * 0 + _ ≤ _; exact Nat.le_of_eq rfl) (hb hby at_30) (fun _ _ => ⟨rfl, e15, (by decide : 1 + 0 ≤ _), (by decide : 3 + 0 ≤ _)⟩)
  dsimp only [Pt.U, Pt.locs, Pt.cells, Pt.slots] at X18 l18 y18 z18 st18 hQ18
  subst l18 y18 z18
  obtain ⟨rfl, N18q, e18⟩ := hQ18
  have N18 := Fr.app N15 N18q
  have Vc19 := V11
  obtain ⟨cl19, Ar19, qk19, S19, M19, H19, G19⟩ := Vc19
  have hin19 : ¬ ((2 : Int32) < 0 ∨ cl19.slots.size ≤ ((2 : Int32)).toNatClampNeg) := inb_of S19 ⟨by decide, by decide⟩
  have hat19 : cl19.slots[((2 : Int32)).toNatClampNeg]? = some (.int ((p2.toInt8.toInt32).toInt8.toInt32)) := H19.at hin19 rfl
  have c20 : ∀ t, Steps p.tables e below (T18.setTop (mkF m 38 #[.val (.int p0), .val (.int p1), .val (.int p2), .val (.ref b1), .val (.int (own_us ((p0.toInt8.toInt32).toInt8.toInt32))), .val (.int (own_us ((p1.toInt8.toInt32).toInt8.toInt32))), .unset, .unset, .unset, .unset, .unset] [(.int ((p2.toInt8.toInt32).toInt8.toInt32))])) t → Steps p.tables e below (T18.setTop (mkF m 33 #[.val (.int p0), .val (.int p1), .val (.int p2), .val (.ref b1), .val (.int (own_us ((p0.toInt8.toInt32).toInt8.toInt32))), .unset, .unset, .unset, .unset, .unset, .unset] [(.int (own_us ((p1.toInt8.toInt32).toInt8.toInt32)))])) t := by
    intro t kt
    show Steps p.tables e below (T18.setTop (mkF m 33 #[.val (.int p0), .val (.int p1), .val (.int p2), .val (.ref b1), .val (.int (own_us ((p0.toInt8.toInt32).toInt8.toInt32))), .unset, .unset, .unset, .unset, .unset, .unset] [(.int (own_us ((p1.toInt8.toInt32).toInt8.toInt32)))])) _
    refine XS.istore X18.here hx rfl (hb hby at_33) rfl (l' := #[.val (.int p0), .val (.int p1), .val (.int p2), .val (.ref b1), .val (.int (own_us ((p0.toInt8.toInt32).toInt8.toInt32))), .val (.int (own_us ((p1.toInt8.toInt32).toInt8.toInt32))), .unset, .unset, .unset, .unset, .unset]) rfl ?_
    show Steps p.tables e below (T18.setTop (mkF m 35 #[.val (.int p0), .val (.int p1), .val (.int p2), .val (.ref b1), .val (.int (own_us ((p0.toInt8.toInt32).toInt8.toInt32))), .val (.int (own_us ((p1.toInt8.toInt32).toInt8.toInt32))), .unset, .unset, .unset, .unset, .unset] [])) _
    refine XS.aloadN X18.here hx rfl (hb hby at_35) rfl rfl ?_
    show Steps p.tables e below (T18.setTop (mkF m 36 #[.val (.int p0), .val (.int p1), .val (.int p2), .val (.ref b1), .val (.int (own_us ((p0.toInt8.toInt32).toInt8.toInt32))), .val (.int (own_us ((p1.toInt8.toInt32).toInt8.toInt32))), .unset, .unset, .unset, .unset, .unset] [(.ref b1)])) _
    refine XS.iconst X18.here hx rfl (hb hby at_36) ?_
    show Steps p.tables e below (T18.setTop (mkF m 37 #[.val (.int p0), .val (.int p1), .val (.int p2), .val (.ref b1), .val (.int (own_us ((p0.toInt8.toInt32).toInt8.toInt32))), .val (.int (own_us ((p1.toInt8.toInt32).toInt8.toInt32))), .unset, .unset, .unset, .unset, .unset] [(.int (2 : Int32)), (.ref b1)])) _
    refine X18.baloadBytes hx (j := (2 : Int32)) (v := (.int ((p2.toInt8.toInt32).toInt8.toInt32))) (by rw [e18]; exact Ar19.1) (State.isArrayOf_alike hZ.alike Ar19.2.1) Ar19.2.2 hin19 hat19 (g := (mkF m 37 #[.val (.int p0), .val (.int p1), .val (.int p2), .val (.ref b1), .val (.int (own_us ((p0.toInt8.toInt32).toInt8.toInt32))), .val (.int (own_us ((p1.toInt8.toInt32).toInt8.toInt32))), .unset, .unset, .unset, .unset, .unset] [(.int (2 : Int32)), (.ref b1)])) rfl rfl (hb hby at_37) _ ?_
    exact kt
  obtain ⟨_, _, ⟨T21, L21, k21, n21⟩, -, X21, ⟨Lc21, hQ21, l21, y21, z21⟩, st21⟩ := Jvm.LawKit.callS X18 hx (y := (⟨"com/example/mapstone/mapstone/rf2/LineBytesCharAtPinLaw", "expected", "(B)I"⟩ : MethodName)) hown (mvT hZ (hw _ (List.mem_of_getElem? (i := 1) rfl))) (mvT hZ (hw _ (List.mem_of_getElem? (i := 2) rfl))) (mvT hZ (hw _ (List.mem_of_getElem? (i := 3) rfl))) (mvT hZ (hw _ (List.mem_of_getElem? (i := 4) rfl))) (by decide) (backOf (W := 0) (rm1 l Z a0 hw [] ((p2.toInt8.toInt32).toInt8.toInt32)  h11 n0 f14 ) hZ (hw _ (List.mem_of_getElem? (i := 4) rfl)) (hw _ (List.mem_of_getElem? (i := 3) rfl)) (by decide) (by decide)) (g := (mkF m 38 #[.val (.int p0), .val (.int p1), .val (.int p2), .val (.ref b1), .val (.int (own_us ((p0.toInt8.toInt32).toInt8.toInt32))), .val (.int (own_us ((p1.toInt8.toInt32).toInt8.toInt32))), .unset, .unset, .unset, .unset, .unset] [(.int ((p2.toInt8.toInt32).toInt8.toInt32))])) rfl (by rw [hml]; rfl) (argsL := [(.int ((p2.toInt8.toInt32).toInt8.toInt32))]) (rest := []) (lenOf pd_0 rfl) rfl (by show 2 * 0 + _ ≤ _; exact Nat.le_of_eq rfl) (hb hby at_38) (fun _ _ => ⟨rfl, e18, (by decide : 1 + 0 ≤ _), (by decide : 3 + 0 ≤ _)⟩)
  dsimp only [Pt.U, Pt.locs, Pt.cells, Pt.slots] at X21 l21 y21 z21 st21 hQ21
  subst l21 y21 z21
  obtain ⟨rfl, N21q, e21⟩ := hQ21
  have N21 := Fr.app N18 N21q
  have c23 : ∀ t, Steps p.tables e below (T21.setTop (mkF m 43 #[.val (.int p0), .val (.int p1), .val (.int p2), .val (.ref b1), .val (.int (own_us ((p0.toInt8.toInt32).toInt8.toInt32))), .val (.int (own_us ((p1.toInt8.toInt32).toInt8.toInt32))), .val (.int (own_us ((p2.toInt8.toInt32).toInt8.toInt32))), .unset, .unset, .unset, .unset] [])) t → Steps p.tables e below (T21.setTop (mkF m 41 #[.val (.int p0), .val (.int p1), .val (.int p2), .val (.ref b1), .val (.int (own_us ((p0.toInt8.toInt32).toInt8.toInt32))), .val (.int (own_us ((p1.toInt8.toInt32).toInt8.toInt32))), .unset, .unset, .unset, .unset, .unset] [(.int (own_us ((p2.toInt8.toInt32).toInt8.toInt32)))])) t := by
    intro t kt
    show Steps p.tables e below (T21.setTop (mkF m 41 #[.val (.int p0), .val (.int p1), .val (.int p2), .val (.ref b1), .val (.int (own_us ((p0.toInt8.toInt32).toInt8.toInt32))), .val (.int (own_us ((p1.toInt8.toInt32).toInt8.toInt32))), .unset, .unset, .unset, .unset, .unset] [(.int (own_us ((p2.toInt8.toInt32).toInt8.toInt32)))])) _
    refine XS.istore X21.here hx rfl (hb hby at_41) rfl (l' := #[.val (.int p0), .val (.int p1), .val (.int p2), .val (.ref b1), .val (.int (own_us ((p0.toInt8.toInt32).toInt8.toInt32))), .val (.int (own_us ((p1.toInt8.toInt32).toInt8.toInt32))), .val (.int (own_us ((p2.toInt8.toInt32).toInt8.toInt32))), .unset, .unset, .unset, .unset]) rfl ?_
    exact kt
  obtain ⟨T22, h22, X22, e22, E22, A22, D22, -, st22⟩ := newO X21 hx hZ hown (hw _ (List.mem_of_getElem? (i := 5) rfl)) (hw _ (List.mem_of_getElem? (i := 6) rfl)) (hw _ (List.mem_of_getElem? (i := 7) rfl)) e21 (g := (mkF m 43 #[.val (.int p0), .val (.int p1), .val (.int p2), .val (.ref b1), .val (.int (own_us ((p0.toInt8.toInt32).toInt8.toInt32))), .val (.int (own_us ((p1.toInt8.toInt32).toInt8.toInt32))), .val (.int (own_us ((p2.toInt8.toInt32).toInt8.toInt32))), .unset, .unset, .unset, .unset] [])) rfl (hb hby at_43) (by decide) (by decide)
  obtain ⟨b22, g22⟩ : ∃ z, z = h11.size := ⟨_, rfl⟩
  rw [← g22] at A22 D22 st22
  have f24 := (((((Keep.refl h0 []).ext E1).wr W5 (Or.inr sz_b1)).wr W8 (Or.inr sz_b1)).wr W11 (Or.inr sz_b1))
  have g_b22 : n0 ≤ b22 := Nat.le_trans f14 (Nat.le_of_eq g22.symm)
  have sz_b22 : h0.size ≤ b22 := Nat.le_trans f24.1 (Nat.le_of_eq g22.symm)
  have lt_b1_22 := V11.lt
  have F22_bytes : Fld Z h22 b22 "com/example/mapstone/mapstone/rf2/LineBytes" "bytes" "[B" .null := D22 (Or.inr (hw _ (List.mem_of_getElem? (i := 15) rfl))) (ty := (.array .byte)) (by decide)
  have c25 : ∀ t, Steps p.tables e below (T22.setTop (mkF m 48 #[.val (.int p0), .val (.int p1), .val (.int p2), .val (.ref b1), .val (.int (own_us ((p0.toInt8.toInt32).toInt8.toInt32))), .val (.int (own_us ((p1.toInt8.toInt32).toInt8.toInt32))), .val (.int (own_us ((p2.toInt8.toInt32).toInt8.toInt32))), .unset, .unset, .unset, .unset] [(.ref b1), (.ref b22), (.ref b22)])) t → Steps p.tables e below (T22.setTop (mkF m 46 #[.val (.int p0), .val (.int p1), .val (.int p2), .val (.ref b1), .val (.int (own_us ((p0.toInt8.toInt32).toInt8.toInt32))), .val (.int (own_us ((p1.toInt8.toInt32).toInt8.toInt32))), .val (.int (own_us ((p2.toInt8.toInt32).toInt8.toInt32))), .unset, .unset, .unset, .unset] [(.ref b22)])) t := by
    intro t kt
    show Steps p.tables e below (T22.setTop (mkF m 46 #[.val (.int p0), .val (.int p1), .val (.int p2), .val (.ref b1), .val (.int (own_us ((p0.toInt8.toInt32).toInt8.toInt32))), .val (.int (own_us ((p1.toInt8.toInt32).toInt8.toInt32))), .val (.int (own_us ((p2.toInt8.toInt32).toInt8.toInt32))), .unset, .unset, .unset, .unset] [(.ref b22)])) _
    refine XS.dup X22.here hx rfl (hb hby at_46) rfl rfl ?_
    show Steps p.tables e below (T22.setTop (mkF m 47 #[.val (.int p0), .val (.int p1), .val (.int p2), .val (.ref b1), .val (.int (own_us ((p0.toInt8.toInt32).toInt8.toInt32))), .val (.int (own_us ((p1.toInt8.toInt32).toInt8.toInt32))), .val (.int (own_us ((p2.toInt8.toInt32).toInt8.toInt32))), .unset, .unset, .unset, .unset] [(.ref b22), (.ref b22)])) _
    refine XS.aloadN X22.here hx rfl (hb hby at_47) rfl rfl ?_
    exact kt
  have f26 := (Nat.le_trans f14 E22.1)
  obtain ⟨_, _, ⟨T27, L27, k27, n27⟩, -, X27, ⟨Lc27, hQ27, l27, y27, z27⟩, st27⟩ := X22.specialBack hx (y := (⟨"com/example/mapstone/mapstone/rf2/LineBytes", "<init>", "([B)V"⟩ : MethodName)) rfl hown (mvT hZ (hw _ (List.mem_of_getElem? (i := 8) rfl))) (mvT hZ (hw _ (List.mem_of_getElem? (i := 9) rfl))) (mvT hZ (hw _ (List.mem_of_getElem? (i := 10) rfl))) (by decide) (backOf (W := 1) (rm2 l Z a0 hw [] b22 b1  h22 n0 f26 F22_bytes A22 g_b22) hZ (hw _ (List.mem_of_getElem? (i := 10) rfl)) (hw _ (List.mem_of_getElem? (i := 7) rfl)) (by decide) (by decide)) (g := (mkF m 48 #[.val (.int p0), .val (.int p1), .val (.int p2), .val (.ref b1), .val (.int (own_us ((p0.toInt8.toInt32).toInt8.toInt32))), .val (.int (own_us ((p1.toInt8.toInt32).toInt8.toInt32))), .val (.int (own_us ((p2.toInt8.toInt32).toInt8.toInt32))), .unset, .unset, .unset, .unset] [(.ref b1), (.ref b22), (.ref b22)])) rfl (by rw [hml]; rfl) (Steps.refl _) (a := b22) (argsL := [(.ref b1)]) (rest := [(.ref b22)]) (lenOf pd_1 rfl) rfl (by show 2 * 0 + _ ≤ _; exact Nat.le_of_eq rfl) (hb hby at_48) (fun _ _ => ⟨rfl, e22, (by decide : 2 + 0 ≤ _), (by decide : 4 + 0 ≤ _)⟩)
  dsimp only [Pt.U, Pt.locs, Pt.cells, Pt.slots] at X27 l27 y27 z27 st27 hQ27
  subst l27 y27 z27
  obtain ⟨rfl, N27q, Kq27, Eq27, Fq27_0⟩ := hQ27
  have N27 := Fr.app N21 N27q
  have c28 : ∀ t, Steps p.tables e below (T27.setTop (mkF m 56 #[.val (.int p0), .val (.int p1), .val (.int p2), .val (.ref b1), .val (.int (own_us ((p0.toInt8.toInt32).toInt8.toInt32))), .val (.int (own_us ((p1.toInt8.toInt32).toInt8.toInt32))), .val (.int (own_us ((p2.toInt8.toInt32).toInt8.toInt32))), .val (.ref b22), .unset, .unset, .unset] [(.int (0 : Int32)), (.ref b22)])) t → Steps p.tables e below (T27.setTop (mkF m 51 #[.val (.int p0), .val (.int p1), .val (.int p2), .val (.ref b1), .val (.int (own_us ((p0.toInt8.toInt32).toInt8.toInt32))), .val (.int (own_us ((p1.toInt8.toInt32).toInt8.toInt32))), .val (.int (own_us ((p2.toInt8.toInt32).toInt8.toInt32))), .unset, .unset, .unset, .unset] [(.ref b22)])) t := by
    intro t kt
    show Steps p.tables e below (T27.setTop (mkF m 51 #[.val (.int p0), .val (.int p1), .val (.int p2), .val (.ref b1), .val (.int (own_us ((p0.toInt8.toInt32).toInt8.toInt32))), .val (.int (own_us ((p1.toInt8.toInt32).toInt8.toInt32))), .val (.int (own_us ((p2.toInt8.toInt32).toInt8.toInt32))), .unset, .unset, .unset, .unset] [(.ref b22)])) _
    refine XS.astore X27.here hx rfl (hb hby at_51) rfl rfl (l' := #[.val (.int p0), .val (.int p1), .val (.int p2), .val (.ref b1), .val (.int (own_us ((p0.toInt8.toInt32).toInt8.toInt32))), .val (.int (own_us ((p1.toInt8.toInt32).toInt8.toInt32))), .val (.int (own_us ((p2.toInt8.toInt32).toInt8.toInt32))), .val (.ref b22), .unset, .unset, .unset]) rfl ?_
    show Steps p.tables e below (T27.setTop (mkF m 53 #[.val (.int p0), .val (.int p1), .val (.int p2), .val (.ref b1), .val (.int (own_us ((p0.toInt8.toInt32).toInt8.toInt32))), .val (.int (own_us ((p1.toInt8.toInt32).toInt8.toInt32))), .val (.int (own_us ((p2.toInt8.toInt32).toInt8.toInt32))), .val (.ref b22), .unset, .unset, .unset] [])) _
    refine XS.aload X27.here hx rfl (hb hby at_53) rfl rfl ?_
    show Steps p.tables e below (T27.setTop (mkF m 55 #[.val (.int p0), .val (.int p1), .val (.int p2), .val (.ref b1), .val (.int (own_us ((p0.toInt8.toInt32).toInt8.toInt32))), .val (.int (own_us ((p1.toInt8.toInt32).toInt8.toInt32))), .val (.int (own_us ((p2.toInt8.toInt32).toInt8.toInt32))), .val (.ref b22), .unset, .unset, .unset] [(.ref b22)])) _
    refine XS.iconst X27.here hx rfl (hb hby at_55) ?_
    exact kt
  have f29 := (Nat.le_trans f26 Kq27.1)
  have f30 := ((V11.ext E22).keep Kq27 (ninS (Nat.ne_of_lt (Nat.lt_of_lt_of_le lt_b1_22 (Nat.le_of_eq g22.symm))) nin0))
  obtain ⟨cq31, kq31, q31a, q31b, q31c⟩ := isOf hZ rfl Eq27
  obtain ⟨_, _, ⟨T32, L32, k32, n32⟩, -, X32, ⟨Lc32, hQ32, l32, y32, z32⟩, st32⟩ := X27.virtualBack hx (y := (⟨"com/example/mapstone/mapstone/rf2/LineBytes", "charAt", "(I)C"⟩ : MethodName)) (z := (⟨"com/example/mapstone/mapstone/rf2/LineBytes", "charAt", "(I)C"⟩ : MethodName)) hown (mvT hZ (hw _ (List.mem_of_getElem? (i := 16) rfl))) (mvT hZ (hw _ (List.mem_of_getElem? (i := 17) rfl))) (notFace_of_selects (args := #[]) (mvT hZ (hw _ (List.mem_of_getElem? (i := 19) rfl)))) (mvT hZ (hw _ (List.mem_of_getElem? (i := 19) rfl))) (mvT hZ (hw _ (List.mem_of_getElem? (i := 18) rfl))) (by decide) (backOf (W := 0) (rm4 l Z a0 hw [] b22 (0 : Int32) b1 k1 (3 : Int32) [(.int ((p0.toInt8.toInt32).toInt8.toInt32)), (.int ((p1.toInt8.toInt32).toInt8.toInt32)), (.int ((p2.toInt8.toInt32).toInt8.toInt32))] (.int (0 : Int32)) ((p0.toInt8.toInt32).toInt8.toInt32) T27.heap n0 f29 Fq27_0 f30 ⟨by decide, by decide⟩ rfl) hZ (hw _ (List.mem_of_getElem? (i := 20) rfl)) (hw _ (List.mem_of_getElem? (i := 7) rfl)) (by decide) (by decide)) q31a q31c (g := (mkF m 56 #[.val (.int p0), .val (.int p1), .val (.int p2), .val (.ref b1), .val (.int (own_us ((p0.toInt8.toInt32).toInt8.toInt32))), .val (.int (own_us ((p1.toInt8.toInt32).toInt8.toInt32))), .val (.int (own_us ((p2.toInt8.toInt32).toInt8.toInt32))), .val (.ref b22), .unset, .unset, .unset] [(.int (0 : Int32)), (.ref b22)])) rfl (by rw [hml]; rfl) (Steps.refl _) (argsL := [(.int (0 : Int32))]) (rest := []) (lenOf pd_2 rfl) rfl (by show 2 * 0 + _ ≤ _; exact Nat.le_of_eq rfl) (hb hby at_56) (fun _ _ => ⟨rfl, rfl, (by decide : 2 + 0 ≤ _), (by decide : 4 + 0 ≤ _)⟩)
  dsimp only [Pt.U, Pt.locs, Pt.cells, Pt.slots] at X32 l32 y32 z32 st32 hQ32
  subst l32 y32 z32
  obtain ⟨rfl, N32q, e32⟩ := hQ32
  have N32 := Fr.app N27 N32q
  have c33 : ∀ t, Steps p.tables e below (T32.setTop (mkF m 64 #[.val (.int p0), .val (.int p1), .val (.int p2), .val (.ref b1), .val (.int (own_us ((p0.toInt8.toInt32).toInt8.toInt32))), .val (.int (own_us ((p1.toInt8.toInt32).toInt8.toInt32))), .val (.int (own_us ((p2.toInt8.toInt32).toInt8.toInt32))), .val (.ref b22), .val (.int (own_ch ((p0.toInt8.toInt32).toInt8.toInt32))), .unset, .unset] [(.int (1 : Int32)), (.ref b22)])) t → Steps p.tables e below (T32.setTop (mkF m 59 #[.val (.int p0), .val (.int p1), .val (.int p2), .val (.ref b1), .val (.int (own_us ((p0.toInt8.toInt32).toInt8.toInt32))), .val (.int (own_us ((p1.toInt8.toInt32).toInt8.toInt32))), .val (.int (own_us ((p2.toInt8.toInt32).toInt8.toInt32))), .val (.ref b22), .unset, .unset, .unset] [(.int (own_ch ((p0.toInt8.toInt32).toInt8.toInt32)))])) t := by
    intro t kt
    show Steps p.tables e below (T32.setTop (mkF m 59 #[.val (.int p0), .val (.int p1), .val (.int p2), .val (.ref b1), .val (.int (own_us ((p0.toInt8.toInt32).toInt8.toInt32))), .val (.int (own_us ((p1.toInt8.toInt32).toInt8.toInt32))), .val (.int (own_us ((p2.toInt8.toInt32).toInt8.toInt32))), .val (.ref b22), .unset, .unset, .unset] [(.int (own_ch ((p0.toInt8.toInt32).toInt8.toInt32)))])) _
    refine XS.istore X32.here hx rfl (hb hby at_59) rfl (l' := #[.val (.int p0), .val (.int p1), .val (.int p2), .val (.ref b1), .val (.int (own_us ((p0.toInt8.toInt32).toInt8.toInt32))), .val (.int (own_us ((p1.toInt8.toInt32).toInt8.toInt32))), .val (.int (own_us ((p2.toInt8.toInt32).toInt8.toInt32))), .val (.ref b22), .val (.int (own_ch ((p0.toInt8.toInt32).toInt8.toInt32))), .unset, .unset]) rfl ?_
    show Steps p.tables e below (T32.setTop (mkF m 61 #[.val (.int p0), .val (.int p1), .val (.int p2), .val (.ref b1), .val (.int (own_us ((p0.toInt8.toInt32).toInt8.toInt32))), .val (.int (own_us ((p1.toInt8.toInt32).toInt8.toInt32))), .val (.int (own_us ((p2.toInt8.toInt32).toInt8.toInt32))), .val (.ref b22), .val (.int (own_ch ((p0.toInt8.toInt32).toInt8.toInt32))), .unset, .unset] [])) _
    refine XS.aload X32.here hx rfl (hb hby at_61) rfl rfl ?_
    show Steps p.tables e below (T32.setTop (mkF m 63 #[.val (.int p0), .val (.int p1), .val (.int p2), .val (.ref b1), .val (.int (own_us ((p0.toInt8.toInt32).toInt8.toInt32))), .val (.int (own_us ((p1.toInt8.toInt32).toInt8.toInt32))), .val (.int (own_us ((p2.toInt8.toInt32).toInt8.toInt32))), .val (.ref b22), .val (.int (own_ch ((p0.toInt8.toInt32).toInt8.toInt32))), .unset, .unset] [(.ref b22)])) _
    refine XS.iconst X32.here hx rfl (hb hby at_63) ?_
    exact kt
  obtain ⟨cq34, kq34, q34a, q34b, q34c⟩ := isOf hZ e32 Eq27
  obtain ⟨_, _, ⟨T35, L35, k35, n35⟩, -, X35, ⟨Lc35, hQ35, l35, y35, z35⟩, st35⟩ := X32.virtualBack hx (y := (⟨"com/example/mapstone/mapstone/rf2/LineBytes", "charAt", "(I)C"⟩ : MethodName)) (z := (⟨"com/example/mapstone/mapstone/rf2/LineBytes", "charAt", "(I)C"⟩ : MethodName)) hown (mvT hZ (hw _ (List.mem_of_getElem? (i := 16) rfl))) (mvT hZ (hw _ (List.mem_of_getElem? (i := 17) rfl))) (notFace_of_selects (args := #[]) (mvT hZ (hw _ (List.mem_of_getElem? (i := 19) rfl)))) (mvT hZ (hw _ (List.mem_of_getElem? (i := 19) rfl))) (mvT hZ (hw _ (List.mem_of_getElem? (i := 18) rfl))) (by decide) (backOf (W := 0) (rm4 l Z a0 hw [] b22 (1 : Int32) b1 k1 (3 : Int32) [(.int ((p0.toInt8.toInt32).toInt8.toInt32)), (.int ((p1.toInt8.toInt32).toInt8.toInt32)), (.int ((p2.toInt8.toInt32).toInt8.toInt32))] (.int (0 : Int32)) ((p1.toInt8.toInt32).toInt8.toInt32) T27.heap n0 f29 Fq27_0 f30 ⟨by decide, by decide⟩ rfl) hZ (hw _ (List.mem_of_getElem? (i := 20) rfl)) (hw _ (List.mem_of_getElem? (i := 7) rfl)) (by decide) (by decide)) q34a q34c (g := (mkF m 64 #[.val (.int p0), .val (.int p1), .val (.int p2), .val (.ref b1), .val (.int (own_us ((p0.toInt8.toInt32).toInt8.toInt32))), .val (.int (own_us ((p1.toInt8.toInt32).toInt8.toInt32))), .val (.int (own_us ((p2.toInt8.toInt32).toInt8.toInt32))), .val (.ref b22), .val (.int (own_ch ((p0.toInt8.toInt32).toInt8.toInt32))), .unset, .unset] [(.int (1 : Int32)), (.ref b22)])) rfl (by rw [hml]; rfl) (Steps.refl _) (argsL := [(.int (1 : Int32))]) (rest := []) (lenOf pd_2 rfl) rfl (by show 2 * 0 + _ ≤ _; exact Nat.le_of_eq rfl) (hb hby at_64) (fun _ _ => ⟨rfl, e32, (by decide : 2 + 0 ≤ _), (by decide : 4 + 0 ≤ _)⟩)
  dsimp only [Pt.U, Pt.locs, Pt.cells, Pt.slots] at X35 l35 y35 z35 st35 hQ35
  subst l35 y35 z35
  obtain ⟨rfl, N35q, e35⟩ := hQ35
  have N35 := Fr.app N32 N35q
  have c36 : ∀ t, Steps p.tables e below (T35.setTop (mkF m 72 #[.val (.int p0), .val (.int p1), .val (.int p2), .val (.ref b1), .val (.int (own_us ((p0.toInt8.toInt32).toInt8.toInt32))), .val (.int (own_us ((p1.toInt8.toInt32).toInt8.toInt32))), .val (.int (own_us ((p2.toInt8.toInt32).toInt8.toInt32))), .val (.ref b22), .val (.int (own_ch ((p0.toInt8.toInt32).toInt8.toInt32))), .val (.int (own_ch ((p1.toInt8.toInt32).toInt8.toInt32))), .unset] [(.int (2 : Int32)), (.ref b22)])) t → Steps p.tables e below (T35.setTop (mkF m 67 #[.val (.int p0), .val (.int p1), .val (.int p2), .val (.ref b1), .val (.int (own_us ((p0.toInt8.toInt32).toInt8.toInt32))), .val (.int (own_us ((p1.toInt8.toInt32).toInt8.toInt32))), .val (.int (own_us ((p2.toInt8.toInt32).toInt8.toInt32))), .val (.ref b22), .val (.int (own_ch ((p0.toInt8.toInt32).toInt8.toInt32))), .unset, .unset] [(.int (own_ch ((p1.toInt8.toInt32).toInt8.toInt32)))])) t := by
    intro t kt
    show Steps p.tables e below (T35.setTop (mkF m 67 #[.val (.int p0), .val (.int p1), .val (.int p2), .val (.ref b1), .val (.int (own_us ((p0.toInt8.toInt32).toInt8.toInt32))), .val (.int (own_us ((p1.toInt8.toInt32).toInt8.toInt32))), .val (.int (own_us ((p2.toInt8.toInt32).toInt8.toInt32))), .val (.ref b22), .val (.int (own_ch ((p0.toInt8.toInt32).toInt8.toInt32))), .unset, .unset] [(.int (own_ch ((p1.toInt8.toInt32).toInt8.toInt32)))])) _
    refine XS.istore X35.here hx rfl (hb hby at_67) rfl (l' := #[.val (.int p0), .val (.int p1), .val (.int p2), .val (.ref b1), .val (.int (own_us ((p0.toInt8.toInt32).toInt8.toInt32))), .val (.int (own_us ((p1.toInt8.toInt32).toInt8.toInt32))), .val (.int (own_us ((p2.toInt8.toInt32).toInt8.toInt32))), .val (.ref b22), .val (.int (own_ch ((p0.toInt8.toInt32).toInt8.toInt32))), .val (.int (own_ch ((p1.toInt8.toInt32).toInt8.toInt32))), .unset]) rfl ?_
    show Steps p.tables e below (T35.setTop (mkF m 69 #[.val (.int p0), .val (.int p1), .val (.int p2), .val (.ref b1), .val (.int (own_us ((p0.toInt8.toInt32).toInt8.toInt32))), .val (.int (own_us ((p1.toInt8.toInt32).toInt8.toInt32))), .val (.int (own_us ((p2.toInt8.toInt32).toInt8.toInt32))), .val (.ref b22), .val (.int (own_ch ((p0.toInt8.toInt32).toInt8.toInt32))), .val (.int (own_ch ((p1.toInt8.toInt32).toInt8.toInt32))), .unset] [])) _
    refine XS.aload X35.here hx rfl (hb hby at_69) rfl rfl ?_
    show Steps p.tables e below (T35.setTop (mkF m 71 #[.val (.int p0), .val (.int p1), .val (.int p2), .val (.ref b1), .val (.int (own_us ((p0.toInt8.toInt32).toInt8.toInt32))), .val (.int (own_us ((p1.toInt8.toInt32).toInt8.toInt32))), .val (.int (own_us ((p2.toInt8.toInt32).toInt8.toInt32))), .val (.ref b22), .val (.int (own_ch ((p0.toInt8.toInt32).toInt8.toInt32))), .val (.int (own_ch ((p1.toInt8.toInt32).toInt8.toInt32))), .unset] [(.ref b22)])) _
    refine XS.iconst X35.here hx rfl (hb hby at_71) ?_
    exact kt
  obtain ⟨cq37, kq37, q37a, q37b, q37c⟩ := isOf hZ e35 Eq27
  obtain ⟨_, _, ⟨T38, L38, k38, n38⟩, -, X38, ⟨Lc38, hQ38, l38, y38, z38⟩, st38⟩ := X35.virtualBack hx (y := (⟨"com/example/mapstone/mapstone/rf2/LineBytes", "charAt", "(I)C"⟩ : MethodName)) (z := (⟨"com/example/mapstone/mapstone/rf2/LineBytes", "charAt", "(I)C"⟩ : MethodName)) hown (mvT hZ (hw _ (List.mem_of_getElem? (i := 16) rfl))) (mvT hZ (hw _ (List.mem_of_getElem? (i := 17) rfl))) (notFace_of_selects (args := #[]) (mvT hZ (hw _ (List.mem_of_getElem? (i := 19) rfl)))) (mvT hZ (hw _ (List.mem_of_getElem? (i := 19) rfl))) (mvT hZ (hw _ (List.mem_of_getElem? (i := 18) rfl))) (by decide) (backOf (W := 0) (rm4 l Z a0 hw [] b22 (2 : Int32) b1 k1 (3 : Int32) [(.int ((p0.toInt8.toInt32).toInt8.toInt32)), (.int ((p1.toInt8.toInt32).toInt8.toInt32)), (.int ((p2.toInt8.toInt32).toInt8.toInt32))] (.int (0 : Int32)) ((p2.toInt8.toInt32).toInt8.toInt32) T27.heap n0 f29 Fq27_0 f30 ⟨by decide, by decide⟩ rfl) hZ (hw _ (List.mem_of_getElem? (i := 20) rfl)) (hw _ (List.mem_of_getElem? (i := 7) rfl)) (by decide) (by decide)) q37a q37c (g := (mkF m 72 #[.val (.int p0), .val (.int p1), .val (.int p2), .val (.ref b1), .val (.int (own_us ((p0.toInt8.toInt32).toInt8.toInt32))), .val (.int (own_us ((p1.toInt8.toInt32).toInt8.toInt32))), .val (.int (own_us ((p2.toInt8.toInt32).toInt8.toInt32))), .val (.ref b22), .val (.int (own_ch ((p0.toInt8.toInt32).toInt8.toInt32))), .val (.int (own_ch ((p1.toInt8.toInt32).toInt8.toInt32))), .unset] [(.int (2 : Int32)), (.ref b22)])) rfl (by rw [hml]; rfl) (Steps.refl _) (argsL := [(.int (2 : Int32))]) (rest := []) (lenOf pd_2 rfl) rfl (by show 2 * 0 + _ ≤ _; exact Nat.le_of_eq rfl) (hb hby at_72) (fun _ _ => ⟨rfl, e35, (by decide : 2 + 0 ≤ _), (by decide : 4 + 0 ≤ _)⟩)
  dsimp only [Pt.U, Pt.locs, Pt.cells, Pt.slots] at X38 l38 y38 z38 st38 hQ38
  subst l38 y38 z38
  obtain ⟨rfl, N38q, e38⟩ := hQ38
  have N38 := Fr.app N35 N38q
  have c40 : ∀ t, Steps p.tables e below (T38.setTop (mkF m 81 #[.val (.int p0), .val (.int p1), .val (.int p2), .val (.ref b1), .val (.int (own_us ((p0.toInt8.toInt32).toInt8.toInt32))), .val (.int (own_us ((p1.toInt8.toInt32).toInt8.toInt32))), .val (.int (own_us ((p2.toInt8.toInt32).toInt8.toInt32))), .val (.ref b22), .val (.int (own_ch ((p0.toInt8.toInt32).toInt8.toInt32))), .val (.int (own_ch ((p1.toInt8.toInt32).toInt8.toInt32))), .val (.int (own_ch ((p2.toInt8.toInt32).toInt8.toInt32)))] [(.int (own_us ((p0.toInt8.toInt32).toInt8.toInt32))), (.int (own_ch ((p0.toInt8.toInt32).toInt8.toInt32)))])) t → Steps p.tables e below (T38.setTop (mkF m 75 #[.val (.int p0), .val (.int p1), .val (.int p2), .val (.ref b1), .val (.int (own_us ((p0.toInt8.toInt32).toInt8.toInt32))), .val (.int (own_us ((p1.toInt8.toInt32).toInt8.toInt32))), .val (.int (own_us ((p2.toInt8.toInt32).toInt8.toInt32))), .val (.ref b22), .val (.int (own_ch ((p0.toInt8.toInt32).toInt8.toInt32))), .val (.int (own_ch ((p1.toInt8.toInt32).toInt8.toInt32))), .unset] [(.int (own_ch ((p2.toInt8.toInt32).toInt8.toInt32)))])) t := by
    intro t kt
    show Steps p.tables e below (T38.setTop (mkF m 75 #[.val (.int p0), .val (.int p1), .val (.int p2), .val (.ref b1), .val (.int (own_us ((p0.toInt8.toInt32).toInt8.toInt32))), .val (.int (own_us ((p1.toInt8.toInt32).toInt8.toInt32))), .val (.int (own_us ((p2.toInt8.toInt32).toInt8.toInt32))), .val (.ref b22), .val (.int (own_ch ((p0.toInt8.toInt32).toInt8.toInt32))), .val (.int (own_ch ((p1.toInt8.toInt32).toInt8.toInt32))), .unset] [(.int (own_ch ((p2.toInt8.toInt32).toInt8.toInt32)))])) _
    refine XS.istore X38.here hx rfl (hb hby at_75) rfl (l' := #[.val (.int p0), .val (.int p1), .val (.int p2), .val (.ref b1), .val (.int (own_us ((p0.toInt8.toInt32).toInt8.toInt32))), .val (.int (own_us ((p1.toInt8.toInt32).toInt8.toInt32))), .val (.int (own_us ((p2.toInt8.toInt32).toInt8.toInt32))), .val (.ref b22), .val (.int (own_ch ((p0.toInt8.toInt32).toInt8.toInt32))), .val (.int (own_ch ((p1.toInt8.toInt32).toInt8.toInt32))), .val (.int (own_ch ((p2.toInt8.toInt32).toInt8.toInt32)))]) rfl ?_
    show Steps p.tables e below (T38.setTop (mkF m 77 #[.val (.int p0), .val (.int p1), .val (.int p2), .val (.ref b1), .val (.int (own_us ((p0.toInt8.toInt32).toInt8.toInt32))), .val (.int (own_us ((p1.toInt8.toInt32).toInt8.toInt32))), .val (.int (own_us ((p2.toInt8.toInt32).toInt8.toInt32))), .val (.ref b22), .val (.int (own_ch ((p0.toInt8.toInt32).toInt8.toInt32))), .val (.int (own_ch ((p1.toInt8.toInt32).toInt8.toInt32))), .val (.int (own_ch ((p2.toInt8.toInt32).toInt8.toInt32)))] [])) _
    refine XS.iload X38.here hx rfl (hb hby at_77) rfl ?_
    show Steps p.tables e below (T38.setTop (mkF m 79 #[.val (.int p0), .val (.int p1), .val (.int p2), .val (.ref b1), .val (.int (own_us ((p0.toInt8.toInt32).toInt8.toInt32))), .val (.int (own_us ((p1.toInt8.toInt32).toInt8.toInt32))), .val (.int (own_us ((p2.toInt8.toInt32).toInt8.toInt32))), .val (.ref b22), .val (.int (own_ch ((p0.toInt8.toInt32).toInt8.toInt32))), .val (.int (own_ch ((p1.toInt8.toInt32).toInt8.toInt32))), .val (.int (own_ch ((p2.toInt8.toInt32).toInt8.toInt32)))] [(.int (own_ch ((p0.toInt8.toInt32).toInt8.toInt32)))])) _
    refine XS.iload X38.here hx rfl (hb hby at_79) rfl ?_
    exact kt
  have hd39 : (own_ch ((p0.toInt8.toInt32).toInt8.toInt32)) = (own_us ((p0.toInt8.toInt32).toInt8.toInt32)) := own_eq _ (own_by _)
  have c42 : ∀ t, Steps p.tables e below (T38.setTop (mkF m 88 #[.val (.int p0), .val (.int p1), .val (.int p2), .val (.ref b1), .val (.int (own_us ((p0.toInt8.toInt32).toInt8.toInt32))), .val (.int (own_us ((p1.toInt8.toInt32).toInt8.toInt32))), .val (.int (own_us ((p2.toInt8.toInt32).toInt8.toInt32))), .val (.ref b22), .val (.int (own_ch ((p0.toInt8.toInt32).toInt8.toInt32))), .val (.int (own_ch ((p1.toInt8.toInt32).toInt8.toInt32))), .val (.int (own_ch ((p2.toInt8.toInt32).toInt8.toInt32)))] [(.int (own_us ((p1.toInt8.toInt32).toInt8.toInt32))), (.int (own_ch ((p1.toInt8.toInt32).toInt8.toInt32)))])) t → Steps p.tables e below (T38.setTop (mkF m 81 #[.val (.int p0), .val (.int p1), .val (.int p2), .val (.ref b1), .val (.int (own_us ((p0.toInt8.toInt32).toInt8.toInt32))), .val (.int (own_us ((p1.toInt8.toInt32).toInt8.toInt32))), .val (.int (own_us ((p2.toInt8.toInt32).toInt8.toInt32))), .val (.ref b22), .val (.int (own_ch ((p0.toInt8.toInt32).toInt8.toInt32))), .val (.int (own_ch ((p1.toInt8.toInt32).toInt8.toInt32))), .val (.int (own_ch ((p2.toInt8.toInt32).toInt8.toInt32)))] [(.int (own_us ((p0.toInt8.toInt32).toInt8.toInt32))), (.int (own_ch ((p0.toInt8.toInt32).toInt8.toInt32)))])) t := by
    intro t kt
    show Steps p.tables e below (T38.setTop (mkF m 81 #[.val (.int p0), .val (.int p1), .val (.int p2), .val (.ref b1), .val (.int (own_us ((p0.toInt8.toInt32).toInt8.toInt32))), .val (.int (own_us ((p1.toInt8.toInt32).toInt8.toInt32))), .val (.int (own_us ((p2.toInt8.toInt32).toInt8.toInt32))), .val (.ref b22), .val (.int (own_ch ((p0.toInt8.toInt32).toInt8.toInt32))), .val (.int (own_ch ((p1.toInt8.toInt32).toInt8.toInt32))), .val (.int (own_ch ((p2.toInt8.toInt32).toInt8.toInt32)))] [(.int (own_us ((p0.toInt8.toInt32).toInt8.toInt32))), (.int (own_ch ((p0.toInt8.toInt32).toInt8.toInt32)))])) _
    refine XS.icmpNo X38.here hx rfl (hb hby at_81) rfl (teq (hd39)).2 ?_
    show Steps p.tables e below (T38.setTop (mkF m 84 #[.val (.int p0), .val (.int p1), .val (.int p2), .val (.ref b1), .val (.int (own_us ((p0.toInt8.toInt32).toInt8.toInt32))), .val (.int (own_us ((p1.toInt8.toInt32).toInt8.toInt32))), .val (.int (own_us ((p2.toInt8.toInt32).toInt8.toInt32))), .val (.ref b22), .val (.int (own_ch ((p0.toInt8.toInt32).toInt8.toInt32))), .val (.int (own_ch ((p1.toInt8.toInt32).toInt8.toInt32))), .val (.int (own_ch ((p2.toInt8.toInt32).toInt8.toInt32)))] [])) _
    refine XS.iload X38.here hx rfl (hb hby at_84) rfl ?_
    show Steps p.tables e below (T38.setTop (mkF m 86 #[.val (.int p0), .val (.int p1), .val (.int p2), .val (.ref b1), .val (.int (own_us ((p0.toInt8.toInt32).toInt8.toInt32))), .val (.int (own_us ((p1.toInt8.toInt32).toInt8.toInt32))), .val (.int (own_us ((p2.toInt8.toInt32).toInt8.toInt32))), .val (.ref b22), .val (.int (own_ch ((p0.toInt8.toInt32).toInt8.toInt32))), .val (.int (own_ch ((p1.toInt8.toInt32).toInt8.toInt32))), .val (.int (own_ch ((p2.toInt8.toInt32).toInt8.toInt32)))] [(.int (own_ch ((p1.toInt8.toInt32).toInt8.toInt32)))])) _
    refine XS.iload X38.here hx rfl (hb hby at_86) rfl ?_
    exact kt
  have hd41 : (own_ch ((p1.toInt8.toInt32).toInt8.toInt32)) = (own_us ((p1.toInt8.toInt32).toInt8.toInt32)) := own_eq _ (own_by _)
  have c44 : ∀ t, Steps p.tables e below (T38.setTop (mkF m 95 #[.val (.int p0), .val (.int p1), .val (.int p2), .val (.ref b1), .val (.int (own_us ((p0.toInt8.toInt32).toInt8.toInt32))), .val (.int (own_us ((p1.toInt8.toInt32).toInt8.toInt32))), .val (.int (own_us ((p2.toInt8.toInt32).toInt8.toInt32))), .val (.ref b22), .val (.int (own_ch ((p0.toInt8.toInt32).toInt8.toInt32))), .val (.int (own_ch ((p1.toInt8.toInt32).toInt8.toInt32))), .val (.int (own_ch ((p2.toInt8.toInt32).toInt8.toInt32)))] [(.int (own_us ((p2.toInt8.toInt32).toInt8.toInt32))), (.int (own_ch ((p2.toInt8.toInt32).toInt8.toInt32)))])) t → Steps p.tables e below (T38.setTop (mkF m 88 #[.val (.int p0), .val (.int p1), .val (.int p2), .val (.ref b1), .val (.int (own_us ((p0.toInt8.toInt32).toInt8.toInt32))), .val (.int (own_us ((p1.toInt8.toInt32).toInt8.toInt32))), .val (.int (own_us ((p2.toInt8.toInt32).toInt8.toInt32))), .val (.ref b22), .val (.int (own_ch ((p0.toInt8.toInt32).toInt8.toInt32))), .val (.int (own_ch ((p1.toInt8.toInt32).toInt8.toInt32))), .val (.int (own_ch ((p2.toInt8.toInt32).toInt8.toInt32)))] [(.int (own_us ((p1.toInt8.toInt32).toInt8.toInt32))), (.int (own_ch ((p1.toInt8.toInt32).toInt8.toInt32)))])) t := by
    intro t kt
    show Steps p.tables e below (T38.setTop (mkF m 88 #[.val (.int p0), .val (.int p1), .val (.int p2), .val (.ref b1), .val (.int (own_us ((p0.toInt8.toInt32).toInt8.toInt32))), .val (.int (own_us ((p1.toInt8.toInt32).toInt8.toInt32))), .val (.int (own_us ((p2.toInt8.toInt32).toInt8.toInt32))), .val (.ref b22), .val (.int (own_ch ((p0.toInt8.toInt32).toInt8.toInt32))), .val (.int (own_ch ((p1.toInt8.toInt32).toInt8.toInt32))), .val (.int (own_ch ((p2.toInt8.toInt32).toInt8.toInt32)))] [(.int (own_us ((p1.toInt8.toInt32).toInt8.toInt32))), (.int (own_ch ((p1.toInt8.toInt32).toInt8.toInt32)))])) _
    refine XS.icmpNo X38.here hx rfl (hb hby at_88) rfl (teq (hd41)).2 ?_
    show Steps p.tables e below (T38.setTop (mkF m 91 #[.val (.int p0), .val (.int p1), .val (.int p2), .val (.ref b1), .val (.int (own_us ((p0.toInt8.toInt32).toInt8.toInt32))), .val (.int (own_us ((p1.toInt8.toInt32).toInt8.toInt32))), .val (.int (own_us ((p2.toInt8.toInt32).toInt8.toInt32))), .val (.ref b22), .val (.int (own_ch ((p0.toInt8.toInt32).toInt8.toInt32))), .val (.int (own_ch ((p1.toInt8.toInt32).toInt8.toInt32))), .val (.int (own_ch ((p2.toInt8.toInt32).toInt8.toInt32)))] [])) _
    refine XS.iload X38.here hx rfl (hb hby at_91) rfl ?_
    show Steps p.tables e below (T38.setTop (mkF m 93 #[.val (.int p0), .val (.int p1), .val (.int p2), .val (.ref b1), .val (.int (own_us ((p0.toInt8.toInt32).toInt8.toInt32))), .val (.int (own_us ((p1.toInt8.toInt32).toInt8.toInt32))), .val (.int (own_us ((p2.toInt8.toInt32).toInt8.toInt32))), .val (.ref b22), .val (.int (own_ch ((p0.toInt8.toInt32).toInt8.toInt32))), .val (.int (own_ch ((p1.toInt8.toInt32).toInt8.toInt32))), .val (.int (own_ch ((p2.toInt8.toInt32).toInt8.toInt32)))] [(.int (own_ch ((p2.toInt8.toInt32).toInt8.toInt32)))])) _
    refine XS.iload X38.here hx rfl (hb hby at_93) rfl ?_
    exact kt
  have hd43 : (own_ch ((p2.toInt8.toInt32).toInt8.toInt32)) = (own_us ((p2.toInt8.toInt32).toInt8.toInt32)) := own_eq _ (own_by _)
  have c45 : ∀ t, Steps p.tables e below (T38.setTop (mkF m 103 #[.val (.int p0), .val (.int p1), .val (.int p2), .val (.ref b1), .val (.int (own_us ((p0.toInt8.toInt32).toInt8.toInt32))), .val (.int (own_us ((p1.toInt8.toInt32).toInt8.toInt32))), .val (.int (own_us ((p2.toInt8.toInt32).toInt8.toInt32))), .val (.ref b22), .val (.int (own_ch ((p0.toInt8.toInt32).toInt8.toInt32))), .val (.int (own_ch ((p1.toInt8.toInt32).toInt8.toInt32))), .val (.int (own_ch ((p2.toInt8.toInt32).toInt8.toInt32)))] [(.int (1 : Int32))])) t → Steps p.tables e below (T38.setTop (mkF m 95 #[.val (.int p0), .val (.int p1), .val (.int p2), .val (.ref b1), .val (.int (own_us ((p0.toInt8.toInt32).toInt8.toInt32))), .val (.int (own_us ((p1.toInt8.toInt32).toInt8.toInt32))), .val (.int (own_us ((p2.toInt8.toInt32).toInt8.toInt32))), .val (.ref b22), .val (.int (own_ch ((p0.toInt8.toInt32).toInt8.toInt32))), .val (.int (own_ch ((p1.toInt8.toInt32).toInt8.toInt32))), .val (.int (own_ch ((p2.toInt8.toInt32).toInt8.toInt32)))] [(.int (own_us ((p2.toInt8.toInt32).toInt8.toInt32))), (.int (own_ch ((p2.toInt8.toInt32).toInt8.toInt32)))])) t := by
    intro t kt
    show Steps p.tables e below (T38.setTop (mkF m 95 #[.val (.int p0), .val (.int p1), .val (.int p2), .val (.ref b1), .val (.int (own_us ((p0.toInt8.toInt32).toInt8.toInt32))), .val (.int (own_us ((p1.toInt8.toInt32).toInt8.toInt32))), .val (.int (own_us ((p2.toInt8.toInt32).toInt8.toInt32))), .val (.ref b22), .val (.int (own_ch ((p0.toInt8.toInt32).toInt8.toInt32))), .val (.int (own_ch ((p1.toInt8.toInt32).toInt8.toInt32))), .val (.int (own_ch ((p2.toInt8.toInt32).toInt8.toInt32)))] [(.int (own_us ((p2.toInt8.toInt32).toInt8.toInt32))), (.int (own_ch ((p2.toInt8.toInt32).toInt8.toInt32)))])) _
    refine XS.icmpNo X38.here hx rfl (hb hby at_95) rfl (teq (hd43)).2 ?_
    show Steps p.tables e below (T38.setTop (mkF m 98 #[.val (.int p0), .val (.int p1), .val (.int p2), .val (.ref b1), .val (.int (own_us ((p0.toInt8.toInt32).toInt8.toInt32))), .val (.int (own_us ((p1.toInt8.toInt32).toInt8.toInt32))), .val (.int (own_us ((p2.toInt8.toInt32).toInt8.toInt32))), .val (.ref b22), .val (.int (own_ch ((p0.toInt8.toInt32).toInt8.toInt32))), .val (.int (own_ch ((p1.toInt8.toInt32).toInt8.toInt32))), .val (.int (own_ch ((p2.toInt8.toInt32).toInt8.toInt32)))] [])) _
    refine XS.iconst X38.here hx rfl (hb hby at_98) ?_
    show Steps p.tables e below (T38.setTop (mkF m 99 #[.val (.int p0), .val (.int p1), .val (.int p2), .val (.ref b1), .val (.int (own_us ((p0.toInt8.toInt32).toInt8.toInt32))), .val (.int (own_us ((p1.toInt8.toInt32).toInt8.toInt32))), .val (.int (own_us ((p2.toInt8.toInt32).toInt8.toInt32))), .val (.ref b22), .val (.int (own_ch ((p0.toInt8.toInt32).toInt8.toInt32))), .val (.int (own_ch ((p1.toInt8.toInt32).toInt8.toInt32))), .val (.int (own_ch ((p2.toInt8.toInt32).toInt8.toInt32)))] [(.int (1 : Int32))])) _
    refine XS.goto X38.here hx rfl (pc0 := 99) (pc' := 103) rfl (hb hby at_99) (by decide) (by decide) ?_
    exact kt
  obtain ⟨fs, hr, hrun, hended, hW, hsame⟩ := X38.leave (v := some (.int (1 : Int32))) (fun h => by rw [Bd.returns] at h; cases h)
  refine ⟨_, _, pre0 _ (c2 _ (st1 _ (c3 _ (st5 _ (c6 _ (st8 _ (c9 _ (st11 _ (c13 _ (st15 _ (c17 _ (st18 _ (c20 _ (st21 _ (c23 _ (st22 _ (c25 _ (st27.trans (c28 _ (st32.trans (c33 _ (st35.trans (c36 _ (st38.trans (c40 _ (c42 _ (c44 _ (c45 _ (?_))))))))))))))))))))))))))))), hrun, hended, _, _, rfl, ?_, ⟨_, rfl⟩, hW, hsame.mono (by decide) (by decide)⟩
  · show Steps p.tables e below (T38.setTop (mkF m 103 #[.val (.int p0), .val (.int p1), .val (.int p2), .val (.ref b1), .val (.int (own_us ((p0.toInt8.toInt32).toInt8.toInt32))), .val (.int (own_us ((p1.toInt8.toInt32).toInt8.toInt32))), .val (.int (own_us ((p2.toInt8.toInt32).toInt8.toInt32))), .val (.ref b22), .val (.int (own_ch ((p0.toInt8.toInt32).toInt8.toInt32))), .val (.int (own_ch ((p1.toInt8.toInt32).toInt8.toInt32))), .val (.int (own_ch ((p2.toInt8.toInt32).toInt8.toInt32)))] [(.int (1 : Int32))])) _
    exact retN X38 hx (t := .boolean) Bd.returns (by simp) (hb hby at_103) hr
  · show Q0 Z p0 p1 p2 h0 n0 _ T38.heap _
    rw [e38]
    exact ⟨congrArg (fun z => some (Value.int z)) (show (1 : Int32) = (1 : Int32) from by rfl), N38⟩
set_option maxRecDepth 65536 in
set_option maxHeartbeats 40000000 in
theorem comes_1 {Post : Tables → Env → Array Value → State → Outcome → State → Prop} (hpost : ∀ tb e args s v u, (limb_1_1.after args s (.returned v) u = true ∧ limb_1_2.after args s (.returned v) u = true ∧ True) → FrameEnd s (.returned v) u (Jvm.fieldLocs frame_1_writes args s ++ Jvm.arrayLocs frame_1_arrays args s ++ Jvm.staticLocs frame_1_statics s) 16 128 → Post tb e args s (.returned v) u) :
    ArmFor flags0 classFile x code maxLocals ret World_1 tables_1 room_1 Calls_1 rest_1 Pre_1 Post := by
  intro l hfl _ _ p e ha hc hk s m args below hf hA hF happ hP
  obtain ⟨hcalls, hrest, hpre⟩ := hP
  obtain ⟨-, -, -, hnamed, -, -, -, hat⟩ := (Spec.applies_iff hf).mp happ
  obtain ⟨hg, hn⟩ := and_e (Cond.before_iff.mp (show (Jvm.Cond.and given_1 narrow_1).before args s = true from hpre))
  obtain ⟨g1, g2⟩ := and_e hg
  obtain ⟨g3, g4⟩ := and_e g2
  obtain ⟨g5, g6⟩ := and_e g4
  obtain ⟨w0, w1, w2, rfl⟩ : ∃ w0 w1 w2 : Value, args = #[w0, w1, w2] := by
    have hs : args.size = 3 := by simpa [Cond.value, given_1] using g1
    obtain ⟨L⟩ := args
    match L, hs with
    | [w0, w1, w2], _ => exact ⟨w0, w1, w2, rfl⟩
  have hw := fun d (hd : d ∈ tables_1) => atoms_spec (ws := Jvm.Cond.code x code maxLocals ret :: tables_1) hat d (List.mem_cons_of_mem _ hd)
  have hfit : Fit s := fun {y c} hc i hi => by
    obtain ⟨ha, rfl⟩ := Array.getElem?_eq_some_iff.mp hc
    have q := List.all_eq_true.mp ((Array.all_eq_true_iff_forall_mem.mp hF) _ (Array.getElem_mem ha)) i (List.mem_range.mpr hi)
    simpa [Array.getElem?_eq_getElem hi] using q
  obtain ⟨i0, ei0⟩ := is_v g3
  obtain rfl : w0 = (.int i0) := Option.some.inj ei0
  obtain ⟨i1, ei1⟩ := is_v g5
  obtain rfl : w1 = (.int i1) := Option.some.inj ei1
  obtain ⟨i2, ei2⟩ := is_v g6
  obtain rfl : w2 = (.int i2) := Option.some.inj ei2
  obtain ⟨n, o, h1, h2, h3, _, L, rfl, ⟨rfl, N⟩, hq⟩ := rm0 l s _ hw tables_1 i0 i1 i2  s.heap s.heap.size (Nat.le_refl _)  p e ha hc hk s m _ below hf ((Spec.applies_iff_loose hf).mp happ).1 ⟨rfl, State.Warmed39.refl s, rfl⟩ trivial
  refine ⟨n, _, h1, h2, h3, hpost _ _ _ _ _ _ ⟨Cond.after_iff.mpr rfl, Cond.after_iff.mpr (eq_i res_at (Term.int_eval (1)) rfl), trivial⟩ ⟨hq.1, hq.2.1, (hq.2.2.sift fun y hy => Or.inr (N y hy)).mono (by decide) (by decide)⟩⟩
theorem main_1_1 : Claimed_1_1 := comes_1 fun _ _ _ _ _ _ h hF => ⟨h.1, hF⟩
theorem main_1_2 : Claimed_1_2 := comes_1 fun _ _ _ _ _ _ h hF => ⟨h.2.1, hF⟩
end Jvm.Pilot.@@N@@
namespace Jvm.Pilot.@@N@@
open Jvm Jvm.ClassFile Sem Op Lib Jvm.Free Jvm.Stand Jvm.Pilot.@@N@@.Jvm.D
/-! MADE BY PROGRAM (witnessworld.py) out of the Statement's table words and the real class files: 10 classes; the members and pool entries that the words name. The judged class is class 1, her method 2. -/
namespace start1
open Jvm.ClassFile
def u (s : String) : CpInfo := .utf8 (stringToUtf16 s)
/-- a pool by its gaps: so many unusable entries, then the entry; so many at the end -/
def gap : Nat → List CpInfo → List CpInfo
  | 0, r => r
  | n + 1, r => .unusable :: gap n r
def poolList (es : List (Nat × CpInfo)) (last : Nat) : List CpInfo := es.foldr (fun e r => gap e.1 (e.2 :: r)) (gap last [])
def pool (es : List (Nat × CpInfo)) (last : Nat) : Array CpInfo := ⟨poolList es last⟩
def fileOf (pool : Array CpInfo) (this : Nat) (attrs : Array Attribute := #[]) (ms : Array MethodInfo := #[]) (fl : Nat := 33) (sup : Nat := 0) (ifs : Array Nat := #[]) (fds : Array FieldInfo := #[]) : ClassFile where
  minorVersion := 0
  majorVersion := 65
  constantPool := pool
  accessFlags := fl
  thisClass := this
  superClass := sup
  interfaces := ifs
  fields := fds
  methods := ms
  attributes := attrs
def plain (name : String) (sup : Option ClassId) : Class where
  name := name
  kind := .ordinary
  loader := none
  accessFlags := 33
  super := sup
  interfaces := #[]
  cf := none
  fields := #[]
  methods := #[]
  instanceTypes := #[]
  staticTypes := #[]
  resolved := #[]
  callSites := []
  init := .initialized
  statics := none
  mirror := none

def pool0 : Array CpInfo := pool [(5, u "<init>"), (0, u "()V"), (1, .class_ 10), (1, u "java/lang/Object")] 113

def k0c0 : Code := { maxStack := 0, maxLocals := 1, code := object_method_1_code, exceptionTable := #[], attributes := #[] }
def k0m0 : Method := { name := "<init>", desc := "()V", sig := { parameters := [], returnType := none }, accessFlags := 1, code := some k0c0 }
/-- java/lang/Object -/
def k0 : Class := { plain "java/lang/Object" none with
  accessFlags := 33
  interfaces := #[]
  cf := some (fileOf pool0 8 #[] #[{ accessFlags := 1, nameIndex := 5, descriptorIndex := 6, attributes := #[] }] 33 0 #[] #[])
  fields := #[]
  methods := #[k0m0]
  instanceTypes := #[]
  staticTypes := #[]
  resolved := Array.replicate 124 none
  statics := none }

def pool1 : Array CpInfo := pool [(2, .class_ 4), (1, u "java/lang/Object"), (0, u "<init>"), (0, u "()V"), (0, .methodref 8 9), (0, .class_ 10), (0, .nameAndType 11 12), (0, u "com/example/mapstone/mapstone/rf2/LineBytesCharAtPinLaw"), (0, u "expected"), (0, u "(B)I"), (0, .class_ 14), (0, u "com/example/mapstone/mapstone/rf2/LineBytes"), (0, .methodref 13 16), (0, .nameAndType 5 17), (0, u "([B)V"), (0, .methodref 13 19), (0, .nameAndType 20 21), (0, u "charAt"), (0, u "(I)C"), (3, u "law"), (0, u "(III)Z")] 4

def k1m0 : Method := { name := "<init>", desc := "()V", sig := { parameters := [], returnType := none }, accessFlags := 1, code := none }
def k1c1 : Code := { maxStack := 2, maxLocals := 2, code := method_2_code, exceptionTable := #[], attributes := #[] }
def k1m1 : Method := { name := "expected", desc := "(B)I", sig := { parameters := [.byte], returnType := some .int }, accessFlags := 10, code := some k1c1 }
def k1c2 : Code := { maxStack := 3, maxLocals := 11, code := code, exceptionTable := #[], attributes := #[] }
def k1m2 : Method := { name := "law", desc := "(III)Z", sig := { parameters := [.int, .int, .int], returnType := some .boolean }, accessFlags := 9, code := some k1c2 }
/-- com/example/mapstone/mapstone/rf2/LineBytesCharAtPinLaw -/
def k1 : Class := { plain "com/example/mapstone/mapstone/rf2/LineBytesCharAtPinLaw" (some 0) with
  accessFlags := 49
  interfaces := #[]
  cf := some (fileOf pool1 8 #[] #[{ accessFlags := 1, nameIndex := 5, descriptorIndex := 6, attributes := #[] }, { accessFlags := 10, nameIndex := 11, descriptorIndex := 12, attributes := #[] }, { accessFlags := 9, nameIndex := 25, descriptorIndex := 26, attributes := #[] }] 49 2 #[] #[])
  fields := #[]
  methods := #[k1m0, k1m1, k1m2]
  instanceTypes := #[]
  staticTypes := #[]
  resolved := Array.replicate 31 none
  statics := none }

def pool2 : Array CpInfo := pool [(2, .class_ 4), (1, u "java/lang/CharSequence"), (42, .class_ 48), (0, u "java/lang/CharSequence$1CodePointIterator"), (10, .class_ 60), (0, u "java/lang/CharSequence$1CharIterator"), (5, .class_ 67), (0, u "java/lang/Object")] 63

/-- java/lang/CharSequence -/
def k2 : Class := { plain "java/lang/CharSequence" (some 0) with
  accessFlags := 1537
  interfaces := #[]
  cf := some (fileOf pool2 2 #[.nestMembers #[47, 59]] #[] 1537 66 #[] #[])
  fields := #[]
  methods := #[]
  instanceTypes := #[]
  staticTypes := #[]
  resolved := Array.replicate 131 none
  statics := none }

def pool3 : Array CpInfo := pool [(1, .methodref 2 3), (0, .class_ 4), (0, .nameAndType 5 6), (0, u "java/lang/Object"), (0, u "<init>"), (0, u "()V"), (0, .fieldref 8 9), (0, .class_ 10), (0, .nameAndType 11 12), (0, u "com/example/mapstone/mapstone/rf2/LineBytes"), (0, u "bytes"), (0, u "[B"), (14, .class_ 28), (0, u "java/lang/CharSequence"), (0, u "([B)V"), (4, u "charAt"), (0, u "(I)C")] 6

def k3c0 : Code := { maxStack := 2, maxLocals := 2, code := prog_72_method_1_code, exceptionTable := #[], attributes := #[] }
def k3m0 : Method := { name := "<init>", desc := "([B)V", sig := { parameters := [(.array .byte)], returnType := none }, accessFlags := 0, code := some k3c0 }
def k3c1 : Code := { maxStack := 2, maxLocals := 2, code := prog_72_method_3_code, exceptionTable := #[], attributes := #[] }
def k3m1 : Method := { name := "charAt", desc := "(I)C", sig := { parameters := [.int], returnType := some .char }, accessFlags := 1, code := some k3c1 }
/-- com/example/mapstone/mapstone/rf2/LineBytes -/
def k3 : Class := { plain "com/example/mapstone/mapstone/rf2/LineBytes" (some 0) with
  accessFlags := 48
  interfaces := #[2]
  cf := some (fileOf pool3 8 #[] #[{ accessFlags := 0, nameIndex := 5, descriptorIndex := 29, attributes := #[] }, { accessFlags := 1, nameIndex := 34, descriptorIndex := 35, attributes := #[] }] 48 2 #[27] #[{ accessFlags := 18, nameIndex := 11, descriptorIndex := 12, attributes := #[] }])
  fields := #[{ name := "bytes", type := (.array .byte), accessFlags := 18, slot := 0, constantValue := 0 }]
  methods := #[k3m0, k3m1]
  instanceTypes := #[(.array .byte)]
  staticTypes := #[]
  resolved := Array.replicate 42 none
  statics := none }

def pool4 : Array CpInfo := pool [(1, u "java/lang/Cloneable"), (0, .class_ 1), (0, u "java/lang/Object"), (0, .class_ 3)] 3

/-- java/lang/Cloneable -/
def k4 : Class := { plain "java/lang/Cloneable" (some 0) with
  accessFlags := 1537
  interfaces := #[]
  cf := some (fileOf pool4 2 #[] #[] 1537 4 #[] #[])
  fields := #[]
  methods := #[]
  instanceTypes := #[]
  staticTypes := #[]
  resolved := Array.replicate 8 none
  statics := none }

def pool5 : Array CpInfo := pool [(1, u "java/io/Serializable"), (0, .class_ 1), (0, u "java/lang/Object"), (0, .class_ 3)] 3

/-- java/io/Serializable -/
def k5 : Class := { plain "java/io/Serializable" (some 0) with
  accessFlags := 1537
  interfaces := #[]
  cf := some (fileOf pool5 2 #[] #[] 1537 4 #[] #[])
  fields := #[]
  methods := #[]
  instanceTypes := #[]
  staticTypes := #[]
  resolved := Array.replicate 8 none
  statics := none }

/-- the primitive byte -/
def k6 : Class := { plain "byte" none with kind := .primitive 'B', accessFlags := 0x411 }
/-- [B -/
def k7 : Class := { plain "[B" (some 0) with kind := .array 6 .byte, interfaces := #[4, 5], accessFlags := 1041 }

/-- the primitive int -/
def k8 : Class := { plain "int" none with kind := .primitive 'I', accessFlags := 0x411 }
/-- [I -/
def k9 : Class := { plain "[I" (some 0) with kind := .array 8 .int, interfaces := #[4, 5], accessFlags := 1041 }

def heap : Heap := #[]
def classes : Array Class := #[k0, k1, k2, k3, k4, k5, k6, k7, k8, k9]
def interned : List (Array UInt16 × Addr) := []
def slotsUsed : Nat := 0
def theMethod : MethodId := ⟨1, 2⟩
def args0 : Array Value := #[.int 5, .int 5, .int 5]
def aboutOver (below : List Frame) : State where
  vm := { classes := classes, interned := interned.toArray }
  heap := heap
  slotsUsed := slotsUsed
  threads := #[{ frames := .invoking theMethod args0 :: below }]
def below0 : List Frame := [.native { method := ⟨0, 0⟩, args := #[] }]
def about1 : State := aboutOver below0
def p0 : Program := .bare "" "" ""
def e0 : Env := launch0.env 0 0 0
theorem w_frames : about1.frames = Frame.invoking theMethod args0 :: below0 := rfl
set_option maxRecDepth 65536 in
theorem w_args : argsFit about1.vm theMethod args0 = true := by decide +kernel
set_option maxRecDepth 65536 in
theorem w_heap : heapFits about1 = true := by decide +kernel
set_option maxRecDepth 65536 in
theorem w_runnable : about1.curStatus? = some .runnable := by decide +kernel
set_option maxRecDepth 65536 in
theorem w_alone : about1.alone = true := by decide +kernel
set_option maxRecDepth 65536 in
theorem w_named : about1.methodNamed? x = some theMethod := by decide +kernel
set_option maxRecDepth 65536 in
theorem w_hears : about1.hears theMethod below0 = true := by decide +kernel
set_option maxRecDepth 65536 in
theorem w_ripe : about1.ripe theMethod args0 below0 = true := by decide +kernel
theorem w_running : about1.status = .running := rfl
set_option maxRecDepth 65536 in
theorem w_room : about1.hasRoom e0.platform room_1 = true :=
  launch0.hasRoom_least _ room_1 (by decide +kernel) (by decide +kernel) (by decide +kernel) (by decide +kernel) (by decide +kernel) (by decide +kernel)
theorem allAtoms_all (ts : List Jvm.Cond) (a : Array Jvm.Value) (st : Jvm.State) : (allAtoms ts).before a st = ts.all (fun c => c.before a st) := by
  induction ts with
  | nil => rfl
  | cons c t ih =>
    show (Jvm.Cond.and c (allAtoms t)).before a st = _
    rw [Jvm.Cond.before_and, ih, List.all_cons]
def words1 : List Jvm.Cond := Jvm.Cond.code x code maxLocals ret :: tables_1
/-- a 'code' word, met by the world's own term for the bytes: nothing is compared byte by byte -/
theorem code_word {y : MethodName} {bytes : ByteArray} {mx : Nat} {rt : Option FieldType} {a : Array Value} {s : State} {m : MethodId} {meth : Method} {c : Code} (h1 : s.methodNamed? y = some m) (h2 : s.vm.method? m = some meth) (h3 : meth.code = some c) (h4 : c.code = bytes)
    (h5 : (c.maxLocals == mx && c.exceptionTable.isEmpty && decide (c.maxStack ≤ mostOperands) && decide (meth.sig.returnType = rt) && !meth.locks && decide (parseMethodDescriptor y.desc = some meth.sig)) = true) : (Jvm.Cond.code y bytes mx rt).before a s = true := by
  simp only [Bool.and_eq_true, beq_iff_eq, Bool.not_eq_true', decide_eq_true_eq] at h5
  obtain ⟨⟨⟨⟨⟨g1, g2⟩, g3⟩, g4⟩, g5⟩, g6⟩ := h5
  simp [Cond.before, Cond.holds, Cond.value, h1, h2, h3, h4, g1, g2, g3, g4, g5, g6]
def isCode : Jvm.Cond → Bool
  | .code _ _ _ _ => true
  | _ => false
theorem all_split {L : List Jvm.Cond} {P : Jvm.Cond → Bool} (h1 : L.all (fun c => isCode c || P c) = true) (h2 : ∀ c ∈ L.filter isCode, P c = true) : L.all P = true := by
  refine List.all_eq_true.mpr fun c hc => ?_
  have h := List.all_eq_true.mp h1 c hc
  rcases Bool.eq_false_or_eq_true (isCode c) with hi | hi
  · exact h2 c (List.mem_filter.mpr ⟨hc, hi⟩)
  · simpa [hi] using h
set_option maxRecDepth 65536 in
theorem w_c0 : (Jvm.Cond.code x code maxLocals ret).before args0 about1 = true := code_word (m := ⟨1, 2⟩) (meth := k1m2) (c := k1c2) (by decide +kernel) rfl rfl rfl (by decide +kernel)
set_option maxRecDepth 65536 in
theorem w_c1 : (Jvm.Cond.code ({ cls := "com/example/mapstone/mapstone/rf2/LineBytesCharAtPinLaw", name := "expected", desc := "(B)I" } : Jvm.MethodName) method_2_code (2 : Nat) (Option.some Jvm.ClassFile.FieldType.int)).before args0 about1 = true := code_word (m := ⟨1, 1⟩) (meth := k1m1) (c := k1c1) (by decide +kernel) rfl rfl rfl (by decide +kernel)
set_option maxRecDepth 65536 in
theorem w_c2 : (Jvm.Cond.code ({ cls := "com/example/mapstone/mapstone/rf2/LineBytes", name := "<init>", desc := "([B)V" } : Jvm.MethodName) prog_72_method_1_code (2 : Nat) (Option.none : Option Jvm.ClassFile.FieldType)).before args0 about1 = true := code_word (m := ⟨3, 0⟩) (meth := k3m0) (c := k3c0) (by decide +kernel) rfl rfl rfl (by decide +kernel)
set_option maxRecDepth 65536 in
theorem w_c3 : (Jvm.Cond.code ({ cls := "java/lang/Object", name := "<init>", desc := "()V" } : Jvm.MethodName) object_method_1_code (1 : Nat) (Option.none : Option Jvm.ClassFile.FieldType)).before args0 about1 = true := code_word (m := ⟨0, 0⟩) (meth := k0m0) (c := k0c0) (by decide +kernel) rfl rfl rfl (by decide +kernel)
set_option maxRecDepth 65536 in
theorem w_c4 : (Jvm.Cond.code ({ cls := "com/example/mapstone/mapstone/rf2/LineBytes", name := "charAt", desc := "(I)C" } : Jvm.MethodName) prog_72_method_3_code (2 : Nat) (Option.some Jvm.ClassFile.FieldType.char)).before args0 about1 = true := code_word (m := ⟨3, 1⟩) (meth := k3m1) (c := k3c1) (by decide +kernel) rfl rfl rfl (by decide +kernel)
def codes1 : List Jvm.Cond := [Jvm.Cond.code x code maxLocals ret, Jvm.Cond.code ({ cls := "com/example/mapstone/mapstone/rf2/LineBytesCharAtPinLaw", name := "expected", desc := "(B)I" } : Jvm.MethodName) method_2_code (2 : Nat) (Option.some Jvm.ClassFile.FieldType.int), Jvm.Cond.code ({ cls := "com/example/mapstone/mapstone/rf2/LineBytes", name := "<init>", desc := "([B)V" } : Jvm.MethodName) prog_72_method_1_code (2 : Nat) (Option.none : Option Jvm.ClassFile.FieldType), Jvm.Cond.code ({ cls := "java/lang/Object", name := "<init>", desc := "()V" } : Jvm.MethodName) object_method_1_code (1 : Nat) (Option.none : Option Jvm.ClassFile.FieldType), Jvm.Cond.code ({ cls := "com/example/mapstone/mapstone/rf2/LineBytes", name := "charAt", desc := "(I)C" } : Jvm.MethodName) prog_72_method_3_code (2 : Nat) (Option.some Jvm.ClassFile.FieldType.char)]
set_option maxRecDepth 65536 in
theorem codes_eq : words1.filter isCode = codes1 := rfl
theorem w_codes : ∀ c ∈ words1.filter isCode, c.before args0 about1 = true := by
  rw [codes_eq]
  intro c hc
  simp only [codes1, List.mem_cons, List.not_mem_nil, or_false] at hc
  rcases hc with rfl | rfl | rfl | rfl | rfl
  · exact w_c0
  · exact w_c1
  · exact w_c2
  · exact w_c3
  · exact w_c4
set_option maxRecDepth 65536 in
theorem w_t1 : words1.all (fun c => isCode c || c.before args0 about1) = true := by decide +kernel
theorem w_tables : (allAtoms (Jvm.Cond.code x code maxLocals ret :: tables_1)).before args0 about1 = true := by
  rw [allAtoms_all]
  show words1.all (fun c => c.before args0 about1) = true
  refine all_split ?_ w_codes
  rw [w_t1]
set_option maxRecDepth 65536 in
theorem w_case : (Jvm.Cond.and given_1 narrow_1).before args0 about1 = true := by decide +kernel
theorem w_applies : (headSpec (Jvm.Cond.code x code maxLocals ret :: tables_1) room_1).applies x e0.platform about1 = true :=
  (Spec.applies_iff w_frames).mpr ⟨w_running, w_runnable, w_alone, w_named, w_hears, w_ripe, w_room, w_tables⟩
theorem atStart : AtStart classFile x code maxLocals ret World_1 tables_1 room_1 Calls_1 rest_1 Pre_1 launch0 p0 e0 about1 theMethod args0 below0 :=
  ⟨lists_1, trivial, launch0.admits_env _ _ _, launch0.least_env, fairChoices_fair.cas, fairChoices_fair.clock, w_frames, w_args, w_heap, w_applies, trivial, trivial, w_case⟩
end start1
theorem witness_1 : WitnessClaimed_1 := ⟨start1.p0, start1.e0, start1.about1, start1.theMethod, start1.args0, start1.below0, start1.atStart⟩
end Jvm.Pilot.@@N@@
