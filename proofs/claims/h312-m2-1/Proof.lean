import JvmDerived
import JvmDerived.Pilot.@@N@@Statement
import JvmDerived.Pilot.@@N@@Code
set_option linter.unusedVariables false
set_option linter.unusedSimpArgs false

namespace Jvm.RoadKit
open Sem ClassFile Op Lib Jvm.Stand Jvm.Free Jvm.LawKit
section New
variable {p : Program} {l : Launch} {e : Env} {R : Room} {s : State} {m : MethodId} {args : Array Value} {below : List Frame} {meth : Method} {c : Code} {T : State} {locs : List Loc} {cells slots : Nat}
theorem retI (X : Stand p l e R s m args below meth c T locs cells slots) (hx : p.tables.exec = Jvm.exec) {pc : Nat} {Ls : Array Slot} {z : Int32} {rest : List Value} (hret : meth.sig.returnType = some .int) (hd : decode c.code pc = .ok (.ireturn, 1)) {fs : List Frame}
    (hl : ∀ (f : JFrame) (acts : List Action), f.method = m → f.locked = none → f.entered = [] → (doReturn e (T.setTop f) acts (some (.int z))).1 = T.setFrames fs) : Steps p.tables e below (T.setTop (mkF m pc Ls (.int z :: rest))) (T.setFrames fs) := by
  have hm' : T.vm.method? m = some meth := X.method'
  have hn : narrow .int (.int z) = .int z := rfl
  show Steps p.tables e below (T.setTop { method := m, pc := pc, locals := Ls, stack := _ :: rest, locked := none }) _
  jvm_step X.here [X.here.top, hx, hd, hm', hret, hn]
  first | (intro acts; rw [hl _ acts rfl rfl rfl]) | rw [hl _ _ rfl rfl rfl]
  exact Steps.refl _
theorem own_lrem {g : JFrame} {target : State} (X : Stand p l e R s m args below meth c T locs cells slots) (hx : p.tables.exec = Jvm.exec) (hg : g.method = m) {x y : Int64} {rest : List Value} (hd : decode c.code g.pc = .ok (.lrem, 1)) (hs : g.stack = .long y :: .long x :: rest) (hy : y ≠ 0)
    (hr : Steps p.tables e below (T.setTop { g with pc := g.pc + 1, stack := .long (x % y) :: rest }) target) : Steps p.tables e below (T.setTop g) target := by
  have q : x - x / y * y = x % y := lrem_mod x y
  exact XS.lrem X.here hx hg hd hs hy (by rw [q]; exact hr)
end New
end Jvm.RoadKit

namespace Jvm.Pilot.@@N@@
open Jvm Jvm.ClassFile Sem Op Lib Jvm.Free Jvm.Stand Jvm.LawKit Jvm.RoadKit Bundle Jvm.Pilot.@@N@@.Jvm.D
theorem own_ten (a : Int32) : ∃ n : Nat, n < 10 ∧ ((a &&& (2147483647 : Int32)) % (10 : Int32)) = Int32.ofNat n := by
  have h1 := c_mask a 2147483647 31 (by decide) (by decide)
  have h2 := (c_irem (a &&& (2147483647 : Int32)) 10 10 rfl).1
  refine ⟨((a &&& (2147483647 : Int32)) % (10 : Int32)).toInt.toNat, by omega, ?_⟩
  rw [← Int32.toInt_inj, show (Int32.ofNat _).toInt = _ from len_toInt (by omega)]
  omega
theorem own_mod3 (a : Int32) : ((a &&& (2147483647 : Int32)) % (3 : Int32)) = (0 : Int32) ∨ ((a &&& (2147483647 : Int32)) % (3 : Int32)) = (1 : Int32) ∨ ((a &&& (2147483647 : Int32)) % (3 : Int32)) = (2 : Int32) := by
  have h1 := c_mask a 2147483647 31 (by decide) (by decide)
  have h2 := (c_irem (a &&& (2147483647 : Int32)) 3 3 rfl).1
  simp only [← Int32.toInt_inj, Int32.reduceToInt]
  omega
def own_d (n : Nat) : Int32 := (48 : Int32) + Int32.ofNat n
def own_ng (g : Int64) (x : Int32) : Int64 := (g * (10 : Int64)) - (x - (48 : Int32)).toInt64
theorem own_dc : ∀ n : Nat, n < 10 → ¬ own_d n = 45 ∧ ¬ own_d n = 43 ∧ ¬ (own_d n - 48) < 0 ∧ ¬ 9 < (own_d n - 48) := by decide +kernel
theorem own_k1 : ∀ n : Nat, n < 10 → ¬ (0 : Int64) < ((-9223372036854775808 : Int64) + (own_d n - 48).toInt64) / 10 := by decide +kernel
theorem own_k2 : ∀ n : Nat, n < 10 → ∀ k : Nat, k < 10 → ¬ (own_ng 0 (own_d n)) < ((-9223372036854775808 : Int64) + (own_d k - 48).toInt64) / 10 := by decide +kernel
theorem own_v1 : ∀ n : Nat, n < 10 → ¬ own_ng 0 (own_d n) = (-9223372036854775808 : Int64) ∧ own_ng 0 (own_d n) = -((Int32.ofNat n).toInt64) ∧ -(own_ng 0 (own_d n)) = (Int32.ofNat n).toInt64 := by decide +kernel
theorem own_v2 : ∀ n : Nat, n < 10 → ∀ k : Nat, k < 10 → ¬ own_ng (own_ng 0 (own_d n)) (own_d k) = (-9223372036854775808 : Int64) ∧ own_ng (own_ng 0 (own_d n)) (own_d k) = -(((Int32.ofNat n).toInt64 * (10 : Int64)) + (Int32.ofNat k).toInt64) ∧ -(own_ng (own_ng 0 (own_d n)) (own_d k)) = (((Int32.ofNat n).toInt64 * (10 : Int64)) + (Int32.ofNat k).toInt64) := by decide +kernel
theorem pd_0 : parseMethodDescriptor "()V" = some ⟨[], none⟩ := by decide +kernel
theorem pd_1 : parseMethodDescriptor "(I)V" = some ⟨[.int], none⟩ := by decide +kernel
theorem pd_2 : parseMethodDescriptor "()J" = some ⟨[], some .long⟩ := by decide +kernel
theorem d1_0 : decode prog_17_method_1_code 0 = .ok (.aload_n 0, 1) := by decide +kernel
theorem d1_1 : decode prog_17_method_1_code 1 = .ok (.invokespecial 1, 3) := by decide +kernel
theorem d1_4 : decode prog_17_method_1_code 4 = .ok (.aload_n 0, 1) := by decide +kernel
theorem d1_5 : decode prog_17_method_1_code 5 = .ok (.iconst 1, 1) := by decide +kernel
theorem d1_6 : decode prog_17_method_1_code 6 = .ok (.putfield 7, 3) := by decide +kernel
theorem d1_9 : decode prog_17_method_1_code 9 = .ok (.aload_n 0, 1) := by decide +kernel
theorem d1_10 : decode prog_17_method_1_code 10 = .ok (.iconst 1, 1) := by decide +kernel
theorem d1_11 : decode prog_17_method_1_code 11 = .ok (.putfield 13, 3) := by decide +kernel
theorem d1_14 : decode prog_17_method_1_code 14 = .ok (.return_, 1) := by decide +kernel
theorem pn_1 : plainName "com/example/sequence_set/sequenceset/cli/DecimalParser" = true := by first | (simp [plainName, overriddenIn]; done) | decide +kernel
theorem ef_1 (m : MethodId) (x0 : Addr) : entryFrame m #[(.ref x0)] 1 = mkF m 0 #[.val (.ref x0)] [] := by first | (simp [entryFrame, mkF, argsToLocals, Value.category]; done) | rfl
def Q1 (Z : State) (r0 : Addr) (h0 : Heap) (n0 : Nat) (v : Option Value) (h : Heap) (L : List Loc) : Prop := v = none ∧ Fr n0 L ∧ Keep h0 h [r0] ∧ Exa Z h r0 "com/example/sequence_set/sequenceset/cli/DecimalParser" ∧ Fld Z h r0 "com/example/sequence_set/sequenceset/cli/DecimalParser" "negated" "J" (.long (0 : Int64)) ∧ Fld Z h r0 "com/example/sequence_set/sequenceset/cli/DecimalParser" "negative" "Z" (.int (0 : Int32)) ∧ Fld Z h r0 "com/example/sequence_set/sequenceset/cli/DecimalParser" "characters" "I" (.int (0 : Int32)) ∧ Fld Z h r0 "com/example/sequence_set/sequenceset/cli/DecimalParser" "digits" "I" (.int (0 : Int32)) ∧ Fld Z h r0 "com/example/sequence_set/sequenceset/cli/DecimalParser" "wellFormed" "Z" (.int (1 : Int32)) ∧ Fld Z h r0 "com/example/sequence_set/sequenceset/cli/DecimalParser" "inRange" "Z" (.int (1 : Int32))
set_option maxRecDepth 65536 in
set_option maxHeartbeats 40000000 in
theorem rm1 (l : Launch) (Z : State) (a0 : Array Value) (hw : ∀ d ∈ tables_1, d.before a0 Z = true) (ws : List Jvm.Cond) (r0 : Addr)  (h0 : Heap) (n0 : Nat) (Z0 : n0 ≤ h0.size) (F_ng : Fld Z h0 r0 "com/example/sequence_set/sequenceset/cli/DecimalParser" "negated" "J" (.long (0 : Int64))) (F_ne : Fld Z h0 r0 "com/example/sequence_set/sequenceset/cli/DecimalParser" "negative" "Z" (.int (0 : Int32))) (F_ch : Fld Z h0 r0 "com/example/sequence_set/sequenceset/cli/DecimalParser" "characters" "I" (.int (0 : Int32))) (F_dg : Fld Z h0 r0 "com/example/sequence_set/sequenceset/cli/DecimalParser" "digits" "I" (.int (0 : Int32))) (F_wf : Fld Z h0 r0 "com/example/sequence_set/sequenceset/cli/DecimalParser" "wellFormed" "Z" (.int (0 : Int32))) (F_ir : Fld Z h0 r0 "com/example/sequence_set/sequenceset/cli/DecimalParser" "inRange" "Z" (.int (0 : Int32))) (E0 : Exa Z h0 r0 "com/example/sequence_set/sequenceset/cli/DecimalParser") (g_r0 : n0 ≤ r0) :
    MetFree l (⟨"com/example/sequence_set/sequenceset/cli/DecimalParser", "<init>", "()V"⟩ : MethodName) (head1 (Jvm.Cond.code (⟨"com/example/sequence_set/sequenceset/cli/DecimalParser", "<init>", "()V"⟩ : MethodName) prog_17_method_1_code 1 none :: ws) ({ frames := 1, cells := 0, slots := 0, locals := 12 } : Room)) (fun a U => a = #[(.ref r0)] ∧ Z.Warmed39 U.vm ∧ U.heap = h0) (fun _ _ _ _ _ => True) (fun _ U o U' => ∃ v L, o = .returned v ∧ Q1 Z r0 h0 n0 v U'.heap L ∧ FrameEnd U o U' L ({ frames := 1, cells := 0, slots := 0, locals := 12 } : Room).cells ({ frames := 1, cells := 0, slots := 0, locals := 12 } : Room).slots) := by
  refine MetFree.of_bodySF (plainFor_of_name pn_1) hisR ?_
  intro p e s m args below meth c s₁ Bd hml0 hP hK
  obtain ⟨rfl, hZ, hh⟩ := hP
  have hx := Bd.exec
  have hby := Bd.bytes
  have hml : c.maxLocals = 1 := hml0
  have hown : s.vm.findClass "com/example/sequence_set/sequenceset/cli/DecimalParser" = some m.cls := findClass_of_methodNamed Bd.named
  have hnm := (name_of_methodNamed Bd.named Bd.method).1
  have X0 : Stand p l e ({ frames := 1, cells := 0, slots := 0, locals := 12 } : Room) s m #[(.ref r0)] below meth c s₁ [] 0 0 := Stand.of_body Bd
  have e0 : s₁.heap = h0 := by rw [← hh, Bd.state]; rfl
  have N0 := Fr.nil n0
  have pre0 : ∀ t, Steps p.tables e below (s₁.setTop (mkF m 0 #[.val (.ref r0)] [])) t → Steps p.tables e below (s₁.setTop (entryFrame m #[(.ref r0)] 1)) t := fun t k => castTop (ef_1 m r0) k
  have c2 : ∀ t, Steps p.tables e below (s₁.setTop (mkF m 1 #[.val (.ref r0)] [(.ref r0)])) t → Steps p.tables e below (s₁.setTop (mkF m 0 #[.val (.ref r0)] [])) t := by
    intro t kt
    show Steps p.tables e below (s₁.setTop (mkF m 0 #[.val (.ref r0)] [])) _
    refine XS.aloadN X0.here hx rfl (hb hby d1_0) rfl rfl ?_
    exact kt
  obtain ⟨T1, X1, e1, st1⟩ := initO X0 hx hZ hown (hw _ (List.mem_of_getElem? (i := 6) rfl)) (hw _ (List.mem_of_getElem? (i := 7) rfl)) (hw _ (List.mem_of_getElem? (i := 8) rfl)) e0 (g := (mkF m 1 #[.val (.ref r0)] [(.ref r0)])) rfl (by rw [hml]; rfl) rfl (hb hby d1_1) (by decide) (W := 0) (by show 2 * 0 + _ ≤ _; exact Nat.le_of_eq rfl) (by decide)
  have c4 : ∀ t, Steps p.tables e below (T1.setTop (mkF m 6 #[.val (.ref r0)] [(.int (1 : Int32)), (.ref r0)])) t → Steps p.tables e below (T1.setTop (mkF m 4 #[.val (.ref r0)] [])) t := by
    intro t kt
    show Steps p.tables e below (T1.setTop (mkF m 4 #[.val (.ref r0)] [])) _
    refine XS.aloadN X1.here hx rfl (hb hby d1_4) rfl rfl ?_
    show Steps p.tables e below (T1.setTop (mkF m 5 #[.val (.ref r0)] [(.ref r0)])) _
    refine XS.iconst X1.here hx rfl (hb hby d1_5) ?_
    exact kt
  obtain ⟨T3, h3, X3, e3, W3, st3⟩ := putFN X1 hx hZ hown (hw _ (List.mem_of_getElem? (i := 9) rfl)) Via.refl e1 F_wf E0 (Or.inl (hw _ (List.mem_of_getElem? (i := 10) rfl))) (hw _ (List.mem_of_getElem? (i := 1) rfl)) (ty := .boolean) (v' := (.int (1 : Int32))) (by decide) rfl rfl (g := (mkF m 6 #[.val (.ref r0)] [(.int (1 : Int32)), (.ref r0)])) rfl rfl (hb hby d1_6)
  have Fw3 := F_wf.same W3
  have N3 := Fr.snoc X3 N0 g_r0
  have f5 := (F_ir.other W3 (Or.inr (slot_ne (a0 := a0) (Or.inl (hw _ (List.mem_of_getElem? (i := 12) rfl))) (Or.inl (hw _ (List.mem_of_getElem? (i := 10) rfl))) (by decide) (t := .boolean) (t' := .boolean) (by decide) (by decide))))
  have f6 := (E0.wr W3)
  have c8 : ∀ t, Steps p.tables e below (T3.setTop (mkF m 11 #[.val (.ref r0)] [(.int (1 : Int32)), (.ref r0)])) t → Steps p.tables e below (T3.setTop (mkF m 9 #[.val (.ref r0)] [])) t := by
    intro t kt
    show Steps p.tables e below (T3.setTop (mkF m 9 #[.val (.ref r0)] [])) _
    refine XS.aloadN X3.here hx rfl (hb hby d1_9) rfl rfl ?_
    show Steps p.tables e below (T3.setTop (mkF m 10 #[.val (.ref r0)] [(.ref r0)])) _
    refine XS.iconst X3.here hx rfl (hb hby d1_10) ?_
    exact kt
  obtain ⟨T7, h7, X7, e7, W7, st7⟩ := putFN X3 hx hZ hown (hw _ (List.mem_of_getElem? (i := 11) rfl)) Via.refl e3 f5 f6 (Or.inl (hw _ (List.mem_of_getElem? (i := 12) rfl))) (hw _ (List.mem_of_getElem? (i := 1) rfl)) (ty := .boolean) (v' := (.int (1 : Int32))) (by decide) rfl rfl (g := (mkF m 11 #[.val (.ref r0)] [(.int (1 : Int32)), (.ref r0)])) rfl rfl (hb hby d1_11)
  have Fw7 := f5.same W7
  have N7 := Fr.snoc X7 N3 g_r0
  obtain ⟨fs, hr, hrun, hended, hW, hsame⟩ := X7.leave (v := none) (fun _ => rfl)
  have f10 := (((Keep.refl h0 [r0]).wr W3 (Or.inl (List.mem_of_getElem? (i := 0) rfl))).wr W7 (Or.inl (List.mem_of_getElem? (i := 0) rfl)))
  have f11 := (f6.wr W7)
  have f12 := ((F_ng.other W3 (Or.inr (slot_ne (a0 := a0) (Or.inl (hw _ (List.mem_of_getElem? (i := 26) rfl))) (Or.inl (hw _ (List.mem_of_getElem? (i := 10) rfl))) (by decide) (t := .long) (t' := .boolean) (by decide) (by decide)))).other W7 (Or.inr (slot_ne (a0 := a0) (Or.inl (hw _ (List.mem_of_getElem? (i := 26) rfl))) (Or.inl (hw _ (List.mem_of_getElem? (i := 12) rfl))) (by decide) (t := .long) (t' := .boolean) (by decide) (by decide))))
  have f13 := ((F_ne.other W3 (Or.inr (slot_ne (a0 := a0) (Or.inl (hw _ (List.mem_of_getElem? (i := 28) rfl))) (Or.inl (hw _ (List.mem_of_getElem? (i := 10) rfl))) (by decide) (t := .boolean) (t' := .boolean) (by decide) (by decide)))).other W7 (Or.inr (slot_ne (a0 := a0) (Or.inl (hw _ (List.mem_of_getElem? (i := 28) rfl))) (Or.inl (hw _ (List.mem_of_getElem? (i := 12) rfl))) (by decide) (t := .boolean) (t' := .boolean) (by decide) (by decide))))
  have f14 := ((F_ch.other W3 (Or.inr (slot_ne (a0 := a0) (Or.inl (hw _ (List.mem_of_getElem? (i := 19) rfl))) (Or.inl (hw _ (List.mem_of_getElem? (i := 10) rfl))) (by decide) (t := .int) (t' := .boolean) (by decide) (by decide)))).other W7 (Or.inr (slot_ne (a0 := a0) (Or.inl (hw _ (List.mem_of_getElem? (i := 19) rfl))) (Or.inl (hw _ (List.mem_of_getElem? (i := 12) rfl))) (by decide) (t := .int) (t' := .boolean) (by decide) (by decide))))
  have f15 := ((F_dg.other W3 (Or.inr (slot_ne (a0 := a0) (Or.inl (hw _ (List.mem_of_getElem? (i := 30) rfl))) (Or.inl (hw _ (List.mem_of_getElem? (i := 10) rfl))) (by decide) (t := .int) (t' := .boolean) (by decide) (by decide)))).other W7 (Or.inr (slot_ne (a0 := a0) (Or.inl (hw _ (List.mem_of_getElem? (i := 30) rfl))) (Or.inl (hw _ (List.mem_of_getElem? (i := 12) rfl))) (by decide) (t := .int) (t' := .boolean) (by decide) (by decide))))
  have f16 := (Fw3.other W7 (Or.inr (slot_ne (a0 := a0) (Or.inl (hw _ (List.mem_of_getElem? (i := 10) rfl))) (Or.inl (hw _ (List.mem_of_getElem? (i := 12) rfl))) (by decide) (t := .boolean) (t' := .boolean) (by decide) (by decide))))
  refine ⟨_, _, pre0 _ (c2 _ (st1 _ (c4 _ (st3 _ (c8 _ (st7 _ (?_))))))), hrun, hended, _, _, rfl, ?_, ⟨_, rfl⟩, hW, hsame.mono (by decide) (by decide)⟩
  · show Steps p.tables e below (T7.setTop (mkF m 14 #[.val (.ref r0)] [])) _
    exact X7.returnOut hx Bd.returns (hb hby d1_14) hr
  · show Q1 Z r0 h0 n0 _ T7.heap _
    rw [e7]
    exact ⟨rfl, N7, f10, f11, f12, f13, f14, f15, f16, Fw7⟩
theorem d4_0 : decode prog_17_method_4_code 0 = .ok (.aload_n 0, 1) := by decide +kernel
theorem d4_1 : decode prog_17_method_4_code 1 = .ok (.lconst 0, 1) := by decide +kernel
theorem d4_2 : decode prog_17_method_4_code 2 = .ok (.putfield 55, 3) := by decide +kernel
theorem d4_5 : decode prog_17_method_4_code 5 = .ok (.aload_n 0, 1) := by decide +kernel
theorem d4_6 : decode prog_17_method_4_code 6 = .ok (.iconst 0, 1) := by decide +kernel
theorem d4_7 : decode prog_17_method_4_code 7 = .ok (.putfield 59, 3) := by decide +kernel
theorem d4_10 : decode prog_17_method_4_code 10 = .ok (.aload_n 0, 1) := by decide +kernel
theorem d4_11 : decode prog_17_method_4_code 11 = .ok (.iconst 0, 1) := by decide +kernel
theorem d4_12 : decode prog_17_method_4_code 12 = .ok (.putfield 62, 3) := by decide +kernel
theorem d4_15 : decode prog_17_method_4_code 15 = .ok (.aload_n 0, 1) := by decide +kernel
theorem d4_16 : decode prog_17_method_4_code 16 = .ok (.iconst 0, 1) := by decide +kernel
theorem d4_17 : decode prog_17_method_4_code 17 = .ok (.putfield 66, 3) := by decide +kernel
theorem d4_20 : decode prog_17_method_4_code 20 = .ok (.aload_n 0, 1) := by decide +kernel
theorem d4_21 : decode prog_17_method_4_code 21 = .ok (.iconst 1, 1) := by decide +kernel
theorem d4_22 : decode prog_17_method_4_code 22 = .ok (.putfield 7, 3) := by decide +kernel
theorem d4_25 : decode prog_17_method_4_code 25 = .ok (.aload_n 0, 1) := by decide +kernel
theorem d4_26 : decode prog_17_method_4_code 26 = .ok (.iconst 1, 1) := by decide +kernel
theorem d4_27 : decode prog_17_method_4_code 27 = .ok (.putfield 13, 3) := by decide +kernel
theorem d4_30 : decode prog_17_method_4_code 30 = .ok (.return_, 1) := by decide +kernel
theorem pn_4 : plainName "com/example/sequence_set/sequenceset/cli/DecimalParser" = true := by first | (simp [plainName, overriddenIn]; done) | decide +kernel
theorem ef_4 (m : MethodId) (x0 : Addr) : entryFrame m #[(.ref x0)] 1 = mkF m 0 #[.val (.ref x0)] [] := by first | (simp [entryFrame, mkF, argsToLocals, Value.category]; done) | rfl
def Q4 (Z : State) (r0 : Addr) (ng : Int64) (ne : Int32) (ch : Int32) (dg : Int32) (wf : Int32) (ir : Int32) (h0 : Heap) (n0 : Nat) (v : Option Value) (h : Heap) (L : List Loc) : Prop := v = none ∧ Fr n0 L ∧ Keep h0 h [r0] ∧ Exa Z h r0 "com/example/sequence_set/sequenceset/cli/DecimalParser" ∧ Fld Z h r0 "com/example/sequence_set/sequenceset/cli/DecimalParser" "negated" "J" (.long (0 : Int64)) ∧ Fld Z h r0 "com/example/sequence_set/sequenceset/cli/DecimalParser" "negative" "Z" (.int (0 : Int32)) ∧ Fld Z h r0 "com/example/sequence_set/sequenceset/cli/DecimalParser" "characters" "I" (.int (0 : Int32)) ∧ Fld Z h r0 "com/example/sequence_set/sequenceset/cli/DecimalParser" "digits" "I" (.int (0 : Int32)) ∧ Fld Z h r0 "com/example/sequence_set/sequenceset/cli/DecimalParser" "wellFormed" "Z" (.int (1 : Int32)) ∧ Fld Z h r0 "com/example/sequence_set/sequenceset/cli/DecimalParser" "inRange" "Z" (.int (1 : Int32))
set_option maxRecDepth 65536 in
set_option maxHeartbeats 40000000 in
theorem rm4 (l : Launch) (Z : State) (a0 : Array Value) (hw : ∀ d ∈ tables_1, d.before a0 Z = true) (ws : List Jvm.Cond) (r0 : Addr) (ng : Int64) (ne : Int32) (ch : Int32) (dg : Int32) (wf : Int32) (ir : Int32) (h0 : Heap) (n0 : Nat) (Z0 : n0 ≤ h0.size) (F_ng : Fld Z h0 r0 "com/example/sequence_set/sequenceset/cli/DecimalParser" "negated" "J" (.long ng)) (F_ne : Fld Z h0 r0 "com/example/sequence_set/sequenceset/cli/DecimalParser" "negative" "Z" (.int ne)) (F_ch : Fld Z h0 r0 "com/example/sequence_set/sequenceset/cli/DecimalParser" "characters" "I" (.int ch)) (F_dg : Fld Z h0 r0 "com/example/sequence_set/sequenceset/cli/DecimalParser" "digits" "I" (.int dg)) (F_wf : Fld Z h0 r0 "com/example/sequence_set/sequenceset/cli/DecimalParser" "wellFormed" "Z" (.int wf)) (F_ir : Fld Z h0 r0 "com/example/sequence_set/sequenceset/cli/DecimalParser" "inRange" "Z" (.int ir)) (E0 : Exa Z h0 r0 "com/example/sequence_set/sequenceset/cli/DecimalParser") (g_r0 : n0 ≤ r0) :
    MetFree l (⟨"com/example/sequence_set/sequenceset/cli/DecimalParser", "reset", "()V"⟩ : MethodName) (head1 (Jvm.Cond.code (⟨"com/example/sequence_set/sequenceset/cli/DecimalParser", "reset", "()V"⟩ : MethodName) prog_17_method_4_code 1 none :: ws) ({ frames := 0, cells := 0, slots := 0, locals := 0 } : Room)) (fun a U => a = #[(.ref r0)] ∧ Z.Warmed39 U.vm ∧ U.heap = h0) (fun _ _ _ _ _ => True) (fun _ U o U' => ∃ v L, o = .returned v ∧ Q4 Z r0 ng ne ch dg wf ir h0 n0 v U'.heap L ∧ FrameEnd U o U' L ({ frames := 0, cells := 0, slots := 0, locals := 0 } : Room).cells ({ frames := 0, cells := 0, slots := 0, locals := 0 } : Room).slots) := by
  refine MetFree.of_bodySF (plainFor_of_name pn_4) hisR ?_
  intro p e s m args below meth c s₁ Bd hml0 hP hK
  obtain ⟨rfl, hZ, hh⟩ := hP
  have hx := Bd.exec
  have hby := Bd.bytes
  have hml : c.maxLocals = 1 := hml0
  have hown : s.vm.findClass "com/example/sequence_set/sequenceset/cli/DecimalParser" = some m.cls := findClass_of_methodNamed Bd.named
  have hnm := (name_of_methodNamed Bd.named Bd.method).1
  have X0 : Stand p l e ({ frames := 0, cells := 0, slots := 0, locals := 0 } : Room) s m #[(.ref r0)] below meth c s₁ [] 0 0 := Stand.of_body Bd
  have e0 : s₁.heap = h0 := by rw [← hh, Bd.state]; rfl
  have N0 := Fr.nil n0
  have pre0 : ∀ t, Steps p.tables e below (s₁.setTop (mkF m 0 #[.val (.ref r0)] [])) t → Steps p.tables e below (s₁.setTop (entryFrame m #[(.ref r0)] 1)) t := fun t k => castTop (ef_4 m r0) k
  have c2 : ∀ t, Steps p.tables e below (s₁.setTop (mkF m 2 #[.val (.ref r0)] [(.long (0 : Int64)), (.ref r0)])) t → Steps p.tables e below (s₁.setTop (mkF m 0 #[.val (.ref r0)] [])) t := by
    intro t kt
    show Steps p.tables e below (s₁.setTop (mkF m 0 #[.val (.ref r0)] [])) _
    refine XS.aloadN X0.here hx rfl (hb hby d4_0) rfl rfl ?_
    show Steps p.tables e below (s₁.setTop (mkF m 1 #[.val (.ref r0)] [(.ref r0)])) _
    refine XS.lconst X0.here hx rfl (hb hby d4_1) ?_
    exact kt
  obtain ⟨T1, h1, X1, e1, W1, st1⟩ := putF X0 hx hZ hown (host := "") (Or.inl (hw _ (List.mem_of_getElem? (i := 25) rfl))) Via.refl e0 F_ng E0 (Or.inl (hw _ (List.mem_of_getElem? (i := 26) rfl))) (hw _ (List.mem_of_getElem? (i := 1) rfl)) (ty := .long) (by decide) rfl rfl (g := (mkF m 2 #[.val (.ref r0)] [(.long (0 : Int64)), (.ref r0)])) rfl rfl (hb hby d4_2)
  have Fw1 := F_ng.same W1
  have N1 := Fr.snoc X1 N0 g_r0
  have f3 := (F_ne.other W1 (Or.inr (slot_ne (a0 := a0) (Or.inl (hw _ (List.mem_of_getElem? (i := 28) rfl))) (Or.inl (hw _ (List.mem_of_getElem? (i := 26) rfl))) (by decide) (t := .boolean) (t' := .long) (by decide) (by decide))))
  have f4 := (E0.wr W1)
  have c6 : ∀ t, Steps p.tables e below (T1.setTop (mkF m 7 #[.val (.ref r0)] [(.int (0 : Int32)), (.ref r0)])) t → Steps p.tables e below (T1.setTop (mkF m 5 #[.val (.ref r0)] [])) t := by
    intro t kt
    show Steps p.tables e below (T1.setTop (mkF m 5 #[.val (.ref r0)] [])) _
    refine XS.aloadN X1.here hx rfl (hb hby d4_5) rfl rfl ?_
    show Steps p.tables e below (T1.setTop (mkF m 6 #[.val (.ref r0)] [(.ref r0)])) _
    refine XS.iconst X1.here hx rfl (hb hby d4_6) ?_
    exact kt
  obtain ⟨T5, h5, X5, e5, W5, st5⟩ := putFN X1 hx hZ hown (hw _ (List.mem_of_getElem? (i := 27) rfl)) Via.refl e1 f3 f4 (Or.inl (hw _ (List.mem_of_getElem? (i := 28) rfl))) (hw _ (List.mem_of_getElem? (i := 1) rfl)) (ty := .boolean) (v' := (.int (0 : Int32))) (by decide) rfl rfl (g := (mkF m 7 #[.val (.ref r0)] [(.int (0 : Int32)), (.ref r0)])) rfl rfl (hb hby d4_7)
  have Fw5 := f3.same W5
  have N5 := Fr.snoc X5 N1 g_r0
  have f7 := ((F_ch.other W1 (Or.inr (slot_ne (a0 := a0) (Or.inl (hw _ (List.mem_of_getElem? (i := 19) rfl))) (Or.inl (hw _ (List.mem_of_getElem? (i := 26) rfl))) (by decide) (t := .int) (t' := .long) (by decide) (by decide)))).other W5 (Or.inr (slot_ne (a0 := a0) (Or.inl (hw _ (List.mem_of_getElem? (i := 19) rfl))) (Or.inl (hw _ (List.mem_of_getElem? (i := 28) rfl))) (by decide) (t := .int) (t' := .boolean) (by decide) (by decide))))
  have f8 := (f4.wr W5)
  have c10 : ∀ t, Steps p.tables e below (T5.setTop (mkF m 12 #[.val (.ref r0)] [(.int (0 : Int32)), (.ref r0)])) t → Steps p.tables e below (T5.setTop (mkF m 10 #[.val (.ref r0)] [])) t := by
    intro t kt
    show Steps p.tables e below (T5.setTop (mkF m 10 #[.val (.ref r0)] [])) _
    refine XS.aloadN X5.here hx rfl (hb hby d4_10) rfl rfl ?_
    show Steps p.tables e below (T5.setTop (mkF m 11 #[.val (.ref r0)] [(.ref r0)])) _
    refine XS.iconst X5.here hx rfl (hb hby d4_11) ?_
    exact kt
  obtain ⟨T9, h9, X9, e9, W9, st9⟩ := putF X5 hx hZ hown (host := "") (Or.inl (hw _ (List.mem_of_getElem? (i := 18) rfl))) Via.refl e5 f7 f8 (Or.inl (hw _ (List.mem_of_getElem? (i := 19) rfl))) (hw _ (List.mem_of_getElem? (i := 1) rfl)) (ty := .int) (by decide) rfl rfl (g := (mkF m 12 #[.val (.ref r0)] [(.int (0 : Int32)), (.ref r0)])) rfl rfl (hb hby d4_12)
  have Fw9 := f7.same W9
  have N9 := Fr.snoc X9 N5 g_r0
  have f11 := (((F_dg.other W1 (Or.inr (slot_ne (a0 := a0) (Or.inl (hw _ (List.mem_of_getElem? (i := 30) rfl))) (Or.inl (hw _ (List.mem_of_getElem? (i := 26) rfl))) (by decide) (t := .int) (t' := .long) (by decide) (by decide)))).other W5 (Or.inr (slot_ne (a0 := a0) (Or.inl (hw _ (List.mem_of_getElem? (i := 30) rfl))) (Or.inl (hw _ (List.mem_of_getElem? (i := 28) rfl))) (by decide) (t := .int) (t' := .boolean) (by decide) (by decide)))).other W9 (Or.inr (slot_ne (a0 := a0) (Or.inl (hw _ (List.mem_of_getElem? (i := 30) rfl))) (Or.inl (hw _ (List.mem_of_getElem? (i := 19) rfl))) (by decide) (t := .int) (t' := .int) (by decide) (by decide))))
  have f12 := (f8.wr W9)
  have c14 : ∀ t, Steps p.tables e below (T9.setTop (mkF m 17 #[.val (.ref r0)] [(.int (0 : Int32)), (.ref r0)])) t → Steps p.tables e below (T9.setTop (mkF m 15 #[.val (.ref r0)] [])) t := by
    intro t kt
    show Steps p.tables e below (T9.setTop (mkF m 15 #[.val (.ref r0)] [])) _
    refine XS.aloadN X9.here hx rfl (hb hby d4_15) rfl rfl ?_
    show Steps p.tables e below (T9.setTop (mkF m 16 #[.val (.ref r0)] [(.ref r0)])) _
    refine XS.iconst X9.here hx rfl (hb hby d4_16) ?_
    exact kt
  obtain ⟨T13, h13, X13, e13, W13, st13⟩ := putF X9 hx hZ hown (host := "") (Or.inl (hw _ (List.mem_of_getElem? (i := 29) rfl))) Via.refl e9 f11 f12 (Or.inl (hw _ (List.mem_of_getElem? (i := 30) rfl))) (hw _ (List.mem_of_getElem? (i := 1) rfl)) (ty := .int) (by decide) rfl rfl (g := (mkF m 17 #[.val (.ref r0)] [(.int (0 : Int32)), (.ref r0)])) rfl rfl (hb hby d4_17)
  have Fw13 := f11.same W13
  have N13 := Fr.snoc X13 N9 g_r0
  have f15 := ((((F_wf.other W1 (Or.inr (slot_ne (a0 := a0) (Or.inl (hw _ (List.mem_of_getElem? (i := 10) rfl))) (Or.inl (hw _ (List.mem_of_getElem? (i := 26) rfl))) (by decide) (t := .boolean) (t' := .long) (by decide) (by decide)))).other W5 (Or.inr (slot_ne (a0 := a0) (Or.inl (hw _ (List.mem_of_getElem? (i := 10) rfl))) (Or.inl (hw _ (List.mem_of_getElem? (i := 28) rfl))) (by decide) (t := .boolean) (t' := .boolean) (by decide) (by decide)))).other W9 (Or.inr (slot_ne (a0 := a0) (Or.inl (hw _ (List.mem_of_getElem? (i := 10) rfl))) (Or.inl (hw _ (List.mem_of_getElem? (i := 19) rfl))) (by decide) (t := .boolean) (t' := .int) (by decide) (by decide)))).other W13 (Or.inr (slot_ne (a0 := a0) (Or.inl (hw _ (List.mem_of_getElem? (i := 10) rfl))) (Or.inl (hw _ (List.mem_of_getElem? (i := 30) rfl))) (by decide) (t := .boolean) (t' := .int) (by decide) (by decide))))
  have f16 := (f12.wr W13)
  have c18 : ∀ t, Steps p.tables e below (T13.setTop (mkF m 22 #[.val (.ref r0)] [(.int (1 : Int32)), (.ref r0)])) t → Steps p.tables e below (T13.setTop (mkF m 20 #[.val (.ref r0)] [])) t := by
    intro t kt
    show Steps p.tables e below (T13.setTop (mkF m 20 #[.val (.ref r0)] [])) _
    refine XS.aloadN X13.here hx rfl (hb hby d4_20) rfl rfl ?_
    show Steps p.tables e below (T13.setTop (mkF m 21 #[.val (.ref r0)] [(.ref r0)])) _
    refine XS.iconst X13.here hx rfl (hb hby d4_21) ?_
    exact kt
  obtain ⟨T17, h17, X17, e17, W17, st17⟩ := putFN X13 hx hZ hown (hw _ (List.mem_of_getElem? (i := 9) rfl)) Via.refl e13 f15 f16 (Or.inl (hw _ (List.mem_of_getElem? (i := 10) rfl))) (hw _ (List.mem_of_getElem? (i := 1) rfl)) (ty := .boolean) (v' := (.int (1 : Int32))) (by decide) rfl rfl (g := (mkF m 22 #[.val (.ref r0)] [(.int (1 : Int32)), (.ref r0)])) rfl rfl (hb hby d4_22)
  have Fw17 := f15.same W17
  have N17 := Fr.snoc X17 N13 g_r0
  have f19 := (((((F_ir.other W1 (Or.inr (slot_ne (a0 := a0) (Or.inl (hw _ (List.mem_of_getElem? (i := 12) rfl))) (Or.inl (hw _ (List.mem_of_getElem? (i := 26) rfl))) (by decide) (t := .boolean) (t' := .long) (by decide) (by decide)))).other W5 (Or.inr (slot_ne (a0 := a0) (Or.inl (hw _ (List.mem_of_getElem? (i := 12) rfl))) (Or.inl (hw _ (List.mem_of_getElem? (i := 28) rfl))) (by decide) (t := .boolean) (t' := .boolean) (by decide) (by decide)))).other W9 (Or.inr (slot_ne (a0 := a0) (Or.inl (hw _ (List.mem_of_getElem? (i := 12) rfl))) (Or.inl (hw _ (List.mem_of_getElem? (i := 19) rfl))) (by decide) (t := .boolean) (t' := .int) (by decide) (by decide)))).other W13 (Or.inr (slot_ne (a0 := a0) (Or.inl (hw _ (List.mem_of_getElem? (i := 12) rfl))) (Or.inl (hw _ (List.mem_of_getElem? (i := 30) rfl))) (by decide) (t := .boolean) (t' := .int) (by decide) (by decide)))).other W17 (Or.inr (slot_ne (a0 := a0) (Or.inl (hw _ (List.mem_of_getElem? (i := 12) rfl))) (Or.inl (hw _ (List.mem_of_getElem? (i := 10) rfl))) (by decide) (t := .boolean) (t' := .boolean) (by decide) (by decide))))
  have f20 := (f16.wr W17)
  have c22 : ∀ t, Steps p.tables e below (T17.setTop (mkF m 27 #[.val (.ref r0)] [(.int (1 : Int32)), (.ref r0)])) t → Steps p.tables e below (T17.setTop (mkF m 25 #[.val (.ref r0)] [])) t := by
    intro t kt
    show Steps p.tables e below (T17.setTop (mkF m 25 #[.val (.ref r0)] [])) _
    refine XS.aloadN X17.here hx rfl (hb hby d4_25) rfl rfl ?_
    show Steps p.tables e below (T17.setTop (mkF m 26 #[.val (.ref r0)] [(.ref r0)])) _
    refine XS.iconst X17.here hx rfl (hb hby d4_26) ?_
    exact kt
  obtain ⟨T21, h21, X21, e21, W21, st21⟩ := putFN X17 hx hZ hown (hw _ (List.mem_of_getElem? (i := 11) rfl)) Via.refl e17 f19 f20 (Or.inl (hw _ (List.mem_of_getElem? (i := 12) rfl))) (hw _ (List.mem_of_getElem? (i := 1) rfl)) (ty := .boolean) (v' := (.int (1 : Int32))) (by decide) rfl rfl (g := (mkF m 27 #[.val (.ref r0)] [(.int (1 : Int32)), (.ref r0)])) rfl rfl (hb hby d4_27)
  have Fw21 := f19.same W21
  have N21 := Fr.snoc X21 N17 g_r0
  obtain ⟨fs, hr, hrun, hended, hW, hsame⟩ := X21.leave (v := none) (fun _ => rfl)
  have f24 := (((((((Keep.refl h0 [r0]).wr W1 (Or.inl (List.mem_of_getElem? (i := 0) rfl))).wr W5 (Or.inl (List.mem_of_getElem? (i := 0) rfl))).wr W9 (Or.inl (List.mem_of_getElem? (i := 0) rfl))).wr W13 (Or.inl (List.mem_of_getElem? (i := 0) rfl))).wr W17 (Or.inl (List.mem_of_getElem? (i := 0) rfl))).wr W21 (Or.inl (List.mem_of_getElem? (i := 0) rfl)))
  have f25 := (f20.wr W21)
  have f26 := (((((Fw1.other W5 (Or.inr (slot_ne (a0 := a0) (Or.inl (hw _ (List.mem_of_getElem? (i := 26) rfl))) (Or.inl (hw _ (List.mem_of_getElem? (i := 28) rfl))) (by decide) (t := .long) (t' := .boolean) (by decide) (by decide)))).other W9 (Or.inr (slot_ne (a0 := a0) (Or.inl (hw _ (List.mem_of_getElem? (i := 26) rfl))) (Or.inl (hw _ (List.mem_of_getElem? (i := 19) rfl))) (by decide) (t := .long) (t' := .int) (by decide) (by decide)))).other W13 (Or.inr (slot_ne (a0 := a0) (Or.inl (hw _ (List.mem_of_getElem? (i := 26) rfl))) (Or.inl (hw _ (List.mem_of_getElem? (i := 30) rfl))) (by decide) (t := .long) (t' := .int) (by decide) (by decide)))).other W17 (Or.inr (slot_ne (a0 := a0) (Or.inl (hw _ (List.mem_of_getElem? (i := 26) rfl))) (Or.inl (hw _ (List.mem_of_getElem? (i := 10) rfl))) (by decide) (t := .long) (t' := .boolean) (by decide) (by decide)))).other W21 (Or.inr (slot_ne (a0 := a0) (Or.inl (hw _ (List.mem_of_getElem? (i := 26) rfl))) (Or.inl (hw _ (List.mem_of_getElem? (i := 12) rfl))) (by decide) (t := .long) (t' := .boolean) (by decide) (by decide))))
  have f27 := ((((Fw5.other W9 (Or.inr (slot_ne (a0 := a0) (Or.inl (hw _ (List.mem_of_getElem? (i := 28) rfl))) (Or.inl (hw _ (List.mem_of_getElem? (i := 19) rfl))) (by decide) (t := .boolean) (t' := .int) (by decide) (by decide)))).other W13 (Or.inr (slot_ne (a0 := a0) (Or.inl (hw _ (List.mem_of_getElem? (i := 28) rfl))) (Or.inl (hw _ (List.mem_of_getElem? (i := 30) rfl))) (by decide) (t := .boolean) (t' := .int) (by decide) (by decide)))).other W17 (Or.inr (slot_ne (a0 := a0) (Or.inl (hw _ (List.mem_of_getElem? (i := 28) rfl))) (Or.inl (hw _ (List.mem_of_getElem? (i := 10) rfl))) (by decide) (t := .boolean) (t' := .boolean) (by decide) (by decide)))).other W21 (Or.inr (slot_ne (a0 := a0) (Or.inl (hw _ (List.mem_of_getElem? (i := 28) rfl))) (Or.inl (hw _ (List.mem_of_getElem? (i := 12) rfl))) (by decide) (t := .boolean) (t' := .boolean) (by decide) (by decide))))
  have f28 := (((Fw9.other W13 (Or.inr (slot_ne (a0 := a0) (Or.inl (hw _ (List.mem_of_getElem? (i := 19) rfl))) (Or.inl (hw _ (List.mem_of_getElem? (i := 30) rfl))) (by decide) (t := .int) (t' := .int) (by decide) (by decide)))).other W17 (Or.inr (slot_ne (a0 := a0) (Or.inl (hw _ (List.mem_of_getElem? (i := 19) rfl))) (Or.inl (hw _ (List.mem_of_getElem? (i := 10) rfl))) (by decide) (t := .int) (t' := .boolean) (by decide) (by decide)))).other W21 (Or.inr (slot_ne (a0 := a0) (Or.inl (hw _ (List.mem_of_getElem? (i := 19) rfl))) (Or.inl (hw _ (List.mem_of_getElem? (i := 12) rfl))) (by decide) (t := .int) (t' := .boolean) (by decide) (by decide))))
  have f29 := ((Fw13.other W17 (Or.inr (slot_ne (a0 := a0) (Or.inl (hw _ (List.mem_of_getElem? (i := 30) rfl))) (Or.inl (hw _ (List.mem_of_getElem? (i := 10) rfl))) (by decide) (t := .int) (t' := .boolean) (by decide) (by decide)))).other W21 (Or.inr (slot_ne (a0 := a0) (Or.inl (hw _ (List.mem_of_getElem? (i := 30) rfl))) (Or.inl (hw _ (List.mem_of_getElem? (i := 12) rfl))) (by decide) (t := .int) (t' := .boolean) (by decide) (by decide))))
  have f30 := (Fw17.other W21 (Or.inr (slot_ne (a0 := a0) (Or.inl (hw _ (List.mem_of_getElem? (i := 10) rfl))) (Or.inl (hw _ (List.mem_of_getElem? (i := 12) rfl))) (by decide) (t := .boolean) (t' := .boolean) (by decide) (by decide))))
  refine ⟨_, _, pre0 _ (c2 _ (st1 _ (c6 _ (st5 _ (c10 _ (st9 _ (c14 _ (st13 _ (c18 _ (st17 _ (c22 _ (st21 _ (?_))))))))))))), hrun, hended, _, _, rfl, ?_, ⟨_, rfl⟩, hW, hsame.mono (by decide) (by decide)⟩
  · show Steps p.tables e below (T21.setTop (mkF m 30 #[.val (.ref r0)] [])) _
    exact X21.returnOut hx Bd.returns (hb hby d4_30) hr
  · show Q4 Z r0 ng ne ch dg wf ir h0 n0 _ T21.heap _
    rw [e21]
    exact ⟨rfl, N21, f24, f25, f26, f27, f28, f29, f30, Fw21⟩
theorem d3_0 : decode prog_17_method_5_code 0 = .ok (.aload_n 0, 1) := by decide +kernel
theorem d3_1 : decode prog_17_method_5_code 1 = .ok (.dup, 1) := by decide +kernel
theorem d3_2 : decode prog_17_method_5_code 2 = .ok (.getfield 62, 3) := by decide +kernel
theorem d3_5 : decode prog_17_method_5_code 5 = .ok (.dup_x1, 1) := by decide +kernel
theorem d3_6 : decode prog_17_method_5_code 6 = .ok (.iconst 1, 1) := by decide +kernel
theorem d3_7 : decode prog_17_method_5_code 7 = .ok (.iadd, 1) := by decide +kernel
theorem d3_8 : decode prog_17_method_5_code 8 = .ok (.putfield 62, 3) := by decide +kernel
theorem d3_11 : decode prog_17_method_5_code 11 = .ok (.ifCond .ne 31, 3) := by decide +kernel
theorem d3_14 : decode prog_17_method_5_code 14 = .ok (.iload_n 1, 1) := by decide +kernel
theorem d3_15 : decode prog_17_method_5_code 15 = .ok (.bipush 45, 2) := by decide +kernel
theorem d3_17 : decode prog_17_method_5_code 17 = .ok (.if_icmp .eq 9, 3) := by decide +kernel
theorem d3_20 : decode prog_17_method_5_code 20 = .ok (.iload_n 1, 1) := by decide +kernel
theorem d3_21 : decode prog_17_method_5_code 21 = .ok (.bipush 43, 2) := by decide +kernel
theorem d3_23 : decode prog_17_method_5_code 23 = .ok (.if_icmp .ne 19, 3) := by decide +kernel
theorem d3_26 : decode prog_17_method_5_code 26 = .ok (.aload_n 0, 1) := by decide +kernel
theorem d3_27 : decode prog_17_method_5_code 27 = .ok (.iload_n 1, 1) := by decide +kernel
theorem d3_28 : decode prog_17_method_5_code 28 = .ok (.bipush 45, 2) := by decide +kernel
theorem d3_30 : decode prog_17_method_5_code 30 = .ok (.if_icmp .ne 7, 3) := by decide +kernel
theorem d3_33 : decode prog_17_method_5_code 33 = .ok (.iconst 1, 1) := by decide +kernel
theorem d3_34 : decode prog_17_method_5_code 34 = .ok (.goto 4, 3) := by decide +kernel
theorem d3_37 : decode prog_17_method_5_code 37 = .ok (.iconst 0, 1) := by decide +kernel
theorem d3_38 : decode prog_17_method_5_code 38 = .ok (.putfield 59, 3) := by decide +kernel
theorem d3_41 : decode prog_17_method_5_code 41 = .ok (.return_, 1) := by decide +kernel
theorem d3_42 : decode prog_17_method_5_code 42 = .ok (.iload_n 1, 1) := by decide +kernel
theorem d3_43 : decode prog_17_method_5_code 43 = .ok (.bipush 48, 2) := by decide +kernel
theorem d3_45 : decode prog_17_method_5_code 45 = .ok (.isub, 1) := by decide +kernel
theorem d3_46 : decode prog_17_method_5_code 46 = .ok (.istore_n 2, 1) := by decide +kernel
theorem d3_47 : decode prog_17_method_5_code 47 = .ok (.iload_n 2, 1) := by decide +kernel
theorem d3_48 : decode prog_17_method_5_code 48 = .ok (.ifCond .lt 9, 3) := by decide +kernel
theorem d3_51 : decode prog_17_method_5_code 51 = .ok (.iload_n 2, 1) := by decide +kernel
theorem d3_52 : decode prog_17_method_5_code 52 = .ok (.bipush 9, 2) := by decide +kernel
theorem d3_54 : decode prog_17_method_5_code 54 = .ok (.if_icmp .le 9, 3) := by decide +kernel
theorem d3_57 : decode prog_17_method_5_code 57 = .ok (.aload_n 0, 1) := by decide +kernel
theorem d3_58 : decode prog_17_method_5_code 58 = .ok (.iconst 0, 1) := by decide +kernel
theorem d3_59 : decode prog_17_method_5_code 59 = .ok (.putfield 7, 3) := by decide +kernel
theorem d3_62 : decode prog_17_method_5_code 62 = .ok (.return_, 1) := by decide +kernel
theorem d3_63 : decode prog_17_method_5_code 63 = .ok (.aload_n 0, 1) := by decide +kernel
theorem d3_64 : decode prog_17_method_5_code 64 = .ok (.dup, 1) := by decide +kernel
theorem d3_65 : decode prog_17_method_5_code 65 = .ok (.getfield 66, 3) := by decide +kernel
theorem d3_68 : decode prog_17_method_5_code 68 = .ok (.iconst 1, 1) := by decide +kernel
theorem d3_69 : decode prog_17_method_5_code 69 = .ok (.iadd, 1) := by decide +kernel
theorem d3_70 : decode prog_17_method_5_code 70 = .ok (.putfield 66, 3) := by decide +kernel
theorem d3_73 : decode prog_17_method_5_code 73 = .ok (.aload_n 0, 1) := by decide +kernel
theorem d3_74 : decode prog_17_method_5_code 74 = .ok (.getfield 13, 3) := by decide +kernel
theorem d3_77 : decode prog_17_method_5_code 77 = .ok (.ifCond .eq 21, 3) := by decide +kernel
theorem d3_80 : decode prog_17_method_5_code 80 = .ok (.aload_n 0, 1) := by decide +kernel
theorem d3_81 : decode prog_17_method_5_code 81 = .ok (.getfield 55, 3) := by decide +kernel
theorem d3_84 : decode prog_17_method_5_code 84 = .ok (.ldc2_w 71, 3) := by decide +kernel
theorem d3_87 : decode prog_17_method_5_code 87 = .ok (.iload_n 2, 1) := by decide +kernel
theorem d3_88 : decode prog_17_method_5_code 88 = .ok (.i2l, 1) := by decide +kernel
theorem d3_89 : decode prog_17_method_5_code 89 = .ok (.ladd, 1) := by decide +kernel
theorem d3_90 : decode prog_17_method_5_code 90 = .ok (.ldc2_w 73, 3) := by decide +kernel
theorem d3_93 : decode prog_17_method_5_code 93 = .ok (.ldiv, 1) := by decide +kernel
theorem d3_94 : decode prog_17_method_5_code 94 = .ok (.lcmp, 1) := by decide +kernel
theorem d3_95 : decode prog_17_method_5_code 95 = .ok (.ifCond .ge 11, 3) := by decide +kernel
theorem d3_98 : decode prog_17_method_5_code 98 = .ok (.aload_n 0, 1) := by decide +kernel
theorem d3_99 : decode prog_17_method_5_code 99 = .ok (.iconst 0, 1) := by decide +kernel
theorem d3_100 : decode prog_17_method_5_code 100 = .ok (.putfield 13, 3) := by decide +kernel
theorem d3_103 : decode prog_17_method_5_code 103 = .ok (.goto 18, 3) := by decide +kernel
theorem d3_106 : decode prog_17_method_5_code 106 = .ok (.aload_n 0, 1) := by decide +kernel
theorem d3_107 : decode prog_17_method_5_code 107 = .ok (.aload_n 0, 1) := by decide +kernel
theorem d3_108 : decode prog_17_method_5_code 108 = .ok (.getfield 55, 3) := by decide +kernel
theorem d3_111 : decode prog_17_method_5_code 111 = .ok (.ldc2_w 73, 3) := by decide +kernel
theorem d3_114 : decode prog_17_method_5_code 114 = .ok (.lmul, 1) := by decide +kernel
theorem d3_115 : decode prog_17_method_5_code 115 = .ok (.iload_n 2, 1) := by decide +kernel
theorem d3_116 : decode prog_17_method_5_code 116 = .ok (.i2l, 1) := by decide +kernel
theorem d3_117 : decode prog_17_method_5_code 117 = .ok (.lsub, 1) := by decide +kernel
theorem d3_118 : decode prog_17_method_5_code 118 = .ok (.putfield 55, 3) := by decide +kernel
theorem d3_121 : decode prog_17_method_5_code 121 = .ok (.return_, 1) := by decide +kernel
theorem pn_3 : plainName "com/example/sequence_set/sequenceset/cli/DecimalParser" = true := by first | (simp [plainName, overriddenIn]; done) | decide +kernel
theorem ef_3 (m : MethodId) (x0 : Addr) (x1 : Int32) : entryFrame m #[(.ref x0), (.int x1)] 3 = mkF m 0 #[.val (.ref x0), .val (.int x1), .unset] [] := by first | (simp [entryFrame, mkF, argsToLocals, Value.category]; done) | rfl
def Q3 (Z : State) (r0 : Addr) (p1 : Int32) (ng : Int64) (ne : Int32) (ch : Int32) (dg : Int32) (wf : Int32) (ir : Int32) (h0 : Heap) (n0 : Nat) (v : Option Value) (h : Heap) (L : List Loc) : Prop := ∃ (ng' : Int64) (ne' : Int32) (ch' : Int32) (dg' : Int32) (wf' : Int32) (ir' : Int32), v = none ∧ Fr n0 L ∧ Keep h0 h [r0] ∧ Exa Z h r0 "com/example/sequence_set/sequenceset/cli/DecimalParser" ∧ Fld Z h r0 "com/example/sequence_set/sequenceset/cli/DecimalParser" "negated" "J" (.long ng') ∧ Fld Z h r0 "com/example/sequence_set/sequenceset/cli/DecimalParser" "negative" "Z" (.int ne') ∧ Fld Z h r0 "com/example/sequence_set/sequenceset/cli/DecimalParser" "characters" "I" (.int ch') ∧ Fld Z h r0 "com/example/sequence_set/sequenceset/cli/DecimalParser" "digits" "I" (.int dg') ∧ Fld Z h r0 "com/example/sequence_set/sequenceset/cli/DecimalParser" "wellFormed" "Z" (.int wf') ∧ Fld Z h r0 "com/example/sequence_set/sequenceset/cli/DecimalParser" "inRange" "Z" (.int ir')
set_option maxRecDepth 65536 in
set_option maxHeartbeats 40000000 in
theorem rm3 (l : Launch) (Z : State) (a0 : Array Value) (hw : ∀ d ∈ tables_1, d.before a0 Z = true) (ws : List Jvm.Cond) (r0 : Addr) (p1 : Int32) (ng : Int64) (ne : Int32) (ch : Int32) (dg : Int32) (wf : Int32) (ir : Int32) (h0 : Heap) (n0 : Nat) (Z0 : n0 ≤ h0.size) (F_ng : Fld Z h0 r0 "com/example/sequence_set/sequenceset/cli/DecimalParser" "negated" "J" (.long ng)) (F_ne : Fld Z h0 r0 "com/example/sequence_set/sequenceset/cli/DecimalParser" "negative" "Z" (.int ne)) (F_ch : Fld Z h0 r0 "com/example/sequence_set/sequenceset/cli/DecimalParser" "characters" "I" (.int ch)) (F_dg : Fld Z h0 r0 "com/example/sequence_set/sequenceset/cli/DecimalParser" "digits" "I" (.int dg)) (F_wf : Fld Z h0 r0 "com/example/sequence_set/sequenceset/cli/DecimalParser" "wellFormed" "Z" (.int wf)) (F_ir : Fld Z h0 r0 "com/example/sequence_set/sequenceset/cli/DecimalParser" "inRange" "Z" (.int ir)) (E0 : Exa Z h0 r0 "com/example/sequence_set/sequenceset/cli/DecimalParser") (g_r0 : n0 ≤ r0) :
    MetFree l (⟨"com/example/sequence_set/sequenceset/cli/DecimalParser", "accept", "(I)V"⟩ : MethodName) (head1 (Jvm.Cond.code (⟨"com/example/sequence_set/sequenceset/cli/DecimalParser", "accept", "(I)V"⟩ : MethodName) prog_17_method_5_code 3 none :: ws) ({ frames := 0, cells := 0, slots := 0, locals := 0 } : Room)) (fun a U => a = #[(.ref r0), (.int p1)] ∧ Z.Warmed39 U.vm ∧ U.heap = h0) (fun _ _ _ _ _ => True) (fun _ U o U' => ∃ v L, o = .returned v ∧ Q3 Z r0 p1 ng ne ch dg wf ir h0 n0 v U'.heap L ∧ FrameEnd U o U' L ({ frames := 0, cells := 0, slots := 0, locals := 0 } : Room).cells ({ frames := 0, cells := 0, slots := 0, locals := 0 } : Room).slots) := by
  refine MetFree.of_bodySF (plainFor_of_name pn_3) hisR ?_
  intro p e s m args below meth c s₁ Bd hml0 hP hK
  obtain ⟨rfl, hZ, hh⟩ := hP
  have hx := Bd.exec
  have hby := Bd.bytes
  have hml : c.maxLocals = 3 := hml0
  have hown : s.vm.findClass "com/example/sequence_set/sequenceset/cli/DecimalParser" = some m.cls := findClass_of_methodNamed Bd.named
  have hnm := (name_of_methodNamed Bd.named Bd.method).1
  have X0 : Stand p l e ({ frames := 0, cells := 0, slots := 0, locals := 0 } : Room) s m #[(.ref r0), (.int p1)] below meth c s₁ [] 0 0 := Stand.of_body Bd
  have e0 : s₁.heap = h0 := by rw [← hh, Bd.state]; rfl
  have N0 := Fr.nil n0
  have pre0 : ∀ t, Steps p.tables e below (s₁.setTop (mkF m 0 #[.val (.ref r0), .val (.int p1), .unset] [])) t → Steps p.tables e below (s₁.setTop (entryFrame m #[(.ref r0), (.int p1)] 3)) t := fun t k => castTop (ef_3 m r0 p1) k
  have c2 : ∀ t, Steps p.tables e below (s₁.setTop (mkF m 2 #[.val (.ref r0), .val (.int p1), .unset] [(.ref r0), (.ref r0)])) t → Steps p.tables e below (s₁.setTop (mkF m 0 #[.val (.ref r0), .val (.int p1), .unset] [])) t := by
    intro t kt
    show Steps p.tables e below (s₁.setTop (mkF m 0 #[.val (.ref r0), .val (.int p1), .unset] [])) _
    refine XS.aloadN X0.here hx rfl (hb hby d3_0) rfl rfl ?_
    show Steps p.tables e below (s₁.setTop (mkF m 1 #[.val (.ref r0), .val (.int p1), .unset] [(.ref r0)])) _
    refine XS.dup X0.here hx rfl (hb hby d3_1) rfl rfl ?_
    exact kt
  obtain ⟨T1, X1, e1, st1⟩ := getF X0 hx hZ hown (host := "") (Or.inl (hw _ (List.mem_of_getElem? (i := 18) rfl))) Via.refl e0 F_ch (g := (mkF m 2 #[.val (.ref r0), .val (.int p1), .unset] [(.ref r0), (.ref r0)])) rfl rfl (hb hby d3_2)
  have c4 : ∀ t, Steps p.tables e below (T1.setTop (mkF m 8 #[.val (.ref r0), .val (.int p1), .unset] [(.int (ch + (1 : Int32))), (.ref r0), (.int ch)])) t → Steps p.tables e below (T1.setTop (mkF m 5 #[.val (.ref r0), .val (.int p1), .unset] [(.int ch), (.ref r0)])) t := by
    intro t kt
    show Steps p.tables e below (T1.setTop (mkF m 5 #[.val (.ref r0), .val (.int p1), .unset] [(.int ch), (.ref r0)])) _
    refine XS.dupX1 X1.here hx rfl (hb hby d3_5) rfl rfl rfl ?_
    show Steps p.tables e below (T1.setTop (mkF m 6 #[.val (.ref r0), .val (.int p1), .unset] [(.int ch), (.ref r0), (.int ch)])) _
    refine XS.iconst X1.here hx rfl (hb hby d3_6) ?_
    show Steps p.tables e below (T1.setTop (mkF m 7 #[.val (.ref r0), .val (.int p1), .unset] [(.int (1 : Int32)), (.int ch), (.ref r0), (.int ch)])) _
    refine XS.iadd X1.here hx rfl (hb hby d3_7) rfl ?_
    exact kt
  obtain ⟨T3, h3, X3, e3, W3, st3⟩ := putF X1 hx hZ hown (host := "") (Or.inl (hw _ (List.mem_of_getElem? (i := 18) rfl))) Via.refl e1 F_ch E0 (Or.inl (hw _ (List.mem_of_getElem? (i := 19) rfl))) (hw _ (List.mem_of_getElem? (i := 1) rfl)) (ty := .int) (by decide) rfl rfl (g := (mkF m 8 #[.val (.ref r0), .val (.int p1), .unset] [(.int (ch + (1 : Int32))), (.ref r0), (.int ch)])) rfl rfl (hb hby d3_8)
  have Fw3 := F_ch.same W3
  have N3 := Fr.snoc X3 N0 g_r0
  by_cases hc11 : ch = (0 : Int32)
  · -- it is
    have c5 : ∀ t, Steps p.tables e below (T3.setTop (mkF m 17 #[.val (.ref r0), .val (.int p1), .unset] [(.int (45 : Int32)), (.int p1)])) t → Steps p.tables e below (T3.setTop (mkF m 11 #[.val (.ref r0), .val (.int p1), .unset] [(.int ch)])) t := by
      intro t kt
      show Steps p.tables e below (T3.setTop (mkF m 11 #[.val (.ref r0), .val (.int p1), .unset] [(.int ch)])) _
      refine XS.ifNo X3.here hx rfl (hb hby d3_11) rfl ((if0 _ _).trans (teq hc11).2) ?_
      show Steps p.tables e below (T3.setTop (mkF m 14 #[.val (.ref r0), .val (.int p1), .unset] [])) _
      refine XS.iloadN X3.here hx rfl (hb hby d3_14) rfl ?_
      show Steps p.tables e below (T3.setTop (mkF m 15 #[.val (.ref r0), .val (.int p1), .unset] [(.int p1)])) _
      refine XS.bipush X3.here hx rfl (hb hby d3_15) ?_
      exact kt
    by_cases hc17 : p1 = (45 : Int32)
    · -- it is
      have f6 := (F_ne.other W3 (Or.inr (slot_ne (a0 := a0) (Or.inl (hw _ (List.mem_of_getElem? (i := 28) rfl))) (Or.inl (hw _ (List.mem_of_getElem? (i := 19) rfl))) (by decide) (t := .boolean) (t' := .int) (by decide) (by decide))))
      have f7 := (E0.wr W3)
      have c9 : ∀ t, Steps p.tables e below (T3.setTop (mkF m 38 #[.val (.ref r0), .val (.int p1), .unset] [(.int (1 : Int32)), (.ref r0)])) t → Steps p.tables e below (T3.setTop (mkF m 17 #[.val (.ref r0), .val (.int p1), .unset] [(.int (45 : Int32)), (.int p1)])) t := by
        intro t kt
        show Steps p.tables e below (T3.setTop (mkF m 17 #[.val (.ref r0), .val (.int p1), .unset] [(.int (45 : Int32)), (.int p1)])) _
        refine XS.icmpYes X3.here hx rfl (pc0 := 17) (pc' := 26) rfl (hb hby d3_17) rfl (teq hc17).1 (by decide) (by decide) ?_
        show Steps p.tables e below (T3.setTop (mkF m 26 #[.val (.ref r0), .val (.int p1), .unset] [])) _
        refine XS.aloadN X3.here hx rfl (hb hby d3_26) rfl rfl ?_
        show Steps p.tables e below (T3.setTop (mkF m 27 #[.val (.ref r0), .val (.int p1), .unset] [(.ref r0)])) _
        refine XS.iloadN X3.here hx rfl (hb hby d3_27) rfl ?_
        show Steps p.tables e below (T3.setTop (mkF m 28 #[.val (.ref r0), .val (.int p1), .unset] [(.int p1), (.ref r0)])) _
        refine XS.bipush X3.here hx rfl (hb hby d3_28) ?_
        show Steps p.tables e below (T3.setTop (mkF m 30 #[.val (.ref r0), .val (.int p1), .unset] [(.int (45 : Int32)), (.int p1), (.ref r0)])) _
        refine XS.icmpNo X3.here hx rfl (hb hby d3_30) rfl (teq hc17).2 ?_
        show Steps p.tables e below (T3.setTop (mkF m 33 #[.val (.ref r0), .val (.int p1), .unset] [(.ref r0)])) _
        refine XS.iconst X3.here hx rfl (hb hby d3_33) ?_
        show Steps p.tables e below (T3.setTop (mkF m 34 #[.val (.ref r0), .val (.int p1), .unset] [(.int (1 : Int32)), (.ref r0)])) _
        refine XS.goto X3.here hx rfl (pc0 := 34) (pc' := 38) rfl (hb hby d3_34) (by decide) (by decide) ?_
        exact kt
      obtain ⟨T8, h8, X8, e8, W8, st8⟩ := putFN X3 hx hZ hown (hw _ (List.mem_of_getElem? (i := 27) rfl)) Via.refl e3 f6 f7 (Or.inl (hw _ (List.mem_of_getElem? (i := 28) rfl))) (hw _ (List.mem_of_getElem? (i := 1) rfl)) (ty := .boolean) (v' := (.int (1 : Int32))) (by decide) rfl rfl (g := (mkF m 38 #[.val (.ref r0), .val (.int p1), .unset] [(.int (1 : Int32)), (.ref r0)])) rfl rfl (hb hby d3_38)
      have Fw8 := f6.same W8
      have N8 := Fr.snoc X8 N3 g_r0
      obtain ⟨fs, hr, hrun, hended, hW, hsame⟩ := X8.leave (v := none) (fun _ => rfl)
      have f11 := (((Keep.refl h0 [r0]).wr W3 (Or.inl (List.mem_of_getElem? (i := 0) rfl))).wr W8 (Or.inl (List.mem_of_getElem? (i := 0) rfl)))
      have f12 := (f7.wr W8)
      have f13 := ((F_ng.other W3 (Or.inr (slot_ne (a0 := a0) (Or.inl (hw _ (List.mem_of_getElem? (i := 26) rfl))) (Or.inl (hw _ (List.mem_of_getElem? (i := 19) rfl))) (by decide) (t := .long) (t' := .int) (by decide) (by decide)))).other W8 (Or.inr (slot_ne (a0 := a0) (Or.inl (hw _ (List.mem_of_getElem? (i := 26) rfl))) (Or.inl (hw _ (List.mem_of_getElem? (i := 28) rfl))) (by decide) (t := .long) (t' := .boolean) (by decide) (by decide))))
      have f14 := (Fw3.other W8 (Or.inr (slot_ne (a0 := a0) (Or.inl (hw _ (List.mem_of_getElem? (i := 19) rfl))) (Or.inl (hw _ (List.mem_of_getElem? (i := 28) rfl))) (by decide) (t := .int) (t' := .boolean) (by decide) (by decide))))
      have f15 := ((F_dg.other W3 (Or.inr (slot_ne (a0 := a0) (Or.inl (hw _ (List.mem_of_getElem? (i := 30) rfl))) (Or.inl (hw _ (List.mem_of_getElem? (i := 19) rfl))) (by decide) (t := .int) (t' := .int) (by decide) (by decide)))).other W8 (Or.inr (slot_ne (a0 := a0) (Or.inl (hw _ (List.mem_of_getElem? (i := 30) rfl))) (Or.inl (hw _ (List.mem_of_getElem? (i := 28) rfl))) (by decide) (t := .int) (t' := .boolean) (by decide) (by decide))))
      have f16 := ((F_wf.other W3 (Or.inr (slot_ne (a0 := a0) (Or.inl (hw _ (List.mem_of_getElem? (i := 10) rfl))) (Or.inl (hw _ (List.mem_of_getElem? (i := 19) rfl))) (by decide) (t := .boolean) (t' := .int) (by decide) (by decide)))).other W8 (Or.inr (slot_ne (a0 := a0) (Or.inl (hw _ (List.mem_of_getElem? (i := 10) rfl))) (Or.inl (hw _ (List.mem_of_getElem? (i := 28) rfl))) (by decide) (t := .boolean) (t' := .boolean) (by decide) (by decide))))
      have f17 := ((F_ir.other W3 (Or.inr (slot_ne (a0 := a0) (Or.inl (hw _ (List.mem_of_getElem? (i := 12) rfl))) (Or.inl (hw _ (List.mem_of_getElem? (i := 19) rfl))) (by decide) (t := .boolean) (t' := .int) (by decide) (by decide)))).other W8 (Or.inr (slot_ne (a0 := a0) (Or.inl (hw _ (List.mem_of_getElem? (i := 12) rfl))) (Or.inl (hw _ (List.mem_of_getElem? (i := 28) rfl))) (by decide) (t := .boolean) (t' := .boolean) (by decide) (by decide))))
      refine ⟨_, _, pre0 _ (c2 _ (st1 _ (c4 _ (st3 _ (c5 _ (c9 _ (st8 _ (?_)))))))), hrun, hended, _, _, rfl, ?_, ⟨_, rfl⟩, hW, hsame.mono (by decide) (by decide)⟩
      · show Steps p.tables e below (T8.setTop (mkF m 41 #[.val (.ref r0), .val (.int p1), .unset] [])) _
        exact X8.returnOut hx Bd.returns (hb hby d3_41) hr
      · show Q3 Z r0 p1 ng ne ch dg wf ir h0 n0 _ T8.heap _
        rw [e8]
        exact ⟨_, _, _, _, _, _, rfl, N8, f11, f12, f13, Fw8, f14, f15, f16, f17⟩
    · -- it isn't
      have c18 : ∀ t, Steps p.tables e below (T3.setTop (mkF m 23 #[.val (.ref r0), .val (.int p1), .unset] [(.int (43 : Int32)), (.int p1)])) t → Steps p.tables e below (T3.setTop (mkF m 17 #[.val (.ref r0), .val (.int p1), .unset] [(.int (45 : Int32)), (.int p1)])) t := by
        intro t kt
        show Steps p.tables e below (T3.setTop (mkF m 17 #[.val (.ref r0), .val (.int p1), .unset] [(.int (45 : Int32)), (.int p1)])) _
        refine XS.icmpNo X3.here hx rfl (hb hby d3_17) rfl (feq hc17).1 ?_
        show Steps p.tables e below (T3.setTop (mkF m 20 #[.val (.ref r0), .val (.int p1), .unset] [])) _
        refine XS.iloadN X3.here hx rfl (hb hby d3_20) rfl ?_
        show Steps p.tables e below (T3.setTop (mkF m 21 #[.val (.ref r0), .val (.int p1), .unset] [(.int p1)])) _
        refine XS.bipush X3.here hx rfl (hb hby d3_21) ?_
        exact kt
      by_cases hc23 : p1 = (43 : Int32)
      · -- it is
        have f19 := (F_ne.other W3 (Or.inr (slot_ne (a0 := a0) (Or.inl (hw _ (List.mem_of_getElem? (i := 28) rfl))) (Or.inl (hw _ (List.mem_of_getElem? (i := 19) rfl))) (by decide) (t := .boolean) (t' := .int) (by decide) (by decide))))
        have f20 := (E0.wr W3)
        have c22 : ∀ t, Steps p.tables e below (T3.setTop (mkF m 38 #[.val (.ref r0), .val (.int p1), .unset] [(.int (0 : Int32)), (.ref r0)])) t → Steps p.tables e below (T3.setTop (mkF m 23 #[.val (.ref r0), .val (.int p1), .unset] [(.int (43 : Int32)), (.int p1)])) t := by
          intro t kt
          show Steps p.tables e below (T3.setTop (mkF m 23 #[.val (.ref r0), .val (.int p1), .unset] [(.int (43 : Int32)), (.int p1)])) _
          refine XS.icmpNo X3.here hx rfl (hb hby d3_23) rfl (teq hc23).2 ?_
          show Steps p.tables e below (T3.setTop (mkF m 26 #[.val (.ref r0), .val (.int p1), .unset] [])) _
          refine XS.aloadN X3.here hx rfl (hb hby d3_26) rfl rfl ?_
          show Steps p.tables e below (T3.setTop (mkF m 27 #[.val (.ref r0), .val (.int p1), .unset] [(.ref r0)])) _
          refine XS.iloadN X3.here hx rfl (hb hby d3_27) rfl ?_
          show Steps p.tables e below (T3.setTop (mkF m 28 #[.val (.ref r0), .val (.int p1), .unset] [(.int p1), (.ref r0)])) _
          refine XS.bipush X3.here hx rfl (hb hby d3_28) ?_
          show Steps p.tables e below (T3.setTop (mkF m 30 #[.val (.ref r0), .val (.int p1), .unset] [(.int (45 : Int32)), (.int p1), (.ref r0)])) _
          refine XS.icmpYes X3.here hx rfl (pc0 := 30) (pc' := 37) rfl (hb hby d3_30) rfl (feq hc17).2 (by decide) (by decide) ?_
          show Steps p.tables e below (T3.setTop (mkF m 37 #[.val (.ref r0), .val (.int p1), .unset] [(.ref r0)])) _
          refine XS.iconst X3.here hx rfl (hb hby d3_37) ?_
          exact kt
        obtain ⟨T21, h21, X21, e21, W21, st21⟩ := putFN X3 hx hZ hown (hw _ (List.mem_of_getElem? (i := 27) rfl)) Via.refl e3 f19 f20 (Or.inl (hw _ (List.mem_of_getElem? (i := 28) rfl))) (hw _ (List.mem_of_getElem? (i := 1) rfl)) (ty := .boolean) (v' := (.int (0 : Int32))) (by decide) rfl rfl (g := (mkF m 38 #[.val (.ref r0), .val (.int p1), .unset] [(.int (0 : Int32)), (.ref r0)])) rfl rfl (hb hby d3_38)
        have Fw21 := f19.same W21
        have N21 := Fr.snoc X21 N3 g_r0
        obtain ⟨fs, hr, hrun, hended, hW, hsame⟩ := X21.leave (v := none) (fun _ => rfl)
        have f24 := (((Keep.refl h0 [r0]).wr W3 (Or.inl (List.mem_of_getElem? (i := 0) rfl))).wr W21 (Or.inl (List.mem_of_getElem? (i := 0) rfl)))
        have f25 := (f20.wr W21)
        have f26 := ((F_ng.other W3 (Or.inr (slot_ne (a0 := a0) (Or.inl (hw _ (List.mem_of_getElem? (i := 26) rfl))) (Or.inl (hw _ (List.mem_of_getElem? (i := 19) rfl))) (by decide) (t := .long) (t' := .int) (by decide) (by decide)))).other W21 (Or.inr (slot_ne (a0 := a0) (Or.inl (hw _ (List.mem_of_getElem? (i := 26) rfl))) (Or.inl (hw _ (List.mem_of_getElem? (i := 28) rfl))) (by decide) (t := .long) (t' := .boolean) (by decide) (by decide))))
        have f27 := (Fw3.other W21 (Or.inr (slot_ne (a0 := a0) (Or.inl (hw _ (List.mem_of_getElem? (i := 19) rfl))) (Or.inl (hw _ (List.mem_of_getElem? (i := 28) rfl))) (by decide) (t := .int) (t' := .boolean) (by decide) (by decide))))
        have f28 := ((F_dg.other W3 (Or.inr (slot_ne (a0 := a0) (Or.inl (hw _ (List.mem_of_getElem? (i := 30) rfl))) (Or.inl (hw _ (List.mem_of_getElem? (i := 19) rfl))) (by decide) (t := .int) (t' := .int) (by decide) (by decide)))).other W21 (Or.inr (slot_ne (a0 := a0) (Or.inl (hw _ (List.mem_of_getElem? (i := 30) rfl))) (Or.inl (hw _ (List.mem_of_getElem? (i := 28) rfl))) (by decide) (t := .int) (t' := .boolean) (by decide) (by decide))))
        have f29 := ((F_wf.other W3 (Or.inr (slot_ne (a0 := a0) (Or.inl (hw _ (List.mem_of_getElem? (i := 10) rfl))) (Or.inl (hw _ (List.mem_of_getElem? (i := 19) rfl))) (by decide) (t := .boolean) (t' := .int) (by decide) (by decide)))).other W21 (Or.inr (slot_ne (a0 := a0) (Or.inl (hw _ (List.mem_of_getElem? (i := 10) rfl))) (Or.inl (hw _ (List.mem_of_getElem? (i := 28) rfl))) (by decide) (t := .boolean) (t' := .boolean) (by decide) (by decide))))
        have f30 := ((F_ir.other W3 (Or.inr (slot_ne (a0 := a0) (Or.inl (hw _ (List.mem_of_getElem? (i := 12) rfl))) (Or.inl (hw _ (List.mem_of_getElem? (i := 19) rfl))) (by decide) (t := .boolean) (t' := .int) (by decide) (by decide)))).other W21 (Or.inr (slot_ne (a0 := a0) (Or.inl (hw _ (List.mem_of_getElem? (i := 12) rfl))) (Or.inl (hw _ (List.mem_of_getElem? (i := 28) rfl))) (by decide) (t := .boolean) (t' := .boolean) (by decide) (by decide))))
        refine ⟨_, _, pre0 _ (c2 _ (st1 _ (c4 _ (st3 _ (c5 _ (c18 _ (c22 _ (st21 _ (?_))))))))), hrun, hended, _, _, rfl, ?_, ⟨_, rfl⟩, hW, hsame.mono (by decide) (by decide)⟩
        · show Steps p.tables e below (T21.setTop (mkF m 41 #[.val (.ref r0), .val (.int p1), .unset] [])) _
          exact X21.returnOut hx Bd.returns (hb hby d3_41) hr
        · show Q3 Z r0 p1 ng ne ch dg wf ir h0 n0 _ T21.heap _
          rw [e21]
          exact ⟨_, _, _, _, _, _, rfl, N21, f24, f25, f26, Fw21, f27, f28, f29, f30⟩
      · -- it isn't
        have c31 : ∀ t, Steps p.tables e below (T3.setTop (mkF m 48 #[.val (.ref r0), .val (.int p1), .val (.int (p1 - (48 : Int32)))] [(.int (p1 - (48 : Int32)))])) t → Steps p.tables e below (T3.setTop (mkF m 23 #[.val (.ref r0), .val (.int p1), .unset] [(.int (43 : Int32)), (.int p1)])) t := by
          intro t kt
          show Steps p.tables e below (T3.setTop (mkF m 23 #[.val (.ref r0), .val (.int p1), .unset] [(.int (43 : Int32)), (.int p1)])) _
          refine XS.icmpYes X3.here hx rfl (pc0 := 23) (pc' := 42) rfl (hb hby d3_23) rfl (feq hc23).2 (by decide) (by decide) ?_
          show Steps p.tables e below (T3.setTop (mkF m 42 #[.val (.ref r0), .val (.int p1), .unset] [])) _
          refine XS.iloadN X3.here hx rfl (hb hby d3_42) rfl ?_
          show Steps p.tables e below (T3.setTop (mkF m 43 #[.val (.ref r0), .val (.int p1), .unset] [(.int p1)])) _
          refine XS.bipush X3.here hx rfl (hb hby d3_43) ?_
          show Steps p.tables e below (T3.setTop (mkF m 45 #[.val (.ref r0), .val (.int p1), .unset] [(.int (48 : Int32)), (.int p1)])) _
          refine XS.isub X3.here hx rfl (hb hby d3_45) rfl ?_
          show Steps p.tables e below (T3.setTop (mkF m 46 #[.val (.ref r0), .val (.int p1), .unset] [(.int (p1 - (48 : Int32)))])) _
          refine XS.istoreN X3.here hx rfl (hb hby d3_46) rfl (l' := #[.val (.ref r0), .val (.int p1), .val (.int (p1 - (48 : Int32)))]) rfl ?_
          show Steps p.tables e below (T3.setTop (mkF m 47 #[.val (.ref r0), .val (.int p1), .val (.int (p1 - (48 : Int32)))] [])) _
          refine XS.iloadN X3.here hx rfl (hb hby d3_47) rfl ?_
          exact kt
        by_cases hc48 : (p1 - (48 : Int32)) < (0 : Int32)
        · -- it is
          have f32 := (F_wf.other W3 (Or.inr (slot_ne (a0 := a0) (Or.inl (hw _ (List.mem_of_getElem? (i := 10) rfl))) (Or.inl (hw _ (List.mem_of_getElem? (i := 19) rfl))) (by decide) (t := .boolean) (t' := .int) (by decide) (by decide))))
          have f33 := (E0.wr W3)
          have c35 : ∀ t, Steps p.tables e below (T3.setTop (mkF m 59 #[.val (.ref r0), .val (.int p1), .val (.int (p1 - (48 : Int32)))] [(.int (0 : Int32)), (.ref r0)])) t → Steps p.tables e below (T3.setTop (mkF m 48 #[.val (.ref r0), .val (.int p1), .val (.int (p1 - (48 : Int32)))] [(.int (p1 - (48 : Int32)))])) t := by
            intro t kt
            show Steps p.tables e below (T3.setTop (mkF m 48 #[.val (.ref r0), .val (.int p1), .val (.int (p1 - (48 : Int32)))] [(.int (p1 - (48 : Int32)))])) _
            refine XS.ifYes X3.here hx rfl (pc0 := 48) (pc' := 57) rfl (hb hby d3_48) rfl ((if0 _ _).trans (tlt hc48).1) (by decide) (by decide) ?_
            show Steps p.tables e below (T3.setTop (mkF m 57 #[.val (.ref r0), .val (.int p1), .val (.int (p1 - (48 : Int32)))] [])) _
            refine XS.aloadN X3.here hx rfl (hb hby d3_57) rfl rfl ?_
            show Steps p.tables e below (T3.setTop (mkF m 58 #[.val (.ref r0), .val (.int p1), .val (.int (p1 - (48 : Int32)))] [(.ref r0)])) _
            refine XS.iconst X3.here hx rfl (hb hby d3_58) ?_
            exact kt
          obtain ⟨T34, h34, X34, e34, W34, st34⟩ := putFN X3 hx hZ hown (hw _ (List.mem_of_getElem? (i := 9) rfl)) Via.refl e3 f32 f33 (Or.inl (hw _ (List.mem_of_getElem? (i := 10) rfl))) (hw _ (List.mem_of_getElem? (i := 1) rfl)) (ty := .boolean) (v' := (.int (0 : Int32))) (by decide) rfl rfl (g := (mkF m 59 #[.val (.ref r0), .val (.int p1), .val (.int (p1 - (48 : Int32)))] [(.int (0 : Int32)), (.ref r0)])) rfl rfl (hb hby d3_59)
          have Fw34 := f32.same W34
          have N34 := Fr.snoc X34 N3 g_r0
          obtain ⟨fs, hr, hrun, hended, hW, hsame⟩ := X34.leave (v := none) (fun _ => rfl)
          have f37 := (((Keep.refl h0 [r0]).wr W3 (Or.inl (List.mem_of_getElem? (i := 0) rfl))).wr W34 (Or.inl (List.mem_of_getElem? (i := 0) rfl)))
          have f38 := (f33.wr W34)
          have f39 := ((F_ng.other W3 (Or.inr (slot_ne (a0 := a0) (Or.inl (hw _ (List.mem_of_getElem? (i := 26) rfl))) (Or.inl (hw _ (List.mem_of_getElem? (i := 19) rfl))) (by decide) (t := .long) (t' := .int) (by decide) (by decide)))).other W34 (Or.inr (slot_ne (a0 := a0) (Or.inl (hw _ (List.mem_of_getElem? (i := 26) rfl))) (Or.inl (hw _ (List.mem_of_getElem? (i := 10) rfl))) (by decide) (t := .long) (t' := .boolean) (by decide) (by decide))))
          have f40 := ((F_ne.other W3 (Or.inr (slot_ne (a0 := a0) (Or.inl (hw _ (List.mem_of_getElem? (i := 28) rfl))) (Or.inl (hw _ (List.mem_of_getElem? (i := 19) rfl))) (by decide) (t := .boolean) (t' := .int) (by decide) (by decide)))).other W34 (Or.inr (slot_ne (a0 := a0) (Or.inl (hw _ (List.mem_of_getElem? (i := 28) rfl))) (Or.inl (hw _ (List.mem_of_getElem? (i := 10) rfl))) (by decide) (t := .boolean) (t' := .boolean) (by decide) (by decide))))
          have f41 := (Fw3.other W34 (Or.inr (slot_ne (a0 := a0) (Or.inl (hw _ (List.mem_of_getElem? (i := 19) rfl))) (Or.inl (hw _ (List.mem_of_getElem? (i := 10) rfl))) (by decide) (t := .int) (t' := .boolean) (by decide) (by decide))))
          have f42 := ((F_dg.other W3 (Or.inr (slot_ne (a0 := a0) (Or.inl (hw _ (List.mem_of_getElem? (i := 30) rfl))) (Or.inl (hw _ (List.mem_of_getElem? (i := 19) rfl))) (by decide) (t := .int) (t' := .int) (by decide) (by decide)))).other W34 (Or.inr (slot_ne (a0 := a0) (Or.inl (hw _ (List.mem_of_getElem? (i := 30) rfl))) (Or.inl (hw _ (List.mem_of_getElem? (i := 10) rfl))) (by decide) (t := .int) (t' := .boolean) (by decide) (by decide))))
          have f43 := ((F_ir.other W3 (Or.inr (slot_ne (a0 := a0) (Or.inl (hw _ (List.mem_of_getElem? (i := 12) rfl))) (Or.inl (hw _ (List.mem_of_getElem? (i := 19) rfl))) (by decide) (t := .boolean) (t' := .int) (by decide) (by decide)))).other W34 (Or.inr (slot_ne (a0 := a0) (Or.inl (hw _ (List.mem_of_getElem? (i := 12) rfl))) (Or.inl (hw _ (List.mem_of_getElem? (i := 10) rfl))) (by decide) (t := .boolean) (t' := .boolean) (by decide) (by decide))))
          refine ⟨_, _, pre0 _ (c2 _ (st1 _ (c4 _ (st3 _ (c5 _ (c18 _ (c31 _ (c35 _ (st34 _ (?_)))))))))), hrun, hended, _, _, rfl, ?_, ⟨_, rfl⟩, hW, hsame.mono (by decide) (by decide)⟩
          · show Steps p.tables e below (T34.setTop (mkF m 62 #[.val (.ref r0), .val (.int p1), .val (.int (p1 - (48 : Int32)))] [])) _
            exact X34.returnOut hx Bd.returns (hb hby d3_62) hr
          · show Q3 Z r0 p1 ng ne ch dg wf ir h0 n0 _ T34.heap _
            rw [e34]
            exact ⟨_, _, _, _, _, _, rfl, N34, f37, f38, f39, f40, f41, f42, Fw34, f43⟩
        · -- it isn't
          have c44 : ∀ t, Steps p.tables e below (T3.setTop (mkF m 54 #[.val (.ref r0), .val (.int p1), .val (.int (p1 - (48 : Int32)))] [(.int (9 : Int32)), (.int (p1 - (48 : Int32)))])) t → Steps p.tables e below (T3.setTop (mkF m 48 #[.val (.ref r0), .val (.int p1), .val (.int (p1 - (48 : Int32)))] [(.int (p1 - (48 : Int32)))])) t := by
            intro t kt
            show Steps p.tables e below (T3.setTop (mkF m 48 #[.val (.ref r0), .val (.int p1), .val (.int (p1 - (48 : Int32)))] [(.int (p1 - (48 : Int32)))])) _
            refine XS.ifNo X3.here hx rfl (hb hby d3_48) rfl ((if0 _ _).trans (flt hc48).1) ?_
            show Steps p.tables e below (T3.setTop (mkF m 51 #[.val (.ref r0), .val (.int p1), .val (.int (p1 - (48 : Int32)))] [])) _
            refine XS.iloadN X3.here hx rfl (hb hby d3_51) rfl ?_
            show Steps p.tables e below (T3.setTop (mkF m 52 #[.val (.ref r0), .val (.int p1), .val (.int (p1 - (48 : Int32)))] [(.int (p1 - (48 : Int32)))])) _
            refine XS.bipush X3.here hx rfl (hb hby d3_52) ?_
            exact kt
          by_cases hc54 : (9 : Int32) < (p1 - (48 : Int32))
          · -- it is
            have f45 := (F_wf.other W3 (Or.inr (slot_ne (a0 := a0) (Or.inl (hw _ (List.mem_of_getElem? (i := 10) rfl))) (Or.inl (hw _ (List.mem_of_getElem? (i := 19) rfl))) (by decide) (t := .boolean) (t' := .int) (by decide) (by decide))))
            have f46 := (E0.wr W3)
            have c48 : ∀ t, Steps p.tables e below (T3.setTop (mkF m 59 #[.val (.ref r0), .val (.int p1), .val (.int (p1 - (48 : Int32)))] [(.int (0 : Int32)), (.ref r0)])) t → Steps p.tables e below (T3.setTop (mkF m 54 #[.val (.ref r0), .val (.int p1), .val (.int (p1 - (48 : Int32)))] [(.int (9 : Int32)), (.int (p1 - (48 : Int32)))])) t := by
              intro t kt
              show Steps p.tables e below (T3.setTop (mkF m 54 #[.val (.ref r0), .val (.int p1), .val (.int (p1 - (48 : Int32)))] [(.int (9 : Int32)), (.int (p1 - (48 : Int32)))])) _
              refine XS.icmpNo X3.here hx rfl (hb hby d3_54) rfl (tlt hc54).2.2.2 ?_
              show Steps p.tables e below (T3.setTop (mkF m 57 #[.val (.ref r0), .val (.int p1), .val (.int (p1 - (48 : Int32)))] [])) _
              refine XS.aloadN X3.here hx rfl (hb hby d3_57) rfl rfl ?_
              show Steps p.tables e below (T3.setTop (mkF m 58 #[.val (.ref r0), .val (.int p1), .val (.int (p1 - (48 : Int32)))] [(.ref r0)])) _
              refine XS.iconst X3.here hx rfl (hb hby d3_58) ?_
              exact kt
            obtain ⟨T47, h47, X47, e47, W47, st47⟩ := putFN X3 hx hZ hown (hw _ (List.mem_of_getElem? (i := 9) rfl)) Via.refl e3 f45 f46 (Or.inl (hw _ (List.mem_of_getElem? (i := 10) rfl))) (hw _ (List.mem_of_getElem? (i := 1) rfl)) (ty := .boolean) (v' := (.int (0 : Int32))) (by decide) rfl rfl (g := (mkF m 59 #[.val (.ref r0), .val (.int p1), .val (.int (p1 - (48 : Int32)))] [(.int (0 : Int32)), (.ref r0)])) rfl rfl (hb hby d3_59)
            have Fw47 := f45.same W47
            have N47 := Fr.snoc X47 N3 g_r0
            obtain ⟨fs, hr, hrun, hended, hW, hsame⟩ := X47.leave (v := none) (fun _ => rfl)
            have f50 := (((Keep.refl h0 [r0]).wr W3 (Or.inl (List.mem_of_getElem? (i := 0) rfl))).wr W47 (Or.inl (List.mem_of_getElem? (i := 0) rfl)))
            have f51 := (f46.wr W47)
            have f52 := ((F_ng.other W3 (Or.inr (slot_ne (a0 := a0) (Or.inl (hw _ (List.mem_of_getElem? (i := 26) rfl))) (Or.inl (hw _ (List.mem_of_getElem? (i := 19) rfl))) (by decide) (t := .long) (t' := .int) (by decide) (by decide)))).other W47 (Or.inr (slot_ne (a0 := a0) (Or.inl (hw _ (List.mem_of_getElem? (i := 26) rfl))) (Or.inl (hw _ (List.mem_of_getElem? (i := 10) rfl))) (by decide) (t := .long) (t' := .boolean) (by decide) (by decide))))
            have f53 := ((F_ne.other W3 (Or.inr (slot_ne (a0 := a0) (Or.inl (hw _ (List.mem_of_getElem? (i := 28) rfl))) (Or.inl (hw _ (List.mem_of_getElem? (i := 19) rfl))) (by decide) (t := .boolean) (t' := .int) (by decide) (by decide)))).other W47 (Or.inr (slot_ne (a0 := a0) (Or.inl (hw _ (List.mem_of_getElem? (i := 28) rfl))) (Or.inl (hw _ (List.mem_of_getElem? (i := 10) rfl))) (by decide) (t := .boolean) (t' := .boolean) (by decide) (by decide))))
            have f54 := (Fw3.other W47 (Or.inr (slot_ne (a0 := a0) (Or.inl (hw _ (List.mem_of_getElem? (i := 19) rfl))) (Or.inl (hw _ (List.mem_of_getElem? (i := 10) rfl))) (by decide) (t := .int) (t' := .boolean) (by decide) (by decide))))
            have f55 := ((F_dg.other W3 (Or.inr (slot_ne (a0 := a0) (Or.inl (hw _ (List.mem_of_getElem? (i := 30) rfl))) (Or.inl (hw _ (List.mem_of_getElem? (i := 19) rfl))) (by decide) (t := .int) (t' := .int) (by decide) (by decide)))).other W47 (Or.inr (slot_ne (a0 := a0) (Or.inl (hw _ (List.mem_of_getElem? (i := 30) rfl))) (Or.inl (hw _ (List.mem_of_getElem? (i := 10) rfl))) (by decide) (t := .int) (t' := .boolean) (by decide) (by decide))))
            have f56 := ((F_ir.other W3 (Or.inr (slot_ne (a0 := a0) (Or.inl (hw _ (List.mem_of_getElem? (i := 12) rfl))) (Or.inl (hw _ (List.mem_of_getElem? (i := 19) rfl))) (by decide) (t := .boolean) (t' := .int) (by decide) (by decide)))).other W47 (Or.inr (slot_ne (a0 := a0) (Or.inl (hw _ (List.mem_of_getElem? (i := 12) rfl))) (Or.inl (hw _ (List.mem_of_getElem? (i := 10) rfl))) (by decide) (t := .boolean) (t' := .boolean) (by decide) (by decide))))
            refine ⟨_, _, pre0 _ (c2 _ (st1 _ (c4 _ (st3 _ (c5 _ (c18 _ (c31 _ (c44 _ (c48 _ (st47 _ (?_))))))))))), hrun, hended, _, _, rfl, ?_, ⟨_, rfl⟩, hW, hsame.mono (by decide) (by decide)⟩
            · show Steps p.tables e below (T47.setTop (mkF m 62 #[.val (.ref r0), .val (.int p1), .val (.int (p1 - (48 : Int32)))] [])) _
              exact X47.returnOut hx Bd.returns (hb hby d3_62) hr
            · show Q3 Z r0 p1 ng ne ch dg wf ir h0 n0 _ T47.heap _
              rw [e47]
              exact ⟨_, _, _, _, _, _, rfl, N47, f50, f51, f52, f53, f54, f55, Fw47, f56⟩
          · -- it isn't
            have f57 := (F_dg.other W3 (Or.inr (slot_ne (a0 := a0) (Or.inl (hw _ (List.mem_of_getElem? (i := 30) rfl))) (Or.inl (hw _ (List.mem_of_getElem? (i := 19) rfl))) (by decide) (t := .int) (t' := .int) (by decide) (by decide))))
            have c59 : ∀ t, Steps p.tables e below (T3.setTop (mkF m 65 #[.val (.ref r0), .val (.int p1), .val (.int (p1 - (48 : Int32)))] [(.ref r0), (.ref r0)])) t → Steps p.tables e below (T3.setTop (mkF m 54 #[.val (.ref r0), .val (.int p1), .val (.int (p1 - (48 : Int32)))] [(.int (9 : Int32)), (.int (p1 - (48 : Int32)))])) t := by
              intro t kt
              show Steps p.tables e below (T3.setTop (mkF m 54 #[.val (.ref r0), .val (.int p1), .val (.int (p1 - (48 : Int32)))] [(.int (9 : Int32)), (.int (p1 - (48 : Int32)))])) _
              refine XS.icmpYes X3.here hx rfl (pc0 := 54) (pc' := 63) rfl (hb hby d3_54) rfl (flt hc54).2.2.2 (by decide) (by decide) ?_
              show Steps p.tables e below (T3.setTop (mkF m 63 #[.val (.ref r0), .val (.int p1), .val (.int (p1 - (48 : Int32)))] [])) _
              refine XS.aloadN X3.here hx rfl (hb hby d3_63) rfl rfl ?_
              show Steps p.tables e below (T3.setTop (mkF m 64 #[.val (.ref r0), .val (.int p1), .val (.int (p1 - (48 : Int32)))] [(.ref r0)])) _
              refine XS.dup X3.here hx rfl (hb hby d3_64) rfl rfl ?_
              exact kt
            obtain ⟨T58, X58, e58, st58⟩ := getF X3 hx hZ hown (host := "") (Or.inl (hw _ (List.mem_of_getElem? (i := 29) rfl))) Via.refl e3 f57 (g := (mkF m 65 #[.val (.ref r0), .val (.int p1), .val (.int (p1 - (48 : Int32)))] [(.ref r0), (.ref r0)])) rfl rfl (hb hby d3_65)
            have f60 := (E0.wr W3)
            have c62 : ∀ t, Steps p.tables e below (T58.setTop (mkF m 70 #[.val (.ref r0), .val (.int p1), .val (.int (p1 - (48 : Int32)))] [(.int (dg + (1 : Int32))), (.ref r0)])) t → Steps p.tables e below (T58.setTop (mkF m 68 #[.val (.ref r0), .val (.int p1), .val (.int (p1 - (48 : Int32)))] [(.int dg), (.ref r0)])) t := by
              intro t kt
              show Steps p.tables e below (T58.setTop (mkF m 68 #[.val (.ref r0), .val (.int p1), .val (.int (p1 - (48 : Int32)))] [(.int dg), (.ref r0)])) _
              refine XS.iconst X58.here hx rfl (hb hby d3_68) ?_
              show Steps p.tables e below (T58.setTop (mkF m 69 #[.val (.ref r0), .val (.int p1), .val (.int (p1 - (48 : Int32)))] [(.int (1 : Int32)), (.int dg), (.ref r0)])) _
              refine XS.iadd X58.here hx rfl (hb hby d3_69) rfl ?_
              exact kt
            obtain ⟨T61, h61, X61, e61, W61, st61⟩ := putF X58 hx hZ hown (host := "") (Or.inl (hw _ (List.mem_of_getElem? (i := 29) rfl))) Via.refl e58 f57 f60 (Or.inl (hw _ (List.mem_of_getElem? (i := 30) rfl))) (hw _ (List.mem_of_getElem? (i := 1) rfl)) (ty := .int) (by decide) rfl rfl (g := (mkF m 70 #[.val (.ref r0), .val (.int p1), .val (.int (p1 - (48 : Int32)))] [(.int (dg + (1 : Int32))), (.ref r0)])) rfl rfl (hb hby d3_70)
            have Fw61 := f57.same W61
            have N61 := Fr.snoc X61 N3 g_r0
            have f63 := ((F_ir.other W3 (Or.inr (slot_ne (a0 := a0) (Or.inl (hw _ (List.mem_of_getElem? (i := 12) rfl))) (Or.inl (hw _ (List.mem_of_getElem? (i := 19) rfl))) (by decide) (t := .boolean) (t' := .int) (by decide) (by decide)))).other W61 (Or.inr (slot_ne (a0 := a0) (Or.inl (hw _ (List.mem_of_getElem? (i := 12) rfl))) (Or.inl (hw _ (List.mem_of_getElem? (i := 30) rfl))) (by decide) (t := .boolean) (t' := .int) (by decide) (by decide))))
            have c65 : ∀ t, Steps p.tables e below (T61.setTop (mkF m 74 #[.val (.ref r0), .val (.int p1), .val (.int (p1 - (48 : Int32)))] [(.ref r0)])) t → Steps p.tables e below (T61.setTop (mkF m 73 #[.val (.ref r0), .val (.int p1), .val (.int (p1 - (48 : Int32)))] [])) t := by
              intro t kt
              show Steps p.tables e below (T61.setTop (mkF m 73 #[.val (.ref r0), .val (.int p1), .val (.int (p1 - (48 : Int32)))] [])) _
              refine XS.aloadN X61.here hx rfl (hb hby d3_73) rfl rfl ?_
              exact kt
            obtain ⟨T64, X64, e64, st64⟩ := getF X61 hx hZ hown (host := "") (Or.inl (hw _ (List.mem_of_getElem? (i := 11) rfl))) Via.refl e61 f63 (g := (mkF m 74 #[.val (.ref r0), .val (.int p1), .val (.int (p1 - (48 : Int32)))] [(.ref r0)])) rfl rfl (hb hby d3_74)
            by_cases hc77 : ir = (0 : Int32)
            · -- it is
              have f66 := (f60.wr W61)
              have c68 : ∀ t, Steps p.tables e below (T64.setTop (mkF m 100 #[.val (.ref r0), .val (.int p1), .val (.int (p1 - (48 : Int32)))] [(.int (0 : Int32)), (.ref r0)])) t → Steps p.tables e below (T64.setTop (mkF m 77 #[.val (.ref r0), .val (.int p1), .val (.int (p1 - (48 : Int32)))] [(.int ir)])) t := by
                intro t kt
                show Steps p.tables e below (T64.setTop (mkF m 77 #[.val (.ref r0), .val (.int p1), .val (.int (p1 - (48 : Int32)))] [(.int ir)])) _
                refine XS.ifYes X64.here hx rfl (pc0 := 77) (pc' := 98) rfl (hb hby d3_77) rfl ((if0 _ _).trans (teq hc77).1) (by decide) (by decide) ?_
                show Steps p.tables e below (T64.setTop (mkF m 98 #[.val (.ref r0), .val (.int p1), .val (.int (p1 - (48 : Int32)))] [])) _
                refine XS.aloadN X64.here hx rfl (hb hby d3_98) rfl rfl ?_
                show Steps p.tables e below (T64.setTop (mkF m 99 #[.val (.ref r0), .val (.int p1), .val (.int (p1 - (48 : Int32)))] [(.ref r0)])) _
                refine XS.iconst X64.here hx rfl (hb hby d3_99) ?_
                exact kt
              obtain ⟨T67, h67, X67, e67, W67, st67⟩ := putFN X64 hx hZ hown (hw _ (List.mem_of_getElem? (i := 11) rfl)) Via.refl e64 f63 f66 (Or.inl (hw _ (List.mem_of_getElem? (i := 12) rfl))) (hw _ (List.mem_of_getElem? (i := 1) rfl)) (ty := .boolean) (v' := (.int (0 : Int32))) (by decide) rfl rfl (g := (mkF m 100 #[.val (.ref r0), .val (.int p1), .val (.int (p1 - (48 : Int32)))] [(.int (0 : Int32)), (.ref r0)])) rfl rfl (hb hby d3_100)
              have Fw67 := f63.same W67
              have N67 := Fr.snoc X67 N61 g_r0
              have c69 : ∀ t, Steps p.tables e below (T67.setTop (mkF m 121 #[.val (.ref r0), .val (.int p1), .val (.int (p1 - (48 : Int32)))] [])) t → Steps p.tables e below (T67.setTop (mkF m 103 #[.val (.ref r0), .val (.int p1), .val (.int (p1 - (48 : Int32)))] [])) t := by
                intro t kt
                show Steps p.tables e below (T67.setTop (mkF m 103 #[.val (.ref r0), .val (.int p1), .val (.int (p1 - (48 : Int32)))] [])) _
                refine XS.goto X67.here hx rfl (pc0 := 103) (pc' := 121) rfl (hb hby d3_103) (by decide) (by decide) ?_
                exact kt
              obtain ⟨fs, hr, hrun, hended, hW, hsame⟩ := X67.leave (v := none) (fun _ => rfl)
              have f71 := ((((Keep.refl h0 [r0]).wr W3 (Or.inl (List.mem_of_getElem? (i := 0) rfl))).wr W61 (Or.inl (List.mem_of_getElem? (i := 0) rfl))).wr W67 (Or.inl (List.mem_of_getElem? (i := 0) rfl)))
              have f72 := (f66.wr W67)
              have f73 := (((F_ng.other W3 (Or.inr (slot_ne (a0 := a0) (Or.inl (hw _ (List.mem_of_getElem? (i := 26) rfl))) (Or.inl (hw _ (List.mem_of_getElem? (i := 19) rfl))) (by decide) (t := .long) (t' := .int) (by decide) (by decide)))).other W61 (Or.inr (slot_ne (a0 := a0) (Or.inl (hw _ (List.mem_of_getElem? (i := 26) rfl))) (Or.inl (hw _ (List.mem_of_getElem? (i := 30) rfl))) (by decide) (t := .long) (t' := .int) (by decide) (by decide)))).other W67 (Or.inr (slot_ne (a0 := a0) (Or.inl (hw _ (List.mem_of_getElem? (i := 26) rfl))) (Or.inl (hw _ (List.mem_of_getElem? (i := 12) rfl))) (by decide) (t := .long) (t' := .boolean) (by decide) (by decide))))
              have f74 := (((F_ne.other W3 (Or.inr (slot_ne (a0 := a0) (Or.inl (hw _ (List.mem_of_getElem? (i := 28) rfl))) (Or.inl (hw _ (List.mem_of_getElem? (i := 19) rfl))) (by decide) (t := .boolean) (t' := .int) (by decide) (by decide)))).other W61 (Or.inr (slot_ne (a0 := a0) (Or.inl (hw _ (List.mem_of_getElem? (i := 28) rfl))) (Or.inl (hw _ (List.mem_of_getElem? (i := 30) rfl))) (by decide) (t := .boolean) (t' := .int) (by decide) (by decide)))).other W67 (Or.inr (slot_ne (a0 := a0) (Or.inl (hw _ (List.mem_of_getElem? (i := 28) rfl))) (Or.inl (hw _ (List.mem_of_getElem? (i := 12) rfl))) (by decide) (t := .boolean) (t' := .boolean) (by decide) (by decide))))
              have f75 := ((Fw3.other W61 (Or.inr (slot_ne (a0 := a0) (Or.inl (hw _ (List.mem_of_getElem? (i := 19) rfl))) (Or.inl (hw _ (List.mem_of_getElem? (i := 30) rfl))) (by decide) (t := .int) (t' := .int) (by decide) (by decide)))).other W67 (Or.inr (slot_ne (a0 := a0) (Or.inl (hw _ (List.mem_of_getElem? (i := 19) rfl))) (Or.inl (hw _ (List.mem_of_getElem? (i := 12) rfl))) (by decide) (t := .int) (t' := .boolean) (by decide) (by decide))))
              have f76 := (Fw61.other W67 (Or.inr (slot_ne (a0 := a0) (Or.inl (hw _ (List.mem_of_getElem? (i := 30) rfl))) (Or.inl (hw _ (List.mem_of_getElem? (i := 12) rfl))) (by decide) (t := .int) (t' := .boolean) (by decide) (by decide))))
              have f77 := (((F_wf.other W3 (Or.inr (slot_ne (a0 := a0) (Or.inl (hw _ (List.mem_of_getElem? (i := 10) rfl))) (Or.inl (hw _ (List.mem_of_getElem? (i := 19) rfl))) (by decide) (t := .boolean) (t' := .int) (by decide) (by decide)))).other W61 (Or.inr (slot_ne (a0 := a0) (Or.inl (hw _ (List.mem_of_getElem? (i := 10) rfl))) (Or.inl (hw _ (List.mem_of_getElem? (i := 30) rfl))) (by decide) (t := .boolean) (t' := .int) (by decide) (by decide)))).other W67 (Or.inr (slot_ne (a0 := a0) (Or.inl (hw _ (List.mem_of_getElem? (i := 10) rfl))) (Or.inl (hw _ (List.mem_of_getElem? (i := 12) rfl))) (by decide) (t := .boolean) (t' := .boolean) (by decide) (by decide))))
              refine ⟨_, _, pre0 _ (c2 _ (st1 _ (c4 _ (st3 _ (c5 _ (c18 _ (c31 _ (c44 _ (c59 _ (st58 _ (c62 _ (st61 _ (c65 _ (st64 _ (c68 _ (st67 _ (c69 _ (?_)))))))))))))))))), hrun, hended, _, _, rfl, ?_, ⟨_, rfl⟩, hW, hsame.mono (by decide) (by decide)⟩
              · show Steps p.tables e below (T67.setTop (mkF m 121 #[.val (.ref r0), .val (.int p1), .val (.int (p1 - (48 : Int32)))] [])) _
                exact X67.returnOut hx Bd.returns (hb hby d3_121) hr
              · show Q3 Z r0 p1 ng ne ch dg wf ir h0 n0 _ T67.heap _
                rw [e67]
                exact ⟨_, _, _, _, _, _, rfl, N67, f71, f72, f73, f74, f75, f76, f77, Fw67⟩
            · -- it isn't
              have f78 := ((F_ng.other W3 (Or.inr (slot_ne (a0 := a0) (Or.inl (hw _ (List.mem_of_getElem? (i := 26) rfl))) (Or.inl (hw _ (List.mem_of_getElem? (i := 19) rfl))) (by decide) (t := .long) (t' := .int) (by decide) (by decide)))).other W61 (Or.inr (slot_ne (a0 := a0) (Or.inl (hw _ (List.mem_of_getElem? (i := 26) rfl))) (Or.inl (hw _ (List.mem_of_getElem? (i := 30) rfl))) (by decide) (t := .long) (t' := .int) (by decide) (by decide))))
              have c80 : ∀ t, Steps p.tables e below (T64.setTop (mkF m 81 #[.val (.ref r0), .val (.int p1), .val (.int (p1 - (48 : Int32)))] [(.ref r0)])) t → Steps p.tables e below (T64.setTop (mkF m 77 #[.val (.ref r0), .val (.int p1), .val (.int (p1 - (48 : Int32)))] [(.int ir)])) t := by
                intro t kt
                show Steps p.tables e below (T64.setTop (mkF m 77 #[.val (.ref r0), .val (.int p1), .val (.int (p1 - (48 : Int32)))] [(.int ir)])) _
                refine XS.ifNo X64.here hx rfl (hb hby d3_77) rfl ((if0 _ _).trans (feq hc77).1) ?_
                show Steps p.tables e below (T64.setTop (mkF m 80 #[.val (.ref r0), .val (.int p1), .val (.int (p1 - (48 : Int32)))] [])) _
                refine XS.aloadN X64.here hx rfl (hb hby d3_80) rfl rfl ?_
                exact kt
              obtain ⟨T79, X79, e79, st79⟩ := getF X64 hx hZ hown (host := "") (Or.inl (hw _ (List.mem_of_getElem? (i := 25) rfl))) Via.refl e64 f78 (g := (mkF m 81 #[.val (.ref r0), .val (.int p1), .val (.int (p1 - (48 : Int32)))] [(.ref r0)])) rfl rfl (hb hby d3_81)
              have c81 : ∀ t, Steps p.tables e below (T79.setTop (mkF m 95 #[.val (.ref r0), .val (.int p1), .val (.int (p1 - (48 : Int32)))] [(.int (lcmpW ng (((-9223372036854775808 : Int64) + ((p1 - (48 : Int32)).toInt64)) / (10 : Int64))))])) t → Steps p.tables e below (T79.setTop (mkF m 84 #[.val (.ref r0), .val (.int p1), .val (.int (p1 - (48 : Int32)))] [(.long ng)])) t := by
                intro t kt
                show Steps p.tables e below (T79.setTop (mkF m 84 #[.val (.ref r0), .val (.int p1), .val (.int (p1 - (48 : Int32)))] [(.long ng)])) _
                refine X79.ldc2Long hx hown (mvT hZ (hw _ (List.mem_of_getElem? (i := 32) rfl))) (g := (mkF m 84 #[.val (.ref r0), .val (.int p1), .val (.int (p1 - (48 : Int32)))] [(.long ng)])) rfl (hb hby d3_84) _ ?_
                show Steps p.tables e below (T79.setTop (mkF m 87 #[.val (.ref r0), .val (.int p1), .val (.int (p1 - (48 : Int32)))] [(.long (-9223372036854775808 : Int64)), (.long ng)])) _
                refine XS.iloadN X79.here hx rfl (hb hby d3_87) rfl ?_
                show Steps p.tables e below (T79.setTop (mkF m 88 #[.val (.ref r0), .val (.int p1), .val (.int (p1 - (48 : Int32)))] [(.int (p1 - (48 : Int32))), (.long (-9223372036854775808 : Int64)), (.long ng)])) _
                refine XS.i2l X79.here hx rfl (hb hby d3_88) rfl ?_
                show Steps p.tables e below (T79.setTop (mkF m 89 #[.val (.ref r0), .val (.int p1), .val (.int (p1 - (48 : Int32)))] [(.long ((p1 - (48 : Int32)).toInt64)), (.long (-9223372036854775808 : Int64)), (.long ng)])) _
                refine XS.ladd X79.here hx rfl (hb hby d3_89) rfl ?_
                show Steps p.tables e below (T79.setTop (mkF m 90 #[.val (.ref r0), .val (.int p1), .val (.int (p1 - (48 : Int32)))] [(.long ((-9223372036854775808 : Int64) + ((p1 - (48 : Int32)).toInt64))), (.long ng)])) _
                refine X79.ldc2Long hx hown (mvT hZ (hw _ (List.mem_of_getElem? (i := 33) rfl))) (g := (mkF m 90 #[.val (.ref r0), .val (.int p1), .val (.int (p1 - (48 : Int32)))] [(.long ((-9223372036854775808 : Int64) + ((p1 - (48 : Int32)).toInt64))), (.long ng)])) rfl (hb hby d3_90) _ ?_
                show Steps p.tables e below (T79.setTop (mkF m 93 #[.val (.ref r0), .val (.int p1), .val (.int (p1 - (48 : Int32)))] [(.long (10 : Int64)), (.long ((-9223372036854775808 : Int64) + ((p1 - (48 : Int32)).toInt64))), (.long ng)])) _
                refine XS.ldiv X79.here hx rfl (hb hby d3_93) rfl (by decide) ?_
                show Steps p.tables e below (T79.setTop (mkF m 94 #[.val (.ref r0), .val (.int p1), .val (.int (p1 - (48 : Int32)))] [(.long (((-9223372036854775808 : Int64) + ((p1 - (48 : Int32)).toInt64)) / (10 : Int64))), (.long ng)])) _
                refine XS.lcmp X79.here hx rfl (hb hby d3_94) rfl ?_
                exact kt
              by_cases hc95 : ng < (((-9223372036854775808 : Int64) + ((p1 - (48 : Int32)).toInt64)) / (10 : Int64))
              · -- it is
                have f82 := (f60.wr W61)
                have c84 : ∀ t, Steps p.tables e below (T79.setTop (mkF m 100 #[.val (.ref r0), .val (.int p1), .val (.int (p1 - (48 : Int32)))] [(.int (0 : Int32)), (.ref r0)])) t → Steps p.tables e below (T79.setTop (mkF m 95 #[.val (.ref r0), .val (.int p1), .val (.int (p1 - (48 : Int32)))] [(.int (lcmpW ng (((-9223372036854775808 : Int64) + ((p1 - (48 : Int32)).toInt64)) / (10 : Int64))))])) t := by
                  intro t kt
                  show Steps p.tables e below (T79.setTop (mkF m 95 #[.val (.ref r0), .val (.int p1), .val (.int (p1 - (48 : Int32)))] [(.int (lcmpW ng (((-9223372036854775808 : Int64) + ((p1 - (48 : Int32)).toInt64)) / (10 : Int64))))])) _
                  refine XS.ifNo X79.here hx rfl (hb hby d3_95) rfl ((if0 _ _).trans (tlt ((lw_lt _ _).mpr hc95)).2.1) ?_
                  show Steps p.tables e below (T79.setTop (mkF m 98 #[.val (.ref r0), .val (.int p1), .val (.int (p1 - (48 : Int32)))] [])) _
                  refine XS.aloadN X79.here hx rfl (hb hby d3_98) rfl rfl ?_
                  show Steps p.tables e below (T79.setTop (mkF m 99 #[.val (.ref r0), .val (.int p1), .val (.int (p1 - (48 : Int32)))] [(.ref r0)])) _
                  refine XS.iconst X79.here hx rfl (hb hby d3_99) ?_
                  exact kt
                obtain ⟨T83, h83, X83, e83, W83, st83⟩ := putFN X79 hx hZ hown (hw _ (List.mem_of_getElem? (i := 11) rfl)) Via.refl e79 f63 f82 (Or.inl (hw _ (List.mem_of_getElem? (i := 12) rfl))) (hw _ (List.mem_of_getElem? (i := 1) rfl)) (ty := .boolean) (v' := (.int (0 : Int32))) (by decide) rfl rfl (g := (mkF m 100 #[.val (.ref r0), .val (.int p1), .val (.int (p1 - (48 : Int32)))] [(.int (0 : Int32)), (.ref r0)])) rfl rfl (hb hby d3_100)
                have Fw83 := f63.same W83
                have N83 := Fr.snoc X83 N61 g_r0
                have c85 : ∀ t, Steps p.tables e below (T83.setTop (mkF m 121 #[.val (.ref r0), .val (.int p1), .val (.int (p1 - (48 : Int32)))] [])) t → Steps p.tables e below (T83.setTop (mkF m 103 #[.val (.ref r0), .val (.int p1), .val (.int (p1 - (48 : Int32)))] [])) t := by
                  intro t kt
                  show Steps p.tables e below (T83.setTop (mkF m 103 #[.val (.ref r0), .val (.int p1), .val (.int (p1 - (48 : Int32)))] [])) _
                  refine XS.goto X83.here hx rfl (pc0 := 103) (pc' := 121) rfl (hb hby d3_103) (by decide) (by decide) ?_
                  exact kt
                obtain ⟨fs, hr, hrun, hended, hW, hsame⟩ := X83.leave (v := none) (fun _ => rfl)
                have f87 := ((((Keep.refl h0 [r0]).wr W3 (Or.inl (List.mem_of_getElem? (i := 0) rfl))).wr W61 (Or.inl (List.mem_of_getElem? (i := 0) rfl))).wr W83 (Or.inl (List.mem_of_getElem? (i := 0) rfl)))
                have f88 := (f82.wr W83)
                have f89 := (f78.other W83 (Or.inr (slot_ne (a0 := a0) (Or.inl (hw _ (List.mem_of_getElem? (i := 26) rfl))) (Or.inl (hw _ (List.mem_of_getElem? (i := 12) rfl))) (by decide) (t := .long) (t' := .boolean) (by decide) (by decide))))
                have f90 := (((F_ne.other W3 (Or.inr (slot_ne (a0 := a0) (Or.inl (hw _ (List.mem_of_getElem? (i := 28) rfl))) (Or.inl (hw _ (List.mem_of_getElem? (i := 19) rfl))) (by decide) (t := .boolean) (t' := .int) (by decide) (by decide)))).other W61 (Or.inr (slot_ne (a0 := a0) (Or.inl (hw _ (List.mem_of_getElem? (i := 28) rfl))) (Or.inl (hw _ (List.mem_of_getElem? (i := 30) rfl))) (by decide) (t := .boolean) (t' := .int) (by decide) (by decide)))).other W83 (Or.inr (slot_ne (a0 := a0) (Or.inl (hw _ (List.mem_of_getElem? (i := 28) rfl))) (Or.inl (hw _ (List.mem_of_getElem? (i := 12) rfl))) (by decide) (t := .boolean) (t' := .boolean) (by decide) (by decide))))
                have f91 := ((Fw3.other W61 (Or.inr (slot_ne (a0 := a0) (Or.inl (hw _ (List.mem_of_getElem? (i := 19) rfl))) (Or.inl (hw _ (List.mem_of_getElem? (i := 30) rfl))) (by decide) (t := .int) (t' := .int) (by decide) (by decide)))).other W83 (Or.inr (slot_ne (a0 := a0) (Or.inl (hw _ (List.mem_of_getElem? (i := 19) rfl))) (Or.inl (hw _ (List.mem_of_getElem? (i := 12) rfl))) (by decide) (t := .int) (t' := .boolean) (by decide) (by decide))))
                have f92 := (Fw61.other W83 (Or.inr (slot_ne (a0 := a0) (Or.inl (hw _ (List.mem_of_getElem? (i := 30) rfl))) (Or.inl (hw _ (List.mem_of_getElem? (i := 12) rfl))) (by decide) (t := .int) (t' := .boolean) (by decide) (by decide))))
                have f93 := (((F_wf.other W3 (Or.inr (slot_ne (a0 := a0) (Or.inl (hw _ (List.mem_of_getElem? (i := 10) rfl))) (Or.inl (hw _ (List.mem_of_getElem? (i := 19) rfl))) (by decide) (t := .boolean) (t' := .int) (by decide) (by decide)))).other W61 (Or.inr (slot_ne (a0 := a0) (Or.inl (hw _ (List.mem_of_getElem? (i := 10) rfl))) (Or.inl (hw _ (List.mem_of_getElem? (i := 30) rfl))) (by decide) (t := .boolean) (t' := .int) (by decide) (by decide)))).other W83 (Or.inr (slot_ne (a0 := a0) (Or.inl (hw _ (List.mem_of_getElem? (i := 10) rfl))) (Or.inl (hw _ (List.mem_of_getElem? (i := 12) rfl))) (by decide) (t := .boolean) (t' := .boolean) (by decide) (by decide))))
                refine ⟨_, _, pre0 _ (c2 _ (st1 _ (c4 _ (st3 _ (c5 _ (c18 _ (c31 _ (c44 _ (c59 _ (st58 _ (c62 _ (st61 _ (c65 _ (st64 _ (c80 _ (st79 _ (c81 _ (c84 _ (st83 _ (c85 _ (?_))))))))))))))))))))), hrun, hended, _, _, rfl, ?_, ⟨_, rfl⟩, hW, hsame.mono (by decide) (by decide)⟩
                · show Steps p.tables e below (T83.setTop (mkF m 121 #[.val (.ref r0), .val (.int p1), .val (.int (p1 - (48 : Int32)))] [])) _
                  exact X83.returnOut hx Bd.returns (hb hby d3_121) hr
                · show Q3 Z r0 p1 ng ne ch dg wf ir h0 n0 _ T83.heap _
                  rw [e83]
                  exact ⟨_, _, _, _, _, _, rfl, N83, f87, f88, f89, f90, f91, f92, f93, Fw83⟩
              · -- it isn't
                have c95 : ∀ t, Steps p.tables e below (T79.setTop (mkF m 108 #[.val (.ref r0), .val (.int p1), .val (.int (p1 - (48 : Int32)))] [(.ref r0), (.ref r0)])) t → Steps p.tables e below (T79.setTop (mkF m 95 #[.val (.ref r0), .val (.int p1), .val (.int (p1 - (48 : Int32)))] [(.int (lcmpW ng (((-9223372036854775808 : Int64) + ((p1 - (48 : Int32)).toInt64)) / (10 : Int64))))])) t := by
                  intro t kt
                  show Steps p.tables e below (T79.setTop (mkF m 95 #[.val (.ref r0), .val (.int p1), .val (.int (p1 - (48 : Int32)))] [(.int (lcmpW ng (((-9223372036854775808 : Int64) + ((p1 - (48 : Int32)).toInt64)) / (10 : Int64))))])) _
                  refine XS.ifYes X79.here hx rfl (pc0 := 95) (pc' := 106) rfl (hb hby d3_95) rfl ((if0 _ _).trans (flt (fun q => hc95 ((lw_lt _ _).mp q))).2.1) (by decide) (by decide) ?_
                  show Steps p.tables e below (T79.setTop (mkF m 106 #[.val (.ref r0), .val (.int p1), .val (.int (p1 - (48 : Int32)))] [])) _
                  refine XS.aloadN X79.here hx rfl (hb hby d3_106) rfl rfl ?_
                  show Steps p.tables e below (T79.setTop (mkF m 107 #[.val (.ref r0), .val (.int p1), .val (.int (p1 - (48 : Int32)))] [(.ref r0)])) _
                  refine XS.aloadN X79.here hx rfl (hb hby d3_107) rfl rfl ?_
                  exact kt
                obtain ⟨T94, X94, e94, st94⟩ := getF X79 hx hZ hown (host := "") (Or.inl (hw _ (List.mem_of_getElem? (i := 25) rfl))) Via.refl e79 f78 (g := (mkF m 108 #[.val (.ref r0), .val (.int p1), .val (.int (p1 - (48 : Int32)))] [(.ref r0), (.ref r0)])) rfl rfl (hb hby d3_108)
                have f96 := (f60.wr W61)
                have c98 : ∀ t, Steps p.tables e below (T94.setTop (mkF m 118 #[.val (.ref r0), .val (.int p1), .val (.int (p1 - (48 : Int32)))] [(.long ((ng * (10 : Int64)) - ((p1 - (48 : Int32)).toInt64))), (.ref r0)])) t → Steps p.tables e below (T94.setTop (mkF m 111 #[.val (.ref r0), .val (.int p1), .val (.int (p1 - (48 : Int32)))] [(.long ng), (.ref r0)])) t := by
                  intro t kt
                  show Steps p.tables e below (T94.setTop (mkF m 111 #[.val (.ref r0), .val (.int p1), .val (.int (p1 - (48 : Int32)))] [(.long ng), (.ref r0)])) _
                  refine X94.ldc2Long hx hown (mvT hZ (hw _ (List.mem_of_getElem? (i := 33) rfl))) (g := (mkF m 111 #[.val (.ref r0), .val (.int p1), .val (.int (p1 - (48 : Int32)))] [(.long ng), (.ref r0)])) rfl (hb hby d3_111) _ ?_
                  show Steps p.tables e below (T94.setTop (mkF m 114 #[.val (.ref r0), .val (.int p1), .val (.int (p1 - (48 : Int32)))] [(.long (10 : Int64)), (.long ng), (.ref r0)])) _
                  refine XS.lmul X94.here hx rfl (hb hby d3_114) rfl ?_
                  show Steps p.tables e below (T94.setTop (mkF m 115 #[.val (.ref r0), .val (.int p1), .val (.int (p1 - (48 : Int32)))] [(.long (ng * (10 : Int64))), (.ref r0)])) _
                  refine XS.iloadN X94.here hx rfl (hb hby d3_115) rfl ?_
                  show Steps p.tables e below (T94.setTop (mkF m 116 #[.val (.ref r0), .val (.int p1), .val (.int (p1 - (48 : Int32)))] [(.int (p1 - (48 : Int32))), (.long (ng * (10 : Int64))), (.ref r0)])) _
                  refine XS.i2l X94.here hx rfl (hb hby d3_116) rfl ?_
                  show Steps p.tables e below (T94.setTop (mkF m 117 #[.val (.ref r0), .val (.int p1), .val (.int (p1 - (48 : Int32)))] [(.long ((p1 - (48 : Int32)).toInt64)), (.long (ng * (10 : Int64))), (.ref r0)])) _
                  refine XS.lsub X94.here hx rfl (hb hby d3_117) rfl ?_
                  exact kt
                obtain ⟨T97, h97, X97, e97, W97, st97⟩ := putF X94 hx hZ hown (host := "") (Or.inl (hw _ (List.mem_of_getElem? (i := 25) rfl))) Via.refl e94 f78 f96 (Or.inl (hw _ (List.mem_of_getElem? (i := 26) rfl))) (hw _ (List.mem_of_getElem? (i := 1) rfl)) (ty := .long) (by decide) rfl rfl (g := (mkF m 118 #[.val (.ref r0), .val (.int p1), .val (.int (p1 - (48 : Int32)))] [(.long ((ng * (10 : Int64)) - ((p1 - (48 : Int32)).toInt64))), (.ref r0)])) rfl rfl (hb hby d3_118)
                have Fw97 := f78.same W97
                have N97 := Fr.snoc X97 N61 g_r0
                obtain ⟨fs, hr, hrun, hended, hW, hsame⟩ := X97.leave (v := none) (fun _ => rfl)
                have f100 := ((((Keep.refl h0 [r0]).wr W3 (Or.inl (List.mem_of_getElem? (i := 0) rfl))).wr W61 (Or.inl (List.mem_of_getElem? (i := 0) rfl))).wr W97 (Or.inl (List.mem_of_getElem? (i := 0) rfl)))
                have f101 := (f96.wr W97)
                have f102 := (((F_ne.other W3 (Or.inr (slot_ne (a0 := a0) (Or.inl (hw _ (List.mem_of_getElem? (i := 28) rfl))) (Or.inl (hw _ (List.mem_of_getElem? (i := 19) rfl))) (by decide) (t := .boolean) (t' := .int) (by decide) (by decide)))).other W61 (Or.inr (slot_ne (a0 := a0) (Or.inl (hw _ (List.mem_of_getElem? (i := 28) rfl))) (Or.inl (hw _ (List.mem_of_getElem? (i := 30) rfl))) (by decide) (t := .boolean) (t' := .int) (by decide) (by decide)))).other W97 (Or.inr (slot_ne (a0 := a0) (Or.inl (hw _ (List.mem_of_getElem? (i := 28) rfl))) (Or.inl (hw _ (List.mem_of_getElem? (i := 26) rfl))) (by decide) (t := .boolean) (t' := .long) (by decide) (by decide))))
                have f103 := ((Fw3.other W61 (Or.inr (slot_ne (a0 := a0) (Or.inl (hw _ (List.mem_of_getElem? (i := 19) rfl))) (Or.inl (hw _ (List.mem_of_getElem? (i := 30) rfl))) (by decide) (t := .int) (t' := .int) (by decide) (by decide)))).other W97 (Or.inr (slot_ne (a0 := a0) (Or.inl (hw _ (List.mem_of_getElem? (i := 19) rfl))) (Or.inl (hw _ (List.mem_of_getElem? (i := 26) rfl))) (by decide) (t := .int) (t' := .long) (by decide) (by decide))))
                have f104 := (Fw61.other W97 (Or.inr (slot_ne (a0 := a0) (Or.inl (hw _ (List.mem_of_getElem? (i := 30) rfl))) (Or.inl (hw _ (List.mem_of_getElem? (i := 26) rfl))) (by decide) (t := .int) (t' := .long) (by decide) (by decide))))
                have f105 := (((F_wf.other W3 (Or.inr (slot_ne (a0 := a0) (Or.inl (hw _ (List.mem_of_getElem? (i := 10) rfl))) (Or.inl (hw _ (List.mem_of_getElem? (i := 19) rfl))) (by decide) (t := .boolean) (t' := .int) (by decide) (by decide)))).other W61 (Or.inr (slot_ne (a0 := a0) (Or.inl (hw _ (List.mem_of_getElem? (i := 10) rfl))) (Or.inl (hw _ (List.mem_of_getElem? (i := 30) rfl))) (by decide) (t := .boolean) (t' := .int) (by decide) (by decide)))).other W97 (Or.inr (slot_ne (a0 := a0) (Or.inl (hw _ (List.mem_of_getElem? (i := 10) rfl))) (Or.inl (hw _ (List.mem_of_getElem? (i := 26) rfl))) (by decide) (t := .boolean) (t' := .long) (by decide) (by decide))))
                have f106 := (f63.other W97 (Or.inr (slot_ne (a0 := a0) (Or.inl (hw _ (List.mem_of_getElem? (i := 12) rfl))) (Or.inl (hw _ (List.mem_of_getElem? (i := 26) rfl))) (by decide) (t := .boolean) (t' := .long) (by decide) (by decide))))
                refine ⟨_, _, pre0 _ (c2 _ (st1 _ (c4 _ (st3 _ (c5 _ (c18 _ (c31 _ (c44 _ (c59 _ (st58 _ (c62 _ (st61 _ (c65 _ (st64 _ (c80 _ (st79 _ (c81 _ (c95 _ (st94 _ (c98 _ (st97 _ (?_)))))))))))))))))))))), hrun, hended, _, _, rfl, ?_, ⟨_, rfl⟩, hW, hsame.mono (by decide) (by decide)⟩
                · show Steps p.tables e below (T97.setTop (mkF m 121 #[.val (.ref r0), .val (.int p1), .val (.int (p1 - (48 : Int32)))] [])) _
                  exact X97.returnOut hx Bd.returns (hb hby d3_121) hr
                · show Q3 Z r0 p1 ng ne ch dg wf ir h0 n0 _ T97.heap _
                  rw [e97]
                  exact ⟨_, _, _, _, _, _, rfl, N97, f100, f101, Fw97, f102, f103, f104, f105, f106⟩
  · -- it isn't
    have c107 : ∀ t, Steps p.tables e below (T3.setTop (mkF m 48 #[.val (.ref r0), .val (.int p1), .val (.int (p1 - (48 : Int32)))] [(.int (p1 - (48 : Int32)))])) t → Steps p.tables e below (T3.setTop (mkF m 11 #[.val (.ref r0), .val (.int p1), .unset] [(.int ch)])) t := by
      intro t kt
      show Steps p.tables e below (T3.setTop (mkF m 11 #[.val (.ref r0), .val (.int p1), .unset] [(.int ch)])) _
      refine XS.ifYes X3.here hx rfl (pc0 := 11) (pc' := 42) rfl (hb hby d3_11) rfl ((if0 _ _).trans (feq hc11).2) (by decide) (by decide) ?_
      show Steps p.tables e below (T3.setTop (mkF m 42 #[.val (.ref r0), .val (.int p1), .unset] [])) _
      refine XS.iloadN X3.here hx rfl (hb hby d3_42) rfl ?_
      show Steps p.tables e below (T3.setTop (mkF m 43 #[.val (.ref r0), .val (.int p1), .unset] [(.int p1)])) _
      refine XS.bipush X3.here hx rfl (hb hby d3_43) ?_
      show Steps p.tables e below (T3.setTop (mkF m 45 #[.val (.ref r0), .val (.int p1), .unset] [(.int (48 : Int32)), (.int p1)])) _
      refine XS.isub X3.here hx rfl (hb hby d3_45) rfl ?_
      show Steps p.tables e below (T3.setTop (mkF m 46 #[.val (.ref r0), .val (.int p1), .unset] [(.int (p1 - (48 : Int32)))])) _
      refine XS.istoreN X3.here hx rfl (hb hby d3_46) rfl (l' := #[.val (.ref r0), .val (.int p1), .val (.int (p1 - (48 : Int32)))]) rfl ?_
      show Steps p.tables e below (T3.setTop (mkF m 47 #[.val (.ref r0), .val (.int p1), .val (.int (p1 - (48 : Int32)))] [])) _
      refine XS.iloadN X3.here hx rfl (hb hby d3_47) rfl ?_
      exact kt
    by_cases hc48 : (p1 - (48 : Int32)) < (0 : Int32)
    · -- it is
      have f108 := (F_wf.other W3 (Or.inr (slot_ne (a0 := a0) (Or.inl (hw _ (List.mem_of_getElem? (i := 10) rfl))) (Or.inl (hw _ (List.mem_of_getElem? (i := 19) rfl))) (by decide) (t := .boolean) (t' := .int) (by decide) (by decide))))
      have f109 := (E0.wr W3)
      have c111 : ∀ t, Steps p.tables e below (T3.setTop (mkF m 59 #[.val (.ref r0), .val (.int p1), .val (.int (p1 - (48 : Int32)))] [(.int (0 : Int32)), (.ref r0)])) t → Steps p.tables e below (T3.setTop (mkF m 48 #[.val (.ref r0), .val (.int p1), .val (.int (p1 - (48 : Int32)))] [(.int (p1 - (48 : Int32)))])) t := by
        intro t kt
        show Steps p.tables e below (T3.setTop (mkF m 48 #[.val (.ref r0), .val (.int p1), .val (.int (p1 - (48 : Int32)))] [(.int (p1 - (48 : Int32)))])) _
        refine XS.ifYes X3.here hx rfl (pc0 := 48) (pc' := 57) rfl (hb hby d3_48) rfl ((if0 _ _).trans (tlt hc48).1) (by decide) (by decide) ?_
        show Steps p.tables e below (T3.setTop (mkF m 57 #[.val (.ref r0), .val (.int p1), .val (.int (p1 - (48 : Int32)))] [])) _
        refine XS.aloadN X3.here hx rfl (hb hby d3_57) rfl rfl ?_
        show Steps p.tables e below (T3.setTop (mkF m 58 #[.val (.ref r0), .val (.int p1), .val (.int (p1 - (48 : Int32)))] [(.ref r0)])) _
        refine XS.iconst X3.here hx rfl (hb hby d3_58) ?_
        exact kt
      obtain ⟨T110, h110, X110, e110, W110, st110⟩ := putFN X3 hx hZ hown (hw _ (List.mem_of_getElem? (i := 9) rfl)) Via.refl e3 f108 f109 (Or.inl (hw _ (List.mem_of_getElem? (i := 10) rfl))) (hw _ (List.mem_of_getElem? (i := 1) rfl)) (ty := .boolean) (v' := (.int (0 : Int32))) (by decide) rfl rfl (g := (mkF m 59 #[.val (.ref r0), .val (.int p1), .val (.int (p1 - (48 : Int32)))] [(.int (0 : Int32)), (.ref r0)])) rfl rfl (hb hby d3_59)
      have Fw110 := f108.same W110
      have N110 := Fr.snoc X110 N3 g_r0
      obtain ⟨fs, hr, hrun, hended, hW, hsame⟩ := X110.leave (v := none) (fun _ => rfl)
      have f113 := (((Keep.refl h0 [r0]).wr W3 (Or.inl (List.mem_of_getElem? (i := 0) rfl))).wr W110 (Or.inl (List.mem_of_getElem? (i := 0) rfl)))
      have f114 := (f109.wr W110)
      have f115 := ((F_ng.other W3 (Or.inr (slot_ne (a0 := a0) (Or.inl (hw _ (List.mem_of_getElem? (i := 26) rfl))) (Or.inl (hw _ (List.mem_of_getElem? (i := 19) rfl))) (by decide) (t := .long) (t' := .int) (by decide) (by decide)))).other W110 (Or.inr (slot_ne (a0 := a0) (Or.inl (hw _ (List.mem_of_getElem? (i := 26) rfl))) (Or.inl (hw _ (List.mem_of_getElem? (i := 10) rfl))) (by decide) (t := .long) (t' := .boolean) (by decide) (by decide))))
      have f116 := ((F_ne.other W3 (Or.inr (slot_ne (a0 := a0) (Or.inl (hw _ (List.mem_of_getElem? (i := 28) rfl))) (Or.inl (hw _ (List.mem_of_getElem? (i := 19) rfl))) (by decide) (t := .boolean) (t' := .int) (by decide) (by decide)))).other W110 (Or.inr (slot_ne (a0 := a0) (Or.inl (hw _ (List.mem_of_getElem? (i := 28) rfl))) (Or.inl (hw _ (List.mem_of_getElem? (i := 10) rfl))) (by decide) (t := .boolean) (t' := .boolean) (by decide) (by decide))))
      have f117 := (Fw3.other W110 (Or.inr (slot_ne (a0 := a0) (Or.inl (hw _ (List.mem_of_getElem? (i := 19) rfl))) (Or.inl (hw _ (List.mem_of_getElem? (i := 10) rfl))) (by decide) (t := .int) (t' := .boolean) (by decide) (by decide))))
      have f118 := ((F_dg.other W3 (Or.inr (slot_ne (a0 := a0) (Or.inl (hw _ (List.mem_of_getElem? (i := 30) rfl))) (Or.inl (hw _ (List.mem_of_getElem? (i := 19) rfl))) (by decide) (t := .int) (t' := .int) (by decide) (by decide)))).other W110 (Or.inr (slot_ne (a0 := a0) (Or.inl (hw _ (List.mem_of_getElem? (i := 30) rfl))) (Or.inl (hw _ (List.mem_of_getElem? (i := 10) rfl))) (by decide) (t := .int) (t' := .boolean) (by decide) (by decide))))
      have f119 := ((F_ir.other W3 (Or.inr (slot_ne (a0 := a0) (Or.inl (hw _ (List.mem_of_getElem? (i := 12) rfl))) (Or.inl (hw _ (List.mem_of_getElem? (i := 19) rfl))) (by decide) (t := .boolean) (t' := .int) (by decide) (by decide)))).other W110 (Or.inr (slot_ne (a0 := a0) (Or.inl (hw _ (List.mem_of_getElem? (i := 12) rfl))) (Or.inl (hw _ (List.mem_of_getElem? (i := 10) rfl))) (by decide) (t := .boolean) (t' := .boolean) (by decide) (by decide))))
      refine ⟨_, _, pre0 _ (c2 _ (st1 _ (c4 _ (st3 _ (c107 _ (c111 _ (st110 _ (?_)))))))), hrun, hended, _, _, rfl, ?_, ⟨_, rfl⟩, hW, hsame.mono (by decide) (by decide)⟩
      · show Steps p.tables e below (T110.setTop (mkF m 62 #[.val (.ref r0), .val (.int p1), .val (.int (p1 - (48 : Int32)))] [])) _
        exact X110.returnOut hx Bd.returns (hb hby d3_62) hr
      · show Q3 Z r0 p1 ng ne ch dg wf ir h0 n0 _ T110.heap _
        rw [e110]
        exact ⟨_, _, _, _, _, _, rfl, N110, f113, f114, f115, f116, f117, f118, Fw110, f119⟩
    · -- it isn't
      have c120 : ∀ t, Steps p.tables e below (T3.setTop (mkF m 54 #[.val (.ref r0), .val (.int p1), .val (.int (p1 - (48 : Int32)))] [(.int (9 : Int32)), (.int (p1 - (48 : Int32)))])) t → Steps p.tables e below (T3.setTop (mkF m 48 #[.val (.ref r0), .val (.int p1), .val (.int (p1 - (48 : Int32)))] [(.int (p1 - (48 : Int32)))])) t := by
        intro t kt
        show Steps p.tables e below (T3.setTop (mkF m 48 #[.val (.ref r0), .val (.int p1), .val (.int (p1 - (48 : Int32)))] [(.int (p1 - (48 : Int32)))])) _
        refine XS.ifNo X3.here hx rfl (hb hby d3_48) rfl ((if0 _ _).trans (flt hc48).1) ?_
        show Steps p.tables e below (T3.setTop (mkF m 51 #[.val (.ref r0), .val (.int p1), .val (.int (p1 - (48 : Int32)))] [])) _
        refine XS.iloadN X3.here hx rfl (hb hby d3_51) rfl ?_
        show Steps p.tables e below (T3.setTop (mkF m 52 #[.val (.ref r0), .val (.int p1), .val (.int (p1 - (48 : Int32)))] [(.int (p1 - (48 : Int32)))])) _
        refine XS.bipush X3.here hx rfl (hb hby d3_52) ?_
        exact kt
      by_cases hc54 : (9 : Int32) < (p1 - (48 : Int32))
      · -- it is
        have f121 := (F_wf.other W3 (Or.inr (slot_ne (a0 := a0) (Or.inl (hw _ (List.mem_of_getElem? (i := 10) rfl))) (Or.inl (hw _ (List.mem_of_getElem? (i := 19) rfl))) (by decide) (t := .boolean) (t' := .int) (by decide) (by decide))))
        have f122 := (E0.wr W3)
        have c124 : ∀ t, Steps p.tables e below (T3.setTop (mkF m 59 #[.val (.ref r0), .val (.int p1), .val (.int (p1 - (48 : Int32)))] [(.int (0 : Int32)), (.ref r0)])) t → Steps p.tables e below (T3.setTop (mkF m 54 #[.val (.ref r0), .val (.int p1), .val (.int (p1 - (48 : Int32)))] [(.int (9 : Int32)), (.int (p1 - (48 : Int32)))])) t := by
          intro t kt
          show Steps p.tables e below (T3.setTop (mkF m 54 #[.val (.ref r0), .val (.int p1), .val (.int (p1 - (48 : Int32)))] [(.int (9 : Int32)), (.int (p1 - (48 : Int32)))])) _
          refine XS.icmpNo X3.here hx rfl (hb hby d3_54) rfl (tlt hc54).2.2.2 ?_
          show Steps p.tables e below (T3.setTop (mkF m 57 #[.val (.ref r0), .val (.int p1), .val (.int (p1 - (48 : Int32)))] [])) _
          refine XS.aloadN X3.here hx rfl (hb hby d3_57) rfl rfl ?_
          show Steps p.tables e below (T3.setTop (mkF m 58 #[.val (.ref r0), .val (.int p1), .val (.int (p1 - (48 : Int32)))] [(.ref r0)])) _
          refine XS.iconst X3.here hx rfl (hb hby d3_58) ?_
          exact kt
        obtain ⟨T123, h123, X123, e123, W123, st123⟩ := putFN X3 hx hZ hown (hw _ (List.mem_of_getElem? (i := 9) rfl)) Via.refl e3 f121 f122 (Or.inl (hw _ (List.mem_of_getElem? (i := 10) rfl))) (hw _ (List.mem_of_getElem? (i := 1) rfl)) (ty := .boolean) (v' := (.int (0 : Int32))) (by decide) rfl rfl (g := (mkF m 59 #[.val (.ref r0), .val (.int p1), .val (.int (p1 - (48 : Int32)))] [(.int (0 : Int32)), (.ref r0)])) rfl rfl (hb hby d3_59)
        have Fw123 := f121.same W123
        have N123 := Fr.snoc X123 N3 g_r0
        obtain ⟨fs, hr, hrun, hended, hW, hsame⟩ := X123.leave (v := none) (fun _ => rfl)
        have f126 := (((Keep.refl h0 [r0]).wr W3 (Or.inl (List.mem_of_getElem? (i := 0) rfl))).wr W123 (Or.inl (List.mem_of_getElem? (i := 0) rfl)))
        have f127 := (f122.wr W123)
        have f128 := ((F_ng.other W3 (Or.inr (slot_ne (a0 := a0) (Or.inl (hw _ (List.mem_of_getElem? (i := 26) rfl))) (Or.inl (hw _ (List.mem_of_getElem? (i := 19) rfl))) (by decide) (t := .long) (t' := .int) (by decide) (by decide)))).other W123 (Or.inr (slot_ne (a0 := a0) (Or.inl (hw _ (List.mem_of_getElem? (i := 26) rfl))) (Or.inl (hw _ (List.mem_of_getElem? (i := 10) rfl))) (by decide) (t := .long) (t' := .boolean) (by decide) (by decide))))
        have f129 := ((F_ne.other W3 (Or.inr (slot_ne (a0 := a0) (Or.inl (hw _ (List.mem_of_getElem? (i := 28) rfl))) (Or.inl (hw _ (List.mem_of_getElem? (i := 19) rfl))) (by decide) (t := .boolean) (t' := .int) (by decide) (by decide)))).other W123 (Or.inr (slot_ne (a0 := a0) (Or.inl (hw _ (List.mem_of_getElem? (i := 28) rfl))) (Or.inl (hw _ (List.mem_of_getElem? (i := 10) rfl))) (by decide) (t := .boolean) (t' := .boolean) (by decide) (by decide))))
        have f130 := (Fw3.other W123 (Or.inr (slot_ne (a0 := a0) (Or.inl (hw _ (List.mem_of_getElem? (i := 19) rfl))) (Or.inl (hw _ (List.mem_of_getElem? (i := 10) rfl))) (by decide) (t := .int) (t' := .boolean) (by decide) (by decide))))
        have f131 := ((F_dg.other W3 (Or.inr (slot_ne (a0 := a0) (Or.inl (hw _ (List.mem_of_getElem? (i := 30) rfl))) (Or.inl (hw _ (List.mem_of_getElem? (i := 19) rfl))) (by decide) (t := .int) (t' := .int) (by decide) (by decide)))).other W123 (Or.inr (slot_ne (a0 := a0) (Or.inl (hw _ (List.mem_of_getElem? (i := 30) rfl))) (Or.inl (hw _ (List.mem_of_getElem? (i := 10) rfl))) (by decide) (t := .int) (t' := .boolean) (by decide) (by decide))))
        have f132 := ((F_ir.other W3 (Or.inr (slot_ne (a0 := a0) (Or.inl (hw _ (List.mem_of_getElem? (i := 12) rfl))) (Or.inl (hw _ (List.mem_of_getElem? (i := 19) rfl))) (by decide) (t := .boolean) (t' := .int) (by decide) (by decide)))).other W123 (Or.inr (slot_ne (a0 := a0) (Or.inl (hw _ (List.mem_of_getElem? (i := 12) rfl))) (Or.inl (hw _ (List.mem_of_getElem? (i := 10) rfl))) (by decide) (t := .boolean) (t' := .boolean) (by decide) (by decide))))
        refine ⟨_, _, pre0 _ (c2 _ (st1 _ (c4 _ (st3 _ (c107 _ (c120 _ (c124 _ (st123 _ (?_))))))))), hrun, hended, _, _, rfl, ?_, ⟨_, rfl⟩, hW, hsame.mono (by decide) (by decide)⟩
        · show Steps p.tables e below (T123.setTop (mkF m 62 #[.val (.ref r0), .val (.int p1), .val (.int (p1 - (48 : Int32)))] [])) _
          exact X123.returnOut hx Bd.returns (hb hby d3_62) hr
        · show Q3 Z r0 p1 ng ne ch dg wf ir h0 n0 _ T123.heap _
          rw [e123]
          exact ⟨_, _, _, _, _, _, rfl, N123, f126, f127, f128, f129, f130, f131, Fw123, f132⟩
      · -- it isn't
        have f133 := (F_dg.other W3 (Or.inr (slot_ne (a0 := a0) (Or.inl (hw _ (List.mem_of_getElem? (i := 30) rfl))) (Or.inl (hw _ (List.mem_of_getElem? (i := 19) rfl))) (by decide) (t := .int) (t' := .int) (by decide) (by decide))))
        have c135 : ∀ t, Steps p.tables e below (T3.setTop (mkF m 65 #[.val (.ref r0), .val (.int p1), .val (.int (p1 - (48 : Int32)))] [(.ref r0), (.ref r0)])) t → Steps p.tables e below (T3.setTop (mkF m 54 #[.val (.ref r0), .val (.int p1), .val (.int (p1 - (48 : Int32)))] [(.int (9 : Int32)), (.int (p1 - (48 : Int32)))])) t := by
          intro t kt
          show Steps p.tables e below (T3.setTop (mkF m 54 #[.val (.ref r0), .val (.int p1), .val (.int (p1 - (48 : Int32)))] [(.int (9 : Int32)), (.int (p1 - (48 : Int32)))])) _
          refine XS.icmpYes X3.here hx rfl (pc0 := 54) (pc' := 63) rfl (hb hby d3_54) rfl (flt hc54).2.2.2 (by decide) (by decide) ?_
          show Steps p.tables e below (T3.setTop (mkF m 63 #[.val (.ref r0), .val (.int p1), .val (.int (p1 - (48 : Int32)))] [])) _
          refine XS.aloadN X3.here hx rfl (hb hby d3_63) rfl rfl ?_
          show Steps p.tables e below (T3.setTop (mkF m 64 #[.val (.ref r0), .val (.int p1), .val (.int (p1 - (48 : Int32)))] [(.ref r0)])) _
          refine XS.dup X3.here hx rfl (hb hby d3_64) rfl rfl ?_
          exact kt
        obtain ⟨T134, X134, e134, st134⟩ := getF X3 hx hZ hown (host := "") (Or.inl (hw _ (List.mem_of_getElem? (i := 29) rfl))) Via.refl e3 f133 (g := (mkF m 65 #[.val (.ref r0), .val (.int p1), .val (.int (p1 - (48 : Int32)))] [(.ref r0), (.ref r0)])) rfl rfl (hb hby d3_65)
        have f136 := (E0.wr W3)
        have c138 : ∀ t, Steps p.tables e below (T134.setTop (mkF m 70 #[.val (.ref r0), .val (.int p1), .val (.int (p1 - (48 : Int32)))] [(.int (dg + (1 : Int32))), (.ref r0)])) t → Steps p.tables e below (T134.setTop (mkF m 68 #[.val (.ref r0), .val (.int p1), .val (.int (p1 - (48 : Int32)))] [(.int dg), (.ref r0)])) t := by
          intro t kt
          show Steps p.tables e below (T134.setTop (mkF m 68 #[.val (.ref r0), .val (.int p1), .val (.int (p1 - (48 : Int32)))] [(.int dg), (.ref r0)])) _
          refine XS.iconst X134.here hx rfl (hb hby d3_68) ?_
          show Steps p.tables e below (T134.setTop (mkF m 69 #[.val (.ref r0), .val (.int p1), .val (.int (p1 - (48 : Int32)))] [(.int (1 : Int32)), (.int dg), (.ref r0)])) _
          refine XS.iadd X134.here hx rfl (hb hby d3_69) rfl ?_
          exact kt
        obtain ⟨T137, h137, X137, e137, W137, st137⟩ := putF X134 hx hZ hown (host := "") (Or.inl (hw _ (List.mem_of_getElem? (i := 29) rfl))) Via.refl e134 f133 f136 (Or.inl (hw _ (List.mem_of_getElem? (i := 30) rfl))) (hw _ (List.mem_of_getElem? (i := 1) rfl)) (ty := .int) (by decide) rfl rfl (g := (mkF m 70 #[.val (.ref r0), .val (.int p1), .val (.int (p1 - (48 : Int32)))] [(.int (dg + (1 : Int32))), (.ref r0)])) rfl rfl (hb hby d3_70)
        have Fw137 := f133.same W137
        have N137 := Fr.snoc X137 N3 g_r0
        have f139 := ((F_ir.other W3 (Or.inr (slot_ne (a0 := a0) (Or.inl (hw _ (List.mem_of_getElem? (i := 12) rfl))) (Or.inl (hw _ (List.mem_of_getElem? (i := 19) rfl))) (by decide) (t := .boolean) (t' := .int) (by decide) (by decide)))).other W137 (Or.inr (slot_ne (a0 := a0) (Or.inl (hw _ (List.mem_of_getElem? (i := 12) rfl))) (Or.inl (hw _ (List.mem_of_getElem? (i := 30) rfl))) (by decide) (t := .boolean) (t' := .int) (by decide) (by decide))))
        have c141 : ∀ t, Steps p.tables e below (T137.setTop (mkF m 74 #[.val (.ref r0), .val (.int p1), .val (.int (p1 - (48 : Int32)))] [(.ref r0)])) t → Steps p.tables e below (T137.setTop (mkF m 73 #[.val (.ref r0), .val (.int p1), .val (.int (p1 - (48 : Int32)))] [])) t := by
          intro t kt
          show Steps p.tables e below (T137.setTop (mkF m 73 #[.val (.ref r0), .val (.int p1), .val (.int (p1 - (48 : Int32)))] [])) _
          refine XS.aloadN X137.here hx rfl (hb hby d3_73) rfl rfl ?_
          exact kt
        obtain ⟨T140, X140, e140, st140⟩ := getF X137 hx hZ hown (host := "") (Or.inl (hw _ (List.mem_of_getElem? (i := 11) rfl))) Via.refl e137 f139 (g := (mkF m 74 #[.val (.ref r0), .val (.int p1), .val (.int (p1 - (48 : Int32)))] [(.ref r0)])) rfl rfl (hb hby d3_74)
        by_cases hc77 : ir = (0 : Int32)
        · -- it is
          have f142 := (f136.wr W137)
          have c144 : ∀ t, Steps p.tables e below (T140.setTop (mkF m 100 #[.val (.ref r0), .val (.int p1), .val (.int (p1 - (48 : Int32)))] [(.int (0 : Int32)), (.ref r0)])) t → Steps p.tables e below (T140.setTop (mkF m 77 #[.val (.ref r0), .val (.int p1), .val (.int (p1 - (48 : Int32)))] [(.int ir)])) t := by
            intro t kt
            show Steps p.tables e below (T140.setTop (mkF m 77 #[.val (.ref r0), .val (.int p1), .val (.int (p1 - (48 : Int32)))] [(.int ir)])) _
            refine XS.ifYes X140.here hx rfl (pc0 := 77) (pc' := 98) rfl (hb hby d3_77) rfl ((if0 _ _).trans (teq hc77).1) (by decide) (by decide) ?_
            show Steps p.tables e below (T140.setTop (mkF m 98 #[.val (.ref r0), .val (.int p1), .val (.int (p1 - (48 : Int32)))] [])) _
            refine XS.aloadN X140.here hx rfl (hb hby d3_98) rfl rfl ?_
            show Steps p.tables e below (T140.setTop (mkF m 99 #[.val (.ref r0), .val (.int p1), .val (.int (p1 - (48 : Int32)))] [(.ref r0)])) _
            refine XS.iconst X140.here hx rfl (hb hby d3_99) ?_
            exact kt
          obtain ⟨T143, h143, X143, e143, W143, st143⟩ := putFN X140 hx hZ hown (hw _ (List.mem_of_getElem? (i := 11) rfl)) Via.refl e140 f139 f142 (Or.inl (hw _ (List.mem_of_getElem? (i := 12) rfl))) (hw _ (List.mem_of_getElem? (i := 1) rfl)) (ty := .boolean) (v' := (.int (0 : Int32))) (by decide) rfl rfl (g := (mkF m 100 #[.val (.ref r0), .val (.int p1), .val (.int (p1 - (48 : Int32)))] [(.int (0 : Int32)), (.ref r0)])) rfl rfl (hb hby d3_100)
          have Fw143 := f139.same W143
          have N143 := Fr.snoc X143 N137 g_r0
          have c145 : ∀ t, Steps p.tables e below (T143.setTop (mkF m 121 #[.val (.ref r0), .val (.int p1), .val (.int (p1 - (48 : Int32)))] [])) t → Steps p.tables e below (T143.setTop (mkF m 103 #[.val (.ref r0), .val (.int p1), .val (.int (p1 - (48 : Int32)))] [])) t := by
            intro t kt
            show Steps p.tables e below (T143.setTop (mkF m 103 #[.val (.ref r0), .val (.int p1), .val (.int (p1 - (48 : Int32)))] [])) _
            refine XS.goto X143.here hx rfl (pc0 := 103) (pc' := 121) rfl (hb hby d3_103) (by decide) (by decide) ?_
            exact kt
          obtain ⟨fs, hr, hrun, hended, hW, hsame⟩ := X143.leave (v := none) (fun _ => rfl)
          have f147 := ((((Keep.refl h0 [r0]).wr W3 (Or.inl (List.mem_of_getElem? (i := 0) rfl))).wr W137 (Or.inl (List.mem_of_getElem? (i := 0) rfl))).wr W143 (Or.inl (List.mem_of_getElem? (i := 0) rfl)))
          have f148 := (f142.wr W143)
          have f149 := (((F_ng.other W3 (Or.inr (slot_ne (a0 := a0) (Or.inl (hw _ (List.mem_of_getElem? (i := 26) rfl))) (Or.inl (hw _ (List.mem_of_getElem? (i := 19) rfl))) (by decide) (t := .long) (t' := .int) (by decide) (by decide)))).other W137 (Or.inr (slot_ne (a0 := a0) (Or.inl (hw _ (List.mem_of_getElem? (i := 26) rfl))) (Or.inl (hw _ (List.mem_of_getElem? (i := 30) rfl))) (by decide) (t := .long) (t' := .int) (by decide) (by decide)))).other W143 (Or.inr (slot_ne (a0 := a0) (Or.inl (hw _ (List.mem_of_getElem? (i := 26) rfl))) (Or.inl (hw _ (List.mem_of_getElem? (i := 12) rfl))) (by decide) (t := .long) (t' := .boolean) (by decide) (by decide))))
          have f150 := (((F_ne.other W3 (Or.inr (slot_ne (a0 := a0) (Or.inl (hw _ (List.mem_of_getElem? (i := 28) rfl))) (Or.inl (hw _ (List.mem_of_getElem? (i := 19) rfl))) (by decide) (t := .boolean) (t' := .int) (by decide) (by decide)))).other W137 (Or.inr (slot_ne (a0 := a0) (Or.inl (hw _ (List.mem_of_getElem? (i := 28) rfl))) (Or.inl (hw _ (List.mem_of_getElem? (i := 30) rfl))) (by decide) (t := .boolean) (t' := .int) (by decide) (by decide)))).other W143 (Or.inr (slot_ne (a0 := a0) (Or.inl (hw _ (List.mem_of_getElem? (i := 28) rfl))) (Or.inl (hw _ (List.mem_of_getElem? (i := 12) rfl))) (by decide) (t := .boolean) (t' := .boolean) (by decide) (by decide))))
          have f151 := ((Fw3.other W137 (Or.inr (slot_ne (a0 := a0) (Or.inl (hw _ (List.mem_of_getElem? (i := 19) rfl))) (Or.inl (hw _ (List.mem_of_getElem? (i := 30) rfl))) (by decide) (t := .int) (t' := .int) (by decide) (by decide)))).other W143 (Or.inr (slot_ne (a0 := a0) (Or.inl (hw _ (List.mem_of_getElem? (i := 19) rfl))) (Or.inl (hw _ (List.mem_of_getElem? (i := 12) rfl))) (by decide) (t := .int) (t' := .boolean) (by decide) (by decide))))
          have f152 := (Fw137.other W143 (Or.inr (slot_ne (a0 := a0) (Or.inl (hw _ (List.mem_of_getElem? (i := 30) rfl))) (Or.inl (hw _ (List.mem_of_getElem? (i := 12) rfl))) (by decide) (t := .int) (t' := .boolean) (by decide) (by decide))))
          have f153 := (((F_wf.other W3 (Or.inr (slot_ne (a0 := a0) (Or.inl (hw _ (List.mem_of_getElem? (i := 10) rfl))) (Or.inl (hw _ (List.mem_of_getElem? (i := 19) rfl))) (by decide) (t := .boolean) (t' := .int) (by decide) (by decide)))).other W137 (Or.inr (slot_ne (a0 := a0) (Or.inl (hw _ (List.mem_of_getElem? (i := 10) rfl))) (Or.inl (hw _ (List.mem_of_getElem? (i := 30) rfl))) (by decide) (t := .boolean) (t' := .int) (by decide) (by decide)))).other W143 (Or.inr (slot_ne (a0 := a0) (Or.inl (hw _ (List.mem_of_getElem? (i := 10) rfl))) (Or.inl (hw _ (List.mem_of_getElem? (i := 12) rfl))) (by decide) (t := .boolean) (t' := .boolean) (by decide) (by decide))))
          refine ⟨_, _, pre0 _ (c2 _ (st1 _ (c4 _ (st3 _ (c107 _ (c120 _ (c135 _ (st134 _ (c138 _ (st137 _ (c141 _ (st140 _ (c144 _ (st143 _ (c145 _ (?_)))))))))))))))), hrun, hended, _, _, rfl, ?_, ⟨_, rfl⟩, hW, hsame.mono (by decide) (by decide)⟩
          · show Steps p.tables e below (T143.setTop (mkF m 121 #[.val (.ref r0), .val (.int p1), .val (.int (p1 - (48 : Int32)))] [])) _
            exact X143.returnOut hx Bd.returns (hb hby d3_121) hr
          · show Q3 Z r0 p1 ng ne ch dg wf ir h0 n0 _ T143.heap _
            rw [e143]
            exact ⟨_, _, _, _, _, _, rfl, N143, f147, f148, f149, f150, f151, f152, f153, Fw143⟩
        · -- it isn't
          have f154 := ((F_ng.other W3 (Or.inr (slot_ne (a0 := a0) (Or.inl (hw _ (List.mem_of_getElem? (i := 26) rfl))) (Or.inl (hw _ (List.mem_of_getElem? (i := 19) rfl))) (by decide) (t := .long) (t' := .int) (by decide) (by decide)))).other W137 (Or.inr (slot_ne (a0 := a0) (Or.inl (hw _ (List.mem_of_getElem? (i := 26) rfl))) (Or.inl (hw _ (List.mem_of_getElem? (i := 30) rfl))) (by decide) (t := .long) (t' := .int) (by decide) (by decide))))
          have c156 : ∀ t, Steps p.tables e below (T140.setTop (mkF m 81 #[.val (.ref r0), .val (.int p1), .val (.int (p1 - (48 : Int32)))] [(.ref r0)])) t → Steps p.tables e below (T140.setTop (mkF m 77 #[.val (.ref r0), .val (.int p1), .val (.int (p1 - (48 : Int32)))] [(.int ir)])) t := by
            intro t kt
            show Steps p.tables e below (T140.setTop (mkF m 77 #[.val (.ref r0), .val (.int p1), .val (.int (p1 - (48 : Int32)))] [(.int ir)])) _
            refine XS.ifNo X140.here hx rfl (hb hby d3_77) rfl ((if0 _ _).trans (feq hc77).1) ?_
            show Steps p.tables e below (T140.setTop (mkF m 80 #[.val (.ref r0), .val (.int p1), .val (.int (p1 - (48 : Int32)))] [])) _
            refine XS.aloadN X140.here hx rfl (hb hby d3_80) rfl rfl ?_
            exact kt
          obtain ⟨T155, X155, e155, st155⟩ := getF X140 hx hZ hown (host := "") (Or.inl (hw _ (List.mem_of_getElem? (i := 25) rfl))) Via.refl e140 f154 (g := (mkF m 81 #[.val (.ref r0), .val (.int p1), .val (.int (p1 - (48 : Int32)))] [(.ref r0)])) rfl rfl (hb hby d3_81)
          have c157 : ∀ t, Steps p.tables e below (T155.setTop (mkF m 95 #[.val (.ref r0), .val (.int p1), .val (.int (p1 - (48 : Int32)))] [(.int (lcmpW ng (((-9223372036854775808 : Int64) + ((p1 - (48 : Int32)).toInt64)) / (10 : Int64))))])) t → Steps p.tables e below (T155.setTop (mkF m 84 #[.val (.ref r0), .val (.int p1), .val (.int (p1 - (48 : Int32)))] [(.long ng)])) t := by
            intro t kt
            show Steps p.tables e below (T155.setTop (mkF m 84 #[.val (.ref r0), .val (.int p1), .val (.int (p1 - (48 : Int32)))] [(.long ng)])) _
            refine X155.ldc2Long hx hown (mvT hZ (hw _ (List.mem_of_getElem? (i := 32) rfl))) (g := (mkF m 84 #[.val (.ref r0), .val (.int p1), .val (.int (p1 - (48 : Int32)))] [(.long ng)])) rfl (hb hby d3_84) _ ?_
            show Steps p.tables e below (T155.setTop (mkF m 87 #[.val (.ref r0), .val (.int p1), .val (.int (p1 - (48 : Int32)))] [(.long (-9223372036854775808 : Int64)), (.long ng)])) _
            refine XS.iloadN X155.here hx rfl (hb hby d3_87) rfl ?_
            show Steps p.tables e below (T155.setTop (mkF m 88 #[.val (.ref r0), .val (.int p1), .val (.int (p1 - (48 : Int32)))] [(.int (p1 - (48 : Int32))), (.long (-9223372036854775808 : Int64)), (.long ng)])) _
            refine XS.i2l X155.here hx rfl (hb hby d3_88) rfl ?_
            show Steps p.tables e below (T155.setTop (mkF m 89 #[.val (.ref r0), .val (.int p1), .val (.int (p1 - (48 : Int32)))] [(.long ((p1 - (48 : Int32)).toInt64)), (.long (-9223372036854775808 : Int64)), (.long ng)])) _
            refine XS.ladd X155.here hx rfl (hb hby d3_89) rfl ?_
            show Steps p.tables e below (T155.setTop (mkF m 90 #[.val (.ref r0), .val (.int p1), .val (.int (p1 - (48 : Int32)))] [(.long ((-9223372036854775808 : Int64) + ((p1 - (48 : Int32)).toInt64))), (.long ng)])) _
            refine X155.ldc2Long hx hown (mvT hZ (hw _ (List.mem_of_getElem? (i := 33) rfl))) (g := (mkF m 90 #[.val (.ref r0), .val (.int p1), .val (.int (p1 - (48 : Int32)))] [(.long ((-9223372036854775808 : Int64) + ((p1 - (48 : Int32)).toInt64))), (.long ng)])) rfl (hb hby d3_90) _ ?_
            show Steps p.tables e below (T155.setTop (mkF m 93 #[.val (.ref r0), .val (.int p1), .val (.int (p1 - (48 : Int32)))] [(.long (10 : Int64)), (.long ((-9223372036854775808 : Int64) + ((p1 - (48 : Int32)).toInt64))), (.long ng)])) _
            refine XS.ldiv X155.here hx rfl (hb hby d3_93) rfl (by decide) ?_
            show Steps p.tables e below (T155.setTop (mkF m 94 #[.val (.ref r0), .val (.int p1), .val (.int (p1 - (48 : Int32)))] [(.long (((-9223372036854775808 : Int64) + ((p1 - (48 : Int32)).toInt64)) / (10 : Int64))), (.long ng)])) _
            refine XS.lcmp X155.here hx rfl (hb hby d3_94) rfl ?_
            exact kt
          by_cases hc95 : ng < (((-9223372036854775808 : Int64) + ((p1 - (48 : Int32)).toInt64)) / (10 : Int64))
          · -- it is
            have f158 := (f136.wr W137)
            have c160 : ∀ t, Steps p.tables e below (T155.setTop (mkF m 100 #[.val (.ref r0), .val (.int p1), .val (.int (p1 - (48 : Int32)))] [(.int (0 : Int32)), (.ref r0)])) t → Steps p.tables e below (T155.setTop (mkF m 95 #[.val (.ref r0), .val (.int p1), .val (.int (p1 - (48 : Int32)))] [(.int (lcmpW ng (((-9223372036854775808 : Int64) + ((p1 - (48 : Int32)).toInt64)) / (10 : Int64))))])) t := by
              intro t kt
              show Steps p.tables e below (T155.setTop (mkF m 95 #[.val (.ref r0), .val (.int p1), .val (.int (p1 - (48 : Int32)))] [(.int (lcmpW ng (((-9223372036854775808 : Int64) + ((p1 - (48 : Int32)).toInt64)) / (10 : Int64))))])) _
              refine XS.ifNo X155.here hx rfl (hb hby d3_95) rfl ((if0 _ _).trans (tlt ((lw_lt _ _).mpr hc95)).2.1) ?_
              show Steps p.tables e below (T155.setTop (mkF m 98 #[.val (.ref r0), .val (.int p1), .val (.int (p1 - (48 : Int32)))] [])) _
              refine XS.aloadN X155.here hx rfl (hb hby d3_98) rfl rfl ?_
              show Steps p.tables e below (T155.setTop (mkF m 99 #[.val (.ref r0), .val (.int p1), .val (.int (p1 - (48 : Int32)))] [(.ref r0)])) _
              refine XS.iconst X155.here hx rfl (hb hby d3_99) ?_
              exact kt
            obtain ⟨T159, h159, X159, e159, W159, st159⟩ := putFN X155 hx hZ hown (hw _ (List.mem_of_getElem? (i := 11) rfl)) Via.refl e155 f139 f158 (Or.inl (hw _ (List.mem_of_getElem? (i := 12) rfl))) (hw _ (List.mem_of_getElem? (i := 1) rfl)) (ty := .boolean) (v' := (.int (0 : Int32))) (by decide) rfl rfl (g := (mkF m 100 #[.val (.ref r0), .val (.int p1), .val (.int (p1 - (48 : Int32)))] [(.int (0 : Int32)), (.ref r0)])) rfl rfl (hb hby d3_100)
            have Fw159 := f139.same W159
            have N159 := Fr.snoc X159 N137 g_r0
            have c161 : ∀ t, Steps p.tables e below (T159.setTop (mkF m 121 #[.val (.ref r0), .val (.int p1), .val (.int (p1 - (48 : Int32)))] [])) t → Steps p.tables e below (T159.setTop (mkF m 103 #[.val (.ref r0), .val (.int p1), .val (.int (p1 - (48 : Int32)))] [])) t := by
              intro t kt
              show Steps p.tables e below (T159.setTop (mkF m 103 #[.val (.ref r0), .val (.int p1), .val (.int (p1 - (48 : Int32)))] [])) _
              refine XS.goto X159.here hx rfl (pc0 := 103) (pc' := 121) rfl (hb hby d3_103) (by decide) (by decide) ?_
              exact kt
            obtain ⟨fs, hr, hrun, hended, hW, hsame⟩ := X159.leave (v := none) (fun _ => rfl)
            have f163 := ((((Keep.refl h0 [r0]).wr W3 (Or.inl (List.mem_of_getElem? (i := 0) rfl))).wr W137 (Or.inl (List.mem_of_getElem? (i := 0) rfl))).wr W159 (Or.inl (List.mem_of_getElem? (i := 0) rfl)))
            have f164 := (f158.wr W159)
            have f165 := (f154.other W159 (Or.inr (slot_ne (a0 := a0) (Or.inl (hw _ (List.mem_of_getElem? (i := 26) rfl))) (Or.inl (hw _ (List.mem_of_getElem? (i := 12) rfl))) (by decide) (t := .long) (t' := .boolean) (by decide) (by decide))))
            have f166 := (((F_ne.other W3 (Or.inr (slot_ne (a0 := a0) (Or.inl (hw _ (List.mem_of_getElem? (i := 28) rfl))) (Or.inl (hw _ (List.mem_of_getElem? (i := 19) rfl))) (by decide) (t := .boolean) (t' := .int) (by decide) (by decide)))).other W137 (Or.inr (slot_ne (a0 := a0) (Or.inl (hw _ (List.mem_of_getElem? (i := 28) rfl))) (Or.inl (hw _ (List.mem_of_getElem? (i := 30) rfl))) (by decide) (t := .boolean) (t' := .int) (by decide) (by decide)))).other W159 (Or.inr (slot_ne (a0 := a0) (Or.inl (hw _ (List.mem_of_getElem? (i := 28) rfl))) (Or.inl (hw _ (List.mem_of_getElem? (i := 12) rfl))) (by decide) (t := .boolean) (t' := .boolean) (by decide) (by decide))))
            have f167 := ((Fw3.other W137 (Or.inr (slot_ne (a0 := a0) (Or.inl (hw _ (List.mem_of_getElem? (i := 19) rfl))) (Or.inl (hw _ (List.mem_of_getElem? (i := 30) rfl))) (by decide) (t := .int) (t' := .int) (by decide) (by decide)))).other W159 (Or.inr (slot_ne (a0 := a0) (Or.inl (hw _ (List.mem_of_getElem? (i := 19) rfl))) (Or.inl (hw _ (List.mem_of_getElem? (i := 12) rfl))) (by decide) (t := .int) (t' := .boolean) (by decide) (by decide))))
            have f168 := (Fw137.other W159 (Or.inr (slot_ne (a0 := a0) (Or.inl (hw _ (List.mem_of_getElem? (i := 30) rfl))) (Or.inl (hw _ (List.mem_of_getElem? (i := 12) rfl))) (by decide) (t := .int) (t' := .boolean) (by decide) (by decide))))
            have f169 := (((F_wf.other W3 (Or.inr (slot_ne (a0 := a0) (Or.inl (hw _ (List.mem_of_getElem? (i := 10) rfl))) (Or.inl (hw _ (List.mem_of_getElem? (i := 19) rfl))) (by decide) (t := .boolean) (t' := .int) (by decide) (by decide)))).other W137 (Or.inr (slot_ne (a0 := a0) (Or.inl (hw _ (List.mem_of_getElem? (i := 10) rfl))) (Or.inl (hw _ (List.mem_of_getElem? (i := 30) rfl))) (by decide) (t := .boolean) (t' := .int) (by decide) (by decide)))).other W159 (Or.inr (slot_ne (a0 := a0) (Or.inl (hw _ (List.mem_of_getElem? (i := 10) rfl))) (Or.inl (hw _ (List.mem_of_getElem? (i := 12) rfl))) (by decide) (t := .boolean) (t' := .boolean) (by decide) (by decide))))
            refine ⟨_, _, pre0 _ (c2 _ (st1 _ (c4 _ (st3 _ (c107 _ (c120 _ (c135 _ (st134 _ (c138 _ (st137 _ (c141 _ (st140 _ (c156 _ (st155 _ (c157 _ (c160 _ (st159 _ (c161 _ (?_))))))))))))))))))), hrun, hended, _, _, rfl, ?_, ⟨_, rfl⟩, hW, hsame.mono (by decide) (by decide)⟩
            · show Steps p.tables e below (T159.setTop (mkF m 121 #[.val (.ref r0), .val (.int p1), .val (.int (p1 - (48 : Int32)))] [])) _
              exact X159.returnOut hx Bd.returns (hb hby d3_121) hr
            · show Q3 Z r0 p1 ng ne ch dg wf ir h0 n0 _ T159.heap _
              rw [e159]
              exact ⟨_, _, _, _, _, _, rfl, N159, f163, f164, f165, f166, f167, f168, f169, Fw159⟩
          · -- it isn't
            have c171 : ∀ t, Steps p.tables e below (T155.setTop (mkF m 108 #[.val (.ref r0), .val (.int p1), .val (.int (p1 - (48 : Int32)))] [(.ref r0), (.ref r0)])) t → Steps p.tables e below (T155.setTop (mkF m 95 #[.val (.ref r0), .val (.int p1), .val (.int (p1 - (48 : Int32)))] [(.int (lcmpW ng (((-9223372036854775808 : Int64) + ((p1 - (48 : Int32)).toInt64)) / (10 : Int64))))])) t := by
              intro t kt
              show Steps p.tables e below (T155.setTop (mkF m 95 #[.val (.ref r0), .val (.int p1), .val (.int (p1 - (48 : Int32)))] [(.int (lcmpW ng (((-9223372036854775808 : Int64) + ((p1 - (48 : Int32)).toInt64)) / (10 : Int64))))])) _
              refine XS.ifYes X155.here hx rfl (pc0 := 95) (pc' := 106) rfl (hb hby d3_95) rfl ((if0 _ _).trans (flt (fun q => hc95 ((lw_lt _ _).mp q))).2.1) (by decide) (by decide) ?_
              show Steps p.tables e below (T155.setTop (mkF m 106 #[.val (.ref r0), .val (.int p1), .val (.int (p1 - (48 : Int32)))] [])) _
              refine XS.aloadN X155.here hx rfl (hb hby d3_106) rfl rfl ?_
              show Steps p.tables e below (T155.setTop (mkF m 107 #[.val (.ref r0), .val (.int p1), .val (.int (p1 - (48 : Int32)))] [(.ref r0)])) _
              refine XS.aloadN X155.here hx rfl (hb hby d3_107) rfl rfl ?_
              exact kt
            obtain ⟨T170, X170, e170, st170⟩ := getF X155 hx hZ hown (host := "") (Or.inl (hw _ (List.mem_of_getElem? (i := 25) rfl))) Via.refl e155 f154 (g := (mkF m 108 #[.val (.ref r0), .val (.int p1), .val (.int (p1 - (48 : Int32)))] [(.ref r0), (.ref r0)])) rfl rfl (hb hby d3_108)
            have f172 := (f136.wr W137)
            have c174 : ∀ t, Steps p.tables e below (T170.setTop (mkF m 118 #[.val (.ref r0), .val (.int p1), .val (.int (p1 - (48 : Int32)))] [(.long ((ng * (10 : Int64)) - ((p1 - (48 : Int32)).toInt64))), (.ref r0)])) t → Steps p.tables e below (T170.setTop (mkF m 111 #[.val (.ref r0), .val (.int p1), .val (.int (p1 - (48 : Int32)))] [(.long ng), (.ref r0)])) t := by
              intro t kt
              show Steps p.tables e below (T170.setTop (mkF m 111 #[.val (.ref r0), .val (.int p1), .val (.int (p1 - (48 : Int32)))] [(.long ng), (.ref r0)])) _
              refine X170.ldc2Long hx hown (mvT hZ (hw _ (List.mem_of_getElem? (i := 33) rfl))) (g := (mkF m 111 #[.val (.ref r0), .val (.int p1), .val (.int (p1 - (48 : Int32)))] [(.long ng), (.ref r0)])) rfl (hb hby d3_111) _ ?_
              show Steps p.tables e below (T170.setTop (mkF m 114 #[.val (.ref r0), .val (.int p1), .val (.int (p1 - (48 : Int32)))] [(.long (10 : Int64)), (.long ng), (.ref r0)])) _
              refine XS.lmul X170.here hx rfl (hb hby d3_114) rfl ?_
              show Steps p.tables e below (T170.setTop (mkF m 115 #[.val (.ref r0), .val (.int p1), .val (.int (p1 - (48 : Int32)))] [(.long (ng * (10 : Int64))), (.ref r0)])) _
              refine XS.iloadN X170.here hx rfl (hb hby d3_115) rfl ?_
              show Steps p.tables e below (T170.setTop (mkF m 116 #[.val (.ref r0), .val (.int p1), .val (.int (p1 - (48 : Int32)))] [(.int (p1 - (48 : Int32))), (.long (ng * (10 : Int64))), (.ref r0)])) _
              refine XS.i2l X170.here hx rfl (hb hby d3_116) rfl ?_
              show Steps p.tables e below (T170.setTop (mkF m 117 #[.val (.ref r0), .val (.int p1), .val (.int (p1 - (48 : Int32)))] [(.long ((p1 - (48 : Int32)).toInt64)), (.long (ng * (10 : Int64))), (.ref r0)])) _
              refine XS.lsub X170.here hx rfl (hb hby d3_117) rfl ?_
              exact kt
            obtain ⟨T173, h173, X173, e173, W173, st173⟩ := putF X170 hx hZ hown (host := "") (Or.inl (hw _ (List.mem_of_getElem? (i := 25) rfl))) Via.refl e170 f154 f172 (Or.inl (hw _ (List.mem_of_getElem? (i := 26) rfl))) (hw _ (List.mem_of_getElem? (i := 1) rfl)) (ty := .long) (by decide) rfl rfl (g := (mkF m 118 #[.val (.ref r0), .val (.int p1), .val (.int (p1 - (48 : Int32)))] [(.long ((ng * (10 : Int64)) - ((p1 - (48 : Int32)).toInt64))), (.ref r0)])) rfl rfl (hb hby d3_118)
            have Fw173 := f154.same W173
            have N173 := Fr.snoc X173 N137 g_r0
            obtain ⟨fs, hr, hrun, hended, hW, hsame⟩ := X173.leave (v := none) (fun _ => rfl)
            have f176 := ((((Keep.refl h0 [r0]).wr W3 (Or.inl (List.mem_of_getElem? (i := 0) rfl))).wr W137 (Or.inl (List.mem_of_getElem? (i := 0) rfl))).wr W173 (Or.inl (List.mem_of_getElem? (i := 0) rfl)))
            have f177 := (f172.wr W173)
            have f178 := (((F_ne.other W3 (Or.inr (slot_ne (a0 := a0) (Or.inl (hw _ (List.mem_of_getElem? (i := 28) rfl))) (Or.inl (hw _ (List.mem_of_getElem? (i := 19) rfl))) (by decide) (t := .boolean) (t' := .int) (by decide) (by decide)))).other W137 (Or.inr (slot_ne (a0 := a0) (Or.inl (hw _ (List.mem_of_getElem? (i := 28) rfl))) (Or.inl (hw _ (List.mem_of_getElem? (i := 30) rfl))) (by decide) (t := .boolean) (t' := .int) (by decide) (by decide)))).other W173 (Or.inr (slot_ne (a0 := a0) (Or.inl (hw _ (List.mem_of_getElem? (i := 28) rfl))) (Or.inl (hw _ (List.mem_of_getElem? (i := 26) rfl))) (by decide) (t := .boolean) (t' := .long) (by decide) (by decide))))
            have f179 := ((Fw3.other W137 (Or.inr (slot_ne (a0 := a0) (Or.inl (hw _ (List.mem_of_getElem? (i := 19) rfl))) (Or.inl (hw _ (List.mem_of_getElem? (i := 30) rfl))) (by decide) (t := .int) (t' := .int) (by decide) (by decide)))).other W173 (Or.inr (slot_ne (a0 := a0) (Or.inl (hw _ (List.mem_of_getElem? (i := 19) rfl))) (Or.inl (hw _ (List.mem_of_getElem? (i := 26) rfl))) (by decide) (t := .int) (t' := .long) (by decide) (by decide))))
            have f180 := (Fw137.other W173 (Or.inr (slot_ne (a0 := a0) (Or.inl (hw _ (List.mem_of_getElem? (i := 30) rfl))) (Or.inl (hw _ (List.mem_of_getElem? (i := 26) rfl))) (by decide) (t := .int) (t' := .long) (by decide) (by decide))))
            have f181 := (((F_wf.other W3 (Or.inr (slot_ne (a0 := a0) (Or.inl (hw _ (List.mem_of_getElem? (i := 10) rfl))) (Or.inl (hw _ (List.mem_of_getElem? (i := 19) rfl))) (by decide) (t := .boolean) (t' := .int) (by decide) (by decide)))).other W137 (Or.inr (slot_ne (a0 := a0) (Or.inl (hw _ (List.mem_of_getElem? (i := 10) rfl))) (Or.inl (hw _ (List.mem_of_getElem? (i := 30) rfl))) (by decide) (t := .boolean) (t' := .int) (by decide) (by decide)))).other W173 (Or.inr (slot_ne (a0 := a0) (Or.inl (hw _ (List.mem_of_getElem? (i := 10) rfl))) (Or.inl (hw _ (List.mem_of_getElem? (i := 26) rfl))) (by decide) (t := .boolean) (t' := .long) (by decide) (by decide))))
            have f182 := (f139.other W173 (Or.inr (slot_ne (a0 := a0) (Or.inl (hw _ (List.mem_of_getElem? (i := 12) rfl))) (Or.inl (hw _ (List.mem_of_getElem? (i := 26) rfl))) (by decide) (t := .boolean) (t' := .long) (by decide) (by decide))))
            refine ⟨_, _, pre0 _ (c2 _ (st1 _ (c4 _ (st3 _ (c107 _ (c120 _ (c135 _ (st134 _ (c138 _ (st137 _ (c141 _ (st140 _ (c156 _ (st155 _ (c157 _ (c171 _ (st170 _ (c174 _ (st173 _ (?_)))))))))))))))))))), hrun, hended, _, _, rfl, ?_, ⟨_, rfl⟩, hW, hsame.mono (by decide) (by decide)⟩
            · show Steps p.tables e below (T173.setTop (mkF m 121 #[.val (.ref r0), .val (.int p1), .val (.int (p1 - (48 : Int32)))] [])) _
              exact X173.returnOut hx Bd.returns (hb hby d3_121) hr
            · show Q3 Z r0 p1 ng ne ch dg wf ir h0 n0 _ T173.heap _
              rw [e173]
              exact ⟨_, _, _, _, _, _, rfl, N173, f176, f177, Fw173, f178, f179, f180, f181, f182⟩
def Q3d (Z : State) (r0 : Addr) (p1 : Int32) (ng : Int64) (ne : Int32) (ch : Int32) (dg : Int32) (h0 : Heap) (n0 : Nat) (v : Option Value) (h : Heap) (L : List Loc) : Prop := v = none ∧ Fr n0 L ∧ Keep h0 h [r0] ∧ Exa Z h r0 "com/example/sequence_set/sequenceset/cli/DecimalParser" ∧ Fld Z h r0 "com/example/sequence_set/sequenceset/cli/DecimalParser" "negated" "J" (.long (own_ng ng p1)) ∧ Fld Z h r0 "com/example/sequence_set/sequenceset/cli/DecimalParser" "negative" "Z" (.int ne) ∧ Fld Z h r0 "com/example/sequence_set/sequenceset/cli/DecimalParser" "characters" "I" (.int (ch + (1 : Int32))) ∧ Fld Z h r0 "com/example/sequence_set/sequenceset/cli/DecimalParser" "digits" "I" (.int (dg + (1 : Int32))) ∧ Fld Z h r0 "com/example/sequence_set/sequenceset/cli/DecimalParser" "wellFormed" "Z" (.int (1 : Int32)) ∧ Fld Z h r0 "com/example/sequence_set/sequenceset/cli/DecimalParser" "inRange" "Z" (.int (1 : Int32))
set_option maxRecDepth 65536 in
set_option maxHeartbeats 40000000 in
theorem rm3d (l : Launch) (Z : State) (a0 : Array Value) (hw : ∀ d ∈ tables_1, d.before a0 Z = true) (ws : List Jvm.Cond) (r0 : Addr) (p1 : Int32) (ng : Int64) (ne : Int32) (ch : Int32) (dg : Int32) (h0 : Heap) (n0 : Nat) (Z0 : n0 ≤ h0.size) (F_ng : Fld Z h0 r0 "com/example/sequence_set/sequenceset/cli/DecimalParser" "negated" "J" (.long ng)) (F_ne : Fld Z h0 r0 "com/example/sequence_set/sequenceset/cli/DecimalParser" "negative" "Z" (.int ne)) (F_ch : Fld Z h0 r0 "com/example/sequence_set/sequenceset/cli/DecimalParser" "characters" "I" (.int ch)) (F_dg : Fld Z h0 r0 "com/example/sequence_set/sequenceset/cli/DecimalParser" "digits" "I" (.int dg)) (F_wf : Fld Z h0 r0 "com/example/sequence_set/sequenceset/cli/DecimalParser" "wellFormed" "Z" (.int (1 : Int32))) (F_ir : Fld Z h0 r0 "com/example/sequence_set/sequenceset/cli/DecimalParser" "inRange" "Z" (.int (1 : Int32))) (E0 : Exa Z h0 r0 "com/example/sequence_set/sequenceset/cli/DecimalParser") (g_r0 : n0 ≤ r0) (h45 : ¬ p1 = (45 : Int32)) (h43 : ¬ p1 = (43 : Int32)) (kd0 : ¬ (p1 - (48 : Int32)) < (0 : Int32)) (kd9 : ¬ (9 : Int32) < (p1 - (48 : Int32))) (hok : ¬ ng < (((-9223372036854775808 : Int64) + (p1 - (48 : Int32)).toInt64) / (10 : Int64))) :
    MetFree l (⟨"com/example/sequence_set/sequenceset/cli/DecimalParser", "accept", "(I)V"⟩ : MethodName) (head1 (Jvm.Cond.code (⟨"com/example/sequence_set/sequenceset/cli/DecimalParser", "accept", "(I)V"⟩ : MethodName) prog_17_method_5_code 3 none :: ws) ({ frames := 0, cells := 0, slots := 0, locals := 0 } : Room)) (fun a U => a = #[(.ref r0), (.int p1)] ∧ Z.Warmed39 U.vm ∧ U.heap = h0) (fun _ _ _ _ _ => True) (fun _ U o U' => ∃ v L, o = .returned v ∧ Q3d Z r0 p1 ng ne ch dg h0 n0 v U'.heap L ∧ FrameEnd U o U' L ({ frames := 0, cells := 0, slots := 0, locals := 0 } : Room).cells ({ frames := 0, cells := 0, slots := 0, locals := 0 } : Room).slots) := by
  refine MetFree.of_bodySF (plainFor_of_name pn_3) hisR ?_
  intro p e s m args below meth c s₁ Bd hml0 hP hK
  obtain ⟨rfl, hZ, hh⟩ := hP
  have hx := Bd.exec
  have hby := Bd.bytes
  have hml : c.maxLocals = 3 := hml0
  have hown : s.vm.findClass "com/example/sequence_set/sequenceset/cli/DecimalParser" = some m.cls := findClass_of_methodNamed Bd.named
  have hnm := (name_of_methodNamed Bd.named Bd.method).1
  have X0 : Stand p l e ({ frames := 0, cells := 0, slots := 0, locals := 0 } : Room) s m #[(.ref r0), (.int p1)] below meth c s₁ [] 0 0 := Stand.of_body Bd
  have e0 : s₁.heap = h0 := by rw [← hh, Bd.state]; rfl
  have N0 := Fr.nil n0
  have pre0 : ∀ t, Steps p.tables e below (s₁.setTop (mkF m 0 #[.val (.ref r0), .val (.int p1), .unset] [])) t → Steps p.tables e below (s₁.setTop (entryFrame m #[(.ref r0), (.int p1)] 3)) t := fun t k => castTop (ef_3 m r0 p1) k
  have c2 : ∀ t, Steps p.tables e below (s₁.setTop (mkF m 2 #[.val (.ref r0), .val (.int p1), .unset] [(.ref r0), (.ref r0)])) t → Steps p.tables e below (s₁.setTop (mkF m 0 #[.val (.ref r0), .val (.int p1), .unset] [])) t := by
    intro t kt
    show Steps p.tables e below (s₁.setTop (mkF m 0 #[.val (.ref r0), .val (.int p1), .unset] [])) _
    refine XS.aloadN X0.here hx rfl (hb hby d3_0) rfl rfl ?_
    show Steps p.tables e below (s₁.setTop (mkF m 1 #[.val (.ref r0), .val (.int p1), .unset] [(.ref r0)])) _
    refine XS.dup X0.here hx rfl (hb hby d3_1) rfl rfl ?_
    exact kt
  obtain ⟨T1, X1, e1, st1⟩ := getF X0 hx hZ hown (host := "") (Or.inl (hw _ (List.mem_of_getElem? (i := 18) rfl))) Via.refl e0 F_ch (g := (mkF m 2 #[.val (.ref r0), .val (.int p1), .unset] [(.ref r0), (.ref r0)])) rfl rfl (hb hby d3_2)
  have c4 : ∀ t, Steps p.tables e below (T1.setTop (mkF m 8 #[.val (.ref r0), .val (.int p1), .unset] [(.int (ch + (1 : Int32))), (.ref r0), (.int ch)])) t → Steps p.tables e below (T1.setTop (mkF m 5 #[.val (.ref r0), .val (.int p1), .unset] [(.int ch), (.ref r0)])) t := by
    intro t kt
    show Steps p.tables e below (T1.setTop (mkF m 5 #[.val (.ref r0), .val (.int p1), .unset] [(.int ch), (.ref r0)])) _
    refine XS.dupX1 X1.here hx rfl (hb hby d3_5) rfl rfl rfl ?_
    show Steps p.tables e below (T1.setTop (mkF m 6 #[.val (.ref r0), .val (.int p1), .unset] [(.int ch), (.ref r0), (.int ch)])) _
    refine XS.iconst X1.here hx rfl (hb hby d3_6) ?_
    show Steps p.tables e below (T1.setTop (mkF m 7 #[.val (.ref r0), .val (.int p1), .unset] [(.int (1 : Int32)), (.int ch), (.ref r0), (.int ch)])) _
    refine XS.iadd X1.here hx rfl (hb hby d3_7) rfl ?_
    exact kt
  obtain ⟨T3, h3, X3, e3, W3, st3⟩ := putF X1 hx hZ hown (host := "") (Or.inl (hw _ (List.mem_of_getElem? (i := 18) rfl))) Via.refl e1 F_ch E0 (Or.inl (hw _ (List.mem_of_getElem? (i := 19) rfl))) (hw _ (List.mem_of_getElem? (i := 1) rfl)) (ty := .int) (by decide) rfl rfl (g := (mkF m 8 #[.val (.ref r0), .val (.int p1), .unset] [(.int (ch + (1 : Int32))), (.ref r0), (.int ch)])) rfl rfl (hb hby d3_8)
  have Fw3 := F_ch.same W3
  have N3 := Fr.snoc X3 N0 g_r0
  by_cases hc11 : ch = (0 : Int32)
  · -- it is
    have c6 : ∀ t, Steps p.tables e below (T3.setTop (mkF m 17 #[.val (.ref r0), .val (.int p1), .unset] [(.int (45 : Int32)), (.int p1)])) t → Steps p.tables e below (T3.setTop (mkF m 11 #[.val (.ref r0), .val (.int p1), .unset] [(.int ch)])) t := by
      intro t kt
      show Steps p.tables e below (T3.setTop (mkF m 11 #[.val (.ref r0), .val (.int p1), .unset] [(.int ch)])) _
      refine XS.ifNo X3.here hx rfl (hb hby d3_11) rfl ((if0 _ _).trans (teq hc11).2) ?_
      show Steps p.tables e below (T3.setTop (mkF m 14 #[.val (.ref r0), .val (.int p1), .unset] [])) _
      refine XS.iloadN X3.here hx rfl (hb hby d3_14) rfl ?_
      show Steps p.tables e below (T3.setTop (mkF m 15 #[.val (.ref r0), .val (.int p1), .unset] [(.int p1)])) _
      refine XS.bipush X3.here hx rfl (hb hby d3_15) ?_
      exact kt
    have hd5 : ¬ (p1 = (45 : Int32)) := h45
    have c8 : ∀ t, Steps p.tables e below (T3.setTop (mkF m 23 #[.val (.ref r0), .val (.int p1), .unset] [(.int (43 : Int32)), (.int p1)])) t → Steps p.tables e below (T3.setTop (mkF m 17 #[.val (.ref r0), .val (.int p1), .unset] [(.int (45 : Int32)), (.int p1)])) t := by
      intro t kt
      show Steps p.tables e below (T3.setTop (mkF m 17 #[.val (.ref r0), .val (.int p1), .unset] [(.int (45 : Int32)), (.int p1)])) _
      refine XS.icmpNo X3.here hx rfl (hb hby d3_17) rfl (feq hd5).1 ?_
      show Steps p.tables e below (T3.setTop (mkF m 20 #[.val (.ref r0), .val (.int p1), .unset] [])) _
      refine XS.iloadN X3.here hx rfl (hb hby d3_20) rfl ?_
      show Steps p.tables e below (T3.setTop (mkF m 21 #[.val (.ref r0), .val (.int p1), .unset] [(.int p1)])) _
      refine XS.bipush X3.here hx rfl (hb hby d3_21) ?_
      exact kt
    have hd7 : ¬ (p1 = (43 : Int32)) := h43
    have c10 : ∀ t, Steps p.tables e below (T3.setTop (mkF m 48 #[.val (.ref r0), .val (.int p1), .val (.int (p1 - (48 : Int32)))] [(.int (p1 - (48 : Int32)))])) t → Steps p.tables e below (T3.setTop (mkF m 23 #[.val (.ref r0), .val (.int p1), .unset] [(.int (43 : Int32)), (.int p1)])) t := by
      intro t kt
      show Steps p.tables e below (T3.setTop (mkF m 23 #[.val (.ref r0), .val (.int p1), .unset] [(.int (43 : Int32)), (.int p1)])) _
      refine XS.icmpYes X3.here hx rfl (pc0 := 23) (pc' := 42) rfl (hb hby d3_23) rfl (feq hd7).2 (by decide) (by decide) ?_
      show Steps p.tables e below (T3.setTop (mkF m 42 #[.val (.ref r0), .val (.int p1), .unset] [])) _
      refine XS.iloadN X3.here hx rfl (hb hby d3_42) rfl ?_
      show Steps p.tables e below (T3.setTop (mkF m 43 #[.val (.ref r0), .val (.int p1), .unset] [(.int p1)])) _
      refine XS.bipush X3.here hx rfl (hb hby d3_43) ?_
      show Steps p.tables e below (T3.setTop (mkF m 45 #[.val (.ref r0), .val (.int p1), .unset] [(.int (48 : Int32)), (.int p1)])) _
      refine XS.isub X3.here hx rfl (hb hby d3_45) rfl ?_
      show Steps p.tables e below (T3.setTop (mkF m 46 #[.val (.ref r0), .val (.int p1), .unset] [(.int (p1 - (48 : Int32)))])) _
      refine XS.istoreN X3.here hx rfl (hb hby d3_46) rfl (l' := #[.val (.ref r0), .val (.int p1), .val (.int (p1 - (48 : Int32)))]) rfl ?_
      show Steps p.tables e below (T3.setTop (mkF m 47 #[.val (.ref r0), .val (.int p1), .val (.int (p1 - (48 : Int32)))] [])) _
      refine XS.iloadN X3.here hx rfl (hb hby d3_47) rfl ?_
      exact kt
    have hd9 : ¬ ((p1 - (48 : Int32)) < (0 : Int32)) := kd0
    have c12 : ∀ t, Steps p.tables e below (T3.setTop (mkF m 54 #[.val (.ref r0), .val (.int p1), .val (.int (p1 - (48 : Int32)))] [(.int (9 : Int32)), (.int (p1 - (48 : Int32)))])) t → Steps p.tables e below (T3.setTop (mkF m 48 #[.val (.ref r0), .val (.int p1), .val (.int (p1 - (48 : Int32)))] [(.int (p1 - (48 : Int32)))])) t := by
      intro t kt
      show Steps p.tables e below (T3.setTop (mkF m 48 #[.val (.ref r0), .val (.int p1), .val (.int (p1 - (48 : Int32)))] [(.int (p1 - (48 : Int32)))])) _
      refine XS.ifNo X3.here hx rfl (hb hby d3_48) rfl ((if0 _ _).trans (flt hd9).1) ?_
      show Steps p.tables e below (T3.setTop (mkF m 51 #[.val (.ref r0), .val (.int p1), .val (.int (p1 - (48 : Int32)))] [])) _
      refine XS.iloadN X3.here hx rfl (hb hby d3_51) rfl ?_
      show Steps p.tables e below (T3.setTop (mkF m 52 #[.val (.ref r0), .val (.int p1), .val (.int (p1 - (48 : Int32)))] [(.int (p1 - (48 : Int32)))])) _
      refine XS.bipush X3.here hx rfl (hb hby d3_52) ?_
      exact kt
    have hd11 : ¬ ((9 : Int32) < (p1 - (48 : Int32))) := kd9
    have f13 := (F_dg.other W3 (Or.inr (slot_ne (a0 := a0) (Or.inl (hw _ (List.mem_of_getElem? (i := 30) rfl))) (Or.inl (hw _ (List.mem_of_getElem? (i := 19) rfl))) (by decide) (t := .int) (t' := .int) (by decide) (by decide))))
    have c15 : ∀ t, Steps p.tables e below (T3.setTop (mkF m 65 #[.val (.ref r0), .val (.int p1), .val (.int (p1 - (48 : Int32)))] [(.ref r0), (.ref r0)])) t → Steps p.tables e below (T3.setTop (mkF m 54 #[.val (.ref r0), .val (.int p1), .val (.int (p1 - (48 : Int32)))] [(.int (9 : Int32)), (.int (p1 - (48 : Int32)))])) t := by
      intro t kt
      show Steps p.tables e below (T3.setTop (mkF m 54 #[.val (.ref r0), .val (.int p1), .val (.int (p1 - (48 : Int32)))] [(.int (9 : Int32)), (.int (p1 - (48 : Int32)))])) _
      refine XS.icmpYes X3.here hx rfl (pc0 := 54) (pc' := 63) rfl (hb hby d3_54) rfl (flt hd11).2.2.2 (by decide) (by decide) ?_
      show Steps p.tables e below (T3.setTop (mkF m 63 #[.val (.ref r0), .val (.int p1), .val (.int (p1 - (48 : Int32)))] [])) _
      refine XS.aloadN X3.here hx rfl (hb hby d3_63) rfl rfl ?_
      show Steps p.tables e below (T3.setTop (mkF m 64 #[.val (.ref r0), .val (.int p1), .val (.int (p1 - (48 : Int32)))] [(.ref r0)])) _
      refine XS.dup X3.here hx rfl (hb hby d3_64) rfl rfl ?_
      exact kt
    obtain ⟨T14, X14, e14, st14⟩ := getF X3 hx hZ hown (host := "") (Or.inl (hw _ (List.mem_of_getElem? (i := 29) rfl))) Via.refl e3 f13 (g := (mkF m 65 #[.val (.ref r0), .val (.int p1), .val (.int (p1 - (48 : Int32)))] [(.ref r0), (.ref r0)])) rfl rfl (hb hby d3_65)
    have f16 := (E0.wr W3)
    have c18 : ∀ t, Steps p.tables e below (T14.setTop (mkF m 70 #[.val (.ref r0), .val (.int p1), .val (.int (p1 - (48 : Int32)))] [(.int (dg + (1 : Int32))), (.ref r0)])) t → Steps p.tables e below (T14.setTop (mkF m 68 #[.val (.ref r0), .val (.int p1), .val (.int (p1 - (48 : Int32)))] [(.int dg), (.ref r0)])) t := by
      intro t kt
      show Steps p.tables e below (T14.setTop (mkF m 68 #[.val (.ref r0), .val (.int p1), .val (.int (p1 - (48 : Int32)))] [(.int dg), (.ref r0)])) _
      refine XS.iconst X14.here hx rfl (hb hby d3_68) ?_
      show Steps p.tables e below (T14.setTop (mkF m 69 #[.val (.ref r0), .val (.int p1), .val (.int (p1 - (48 : Int32)))] [(.int (1 : Int32)), (.int dg), (.ref r0)])) _
      refine XS.iadd X14.here hx rfl (hb hby d3_69) rfl ?_
      exact kt
    obtain ⟨T17, h17, X17, e17, W17, st17⟩ := putF X14 hx hZ hown (host := "") (Or.inl (hw _ (List.mem_of_getElem? (i := 29) rfl))) Via.refl e14 f13 f16 (Or.inl (hw _ (List.mem_of_getElem? (i := 30) rfl))) (hw _ (List.mem_of_getElem? (i := 1) rfl)) (ty := .int) (by decide) rfl rfl (g := (mkF m 70 #[.val (.ref r0), .val (.int p1), .val (.int (p1 - (48 : Int32)))] [(.int (dg + (1 : Int32))), (.ref r0)])) rfl rfl (hb hby d3_70)
    have Fw17 := f13.same W17
    have N17 := Fr.snoc X17 N3 g_r0
    have f19 := ((F_ir.other W3 (Or.inr (slot_ne (a0 := a0) (Or.inl (hw _ (List.mem_of_getElem? (i := 12) rfl))) (Or.inl (hw _ (List.mem_of_getElem? (i := 19) rfl))) (by decide) (t := .boolean) (t' := .int) (by decide) (by decide)))).other W17 (Or.inr (slot_ne (a0 := a0) (Or.inl (hw _ (List.mem_of_getElem? (i := 12) rfl))) (Or.inl (hw _ (List.mem_of_getElem? (i := 30) rfl))) (by decide) (t := .boolean) (t' := .int) (by decide) (by decide))))
    have c21 : ∀ t, Steps p.tables e below (T17.setTop (mkF m 74 #[.val (.ref r0), .val (.int p1), .val (.int (p1 - (48 : Int32)))] [(.ref r0)])) t → Steps p.tables e below (T17.setTop (mkF m 73 #[.val (.ref r0), .val (.int p1), .val (.int (p1 - (48 : Int32)))] [])) t := by
      intro t kt
      show Steps p.tables e below (T17.setTop (mkF m 73 #[.val (.ref r0), .val (.int p1), .val (.int (p1 - (48 : Int32)))] [])) _
      refine XS.aloadN X17.here hx rfl (hb hby d3_73) rfl rfl ?_
      exact kt
    obtain ⟨T20, X20, e20, st20⟩ := getF X17 hx hZ hown (host := "") (Or.inl (hw _ (List.mem_of_getElem? (i := 11) rfl))) Via.refl e17 f19 (g := (mkF m 74 #[.val (.ref r0), .val (.int p1), .val (.int (p1 - (48 : Int32)))] [(.ref r0)])) rfl rfl (hb hby d3_74)
    have f22 := ((F_ng.other W3 (Or.inr (slot_ne (a0 := a0) (Or.inl (hw _ (List.mem_of_getElem? (i := 26) rfl))) (Or.inl (hw _ (List.mem_of_getElem? (i := 19) rfl))) (by decide) (t := .long) (t' := .int) (by decide) (by decide)))).other W17 (Or.inr (slot_ne (a0 := a0) (Or.inl (hw _ (List.mem_of_getElem? (i := 26) rfl))) (Or.inl (hw _ (List.mem_of_getElem? (i := 30) rfl))) (by decide) (t := .long) (t' := .int) (by decide) (by decide))))
    have c24 : ∀ t, Steps p.tables e below (T20.setTop (mkF m 81 #[.val (.ref r0), .val (.int p1), .val (.int (p1 - (48 : Int32)))] [(.ref r0)])) t → Steps p.tables e below (T20.setTop (mkF m 77 #[.val (.ref r0), .val (.int p1), .val (.int (p1 - (48 : Int32)))] [(.int (1 : Int32))])) t := by
      intro t kt
      show Steps p.tables e below (T20.setTop (mkF m 77 #[.val (.ref r0), .val (.int p1), .val (.int (p1 - (48 : Int32)))] [(.int (1 : Int32))])) _
      refine XS.ifNo X20.here hx rfl (hb hby d3_77) rfl ((if0 _ _).trans (feq (by decide : ¬ ((1 : Int32) = (0 : Int32)))).1) ?_
      show Steps p.tables e below (T20.setTop (mkF m 80 #[.val (.ref r0), .val (.int p1), .val (.int (p1 - (48 : Int32)))] [])) _
      refine XS.aloadN X20.here hx rfl (hb hby d3_80) rfl rfl ?_
      exact kt
    obtain ⟨T23, X23, e23, st23⟩ := getF X20 hx hZ hown (host := "") (Or.inl (hw _ (List.mem_of_getElem? (i := 25) rfl))) Via.refl e20 f22 (g := (mkF m 81 #[.val (.ref r0), .val (.int p1), .val (.int (p1 - (48 : Int32)))] [(.ref r0)])) rfl rfl (hb hby d3_81)
    have c26 : ∀ t, Steps p.tables e below (T23.setTop (mkF m 95 #[.val (.ref r0), .val (.int p1), .val (.int (p1 - (48 : Int32)))] [(.int (lcmpW ng (((-9223372036854775808 : Int64) + ((p1 - (48 : Int32)).toInt64)) / (10 : Int64))))])) t → Steps p.tables e below (T23.setTop (mkF m 84 #[.val (.ref r0), .val (.int p1), .val (.int (p1 - (48 : Int32)))] [(.long ng)])) t := by
      intro t kt
      show Steps p.tables e below (T23.setTop (mkF m 84 #[.val (.ref r0), .val (.int p1), .val (.int (p1 - (48 : Int32)))] [(.long ng)])) _
      refine X23.ldc2Long hx hown (mvT hZ (hw _ (List.mem_of_getElem? (i := 32) rfl))) (g := (mkF m 84 #[.val (.ref r0), .val (.int p1), .val (.int (p1 - (48 : Int32)))] [(.long ng)])) rfl (hb hby d3_84) _ ?_
      show Steps p.tables e below (T23.setTop (mkF m 87 #[.val (.ref r0), .val (.int p1), .val (.int (p1 - (48 : Int32)))] [(.long (-9223372036854775808 : Int64)), (.long ng)])) _
      refine XS.iloadN X23.here hx rfl (hb hby d3_87) rfl ?_
      show Steps p.tables e below (T23.setTop (mkF m 88 #[.val (.ref r0), .val (.int p1), .val (.int (p1 - (48 : Int32)))] [(.int (p1 - (48 : Int32))), (.long (-9223372036854775808 : Int64)), (.long ng)])) _
      refine XS.i2l X23.here hx rfl (hb hby d3_88) rfl ?_
      show Steps p.tables e below (T23.setTop (mkF m 89 #[.val (.ref r0), .val (.int p1), .val (.int (p1 - (48 : Int32)))] [(.long ((p1 - (48 : Int32)).toInt64)), (.long (-9223372036854775808 : Int64)), (.long ng)])) _
      refine XS.ladd X23.here hx rfl (hb hby d3_89) rfl ?_
      show Steps p.tables e below (T23.setTop (mkF m 90 #[.val (.ref r0), .val (.int p1), .val (.int (p1 - (48 : Int32)))] [(.long ((-9223372036854775808 : Int64) + ((p1 - (48 : Int32)).toInt64))), (.long ng)])) _
      refine X23.ldc2Long hx hown (mvT hZ (hw _ (List.mem_of_getElem? (i := 33) rfl))) (g := (mkF m 90 #[.val (.ref r0), .val (.int p1), .val (.int (p1 - (48 : Int32)))] [(.long ((-9223372036854775808 : Int64) + ((p1 - (48 : Int32)).toInt64))), (.long ng)])) rfl (hb hby d3_90) _ ?_
      show Steps p.tables e below (T23.setTop (mkF m 93 #[.val (.ref r0), .val (.int p1), .val (.int (p1 - (48 : Int32)))] [(.long (10 : Int64)), (.long ((-9223372036854775808 : Int64) + ((p1 - (48 : Int32)).toInt64))), (.long ng)])) _
      refine XS.ldiv X23.here hx rfl (hb hby d3_93) rfl (by decide) ?_
      show Steps p.tables e below (T23.setTop (mkF m 94 #[.val (.ref r0), .val (.int p1), .val (.int (p1 - (48 : Int32)))] [(.long (((-9223372036854775808 : Int64) + ((p1 - (48 : Int32)).toInt64)) / (10 : Int64))), (.long ng)])) _
      refine XS.lcmp X23.here hx rfl (hb hby d3_94) rfl ?_
      exact kt
    have hd25 : ¬ (ng < (((-9223372036854775808 : Int64) + ((p1 - (48 : Int32)).toInt64)) / (10 : Int64))) := hok
    have c28 : ∀ t, Steps p.tables e below (T23.setTop (mkF m 108 #[.val (.ref r0), .val (.int p1), .val (.int (p1 - (48 : Int32)))] [(.ref r0), (.ref r0)])) t → Steps p.tables e below (T23.setTop (mkF m 95 #[.val (.ref r0), .val (.int p1), .val (.int (p1 - (48 : Int32)))] [(.int (lcmpW ng (((-9223372036854775808 : Int64) + ((p1 - (48 : Int32)).toInt64)) / (10 : Int64))))])) t := by
      intro t kt
      show Steps p.tables e below (T23.setTop (mkF m 95 #[.val (.ref r0), .val (.int p1), .val (.int (p1 - (48 : Int32)))] [(.int (lcmpW ng (((-9223372036854775808 : Int64) + ((p1 - (48 : Int32)).toInt64)) / (10 : Int64))))])) _
      refine XS.ifYes X23.here hx rfl (pc0 := 95) (pc' := 106) rfl (hb hby d3_95) rfl ((if0 _ _).trans (flt (fun q => hd25 ((lw_lt _ _).mp q))).2.1) (by decide) (by decide) ?_
      show Steps p.tables e below (T23.setTop (mkF m 106 #[.val (.ref r0), .val (.int p1), .val (.int (p1 - (48 : Int32)))] [])) _
      refine XS.aloadN X23.here hx rfl (hb hby d3_106) rfl rfl ?_
      show Steps p.tables e below (T23.setTop (mkF m 107 #[.val (.ref r0), .val (.int p1), .val (.int (p1 - (48 : Int32)))] [(.ref r0)])) _
      refine XS.aloadN X23.here hx rfl (hb hby d3_107) rfl rfl ?_
      exact kt
    obtain ⟨T27, X27, e27, st27⟩ := getF X23 hx hZ hown (host := "") (Or.inl (hw _ (List.mem_of_getElem? (i := 25) rfl))) Via.refl e23 f22 (g := (mkF m 108 #[.val (.ref r0), .val (.int p1), .val (.int (p1 - (48 : Int32)))] [(.ref r0), (.ref r0)])) rfl rfl (hb hby d3_108)
    have f29 := (f16.wr W17)
    have c31 : ∀ t, Steps p.tables e below (T27.setTop (mkF m 118 #[.val (.ref r0), .val (.int p1), .val (.int (p1 - (48 : Int32)))] [(.long ((ng * (10 : Int64)) - ((p1 - (48 : Int32)).toInt64))), (.ref r0)])) t → Steps p.tables e below (T27.setTop (mkF m 111 #[.val (.ref r0), .val (.int p1), .val (.int (p1 - (48 : Int32)))] [(.long ng), (.ref r0)])) t := by
      intro t kt
      show Steps p.tables e below (T27.setTop (mkF m 111 #[.val (.ref r0), .val (.int p1), .val (.int (p1 - (48 : Int32)))] [(.long ng), (.ref r0)])) _
      refine X27.ldc2Long hx hown (mvT hZ (hw _ (List.mem_of_getElem? (i := 33) rfl))) (g := (mkF m 111 #[.val (.ref r0), .val (.int p1), .val (.int (p1 - (48 : Int32)))] [(.long ng), (.ref r0)])) rfl (hb hby d3_111) _ ?_
      show Steps p.tables e below (T27.setTop (mkF m 114 #[.val (.ref r0), .val (.int p1), .val (.int (p1 - (48 : Int32)))] [(.long (10 : Int64)), (.long ng), (.ref r0)])) _
      refine XS.lmul X27.here hx rfl (hb hby d3_114) rfl ?_
      show Steps p.tables e below (T27.setTop (mkF m 115 #[.val (.ref r0), .val (.int p1), .val (.int (p1 - (48 : Int32)))] [(.long (ng * (10 : Int64))), (.ref r0)])) _
      refine XS.iloadN X27.here hx rfl (hb hby d3_115) rfl ?_
      show Steps p.tables e below (T27.setTop (mkF m 116 #[.val (.ref r0), .val (.int p1), .val (.int (p1 - (48 : Int32)))] [(.int (p1 - (48 : Int32))), (.long (ng * (10 : Int64))), (.ref r0)])) _
      refine XS.i2l X27.here hx rfl (hb hby d3_116) rfl ?_
      show Steps p.tables e below (T27.setTop (mkF m 117 #[.val (.ref r0), .val (.int p1), .val (.int (p1 - (48 : Int32)))] [(.long ((p1 - (48 : Int32)).toInt64)), (.long (ng * (10 : Int64))), (.ref r0)])) _
      refine XS.lsub X27.here hx rfl (hb hby d3_117) rfl ?_
      exact kt
    obtain ⟨T30, h30, X30, e30, W30, st30⟩ := putF X27 hx hZ hown (host := "") (Or.inl (hw _ (List.mem_of_getElem? (i := 25) rfl))) Via.refl e27 f22 f29 (Or.inl (hw _ (List.mem_of_getElem? (i := 26) rfl))) (hw _ (List.mem_of_getElem? (i := 1) rfl)) (ty := .long) (by decide) rfl rfl (g := (mkF m 118 #[.val (.ref r0), .val (.int p1), .val (.int (p1 - (48 : Int32)))] [(.long ((ng * (10 : Int64)) - ((p1 - (48 : Int32)).toInt64))), (.ref r0)])) rfl rfl (hb hby d3_118)
    have Fw30 := f22.same W30
    have N30 := Fr.snoc X30 N17 g_r0
    obtain ⟨fs, hr, hrun, hended, hW, hsame⟩ := X30.leave (v := none) (fun _ => rfl)
    have f33 := ((((Keep.refl h0 [r0]).wr W3 (Or.inl (List.mem_of_getElem? (i := 0) rfl))).wr W17 (Or.inl (List.mem_of_getElem? (i := 0) rfl))).wr W30 (Or.inl (List.mem_of_getElem? (i := 0) rfl)))
    have f34 := (f29.wr W30)
    have f35 := (((F_ne.other W3 (Or.inr (slot_ne (a0 := a0) (Or.inl (hw _ (List.mem_of_getElem? (i := 28) rfl))) (Or.inl (hw _ (List.mem_of_getElem? (i := 19) rfl))) (by decide) (t := .boolean) (t' := .int) (by decide) (by decide)))).other W17 (Or.inr (slot_ne (a0 := a0) (Or.inl (hw _ (List.mem_of_getElem? (i := 28) rfl))) (Or.inl (hw _ (List.mem_of_getElem? (i := 30) rfl))) (by decide) (t := .boolean) (t' := .int) (by decide) (by decide)))).other W30 (Or.inr (slot_ne (a0 := a0) (Or.inl (hw _ (List.mem_of_getElem? (i := 28) rfl))) (Or.inl (hw _ (List.mem_of_getElem? (i := 26) rfl))) (by decide) (t := .boolean) (t' := .long) (by decide) (by decide))))
    have f36 := ((Fw3.other W17 (Or.inr (slot_ne (a0 := a0) (Or.inl (hw _ (List.mem_of_getElem? (i := 19) rfl))) (Or.inl (hw _ (List.mem_of_getElem? (i := 30) rfl))) (by decide) (t := .int) (t' := .int) (by decide) (by decide)))).other W30 (Or.inr (slot_ne (a0 := a0) (Or.inl (hw _ (List.mem_of_getElem? (i := 19) rfl))) (Or.inl (hw _ (List.mem_of_getElem? (i := 26) rfl))) (by decide) (t := .int) (t' := .long) (by decide) (by decide))))
    have f37 := (Fw17.other W30 (Or.inr (slot_ne (a0 := a0) (Or.inl (hw _ (List.mem_of_getElem? (i := 30) rfl))) (Or.inl (hw _ (List.mem_of_getElem? (i := 26) rfl))) (by decide) (t := .int) (t' := .long) (by decide) (by decide))))
    have f38 := (((F_wf.other W3 (Or.inr (slot_ne (a0 := a0) (Or.inl (hw _ (List.mem_of_getElem? (i := 10) rfl))) (Or.inl (hw _ (List.mem_of_getElem? (i := 19) rfl))) (by decide) (t := .boolean) (t' := .int) (by decide) (by decide)))).other W17 (Or.inr (slot_ne (a0 := a0) (Or.inl (hw _ (List.mem_of_getElem? (i := 10) rfl))) (Or.inl (hw _ (List.mem_of_getElem? (i := 30) rfl))) (by decide) (t := .boolean) (t' := .int) (by decide) (by decide)))).other W30 (Or.inr (slot_ne (a0 := a0) (Or.inl (hw _ (List.mem_of_getElem? (i := 10) rfl))) (Or.inl (hw _ (List.mem_of_getElem? (i := 26) rfl))) (by decide) (t := .boolean) (t' := .long) (by decide) (by decide))))
    have f39 := (f19.other W30 (Or.inr (slot_ne (a0 := a0) (Or.inl (hw _ (List.mem_of_getElem? (i := 12) rfl))) (Or.inl (hw _ (List.mem_of_getElem? (i := 26) rfl))) (by decide) (t := .boolean) (t' := .long) (by decide) (by decide))))
    refine ⟨_, _, pre0 _ (c2 _ (st1 _ (c4 _ (st3 _ (c6 _ (c8 _ (c10 _ (c12 _ (c15 _ (st14 _ (c18 _ (st17 _ (c21 _ (st20 _ (c24 _ (st23 _ (c26 _ (c28 _ (st27 _ (c31 _ (st30 _ (?_)))))))))))))))))))))), hrun, hended, _, _, rfl, ?_, ⟨_, rfl⟩, hW, hsame.mono (by decide) (by decide)⟩
    · show Steps p.tables e below (T30.setTop (mkF m 121 #[.val (.ref r0), .val (.int p1), .val (.int (p1 - (48 : Int32)))] [])) _
      exact X30.returnOut hx Bd.returns (hb hby d3_121) hr
    · show Q3d Z r0 p1 ng ne ch dg h0 n0 _ T30.heap _
      rw [e30]
      exact ⟨rfl, N30, f33, f34, Fw30, f35, f36, f37, f38, f39⟩
  · -- it isn't
    have c41 : ∀ t, Steps p.tables e below (T3.setTop (mkF m 48 #[.val (.ref r0), .val (.int p1), .val (.int (p1 - (48 : Int32)))] [(.int (p1 - (48 : Int32)))])) t → Steps p.tables e below (T3.setTop (mkF m 11 #[.val (.ref r0), .val (.int p1), .unset] [(.int ch)])) t := by
      intro t kt
      show Steps p.tables e below (T3.setTop (mkF m 11 #[.val (.ref r0), .val (.int p1), .unset] [(.int ch)])) _
      refine XS.ifYes X3.here hx rfl (pc0 := 11) (pc' := 42) rfl (hb hby d3_11) rfl ((if0 _ _).trans (feq hc11).2) (by decide) (by decide) ?_
      show Steps p.tables e below (T3.setTop (mkF m 42 #[.val (.ref r0), .val (.int p1), .unset] [])) _
      refine XS.iloadN X3.here hx rfl (hb hby d3_42) rfl ?_
      show Steps p.tables e below (T3.setTop (mkF m 43 #[.val (.ref r0), .val (.int p1), .unset] [(.int p1)])) _
      refine XS.bipush X3.here hx rfl (hb hby d3_43) ?_
      show Steps p.tables e below (T3.setTop (mkF m 45 #[.val (.ref r0), .val (.int p1), .unset] [(.int (48 : Int32)), (.int p1)])) _
      refine XS.isub X3.here hx rfl (hb hby d3_45) rfl ?_
      show Steps p.tables e below (T3.setTop (mkF m 46 #[.val (.ref r0), .val (.int p1), .unset] [(.int (p1 - (48 : Int32)))])) _
      refine XS.istoreN X3.here hx rfl (hb hby d3_46) rfl (l' := #[.val (.ref r0), .val (.int p1), .val (.int (p1 - (48 : Int32)))]) rfl ?_
      show Steps p.tables e below (T3.setTop (mkF m 47 #[.val (.ref r0), .val (.int p1), .val (.int (p1 - (48 : Int32)))] [])) _
      refine XS.iloadN X3.here hx rfl (hb hby d3_47) rfl ?_
      exact kt
    have hd40 : ¬ ((p1 - (48 : Int32)) < (0 : Int32)) := kd0
    have c43 : ∀ t, Steps p.tables e below (T3.setTop (mkF m 54 #[.val (.ref r0), .val (.int p1), .val (.int (p1 - (48 : Int32)))] [(.int (9 : Int32)), (.int (p1 - (48 : Int32)))])) t → Steps p.tables e below (T3.setTop (mkF m 48 #[.val (.ref r0), .val (.int p1), .val (.int (p1 - (48 : Int32)))] [(.int (p1 - (48 : Int32)))])) t := by
      intro t kt
      show Steps p.tables e below (T3.setTop (mkF m 48 #[.val (.ref r0), .val (.int p1), .val (.int (p1 - (48 : Int32)))] [(.int (p1 - (48 : Int32)))])) _
      refine XS.ifNo X3.here hx rfl (hb hby d3_48) rfl ((if0 _ _).trans (flt hd40).1) ?_
      show Steps p.tables e below (T3.setTop (mkF m 51 #[.val (.ref r0), .val (.int p1), .val (.int (p1 - (48 : Int32)))] [])) _
      refine XS.iloadN X3.here hx rfl (hb hby d3_51) rfl ?_
      show Steps p.tables e below (T3.setTop (mkF m 52 #[.val (.ref r0), .val (.int p1), .val (.int (p1 - (48 : Int32)))] [(.int (p1 - (48 : Int32)))])) _
      refine XS.bipush X3.here hx rfl (hb hby d3_52) ?_
      exact kt
    have hd42 : ¬ ((9 : Int32) < (p1 - (48 : Int32))) := kd9
    have f44 := (F_dg.other W3 (Or.inr (slot_ne (a0 := a0) (Or.inl (hw _ (List.mem_of_getElem? (i := 30) rfl))) (Or.inl (hw _ (List.mem_of_getElem? (i := 19) rfl))) (by decide) (t := .int) (t' := .int) (by decide) (by decide))))
    have c46 : ∀ t, Steps p.tables e below (T3.setTop (mkF m 65 #[.val (.ref r0), .val (.int p1), .val (.int (p1 - (48 : Int32)))] [(.ref r0), (.ref r0)])) t → Steps p.tables e below (T3.setTop (mkF m 54 #[.val (.ref r0), .val (.int p1), .val (.int (p1 - (48 : Int32)))] [(.int (9 : Int32)), (.int (p1 - (48 : Int32)))])) t := by
      intro t kt
      show Steps p.tables e below (T3.setTop (mkF m 54 #[.val (.ref r0), .val (.int p1), .val (.int (p1 - (48 : Int32)))] [(.int (9 : Int32)), (.int (p1 - (48 : Int32)))])) _
      refine XS.icmpYes X3.here hx rfl (pc0 := 54) (pc' := 63) rfl (hb hby d3_54) rfl (flt hd42).2.2.2 (by decide) (by decide) ?_
      show Steps p.tables e below (T3.setTop (mkF m 63 #[.val (.ref r0), .val (.int p1), .val (.int (p1 - (48 : Int32)))] [])) _
      refine XS.aloadN X3.here hx rfl (hb hby d3_63) rfl rfl ?_
      show Steps p.tables e below (T3.setTop (mkF m 64 #[.val (.ref r0), .val (.int p1), .val (.int (p1 - (48 : Int32)))] [(.ref r0)])) _
      refine XS.dup X3.here hx rfl (hb hby d3_64) rfl rfl ?_
      exact kt
    obtain ⟨T45, X45, e45, st45⟩ := getF X3 hx hZ hown (host := "") (Or.inl (hw _ (List.mem_of_getElem? (i := 29) rfl))) Via.refl e3 f44 (g := (mkF m 65 #[.val (.ref r0), .val (.int p1), .val (.int (p1 - (48 : Int32)))] [(.ref r0), (.ref r0)])) rfl rfl (hb hby d3_65)
    have f47 := (E0.wr W3)
    have c49 : ∀ t, Steps p.tables e below (T45.setTop (mkF m 70 #[.val (.ref r0), .val (.int p1), .val (.int (p1 - (48 : Int32)))] [(.int (dg + (1 : Int32))), (.ref r0)])) t → Steps p.tables e below (T45.setTop (mkF m 68 #[.val (.ref r0), .val (.int p1), .val (.int (p1 - (48 : Int32)))] [(.int dg), (.ref r0)])) t := by
      intro t kt
      show Steps p.tables e below (T45.setTop (mkF m 68 #[.val (.ref r0), .val (.int p1), .val (.int (p1 - (48 : Int32)))] [(.int dg), (.ref r0)])) _
      refine XS.iconst X45.here hx rfl (hb hby d3_68) ?_
      show Steps p.tables e below (T45.setTop (mkF m 69 #[.val (.ref r0), .val (.int p1), .val (.int (p1 - (48 : Int32)))] [(.int (1 : Int32)), (.int dg), (.ref r0)])) _
      refine XS.iadd X45.here hx rfl (hb hby d3_69) rfl ?_
      exact kt
    obtain ⟨T48, h48, X48, e48, W48, st48⟩ := putF X45 hx hZ hown (host := "") (Or.inl (hw _ (List.mem_of_getElem? (i := 29) rfl))) Via.refl e45 f44 f47 (Or.inl (hw _ (List.mem_of_getElem? (i := 30) rfl))) (hw _ (List.mem_of_getElem? (i := 1) rfl)) (ty := .int) (by decide) rfl rfl (g := (mkF m 70 #[.val (.ref r0), .val (.int p1), .val (.int (p1 - (48 : Int32)))] [(.int (dg + (1 : Int32))), (.ref r0)])) rfl rfl (hb hby d3_70)
    have Fw48 := f44.same W48
    have N48 := Fr.snoc X48 N3 g_r0
    have f50 := ((F_ir.other W3 (Or.inr (slot_ne (a0 := a0) (Or.inl (hw _ (List.mem_of_getElem? (i := 12) rfl))) (Or.inl (hw _ (List.mem_of_getElem? (i := 19) rfl))) (by decide) (t := .boolean) (t' := .int) (by decide) (by decide)))).other W48 (Or.inr (slot_ne (a0 := a0) (Or.inl (hw _ (List.mem_of_getElem? (i := 12) rfl))) (Or.inl (hw _ (List.mem_of_getElem? (i := 30) rfl))) (by decide) (t := .boolean) (t' := .int) (by decide) (by decide))))
    have c52 : ∀ t, Steps p.tables e below (T48.setTop (mkF m 74 #[.val (.ref r0), .val (.int p1), .val (.int (p1 - (48 : Int32)))] [(.ref r0)])) t → Steps p.tables e below (T48.setTop (mkF m 73 #[.val (.ref r0), .val (.int p1), .val (.int (p1 - (48 : Int32)))] [])) t := by
      intro t kt
      show Steps p.tables e below (T48.setTop (mkF m 73 #[.val (.ref r0), .val (.int p1), .val (.int (p1 - (48 : Int32)))] [])) _
      refine XS.aloadN X48.here hx rfl (hb hby d3_73) rfl rfl ?_
      exact kt
    obtain ⟨T51, X51, e51, st51⟩ := getF X48 hx hZ hown (host := "") (Or.inl (hw _ (List.mem_of_getElem? (i := 11) rfl))) Via.refl e48 f50 (g := (mkF m 74 #[.val (.ref r0), .val (.int p1), .val (.int (p1 - (48 : Int32)))] [(.ref r0)])) rfl rfl (hb hby d3_74)
    have f53 := ((F_ng.other W3 (Or.inr (slot_ne (a0 := a0) (Or.inl (hw _ (List.mem_of_getElem? (i := 26) rfl))) (Or.inl (hw _ (List.mem_of_getElem? (i := 19) rfl))) (by decide) (t := .long) (t' := .int) (by decide) (by decide)))).other W48 (Or.inr (slot_ne (a0 := a0) (Or.inl (hw _ (List.mem_of_getElem? (i := 26) rfl))) (Or.inl (hw _ (List.mem_of_getElem? (i := 30) rfl))) (by decide) (t := .long) (t' := .int) (by decide) (by decide))))
    have c55 : ∀ t, Steps p.tables e below (T51.setTop (mkF m 81 #[.val (.ref r0), .val (.int p1), .val (.int (p1 - (48 : Int32)))] [(.ref r0)])) t → Steps p.tables e below (T51.setTop (mkF m 77 #[.val (.ref r0), .val (.int p1), .val (.int (p1 - (48 : Int32)))] [(.int (1 : Int32))])) t := by
      intro t kt
      show Steps p.tables e below (T51.setTop (mkF m 77 #[.val (.ref r0), .val (.int p1), .val (.int (p1 - (48 : Int32)))] [(.int (1 : Int32))])) _
      refine XS.ifNo X51.here hx rfl (hb hby d3_77) rfl ((if0 _ _).trans (feq (by decide : ¬ ((1 : Int32) = (0 : Int32)))).1) ?_
      show Steps p.tables e below (T51.setTop (mkF m 80 #[.val (.ref r0), .val (.int p1), .val (.int (p1 - (48 : Int32)))] [])) _
      refine XS.aloadN X51.here hx rfl (hb hby d3_80) rfl rfl ?_
      exact kt
    obtain ⟨T54, X54, e54, st54⟩ := getF X51 hx hZ hown (host := "") (Or.inl (hw _ (List.mem_of_getElem? (i := 25) rfl))) Via.refl e51 f53 (g := (mkF m 81 #[.val (.ref r0), .val (.int p1), .val (.int (p1 - (48 : Int32)))] [(.ref r0)])) rfl rfl (hb hby d3_81)
    have c57 : ∀ t, Steps p.tables e below (T54.setTop (mkF m 95 #[.val (.ref r0), .val (.int p1), .val (.int (p1 - (48 : Int32)))] [(.int (lcmpW ng (((-9223372036854775808 : Int64) + ((p1 - (48 : Int32)).toInt64)) / (10 : Int64))))])) t → Steps p.tables e below (T54.setTop (mkF m 84 #[.val (.ref r0), .val (.int p1), .val (.int (p1 - (48 : Int32)))] [(.long ng)])) t := by
      intro t kt
      show Steps p.tables e below (T54.setTop (mkF m 84 #[.val (.ref r0), .val (.int p1), .val (.int (p1 - (48 : Int32)))] [(.long ng)])) _
      refine X54.ldc2Long hx hown (mvT hZ (hw _ (List.mem_of_getElem? (i := 32) rfl))) (g := (mkF m 84 #[.val (.ref r0), .val (.int p1), .val (.int (p1 - (48 : Int32)))] [(.long ng)])) rfl (hb hby d3_84) _ ?_
      show Steps p.tables e below (T54.setTop (mkF m 87 #[.val (.ref r0), .val (.int p1), .val (.int (p1 - (48 : Int32)))] [(.long (-9223372036854775808 : Int64)), (.long ng)])) _
      refine XS.iloadN X54.here hx rfl (hb hby d3_87) rfl ?_
      show Steps p.tables e below (T54.setTop (mkF m 88 #[.val (.ref r0), .val (.int p1), .val (.int (p1 - (48 : Int32)))] [(.int (p1 - (48 : Int32))), (.long (-9223372036854775808 : Int64)), (.long ng)])) _
      refine XS.i2l X54.here hx rfl (hb hby d3_88) rfl ?_
      show Steps p.tables e below (T54.setTop (mkF m 89 #[.val (.ref r0), .val (.int p1), .val (.int (p1 - (48 : Int32)))] [(.long ((p1 - (48 : Int32)).toInt64)), (.long (-9223372036854775808 : Int64)), (.long ng)])) _
      refine XS.ladd X54.here hx rfl (hb hby d3_89) rfl ?_
      show Steps p.tables e below (T54.setTop (mkF m 90 #[.val (.ref r0), .val (.int p1), .val (.int (p1 - (48 : Int32)))] [(.long ((-9223372036854775808 : Int64) + ((p1 - (48 : Int32)).toInt64))), (.long ng)])) _
      refine X54.ldc2Long hx hown (mvT hZ (hw _ (List.mem_of_getElem? (i := 33) rfl))) (g := (mkF m 90 #[.val (.ref r0), .val (.int p1), .val (.int (p1 - (48 : Int32)))] [(.long ((-9223372036854775808 : Int64) + ((p1 - (48 : Int32)).toInt64))), (.long ng)])) rfl (hb hby d3_90) _ ?_
      show Steps p.tables e below (T54.setTop (mkF m 93 #[.val (.ref r0), .val (.int p1), .val (.int (p1 - (48 : Int32)))] [(.long (10 : Int64)), (.long ((-9223372036854775808 : Int64) + ((p1 - (48 : Int32)).toInt64))), (.long ng)])) _
      refine XS.ldiv X54.here hx rfl (hb hby d3_93) rfl (by decide) ?_
      show Steps p.tables e below (T54.setTop (mkF m 94 #[.val (.ref r0), .val (.int p1), .val (.int (p1 - (48 : Int32)))] [(.long (((-9223372036854775808 : Int64) + ((p1 - (48 : Int32)).toInt64)) / (10 : Int64))), (.long ng)])) _
      refine XS.lcmp X54.here hx rfl (hb hby d3_94) rfl ?_
      exact kt
    have hd56 : ¬ (ng < (((-9223372036854775808 : Int64) + ((p1 - (48 : Int32)).toInt64)) / (10 : Int64))) := hok
    have c59 : ∀ t, Steps p.tables e below (T54.setTop (mkF m 108 #[.val (.ref r0), .val (.int p1), .val (.int (p1 - (48 : Int32)))] [(.ref r0), (.ref r0)])) t → Steps p.tables e below (T54.setTop (mkF m 95 #[.val (.ref r0), .val (.int p1), .val (.int (p1 - (48 : Int32)))] [(.int (lcmpW ng (((-9223372036854775808 : Int64) + ((p1 - (48 : Int32)).toInt64)) / (10 : Int64))))])) t := by
      intro t kt
      show Steps p.tables e below (T54.setTop (mkF m 95 #[.val (.ref r0), .val (.int p1), .val (.int (p1 - (48 : Int32)))] [(.int (lcmpW ng (((-9223372036854775808 : Int64) + ((p1 - (48 : Int32)).toInt64)) / (10 : Int64))))])) _
      refine XS.ifYes X54.here hx rfl (pc0 := 95) (pc' := 106) rfl (hb hby d3_95) rfl ((if0 _ _).trans (flt (fun q => hd56 ((lw_lt _ _).mp q))).2.1) (by decide) (by decide) ?_
      show Steps p.tables e below (T54.setTop (mkF m 106 #[.val (.ref r0), .val (.int p1), .val (.int (p1 - (48 : Int32)))] [])) _
      refine XS.aloadN X54.here hx rfl (hb hby d3_106) rfl rfl ?_
      show Steps p.tables e below (T54.setTop (mkF m 107 #[.val (.ref r0), .val (.int p1), .val (.int (p1 - (48 : Int32)))] [(.ref r0)])) _
      refine XS.aloadN X54.here hx rfl (hb hby d3_107) rfl rfl ?_
      exact kt
    obtain ⟨T58, X58, e58, st58⟩ := getF X54 hx hZ hown (host := "") (Or.inl (hw _ (List.mem_of_getElem? (i := 25) rfl))) Via.refl e54 f53 (g := (mkF m 108 #[.val (.ref r0), .val (.int p1), .val (.int (p1 - (48 : Int32)))] [(.ref r0), (.ref r0)])) rfl rfl (hb hby d3_108)
    have f60 := (f47.wr W48)
    have c62 : ∀ t, Steps p.tables e below (T58.setTop (mkF m 118 #[.val (.ref r0), .val (.int p1), .val (.int (p1 - (48 : Int32)))] [(.long ((ng * (10 : Int64)) - ((p1 - (48 : Int32)).toInt64))), (.ref r0)])) t → Steps p.tables e below (T58.setTop (mkF m 111 #[.val (.ref r0), .val (.int p1), .val (.int (p1 - (48 : Int32)))] [(.long ng), (.ref r0)])) t := by
      intro t kt
      show Steps p.tables e below (T58.setTop (mkF m 111 #[.val (.ref r0), .val (.int p1), .val (.int (p1 - (48 : Int32)))] [(.long ng), (.ref r0)])) _
      refine X58.ldc2Long hx hown (mvT hZ (hw _ (List.mem_of_getElem? (i := 33) rfl))) (g := (mkF m 111 #[.val (.ref r0), .val (.int p1), .val (.int (p1 - (48 : Int32)))] [(.long ng), (.ref r0)])) rfl (hb hby d3_111) _ ?_
      show Steps p.tables e below (T58.setTop (mkF m 114 #[.val (.ref r0), .val (.int p1), .val (.int (p1 - (48 : Int32)))] [(.long (10 : Int64)), (.long ng), (.ref r0)])) _
      refine XS.lmul X58.here hx rfl (hb hby d3_114) rfl ?_
      show Steps p.tables e below (T58.setTop (mkF m 115 #[.val (.ref r0), .val (.int p1), .val (.int (p1 - (48 : Int32)))] [(.long (ng * (10 : Int64))), (.ref r0)])) _
      refine XS.iloadN X58.here hx rfl (hb hby d3_115) rfl ?_
      show Steps p.tables e below (T58.setTop (mkF m 116 #[.val (.ref r0), .val (.int p1), .val (.int (p1 - (48 : Int32)))] [(.int (p1 - (48 : Int32))), (.long (ng * (10 : Int64))), (.ref r0)])) _
      refine XS.i2l X58.here hx rfl (hb hby d3_116) rfl ?_
      show Steps p.tables e below (T58.setTop (mkF m 117 #[.val (.ref r0), .val (.int p1), .val (.int (p1 - (48 : Int32)))] [(.long ((p1 - (48 : Int32)).toInt64)), (.long (ng * (10 : Int64))), (.ref r0)])) _
      refine XS.lsub X58.here hx rfl (hb hby d3_117) rfl ?_
      exact kt
    obtain ⟨T61, h61, X61, e61, W61, st61⟩ := putF X58 hx hZ hown (host := "") (Or.inl (hw _ (List.mem_of_getElem? (i := 25) rfl))) Via.refl e58 f53 f60 (Or.inl (hw _ (List.mem_of_getElem? (i := 26) rfl))) (hw _ (List.mem_of_getElem? (i := 1) rfl)) (ty := .long) (by decide) rfl rfl (g := (mkF m 118 #[.val (.ref r0), .val (.int p1), .val (.int (p1 - (48 : Int32)))] [(.long ((ng * (10 : Int64)) - ((p1 - (48 : Int32)).toInt64))), (.ref r0)])) rfl rfl (hb hby d3_118)
    have Fw61 := f53.same W61
    have N61 := Fr.snoc X61 N48 g_r0
    obtain ⟨fs, hr, hrun, hended, hW, hsame⟩ := X61.leave (v := none) (fun _ => rfl)
    have f64 := ((((Keep.refl h0 [r0]).wr W3 (Or.inl (List.mem_of_getElem? (i := 0) rfl))).wr W48 (Or.inl (List.mem_of_getElem? (i := 0) rfl))).wr W61 (Or.inl (List.mem_of_getElem? (i := 0) rfl)))
    have f65 := (f60.wr W61)
    have f66 := (((F_ne.other W3 (Or.inr (slot_ne (a0 := a0) (Or.inl (hw _ (List.mem_of_getElem? (i := 28) rfl))) (Or.inl (hw _ (List.mem_of_getElem? (i := 19) rfl))) (by decide) (t := .boolean) (t' := .int) (by decide) (by decide)))).other W48 (Or.inr (slot_ne (a0 := a0) (Or.inl (hw _ (List.mem_of_getElem? (i := 28) rfl))) (Or.inl (hw _ (List.mem_of_getElem? (i := 30) rfl))) (by decide) (t := .boolean) (t' := .int) (by decide) (by decide)))).other W61 (Or.inr (slot_ne (a0 := a0) (Or.inl (hw _ (List.mem_of_getElem? (i := 28) rfl))) (Or.inl (hw _ (List.mem_of_getElem? (i := 26) rfl))) (by decide) (t := .boolean) (t' := .long) (by decide) (by decide))))
    have f67 := ((Fw3.other W48 (Or.inr (slot_ne (a0 := a0) (Or.inl (hw _ (List.mem_of_getElem? (i := 19) rfl))) (Or.inl (hw _ (List.mem_of_getElem? (i := 30) rfl))) (by decide) (t := .int) (t' := .int) (by decide) (by decide)))).other W61 (Or.inr (slot_ne (a0 := a0) (Or.inl (hw _ (List.mem_of_getElem? (i := 19) rfl))) (Or.inl (hw _ (List.mem_of_getElem? (i := 26) rfl))) (by decide) (t := .int) (t' := .long) (by decide) (by decide))))
    have f68 := (Fw48.other W61 (Or.inr (slot_ne (a0 := a0) (Or.inl (hw _ (List.mem_of_getElem? (i := 30) rfl))) (Or.inl (hw _ (List.mem_of_getElem? (i := 26) rfl))) (by decide) (t := .int) (t' := .long) (by decide) (by decide))))
    have f69 := (((F_wf.other W3 (Or.inr (slot_ne (a0 := a0) (Or.inl (hw _ (List.mem_of_getElem? (i := 10) rfl))) (Or.inl (hw _ (List.mem_of_getElem? (i := 19) rfl))) (by decide) (t := .boolean) (t' := .int) (by decide) (by decide)))).other W48 (Or.inr (slot_ne (a0 := a0) (Or.inl (hw _ (List.mem_of_getElem? (i := 10) rfl))) (Or.inl (hw _ (List.mem_of_getElem? (i := 30) rfl))) (by decide) (t := .boolean) (t' := .int) (by decide) (by decide)))).other W61 (Or.inr (slot_ne (a0 := a0) (Or.inl (hw _ (List.mem_of_getElem? (i := 10) rfl))) (Or.inl (hw _ (List.mem_of_getElem? (i := 26) rfl))) (by decide) (t := .boolean) (t' := .long) (by decide) (by decide))))
    have f70 := (f50.other W61 (Or.inr (slot_ne (a0 := a0) (Or.inl (hw _ (List.mem_of_getElem? (i := 12) rfl))) (Or.inl (hw _ (List.mem_of_getElem? (i := 26) rfl))) (by decide) (t := .boolean) (t' := .long) (by decide) (by decide))))
    refine ⟨_, _, pre0 _ (c2 _ (st1 _ (c4 _ (st3 _ (c41 _ (c43 _ (c46 _ (st45 _ (c49 _ (st48 _ (c52 _ (st51 _ (c55 _ (st54 _ (c57 _ (c59 _ (st58 _ (c62 _ (st61 _ (?_)))))))))))))))))))), hrun, hended, _, _, rfl, ?_, ⟨_, rfl⟩, hW, hsame.mono (by decide) (by decide)⟩
    · show Steps p.tables e below (T61.setTop (mkF m 121 #[.val (.ref r0), .val (.int p1), .val (.int (p1 - (48 : Int32)))] [])) _
      exact X61.returnOut hx Bd.returns (hb hby d3_121) hr
    · show Q3d Z r0 p1 ng ne ch dg h0 n0 _ T61.heap _
      rw [e61]
      exact ⟨rfl, N61, f64, f65, Fw61, f66, f67, f68, f69, f70⟩
def Q3s45 (Z : State) (r0 : Addr) (h0 : Heap) (n0 : Nat) (v : Option Value) (h : Heap) (L : List Loc) : Prop := v = none ∧ Fr n0 L ∧ Keep h0 h [r0] ∧ Exa Z h r0 "com/example/sequence_set/sequenceset/cli/DecimalParser" ∧ Fld Z h r0 "com/example/sequence_set/sequenceset/cli/DecimalParser" "negated" "J" (.long (0 : Int64)) ∧ Fld Z h r0 "com/example/sequence_set/sequenceset/cli/DecimalParser" "negative" "Z" (.int (1 : Int32)) ∧ Fld Z h r0 "com/example/sequence_set/sequenceset/cli/DecimalParser" "characters" "I" (.int ((0 : Int32) + (1 : Int32))) ∧ Fld Z h r0 "com/example/sequence_set/sequenceset/cli/DecimalParser" "digits" "I" (.int (0 : Int32)) ∧ Fld Z h r0 "com/example/sequence_set/sequenceset/cli/DecimalParser" "wellFormed" "Z" (.int (1 : Int32)) ∧ Fld Z h r0 "com/example/sequence_set/sequenceset/cli/DecimalParser" "inRange" "Z" (.int (1 : Int32))
set_option maxRecDepth 65536 in
set_option maxHeartbeats 40000000 in
theorem rm3s45 (l : Launch) (Z : State) (a0 : Array Value) (hw : ∀ d ∈ tables_1, d.before a0 Z = true) (ws : List Jvm.Cond) (r0 : Addr)  (h0 : Heap) (n0 : Nat) (Z0 : n0 ≤ h0.size) (F_ng : Fld Z h0 r0 "com/example/sequence_set/sequenceset/cli/DecimalParser" "negated" "J" (.long (0 : Int64))) (F_ne : Fld Z h0 r0 "com/example/sequence_set/sequenceset/cli/DecimalParser" "negative" "Z" (.int (0 : Int32))) (F_ch : Fld Z h0 r0 "com/example/sequence_set/sequenceset/cli/DecimalParser" "characters" "I" (.int (0 : Int32))) (F_dg : Fld Z h0 r0 "com/example/sequence_set/sequenceset/cli/DecimalParser" "digits" "I" (.int (0 : Int32))) (F_wf : Fld Z h0 r0 "com/example/sequence_set/sequenceset/cli/DecimalParser" "wellFormed" "Z" (.int (1 : Int32))) (F_ir : Fld Z h0 r0 "com/example/sequence_set/sequenceset/cli/DecimalParser" "inRange" "Z" (.int (1 : Int32))) (E0 : Exa Z h0 r0 "com/example/sequence_set/sequenceset/cli/DecimalParser") (g_r0 : n0 ≤ r0) :
    MetFree l (⟨"com/example/sequence_set/sequenceset/cli/DecimalParser", "accept", "(I)V"⟩ : MethodName) (head1 (Jvm.Cond.code (⟨"com/example/sequence_set/sequenceset/cli/DecimalParser", "accept", "(I)V"⟩ : MethodName) prog_17_method_5_code 3 none :: ws) ({ frames := 0, cells := 0, slots := 0, locals := 0 } : Room)) (fun a U => a = #[(.ref r0), (.int (45 : Int32))] ∧ Z.Warmed39 U.vm ∧ U.heap = h0) (fun _ _ _ _ _ => True) (fun _ U o U' => ∃ v L, o = .returned v ∧ Q3s45 Z r0 h0 n0 v U'.heap L ∧ FrameEnd U o U' L ({ frames := 0, cells := 0, slots := 0, locals := 0 } : Room).cells ({ frames := 0, cells := 0, slots := 0, locals := 0 } : Room).slots) := by
  refine MetFree.of_bodySF (plainFor_of_name pn_3) hisR ?_
  intro p e s m args below meth c s₁ Bd hml0 hP hK
  obtain ⟨rfl, hZ, hh⟩ := hP
  have hx := Bd.exec
  have hby := Bd.bytes
  have hml : c.maxLocals = 3 := hml0
  have hown : s.vm.findClass "com/example/sequence_set/sequenceset/cli/DecimalParser" = some m.cls := findClass_of_methodNamed Bd.named
  have hnm := (name_of_methodNamed Bd.named Bd.method).1
  have X0 : Stand p l e ({ frames := 0, cells := 0, slots := 0, locals := 0 } : Room) s m #[(.ref r0), (.int (45 : Int32))] below meth c s₁ [] 0 0 := Stand.of_body Bd
  have e0 : s₁.heap = h0 := by rw [← hh, Bd.state]; rfl
  have N0 := Fr.nil n0
  have pre0 : ∀ t, Steps p.tables e below (s₁.setTop (mkF m 0 #[.val (.ref r0), .val (.int (45 : Int32)), .unset] [])) t → Steps p.tables e below (s₁.setTop (entryFrame m #[(.ref r0), (.int (45 : Int32))] 3)) t := fun t k => castTop (ef_3 m r0 (45 : Int32)) k
  have c2 : ∀ t, Steps p.tables e below (s₁.setTop (mkF m 2 #[.val (.ref r0), .val (.int (45 : Int32)), .unset] [(.ref r0), (.ref r0)])) t → Steps p.tables e below (s₁.setTop (mkF m 0 #[.val (.ref r0), .val (.int (45 : Int32)), .unset] [])) t := by
    intro t kt
    show Steps p.tables e below (s₁.setTop (mkF m 0 #[.val (.ref r0), .val (.int (45 : Int32)), .unset] [])) _
    refine XS.aloadN X0.here hx rfl (hb hby d3_0) rfl rfl ?_
    show Steps p.tables e below (s₁.setTop (mkF m 1 #[.val (.ref r0), .val (.int (45 : Int32)), .unset] [(.ref r0)])) _
    refine XS.dup X0.here hx rfl (hb hby d3_1) rfl rfl ?_
    exact kt
  obtain ⟨T1, X1, e1, st1⟩ := getF X0 hx hZ hown (host := "") (Or.inl (hw _ (List.mem_of_getElem? (i := 18) rfl))) Via.refl e0 F_ch (g := (mkF m 2 #[.val (.ref r0), .val (.int (45 : Int32)), .unset] [(.ref r0), (.ref r0)])) rfl rfl (hb hby d3_2)
  have c4 : ∀ t, Steps p.tables e below (T1.setTop (mkF m 8 #[.val (.ref r0), .val (.int (45 : Int32)), .unset] [(.int ((0 : Int32) + (1 : Int32))), (.ref r0), (.int (0 : Int32))])) t → Steps p.tables e below (T1.setTop (mkF m 5 #[.val (.ref r0), .val (.int (45 : Int32)), .unset] [(.int (0 : Int32)), (.ref r0)])) t := by
    intro t kt
    show Steps p.tables e below (T1.setTop (mkF m 5 #[.val (.ref r0), .val (.int (45 : Int32)), .unset] [(.int (0 : Int32)), (.ref r0)])) _
    refine XS.dupX1 X1.here hx rfl (hb hby d3_5) rfl rfl rfl ?_
    show Steps p.tables e below (T1.setTop (mkF m 6 #[.val (.ref r0), .val (.int (45 : Int32)), .unset] [(.int (0 : Int32)), (.ref r0), (.int (0 : Int32))])) _
    refine XS.iconst X1.here hx rfl (hb hby d3_6) ?_
    show Steps p.tables e below (T1.setTop (mkF m 7 #[.val (.ref r0), .val (.int (45 : Int32)), .unset] [(.int (1 : Int32)), (.int (0 : Int32)), (.ref r0), (.int (0 : Int32))])) _
    refine XS.iadd X1.here hx rfl (hb hby d3_7) rfl ?_
    exact kt
  obtain ⟨T3, h3, X3, e3, W3, st3⟩ := putF X1 hx hZ hown (host := "") (Or.inl (hw _ (List.mem_of_getElem? (i := 18) rfl))) Via.refl e1 F_ch E0 (Or.inl (hw _ (List.mem_of_getElem? (i := 19) rfl))) (hw _ (List.mem_of_getElem? (i := 1) rfl)) (ty := .int) (by decide) rfl rfl (g := (mkF m 8 #[.val (.ref r0), .val (.int (45 : Int32)), .unset] [(.int ((0 : Int32) + (1 : Int32))), (.ref r0), (.int (0 : Int32))])) rfl rfl (hb hby d3_8)
  have Fw3 := F_ch.same W3
  have N3 := Fr.snoc X3 N0 g_r0
  have f5 := (F_ne.other W3 (Or.inr (slot_ne (a0 := a0) (Or.inl (hw _ (List.mem_of_getElem? (i := 28) rfl))) (Or.inl (hw _ (List.mem_of_getElem? (i := 19) rfl))) (by decide) (t := .boolean) (t' := .int) (by decide) (by decide))))
  have f6 := (E0.wr W3)
  have c8 : ∀ t, Steps p.tables e below (T3.setTop (mkF m 38 #[.val (.ref r0), .val (.int (45 : Int32)), .unset] [(.int (1 : Int32)), (.ref r0)])) t → Steps p.tables e below (T3.setTop (mkF m 11 #[.val (.ref r0), .val (.int (45 : Int32)), .unset] [(.int (0 : Int32))])) t := by
    intro t kt
    show Steps p.tables e below (T3.setTop (mkF m 11 #[.val (.ref r0), .val (.int (45 : Int32)), .unset] [(.int (0 : Int32))])) _
    refine XS.ifNo X3.here hx rfl (hb hby d3_11) rfl ((if0 _ _).trans (teq (by decide : (0 : Int32) = (0 : Int32))).2) ?_
    show Steps p.tables e below (T3.setTop (mkF m 14 #[.val (.ref r0), .val (.int (45 : Int32)), .unset] [])) _
    refine XS.iloadN X3.here hx rfl (hb hby d3_14) rfl ?_
    show Steps p.tables e below (T3.setTop (mkF m 15 #[.val (.ref r0), .val (.int (45 : Int32)), .unset] [(.int (45 : Int32))])) _
    refine XS.bipush X3.here hx rfl (hb hby d3_15) ?_
    show Steps p.tables e below (T3.setTop (mkF m 17 #[.val (.ref r0), .val (.int (45 : Int32)), .unset] [(.int (45 : Int32)), (.int (45 : Int32))])) _
    refine XS.icmpYes X3.here hx rfl (pc0 := 17) (pc' := 26) rfl (hb hby d3_17) rfl (teq (by decide : (45 : Int32) = (45 : Int32))).1 (by decide) (by decide) ?_
    show Steps p.tables e below (T3.setTop (mkF m 26 #[.val (.ref r0), .val (.int (45 : Int32)), .unset] [])) _
    refine XS.aloadN X3.here hx rfl (hb hby d3_26) rfl rfl ?_
    show Steps p.tables e below (T3.setTop (mkF m 27 #[.val (.ref r0), .val (.int (45 : Int32)), .unset] [(.ref r0)])) _
    refine XS.iloadN X3.here hx rfl (hb hby d3_27) rfl ?_
    show Steps p.tables e below (T3.setTop (mkF m 28 #[.val (.ref r0), .val (.int (45 : Int32)), .unset] [(.int (45 : Int32)), (.ref r0)])) _
    refine XS.bipush X3.here hx rfl (hb hby d3_28) ?_
    show Steps p.tables e below (T3.setTop (mkF m 30 #[.val (.ref r0), .val (.int (45 : Int32)), .unset] [(.int (45 : Int32)), (.int (45 : Int32)), (.ref r0)])) _
    refine XS.icmpNo X3.here hx rfl (hb hby d3_30) rfl (teq (by decide : (45 : Int32) = (45 : Int32))).2 ?_
    show Steps p.tables e below (T3.setTop (mkF m 33 #[.val (.ref r0), .val (.int (45 : Int32)), .unset] [(.ref r0)])) _
    refine XS.iconst X3.here hx rfl (hb hby d3_33) ?_
    show Steps p.tables e below (T3.setTop (mkF m 34 #[.val (.ref r0), .val (.int (45 : Int32)), .unset] [(.int (1 : Int32)), (.ref r0)])) _
    refine XS.goto X3.here hx rfl (pc0 := 34) (pc' := 38) rfl (hb hby d3_34) (by decide) (by decide) ?_
    exact kt
  obtain ⟨T7, h7, X7, e7, W7, st7⟩ := putFN X3 hx hZ hown (hw _ (List.mem_of_getElem? (i := 27) rfl)) Via.refl e3 f5 f6 (Or.inl (hw _ (List.mem_of_getElem? (i := 28) rfl))) (hw _ (List.mem_of_getElem? (i := 1) rfl)) (ty := .boolean) (v' := (.int (1 : Int32))) (by decide) rfl rfl (g := (mkF m 38 #[.val (.ref r0), .val (.int (45 : Int32)), .unset] [(.int (1 : Int32)), (.ref r0)])) rfl rfl (hb hby d3_38)
  have Fw7 := f5.same W7
  have N7 := Fr.snoc X7 N3 g_r0
  obtain ⟨fs, hr, hrun, hended, hW, hsame⟩ := X7.leave (v := none) (fun _ => rfl)
  have f10 := (((Keep.refl h0 [r0]).wr W3 (Or.inl (List.mem_of_getElem? (i := 0) rfl))).wr W7 (Or.inl (List.mem_of_getElem? (i := 0) rfl)))
  have f11 := (f6.wr W7)
  have f12 := ((F_ng.other W3 (Or.inr (slot_ne (a0 := a0) (Or.inl (hw _ (List.mem_of_getElem? (i := 26) rfl))) (Or.inl (hw _ (List.mem_of_getElem? (i := 19) rfl))) (by decide) (t := .long) (t' := .int) (by decide) (by decide)))).other W7 (Or.inr (slot_ne (a0 := a0) (Or.inl (hw _ (List.mem_of_getElem? (i := 26) rfl))) (Or.inl (hw _ (List.mem_of_getElem? (i := 28) rfl))) (by decide) (t := .long) (t' := .boolean) (by decide) (by decide))))
  have f13 := (Fw3.other W7 (Or.inr (slot_ne (a0 := a0) (Or.inl (hw _ (List.mem_of_getElem? (i := 19) rfl))) (Or.inl (hw _ (List.mem_of_getElem? (i := 28) rfl))) (by decide) (t := .int) (t' := .boolean) (by decide) (by decide))))
  have f14 := ((F_dg.other W3 (Or.inr (slot_ne (a0 := a0) (Or.inl (hw _ (List.mem_of_getElem? (i := 30) rfl))) (Or.inl (hw _ (List.mem_of_getElem? (i := 19) rfl))) (by decide) (t := .int) (t' := .int) (by decide) (by decide)))).other W7 (Or.inr (slot_ne (a0 := a0) (Or.inl (hw _ (List.mem_of_getElem? (i := 30) rfl))) (Or.inl (hw _ (List.mem_of_getElem? (i := 28) rfl))) (by decide) (t := .int) (t' := .boolean) (by decide) (by decide))))
  have f15 := ((F_wf.other W3 (Or.inr (slot_ne (a0 := a0) (Or.inl (hw _ (List.mem_of_getElem? (i := 10) rfl))) (Or.inl (hw _ (List.mem_of_getElem? (i := 19) rfl))) (by decide) (t := .boolean) (t' := .int) (by decide) (by decide)))).other W7 (Or.inr (slot_ne (a0 := a0) (Or.inl (hw _ (List.mem_of_getElem? (i := 10) rfl))) (Or.inl (hw _ (List.mem_of_getElem? (i := 28) rfl))) (by decide) (t := .boolean) (t' := .boolean) (by decide) (by decide))))
  have f16 := ((F_ir.other W3 (Or.inr (slot_ne (a0 := a0) (Or.inl (hw _ (List.mem_of_getElem? (i := 12) rfl))) (Or.inl (hw _ (List.mem_of_getElem? (i := 19) rfl))) (by decide) (t := .boolean) (t' := .int) (by decide) (by decide)))).other W7 (Or.inr (slot_ne (a0 := a0) (Or.inl (hw _ (List.mem_of_getElem? (i := 12) rfl))) (Or.inl (hw _ (List.mem_of_getElem? (i := 28) rfl))) (by decide) (t := .boolean) (t' := .boolean) (by decide) (by decide))))
  refine ⟨_, _, pre0 _ (c2 _ (st1 _ (c4 _ (st3 _ (c8 _ (st7 _ (?_))))))), hrun, hended, _, _, rfl, ?_, ⟨_, rfl⟩, hW, hsame.mono (by decide) (by decide)⟩
  · show Steps p.tables e below (T7.setTop (mkF m 41 #[.val (.ref r0), .val (.int (45 : Int32)), .unset] [])) _
    exact X7.returnOut hx Bd.returns (hb hby d3_41) hr
  · show Q3s45 Z r0 h0 n0 _ T7.heap _
    rw [e7]
    exact ⟨rfl, N7, f10, f11, f12, Fw7, f13, f14, f15, f16⟩
def Q3s43 (Z : State) (r0 : Addr) (h0 : Heap) (n0 : Nat) (v : Option Value) (h : Heap) (L : List Loc) : Prop := v = none ∧ Fr n0 L ∧ Keep h0 h [r0] ∧ Exa Z h r0 "com/example/sequence_set/sequenceset/cli/DecimalParser" ∧ Fld Z h r0 "com/example/sequence_set/sequenceset/cli/DecimalParser" "negated" "J" (.long (0 : Int64)) ∧ Fld Z h r0 "com/example/sequence_set/sequenceset/cli/DecimalParser" "negative" "Z" (.int (0 : Int32)) ∧ Fld Z h r0 "com/example/sequence_set/sequenceset/cli/DecimalParser" "characters" "I" (.int ((0 : Int32) + (1 : Int32))) ∧ Fld Z h r0 "com/example/sequence_set/sequenceset/cli/DecimalParser" "digits" "I" (.int (0 : Int32)) ∧ Fld Z h r0 "com/example/sequence_set/sequenceset/cli/DecimalParser" "wellFormed" "Z" (.int (1 : Int32)) ∧ Fld Z h r0 "com/example/sequence_set/sequenceset/cli/DecimalParser" "inRange" "Z" (.int (1 : Int32))
set_option maxRecDepth 65536 in
set_option maxHeartbeats 40000000 in
theorem rm3s43 (l : Launch) (Z : State) (a0 : Array Value) (hw : ∀ d ∈ tables_1, d.before a0 Z = true) (ws : List Jvm.Cond) (r0 : Addr)  (h0 : Heap) (n0 : Nat) (Z0 : n0 ≤ h0.size) (F_ng : Fld Z h0 r0 "com/example/sequence_set/sequenceset/cli/DecimalParser" "negated" "J" (.long (0 : Int64))) (F_ne : Fld Z h0 r0 "com/example/sequence_set/sequenceset/cli/DecimalParser" "negative" "Z" (.int (0 : Int32))) (F_ch : Fld Z h0 r0 "com/example/sequence_set/sequenceset/cli/DecimalParser" "characters" "I" (.int (0 : Int32))) (F_dg : Fld Z h0 r0 "com/example/sequence_set/sequenceset/cli/DecimalParser" "digits" "I" (.int (0 : Int32))) (F_wf : Fld Z h0 r0 "com/example/sequence_set/sequenceset/cli/DecimalParser" "wellFormed" "Z" (.int (1 : Int32))) (F_ir : Fld Z h0 r0 "com/example/sequence_set/sequenceset/cli/DecimalParser" "inRange" "Z" (.int (1 : Int32))) (E0 : Exa Z h0 r0 "com/example/sequence_set/sequenceset/cli/DecimalParser") (g_r0 : n0 ≤ r0) :
    MetFree l (⟨"com/example/sequence_set/sequenceset/cli/DecimalParser", "accept", "(I)V"⟩ : MethodName) (head1 (Jvm.Cond.code (⟨"com/example/sequence_set/sequenceset/cli/DecimalParser", "accept", "(I)V"⟩ : MethodName) prog_17_method_5_code 3 none :: ws) ({ frames := 0, cells := 0, slots := 0, locals := 0 } : Room)) (fun a U => a = #[(.ref r0), (.int (43 : Int32))] ∧ Z.Warmed39 U.vm ∧ U.heap = h0) (fun _ _ _ _ _ => True) (fun _ U o U' => ∃ v L, o = .returned v ∧ Q3s43 Z r0 h0 n0 v U'.heap L ∧ FrameEnd U o U' L ({ frames := 0, cells := 0, slots := 0, locals := 0 } : Room).cells ({ frames := 0, cells := 0, slots := 0, locals := 0 } : Room).slots) := by
  refine MetFree.of_bodySF (plainFor_of_name pn_3) hisR ?_
  intro p e s m args below meth c s₁ Bd hml0 hP hK
  obtain ⟨rfl, hZ, hh⟩ := hP
  have hx := Bd.exec
  have hby := Bd.bytes
  have hml : c.maxLocals = 3 := hml0
  have hown : s.vm.findClass "com/example/sequence_set/sequenceset/cli/DecimalParser" = some m.cls := findClass_of_methodNamed Bd.named
  have hnm := (name_of_methodNamed Bd.named Bd.method).1
  have X0 : Stand p l e ({ frames := 0, cells := 0, slots := 0, locals := 0 } : Room) s m #[(.ref r0), (.int (43 : Int32))] below meth c s₁ [] 0 0 := Stand.of_body Bd
  have e0 : s₁.heap = h0 := by rw [← hh, Bd.state]; rfl
  have N0 := Fr.nil n0
  have pre0 : ∀ t, Steps p.tables e below (s₁.setTop (mkF m 0 #[.val (.ref r0), .val (.int (43 : Int32)), .unset] [])) t → Steps p.tables e below (s₁.setTop (entryFrame m #[(.ref r0), (.int (43 : Int32))] 3)) t := fun t k => castTop (ef_3 m r0 (43 : Int32)) k
  have c2 : ∀ t, Steps p.tables e below (s₁.setTop (mkF m 2 #[.val (.ref r0), .val (.int (43 : Int32)), .unset] [(.ref r0), (.ref r0)])) t → Steps p.tables e below (s₁.setTop (mkF m 0 #[.val (.ref r0), .val (.int (43 : Int32)), .unset] [])) t := by
    intro t kt
    show Steps p.tables e below (s₁.setTop (mkF m 0 #[.val (.ref r0), .val (.int (43 : Int32)), .unset] [])) _
    refine XS.aloadN X0.here hx rfl (hb hby d3_0) rfl rfl ?_
    show Steps p.tables e below (s₁.setTop (mkF m 1 #[.val (.ref r0), .val (.int (43 : Int32)), .unset] [(.ref r0)])) _
    refine XS.dup X0.here hx rfl (hb hby d3_1) rfl rfl ?_
    exact kt
  obtain ⟨T1, X1, e1, st1⟩ := getF X0 hx hZ hown (host := "") (Or.inl (hw _ (List.mem_of_getElem? (i := 18) rfl))) Via.refl e0 F_ch (g := (mkF m 2 #[.val (.ref r0), .val (.int (43 : Int32)), .unset] [(.ref r0), (.ref r0)])) rfl rfl (hb hby d3_2)
  have c4 : ∀ t, Steps p.tables e below (T1.setTop (mkF m 8 #[.val (.ref r0), .val (.int (43 : Int32)), .unset] [(.int ((0 : Int32) + (1 : Int32))), (.ref r0), (.int (0 : Int32))])) t → Steps p.tables e below (T1.setTop (mkF m 5 #[.val (.ref r0), .val (.int (43 : Int32)), .unset] [(.int (0 : Int32)), (.ref r0)])) t := by
    intro t kt
    show Steps p.tables e below (T1.setTop (mkF m 5 #[.val (.ref r0), .val (.int (43 : Int32)), .unset] [(.int (0 : Int32)), (.ref r0)])) _
    refine XS.dupX1 X1.here hx rfl (hb hby d3_5) rfl rfl rfl ?_
    show Steps p.tables e below (T1.setTop (mkF m 6 #[.val (.ref r0), .val (.int (43 : Int32)), .unset] [(.int (0 : Int32)), (.ref r0), (.int (0 : Int32))])) _
    refine XS.iconst X1.here hx rfl (hb hby d3_6) ?_
    show Steps p.tables e below (T1.setTop (mkF m 7 #[.val (.ref r0), .val (.int (43 : Int32)), .unset] [(.int (1 : Int32)), (.int (0 : Int32)), (.ref r0), (.int (0 : Int32))])) _
    refine XS.iadd X1.here hx rfl (hb hby d3_7) rfl ?_
    exact kt
  obtain ⟨T3, h3, X3, e3, W3, st3⟩ := putF X1 hx hZ hown (host := "") (Or.inl (hw _ (List.mem_of_getElem? (i := 18) rfl))) Via.refl e1 F_ch E0 (Or.inl (hw _ (List.mem_of_getElem? (i := 19) rfl))) (hw _ (List.mem_of_getElem? (i := 1) rfl)) (ty := .int) (by decide) rfl rfl (g := (mkF m 8 #[.val (.ref r0), .val (.int (43 : Int32)), .unset] [(.int ((0 : Int32) + (1 : Int32))), (.ref r0), (.int (0 : Int32))])) rfl rfl (hb hby d3_8)
  have Fw3 := F_ch.same W3
  have N3 := Fr.snoc X3 N0 g_r0
  have f5 := (F_ne.other W3 (Or.inr (slot_ne (a0 := a0) (Or.inl (hw _ (List.mem_of_getElem? (i := 28) rfl))) (Or.inl (hw _ (List.mem_of_getElem? (i := 19) rfl))) (by decide) (t := .boolean) (t' := .int) (by decide) (by decide))))
  have f6 := (E0.wr W3)
  have c8 : ∀ t, Steps p.tables e below (T3.setTop (mkF m 38 #[.val (.ref r0), .val (.int (43 : Int32)), .unset] [(.int (0 : Int32)), (.ref r0)])) t → Steps p.tables e below (T3.setTop (mkF m 11 #[.val (.ref r0), .val (.int (43 : Int32)), .unset] [(.int (0 : Int32))])) t := by
    intro t kt
    show Steps p.tables e below (T3.setTop (mkF m 11 #[.val (.ref r0), .val (.int (43 : Int32)), .unset] [(.int (0 : Int32))])) _
    refine XS.ifNo X3.here hx rfl (hb hby d3_11) rfl ((if0 _ _).trans (teq (by decide : (0 : Int32) = (0 : Int32))).2) ?_
    show Steps p.tables e below (T3.setTop (mkF m 14 #[.val (.ref r0), .val (.int (43 : Int32)), .unset] [])) _
    refine XS.iloadN X3.here hx rfl (hb hby d3_14) rfl ?_
    show Steps p.tables e below (T3.setTop (mkF m 15 #[.val (.ref r0), .val (.int (43 : Int32)), .unset] [(.int (43 : Int32))])) _
    refine XS.bipush X3.here hx rfl (hb hby d3_15) ?_
    show Steps p.tables e below (T3.setTop (mkF m 17 #[.val (.ref r0), .val (.int (43 : Int32)), .unset] [(.int (45 : Int32)), (.int (43 : Int32))])) _
    refine XS.icmpNo X3.here hx rfl (hb hby d3_17) rfl (feq (by decide : ¬ ((43 : Int32) = (45 : Int32)))).1 ?_
    show Steps p.tables e below (T3.setTop (mkF m 20 #[.val (.ref r0), .val (.int (43 : Int32)), .unset] [])) _
    refine XS.iloadN X3.here hx rfl (hb hby d3_20) rfl ?_
    show Steps p.tables e below (T3.setTop (mkF m 21 #[.val (.ref r0), .val (.int (43 : Int32)), .unset] [(.int (43 : Int32))])) _
    refine XS.bipush X3.here hx rfl (hb hby d3_21) ?_
    show Steps p.tables e below (T3.setTop (mkF m 23 #[.val (.ref r0), .val (.int (43 : Int32)), .unset] [(.int (43 : Int32)), (.int (43 : Int32))])) _
    refine XS.icmpNo X3.here hx rfl (hb hby d3_23) rfl (teq (by decide : (43 : Int32) = (43 : Int32))).2 ?_
    show Steps p.tables e below (T3.setTop (mkF m 26 #[.val (.ref r0), .val (.int (43 : Int32)), .unset] [])) _
    refine XS.aloadN X3.here hx rfl (hb hby d3_26) rfl rfl ?_
    show Steps p.tables e below (T3.setTop (mkF m 27 #[.val (.ref r0), .val (.int (43 : Int32)), .unset] [(.ref r0)])) _
    refine XS.iloadN X3.here hx rfl (hb hby d3_27) rfl ?_
    show Steps p.tables e below (T3.setTop (mkF m 28 #[.val (.ref r0), .val (.int (43 : Int32)), .unset] [(.int (43 : Int32)), (.ref r0)])) _
    refine XS.bipush X3.here hx rfl (hb hby d3_28) ?_
    show Steps p.tables e below (T3.setTop (mkF m 30 #[.val (.ref r0), .val (.int (43 : Int32)), .unset] [(.int (45 : Int32)), (.int (43 : Int32)), (.ref r0)])) _
    refine XS.icmpYes X3.here hx rfl (pc0 := 30) (pc' := 37) rfl (hb hby d3_30) rfl (feq (by decide : ¬ ((43 : Int32) = (45 : Int32)))).2 (by decide) (by decide) ?_
    show Steps p.tables e below (T3.setTop (mkF m 37 #[.val (.ref r0), .val (.int (43 : Int32)), .unset] [(.ref r0)])) _
    refine XS.iconst X3.here hx rfl (hb hby d3_37) ?_
    exact kt
  obtain ⟨T7, h7, X7, e7, W7, st7⟩ := putFN X3 hx hZ hown (hw _ (List.mem_of_getElem? (i := 27) rfl)) Via.refl e3 f5 f6 (Or.inl (hw _ (List.mem_of_getElem? (i := 28) rfl))) (hw _ (List.mem_of_getElem? (i := 1) rfl)) (ty := .boolean) (v' := (.int (0 : Int32))) (by decide) rfl rfl (g := (mkF m 38 #[.val (.ref r0), .val (.int (43 : Int32)), .unset] [(.int (0 : Int32)), (.ref r0)])) rfl rfl (hb hby d3_38)
  have Fw7 := f5.same W7
  have N7 := Fr.snoc X7 N3 g_r0
  obtain ⟨fs, hr, hrun, hended, hW, hsame⟩ := X7.leave (v := none) (fun _ => rfl)
  have f10 := (((Keep.refl h0 [r0]).wr W3 (Or.inl (List.mem_of_getElem? (i := 0) rfl))).wr W7 (Or.inl (List.mem_of_getElem? (i := 0) rfl)))
  have f11 := (f6.wr W7)
  have f12 := ((F_ng.other W3 (Or.inr (slot_ne (a0 := a0) (Or.inl (hw _ (List.mem_of_getElem? (i := 26) rfl))) (Or.inl (hw _ (List.mem_of_getElem? (i := 19) rfl))) (by decide) (t := .long) (t' := .int) (by decide) (by decide)))).other W7 (Or.inr (slot_ne (a0 := a0) (Or.inl (hw _ (List.mem_of_getElem? (i := 26) rfl))) (Or.inl (hw _ (List.mem_of_getElem? (i := 28) rfl))) (by decide) (t := .long) (t' := .boolean) (by decide) (by decide))))
  have f13 := (Fw3.other W7 (Or.inr (slot_ne (a0 := a0) (Or.inl (hw _ (List.mem_of_getElem? (i := 19) rfl))) (Or.inl (hw _ (List.mem_of_getElem? (i := 28) rfl))) (by decide) (t := .int) (t' := .boolean) (by decide) (by decide))))
  have f14 := ((F_dg.other W3 (Or.inr (slot_ne (a0 := a0) (Or.inl (hw _ (List.mem_of_getElem? (i := 30) rfl))) (Or.inl (hw _ (List.mem_of_getElem? (i := 19) rfl))) (by decide) (t := .int) (t' := .int) (by decide) (by decide)))).other W7 (Or.inr (slot_ne (a0 := a0) (Or.inl (hw _ (List.mem_of_getElem? (i := 30) rfl))) (Or.inl (hw _ (List.mem_of_getElem? (i := 28) rfl))) (by decide) (t := .int) (t' := .boolean) (by decide) (by decide))))
  have f15 := ((F_wf.other W3 (Or.inr (slot_ne (a0 := a0) (Or.inl (hw _ (List.mem_of_getElem? (i := 10) rfl))) (Or.inl (hw _ (List.mem_of_getElem? (i := 19) rfl))) (by decide) (t := .boolean) (t' := .int) (by decide) (by decide)))).other W7 (Or.inr (slot_ne (a0 := a0) (Or.inl (hw _ (List.mem_of_getElem? (i := 10) rfl))) (Or.inl (hw _ (List.mem_of_getElem? (i := 28) rfl))) (by decide) (t := .boolean) (t' := .boolean) (by decide) (by decide))))
  have f16 := ((F_ir.other W3 (Or.inr (slot_ne (a0 := a0) (Or.inl (hw _ (List.mem_of_getElem? (i := 12) rfl))) (Or.inl (hw _ (List.mem_of_getElem? (i := 19) rfl))) (by decide) (t := .boolean) (t' := .int) (by decide) (by decide)))).other W7 (Or.inr (slot_ne (a0 := a0) (Or.inl (hw _ (List.mem_of_getElem? (i := 12) rfl))) (Or.inl (hw _ (List.mem_of_getElem? (i := 28) rfl))) (by decide) (t := .boolean) (t' := .boolean) (by decide) (by decide))))
  refine ⟨_, _, pre0 _ (c2 _ (st1 _ (c4 _ (st3 _ (c8 _ (st7 _ (?_))))))), hrun, hended, _, _, rfl, ?_, ⟨_, rfl⟩, hW, hsame.mono (by decide) (by decide)⟩
  · show Steps p.tables e below (T7.setTop (mkF m 41 #[.val (.ref r0), .val (.int (43 : Int32)), .unset] [])) _
    exact X7.returnOut hx Bd.returns (hb hby d3_41) hr
  · show Q3s43 Z r0 h0 n0 _ T7.heap _
    rw [e7]
    exact ⟨rfl, N7, f10, f11, f12, Fw7, f13, f14, f15, f16⟩
theorem d5_0 : decode prog_17_method_6_code 0 = .ok (.aload_n 0, 1) := by decide +kernel
theorem d5_1 : decode prog_17_method_6_code 1 = .ok (.getfield 7, 3) := by decide +kernel
theorem d5_4 : decode prog_17_method_6_code 4 = .ok (.ifCond .eq 10, 3) := by decide +kernel
theorem d5_7 : decode prog_17_method_6_code 7 = .ok (.aload_n 0, 1) := by decide +kernel
theorem d5_8 : decode prog_17_method_6_code 8 = .ok (.getfield 66, 3) := by decide +kernel
theorem d5_11 : decode prog_17_method_6_code 11 = .ok (.ifCond .ne 13, 3) := by decide +kernel
theorem d5_24 : decode prog_17_method_6_code 24 = .ok (.aload_n 0, 1) := by decide +kernel
theorem d5_25 : decode prog_17_method_6_code 25 = .ok (.getfield 13, 3) := by decide +kernel
theorem d5_28 : decode prog_17_method_6_code 28 = .ok (.ifCond .eq 21, 3) := by decide +kernel
theorem d5_31 : decode prog_17_method_6_code 31 = .ok (.aload_n 0, 1) := by decide +kernel
theorem d5_32 : decode prog_17_method_6_code 32 = .ok (.getfield 59, 3) := by decide +kernel
theorem d5_35 : decode prog_17_method_6_code 35 = .ok (.ifCond .ne 24, 3) := by decide +kernel
theorem d5_38 : decode prog_17_method_6_code 38 = .ok (.aload_n 0, 1) := by decide +kernel
theorem d5_39 : decode prog_17_method_6_code 39 = .ok (.getfield 55, 3) := by decide +kernel
theorem d5_42 : decode prog_17_method_6_code 42 = .ok (.ldc2_w 71, 3) := by decide +kernel
theorem d5_45 : decode prog_17_method_6_code 45 = .ok (.lcmp, 1) := by decide +kernel
theorem d5_46 : decode prog_17_method_6_code 46 = .ok (.ifCond .ne 13, 3) := by decide +kernel
theorem d5_59 : decode prog_17_method_6_code 59 = .ok (.aload_n 0, 1) := by decide +kernel
theorem d5_60 : decode prog_17_method_6_code 60 = .ok (.getfield 59, 3) := by decide +kernel
theorem d5_63 : decode prog_17_method_6_code 63 = .ok (.ifCond .eq 10, 3) := by decide +kernel
theorem d5_73 : decode prog_17_method_6_code 73 = .ok (.aload_n 0, 1) := by decide +kernel
theorem d5_74 : decode prog_17_method_6_code 74 = .ok (.getfield 55, 3) := by decide +kernel
theorem d5_77 : decode prog_17_method_6_code 77 = .ok (.lneg, 1) := by decide +kernel
theorem d5_78 : decode prog_17_method_6_code 78 = .ok (.lreturn, 1) := by decide +kernel
theorem pn_5 : plainName "com/example/sequence_set/sequenceset/cli/DecimalParser" = true := by first | (simp [plainName, overriddenIn]; done) | decide +kernel
theorem ef_5 (m : MethodId) (x0 : Addr) : entryFrame m #[(.ref x0)] 1 = mkF m 0 #[.val (.ref x0)] [] := by first | (simp [entryFrame, mkF, argsToLocals, Value.category]; done) | rfl
def Q5_0 (Z : State) (r0 : Addr) (ng : Int64) (ch : Int32) (dg : Int32) (h0 : Heap) (n0 : Nat) (v : Option Value) (h : Heap) (L : List Loc) : Prop := v = some (.long (-ng)) ∧ Fr n0 L ∧ h = h0
set_option maxRecDepth 65536 in
set_option maxHeartbeats 40000000 in
theorem rm5_0 (l : Launch) (Z : State) (a0 : Array Value) (hw : ∀ d ∈ tables_1, d.before a0 Z = true) (ws : List Jvm.Cond) (r0 : Addr) (ng : Int64) (ch : Int32) (dg : Int32) (h0 : Heap) (n0 : Nat) (Z0 : n0 ≤ h0.size) (F_ng : Fld Z h0 r0 "com/example/sequence_set/sequenceset/cli/DecimalParser" "negated" "J" (.long ng)) (F_ne : Fld Z h0 r0 "com/example/sequence_set/sequenceset/cli/DecimalParser" "negative" "Z" (.int (0 : Int32))) (F_ch : Fld Z h0 r0 "com/example/sequence_set/sequenceset/cli/DecimalParser" "characters" "I" (.int ch)) (F_dg : Fld Z h0 r0 "com/example/sequence_set/sequenceset/cli/DecimalParser" "digits" "I" (.int dg)) (F_wf : Fld Z h0 r0 "com/example/sequence_set/sequenceset/cli/DecimalParser" "wellFormed" "Z" (.int (1 : Int32))) (F_ir : Fld Z h0 r0 "com/example/sequence_set/sequenceset/cli/DecimalParser" "inRange" "Z" (.int (1 : Int32))) (E0 : Exa Z h0 r0 "com/example/sequence_set/sequenceset/cli/DecimalParser") (g_r0 : n0 ≤ r0) (hdg : ¬ dg = (0 : Int32)) (hng : ¬ ng = (-9223372036854775808 : Int64)) :
    MetFree l (⟨"com/example/sequence_set/sequenceset/cli/DecimalParser", "value", "()J"⟩ : MethodName) (head1 (Jvm.Cond.code (⟨"com/example/sequence_set/sequenceset/cli/DecimalParser", "value", "()J"⟩ : MethodName) prog_17_method_6_code 1 (some .long) :: ws) ({ frames := 0, cells := 0, slots := 0, locals := 0 } : Room)) (fun a U => a = #[(.ref r0)] ∧ Z.Warmed39 U.vm ∧ U.heap = h0) (fun _ _ _ _ _ => True) (fun _ U o U' => ∃ v L, o = .returned v ∧ Q5_0 Z r0 ng ch dg h0 n0 v U'.heap L ∧ FrameEnd U o U' L ({ frames := 0, cells := 0, slots := 0, locals := 0 } : Room).cells ({ frames := 0, cells := 0, slots := 0, locals := 0 } : Room).slots) := by
  refine MetFree.of_bodySF (plainFor_of_name pn_5) hisR ?_
  intro p e s m args below meth c s₁ Bd hml0 hP hK
  obtain ⟨rfl, hZ, hh⟩ := hP
  have hx := Bd.exec
  have hby := Bd.bytes
  have hml : c.maxLocals = 1 := hml0
  have hown : s.vm.findClass "com/example/sequence_set/sequenceset/cli/DecimalParser" = some m.cls := findClass_of_methodNamed Bd.named
  have hnm := (name_of_methodNamed Bd.named Bd.method).1
  have X0 : Stand p l e ({ frames := 0, cells := 0, slots := 0, locals := 0 } : Room) s m #[(.ref r0)] below meth c s₁ [] 0 0 := Stand.of_body Bd
  have e0 : s₁.heap = h0 := by rw [← hh, Bd.state]; rfl
  have N0 := Fr.nil n0
  have pre0 : ∀ t, Steps p.tables e below (s₁.setTop (mkF m 0 #[.val (.ref r0)] [])) t → Steps p.tables e below (s₁.setTop (entryFrame m #[(.ref r0)] 1)) t := fun t k => castTop (ef_5 m r0) k
  have c2 : ∀ t, Steps p.tables e below (s₁.setTop (mkF m 1 #[.val (.ref r0)] [(.ref r0)])) t → Steps p.tables e below (s₁.setTop (mkF m 0 #[.val (.ref r0)] [])) t := by
    intro t kt
    show Steps p.tables e below (s₁.setTop (mkF m 0 #[.val (.ref r0)] [])) _
    refine XS.aloadN X0.here hx rfl (hb hby d5_0) rfl rfl ?_
    exact kt
  obtain ⟨T1, X1, e1, st1⟩ := getF X0 hx hZ hown (host := "") (Or.inl (hw _ (List.mem_of_getElem? (i := 9) rfl))) Via.refl e0 F_wf (g := (mkF m 1 #[.val (.ref r0)] [(.ref r0)])) rfl rfl (hb hby d5_1)
  have c4 : ∀ t, Steps p.tables e below (T1.setTop (mkF m 8 #[.val (.ref r0)] [(.ref r0)])) t → Steps p.tables e below (T1.setTop (mkF m 4 #[.val (.ref r0)] [(.int (1 : Int32))])) t := by
    intro t kt
    show Steps p.tables e below (T1.setTop (mkF m 4 #[.val (.ref r0)] [(.int (1 : Int32))])) _
    refine XS.ifNo X1.here hx rfl (hb hby d5_4) rfl ((if0 _ _).trans (feq (by decide : ¬ ((1 : Int32) = (0 : Int32)))).1) ?_
    show Steps p.tables e below (T1.setTop (mkF m 7 #[.val (.ref r0)] [])) _
    refine XS.aloadN X1.here hx rfl (hb hby d5_7) rfl rfl ?_
    exact kt
  obtain ⟨T3, X3, e3, st3⟩ := getF X1 hx hZ hown (host := "") (Or.inl (hw _ (List.mem_of_getElem? (i := 29) rfl))) Via.refl e1 F_dg (g := (mkF m 8 #[.val (.ref r0)] [(.ref r0)])) rfl rfl (hb hby d5_8)
  have hd5 : ¬ (dg = (0 : Int32)) := hdg
  have c7 : ∀ t, Steps p.tables e below (T3.setTop (mkF m 25 #[.val (.ref r0)] [(.ref r0)])) t → Steps p.tables e below (T3.setTop (mkF m 11 #[.val (.ref r0)] [(.int dg)])) t := by
    intro t kt
    show Steps p.tables e below (T3.setTop (mkF m 11 #[.val (.ref r0)] [(.int dg)])) _
    refine XS.ifYes X3.here hx rfl (pc0 := 11) (pc' := 24) rfl (hb hby d5_11) rfl ((if0 _ _).trans (feq hd5).2) (by decide) (by decide) ?_
    show Steps p.tables e below (T3.setTop (mkF m 24 #[.val (.ref r0)] [])) _
    refine XS.aloadN X3.here hx rfl (hb hby d5_24) rfl rfl ?_
    exact kt
  obtain ⟨T6, X6, e6, st6⟩ := getF X3 hx hZ hown (host := "") (Or.inl (hw _ (List.mem_of_getElem? (i := 11) rfl))) Via.refl e3 F_ir (g := (mkF m 25 #[.val (.ref r0)] [(.ref r0)])) rfl rfl (hb hby d5_25)
  have c9 : ∀ t, Steps p.tables e below (T6.setTop (mkF m 32 #[.val (.ref r0)] [(.ref r0)])) t → Steps p.tables e below (T6.setTop (mkF m 28 #[.val (.ref r0)] [(.int (1 : Int32))])) t := by
    intro t kt
    show Steps p.tables e below (T6.setTop (mkF m 28 #[.val (.ref r0)] [(.int (1 : Int32))])) _
    refine XS.ifNo X6.here hx rfl (hb hby d5_28) rfl ((if0 _ _).trans (feq (by decide : ¬ ((1 : Int32) = (0 : Int32)))).1) ?_
    show Steps p.tables e below (T6.setTop (mkF m 31 #[.val (.ref r0)] [])) _
    refine XS.aloadN X6.here hx rfl (hb hby d5_31) rfl rfl ?_
    exact kt
  obtain ⟨T8, X8, e8, st8⟩ := getF X6 hx hZ hown (host := "") (Or.inl (hw _ (List.mem_of_getElem? (i := 27) rfl))) Via.refl e6 F_ne (g := (mkF m 32 #[.val (.ref r0)] [(.ref r0)])) rfl rfl (hb hby d5_32)
  have c11 : ∀ t, Steps p.tables e below (T8.setTop (mkF m 39 #[.val (.ref r0)] [(.ref r0)])) t → Steps p.tables e below (T8.setTop (mkF m 35 #[.val (.ref r0)] [(.int (0 : Int32))])) t := by
    intro t kt
    show Steps p.tables e below (T8.setTop (mkF m 35 #[.val (.ref r0)] [(.int (0 : Int32))])) _
    refine XS.ifNo X8.here hx rfl (hb hby d5_35) rfl ((if0 _ _).trans (teq (by decide : (0 : Int32) = (0 : Int32))).2) ?_
    show Steps p.tables e below (T8.setTop (mkF m 38 #[.val (.ref r0)] [])) _
    refine XS.aloadN X8.here hx rfl (hb hby d5_38) rfl rfl ?_
    exact kt
  obtain ⟨T10, X10, e10, st10⟩ := getF X8 hx hZ hown (host := "") (Or.inl (hw _ (List.mem_of_getElem? (i := 25) rfl))) Via.refl e8 F_ng (g := (mkF m 39 #[.val (.ref r0)] [(.ref r0)])) rfl rfl (hb hby d5_39)
  have c13 : ∀ t, Steps p.tables e below (T10.setTop (mkF m 46 #[.val (.ref r0)] [(.int (lcmpW ng (-9223372036854775808 : Int64)))])) t → Steps p.tables e below (T10.setTop (mkF m 42 #[.val (.ref r0)] [(.long ng)])) t := by
    intro t kt
    show Steps p.tables e below (T10.setTop (mkF m 42 #[.val (.ref r0)] [(.long ng)])) _
    refine X10.ldc2Long hx hown (mvT hZ (hw _ (List.mem_of_getElem? (i := 32) rfl))) (g := (mkF m 42 #[.val (.ref r0)] [(.long ng)])) rfl (hb hby d5_42) _ ?_
    show Steps p.tables e below (T10.setTop (mkF m 45 #[.val (.ref r0)] [(.long (-9223372036854775808 : Int64)), (.long ng)])) _
    refine XS.lcmp X10.here hx rfl (hb hby d5_45) rfl ?_
    exact kt
  have hd12 : ¬ (ng = (-9223372036854775808 : Int64)) := hng
  have c15 : ∀ t, Steps p.tables e below (T10.setTop (mkF m 60 #[.val (.ref r0)] [(.ref r0)])) t → Steps p.tables e below (T10.setTop (mkF m 46 #[.val (.ref r0)] [(.int (lcmpW ng (-9223372036854775808 : Int64)))])) t := by
    intro t kt
    show Steps p.tables e below (T10.setTop (mkF m 46 #[.val (.ref r0)] [(.int (lcmpW ng (-9223372036854775808 : Int64)))])) _
    refine XS.ifYes X10.here hx rfl (pc0 := 46) (pc' := 59) rfl (hb hby d5_46) rfl ((if0 _ _).trans (feq (fun q => hd12 ((lw_eq _ _).mp q))).2) (by decide) (by decide) ?_
    show Steps p.tables e below (T10.setTop (mkF m 59 #[.val (.ref r0)] [])) _
    refine XS.aloadN X10.here hx rfl (hb hby d5_59) rfl rfl ?_
    exact kt
  obtain ⟨T14, X14, e14, st14⟩ := getF X10 hx hZ hown (host := "") (Or.inl (hw _ (List.mem_of_getElem? (i := 27) rfl))) Via.refl e10 F_ne (g := (mkF m 60 #[.val (.ref r0)] [(.ref r0)])) rfl rfl (hb hby d5_60)
  have c17 : ∀ t, Steps p.tables e below (T14.setTop (mkF m 74 #[.val (.ref r0)] [(.ref r0)])) t → Steps p.tables e below (T14.setTop (mkF m 63 #[.val (.ref r0)] [(.int (0 : Int32))])) t := by
    intro t kt
    show Steps p.tables e below (T14.setTop (mkF m 63 #[.val (.ref r0)] [(.int (0 : Int32))])) _
    refine XS.ifYes X14.here hx rfl (pc0 := 63) (pc' := 73) rfl (hb hby d5_63) rfl ((if0 _ _).trans (teq (by decide : (0 : Int32) = (0 : Int32))).1) (by decide) (by decide) ?_
    show Steps p.tables e below (T14.setTop (mkF m 73 #[.val (.ref r0)] [])) _
    refine XS.aloadN X14.here hx rfl (hb hby d5_73) rfl rfl ?_
    exact kt
  obtain ⟨T16, X16, e16, st16⟩ := getF X14 hx hZ hown (host := "") (Or.inl (hw _ (List.mem_of_getElem? (i := 25) rfl))) Via.refl e14 F_ng (g := (mkF m 74 #[.val (.ref r0)] [(.ref r0)])) rfl rfl (hb hby d5_74)
  have c18 : ∀ t, Steps p.tables e below (T16.setTop (mkF m 78 #[.val (.ref r0)] [(.long (-ng))])) t → Steps p.tables e below (T16.setTop (mkF m 77 #[.val (.ref r0)] [(.long ng)])) t := by
    intro t kt
    show Steps p.tables e below (T16.setTop (mkF m 77 #[.val (.ref r0)] [(.long ng)])) _
    refine XS.lneg X16.here hx rfl (hb hby d5_77) rfl ?_
    exact kt
  obtain ⟨fs, hr, hrun, hended, hW, hsame⟩ := X16.leave (v := some (.long (-ng))) (fun h => by rw [Bd.returns] at h; cases h)
  refine ⟨_, _, pre0 _ (c2 _ (st1 _ (c4 _ (st3 _ (c7 _ (st6 _ (c9 _ (st8 _ (c11 _ (st10 _ (c13 _ (c15 _ (st14 _ (c17 _ (st16 _ (c18 _ (?_))))))))))))))))), hrun, hended, _, _, rfl, ?_, ⟨_, rfl⟩, hW, hsame.mono (by decide) (by decide)⟩
  · show Steps p.tables e below (T16.setTop (mkF m 78 #[.val (.ref r0)] [(.long (-ng))])) _
    jvm_step X16.here [X16.here.top, hx, (hb hby d5_78), X16.method', Bd.returns, narrow]
    first | (intro acts; rw [hr _ acts rfl rfl rfl]) | rw [hr _ _ rfl rfl rfl]
    exact Steps.refl _
  · show Q5_0 Z r0 ng ch dg h0 n0 _ T16.heap _
    rw [e16]
    exact ⟨congrArg (fun z => some (Value.long z)) (show (-ng) = (-ng) from by rfl), N0, rfl⟩
theorem d5_66 : decode prog_17_method_6_code 66 = .ok (.aload_n 0, 1) := by decide +kernel
theorem d5_67 : decode prog_17_method_6_code 67 = .ok (.getfield 55, 3) := by decide +kernel
theorem d5_70 : decode prog_17_method_6_code 70 = .ok (.goto 8, 3) := by decide +kernel
def Q5_1 (Z : State) (r0 : Addr) (ng : Int64) (ch : Int32) (dg : Int32) (h0 : Heap) (n0 : Nat) (v : Option Value) (h : Heap) (L : List Loc) : Prop := v = some (.long ng) ∧ Fr n0 L ∧ h = h0
set_option maxRecDepth 65536 in
set_option maxHeartbeats 40000000 in
theorem rm5_1 (l : Launch) (Z : State) (a0 : Array Value) (hw : ∀ d ∈ tables_1, d.before a0 Z = true) (ws : List Jvm.Cond) (r0 : Addr) (ng : Int64) (ch : Int32) (dg : Int32) (h0 : Heap) (n0 : Nat) (Z0 : n0 ≤ h0.size) (F_ng : Fld Z h0 r0 "com/example/sequence_set/sequenceset/cli/DecimalParser" "negated" "J" (.long ng)) (F_ne : Fld Z h0 r0 "com/example/sequence_set/sequenceset/cli/DecimalParser" "negative" "Z" (.int (1 : Int32))) (F_ch : Fld Z h0 r0 "com/example/sequence_set/sequenceset/cli/DecimalParser" "characters" "I" (.int ch)) (F_dg : Fld Z h0 r0 "com/example/sequence_set/sequenceset/cli/DecimalParser" "digits" "I" (.int dg)) (F_wf : Fld Z h0 r0 "com/example/sequence_set/sequenceset/cli/DecimalParser" "wellFormed" "Z" (.int (1 : Int32))) (F_ir : Fld Z h0 r0 "com/example/sequence_set/sequenceset/cli/DecimalParser" "inRange" "Z" (.int (1 : Int32))) (E0 : Exa Z h0 r0 "com/example/sequence_set/sequenceset/cli/DecimalParser") (g_r0 : n0 ≤ r0) (hdg : ¬ dg = (0 : Int32)) (hng : ¬ ng = (-9223372036854775808 : Int64)) :
    MetFree l (⟨"com/example/sequence_set/sequenceset/cli/DecimalParser", "value", "()J"⟩ : MethodName) (head1 (Jvm.Cond.code (⟨"com/example/sequence_set/sequenceset/cli/DecimalParser", "value", "()J"⟩ : MethodName) prog_17_method_6_code 1 (some .long) :: ws) ({ frames := 0, cells := 0, slots := 0, locals := 0 } : Room)) (fun a U => a = #[(.ref r0)] ∧ Z.Warmed39 U.vm ∧ U.heap = h0) (fun _ _ _ _ _ => True) (fun _ U o U' => ∃ v L, o = .returned v ∧ Q5_1 Z r0 ng ch dg h0 n0 v U'.heap L ∧ FrameEnd U o U' L ({ frames := 0, cells := 0, slots := 0, locals := 0 } : Room).cells ({ frames := 0, cells := 0, slots := 0, locals := 0 } : Room).slots) := by
  refine MetFree.of_bodySF (plainFor_of_name pn_5) hisR ?_
  intro p e s m args below meth c s₁ Bd hml0 hP hK
  obtain ⟨rfl, hZ, hh⟩ := hP
  have hx := Bd.exec
  have hby := Bd.bytes
  have hml : c.maxLocals = 1 := hml0
  have hown : s.vm.findClass "com/example/sequence_set/sequenceset/cli/DecimalParser" = some m.cls := findClass_of_methodNamed Bd.named
  have hnm := (name_of_methodNamed Bd.named Bd.method).1
  have X0 : Stand p l e ({ frames := 0, cells := 0, slots := 0, locals := 0 } : Room) s m #[(.ref r0)] below meth c s₁ [] 0 0 := Stand.of_body Bd
  have e0 : s₁.heap = h0 := by rw [← hh, Bd.state]; rfl
  have N0 := Fr.nil n0
  have pre0 : ∀ t, Steps p.tables e below (s₁.setTop (mkF m 0 #[.val (.ref r0)] [])) t → Steps p.tables e below (s₁.setTop (entryFrame m #[(.ref r0)] 1)) t := fun t k => castTop (ef_5 m r0) k
  have c2 : ∀ t, Steps p.tables e below (s₁.setTop (mkF m 1 #[.val (.ref r0)] [(.ref r0)])) t → Steps p.tables e below (s₁.setTop (mkF m 0 #[.val (.ref r0)] [])) t := by
    intro t kt
    show Steps p.tables e below (s₁.setTop (mkF m 0 #[.val (.ref r0)] [])) _
    refine XS.aloadN X0.here hx rfl (hb hby d5_0) rfl rfl ?_
    exact kt
  obtain ⟨T1, X1, e1, st1⟩ := getF X0 hx hZ hown (host := "") (Or.inl (hw _ (List.mem_of_getElem? (i := 9) rfl))) Via.refl e0 F_wf (g := (mkF m 1 #[.val (.ref r0)] [(.ref r0)])) rfl rfl (hb hby d5_1)
  have c4 : ∀ t, Steps p.tables e below (T1.setTop (mkF m 8 #[.val (.ref r0)] [(.ref r0)])) t → Steps p.tables e below (T1.setTop (mkF m 4 #[.val (.ref r0)] [(.int (1 : Int32))])) t := by
    intro t kt
    show Steps p.tables e below (T1.setTop (mkF m 4 #[.val (.ref r0)] [(.int (1 : Int32))])) _
    refine XS.ifNo X1.here hx rfl (hb hby d5_4) rfl ((if0 _ _).trans (feq (by decide : ¬ ((1 : Int32) = (0 : Int32)))).1) ?_
    show Steps p.tables e below (T1.setTop (mkF m 7 #[.val (.ref r0)] [])) _
    refine XS.aloadN X1.here hx rfl (hb hby d5_7) rfl rfl ?_
    exact kt
  obtain ⟨T3, X3, e3, st3⟩ := getF X1 hx hZ hown (host := "") (Or.inl (hw _ (List.mem_of_getElem? (i := 29) rfl))) Via.refl e1 F_dg (g := (mkF m 8 #[.val (.ref r0)] [(.ref r0)])) rfl rfl (hb hby d5_8)
  have hd5 : ¬ (dg = (0 : Int32)) := hdg
  have c7 : ∀ t, Steps p.tables e below (T3.setTop (mkF m 25 #[.val (.ref r0)] [(.ref r0)])) t → Steps p.tables e below (T3.setTop (mkF m 11 #[.val (.ref r0)] [(.int dg)])) t := by
    intro t kt
    show Steps p.tables e below (T3.setTop (mkF m 11 #[.val (.ref r0)] [(.int dg)])) _
    refine XS.ifYes X3.here hx rfl (pc0 := 11) (pc' := 24) rfl (hb hby d5_11) rfl ((if0 _ _).trans (feq hd5).2) (by decide) (by decide) ?_
    show Steps p.tables e below (T3.setTop (mkF m 24 #[.val (.ref r0)] [])) _
    refine XS.aloadN X3.here hx rfl (hb hby d5_24) rfl rfl ?_
    exact kt
  obtain ⟨T6, X6, e6, st6⟩ := getF X3 hx hZ hown (host := "") (Or.inl (hw _ (List.mem_of_getElem? (i := 11) rfl))) Via.refl e3 F_ir (g := (mkF m 25 #[.val (.ref r0)] [(.ref r0)])) rfl rfl (hb hby d5_25)
  have c9 : ∀ t, Steps p.tables e below (T6.setTop (mkF m 32 #[.val (.ref r0)] [(.ref r0)])) t → Steps p.tables e below (T6.setTop (mkF m 28 #[.val (.ref r0)] [(.int (1 : Int32))])) t := by
    intro t kt
    show Steps p.tables e below (T6.setTop (mkF m 28 #[.val (.ref r0)] [(.int (1 : Int32))])) _
    refine XS.ifNo X6.here hx rfl (hb hby d5_28) rfl ((if0 _ _).trans (feq (by decide : ¬ ((1 : Int32) = (0 : Int32)))).1) ?_
    show Steps p.tables e below (T6.setTop (mkF m 31 #[.val (.ref r0)] [])) _
    refine XS.aloadN X6.here hx rfl (hb hby d5_31) rfl rfl ?_
    exact kt
  obtain ⟨T8, X8, e8, st8⟩ := getF X6 hx hZ hown (host := "") (Or.inl (hw _ (List.mem_of_getElem? (i := 27) rfl))) Via.refl e6 F_ne (g := (mkF m 32 #[.val (.ref r0)] [(.ref r0)])) rfl rfl (hb hby d5_32)
  have c11 : ∀ t, Steps p.tables e below (T8.setTop (mkF m 60 #[.val (.ref r0)] [(.ref r0)])) t → Steps p.tables e below (T8.setTop (mkF m 35 #[.val (.ref r0)] [(.int (1 : Int32))])) t := by
    intro t kt
    show Steps p.tables e below (T8.setTop (mkF m 35 #[.val (.ref r0)] [(.int (1 : Int32))])) _
    refine XS.ifYes X8.here hx rfl (pc0 := 35) (pc' := 59) rfl (hb hby d5_35) rfl ((if0 _ _).trans (feq (by decide : ¬ ((1 : Int32) = (0 : Int32)))).2) (by decide) (by decide) ?_
    show Steps p.tables e below (T8.setTop (mkF m 59 #[.val (.ref r0)] [])) _
    refine XS.aloadN X8.here hx rfl (hb hby d5_59) rfl rfl ?_
    exact kt
  obtain ⟨T10, X10, e10, st10⟩ := getF X8 hx hZ hown (host := "") (Or.inl (hw _ (List.mem_of_getElem? (i := 27) rfl))) Via.refl e8 F_ne (g := (mkF m 60 #[.val (.ref r0)] [(.ref r0)])) rfl rfl (hb hby d5_60)
  have c13 : ∀ t, Steps p.tables e below (T10.setTop (mkF m 67 #[.val (.ref r0)] [(.ref r0)])) t → Steps p.tables e below (T10.setTop (mkF m 63 #[.val (.ref r0)] [(.int (1 : Int32))])) t := by
    intro t kt
    show Steps p.tables e below (T10.setTop (mkF m 63 #[.val (.ref r0)] [(.int (1 : Int32))])) _
    refine XS.ifNo X10.here hx rfl (hb hby d5_63) rfl ((if0 _ _).trans (feq (by decide : ¬ ((1 : Int32) = (0 : Int32)))).1) ?_
    show Steps p.tables e below (T10.setTop (mkF m 66 #[.val (.ref r0)] [])) _
    refine XS.aloadN X10.here hx rfl (hb hby d5_66) rfl rfl ?_
    exact kt
  obtain ⟨T12, X12, e12, st12⟩ := getF X10 hx hZ hown (host := "") (Or.inl (hw _ (List.mem_of_getElem? (i := 25) rfl))) Via.refl e10 F_ng (g := (mkF m 67 #[.val (.ref r0)] [(.ref r0)])) rfl rfl (hb hby d5_67)
  have c14 : ∀ t, Steps p.tables e below (T12.setTop (mkF m 78 #[.val (.ref r0)] [(.long ng)])) t → Steps p.tables e below (T12.setTop (mkF m 70 #[.val (.ref r0)] [(.long ng)])) t := by
    intro t kt
    show Steps p.tables e below (T12.setTop (mkF m 70 #[.val (.ref r0)] [(.long ng)])) _
    refine XS.goto X12.here hx rfl (pc0 := 70) (pc' := 78) rfl (hb hby d5_70) (by decide) (by decide) ?_
    exact kt
  obtain ⟨fs, hr, hrun, hended, hW, hsame⟩ := X12.leave (v := some (.long ng)) (fun h => by rw [Bd.returns] at h; cases h)
  refine ⟨_, _, pre0 _ (c2 _ (st1 _ (c4 _ (st3 _ (c7 _ (st6 _ (c9 _ (st8 _ (c11 _ (st10 _ (c13 _ (st12 _ (c14 _ (?_)))))))))))))), hrun, hended, _, _, rfl, ?_, ⟨_, rfl⟩, hW, hsame.mono (by decide) (by decide)⟩
  · show Steps p.tables e below (T12.setTop (mkF m 78 #[.val (.ref r0)] [(.long ng)])) _
    jvm_step X12.here [X12.here.top, hx, (hb hby d5_78), X12.method', Bd.returns, narrow]
    first | (intro acts; rw [hr _ acts rfl rfl rfl]) | rw [hr _ _ rfl rfl rfl]
    exact Steps.refl _
  · show Q5_1 Z r0 ng ch dg h0 n0 _ T12.heap _
    rw [e12]
    exact ⟨congrArg (fun z => some (Value.long z)) (show ng = ng from by rfl), N0, rfl⟩
theorem pn_0 : plainName "com/example/sequence_set/sequenceset/cli/DecimalParserResetPinLaw" = true := by first | (simp [plainName, overriddenIn]; done) | decide +kernel
theorem ef_0 (m : MethodId) (x0 : Int32) (x1 : Int32) (x2 : Int32) (x3 : Int32) (x4 : Int32) (x5 : Int32) : entryFrame m #[(.int x0), (.int x1), (.int x2), (.int x3), (.int x4), (.int x5)] maxLocals = mkF m 0 #[.val (.int x0), .val (.int x1), .val (.int x2), .val (.int x3), .val (.int x4), .val (.int x5), .unset, .unset, .unset, .unset, .unset, .unset, .unset, .unset, .unset] [] := by first | (simp [entryFrame, mkF, argsToLocals, Value.category, maxLocals]; done) | rfl
def Q0 (Z : State) (p0 : Int32) (p1 : Int32) (p2 : Int32) (p3 : Int32) (p4 : Int32) (p5 : Int32) (h0 : Heap) (n0 : Nat) (v : Option Value) (h : Heap) (L : List Loc) : Prop := v = some (.int 1) ∧ Fr n0 L
set_option maxRecDepth 65536 in
set_option maxHeartbeats 40000000 in
theorem rm0 (l : Launch) (Z : State) (a0 : Array Value) (hw : ∀ d ∈ tables_1, d.before a0 Z = true) (ws : List Jvm.Cond) (p0 : Int32) (p1 : Int32) (p2 : Int32) (p3 : Int32) (p4 : Int32) (p5 : Int32)  (h0 : Heap) (n0 : Nat) (Z0 : n0 ≤ h0.size) :
    MetFree l x (head1 (Jvm.Cond.code x code maxLocals ret :: ws) room_1) (fun a U => a = #[(.int p0), (.int p1), (.int p2), (.int p3), (.int p4), (.int p5)] ∧ Z.Warmed39 U.vm ∧ U.heap = h0) (fun _ _ _ _ _ => True) (fun _ U o U' => ∃ v L, o = .returned v ∧ Q0 Z p0 p1 p2 p3 p4 p5 h0 n0 v U'.heap L ∧ FrameEnd U o U' L room_1.cells room_1.slots) := by
  refine MetFree.of_bodySF (plainFor_of_name pn_0) hisR ?_
  intro p e s m args below meth c s₁ Bd hml0 hP hK
  obtain ⟨rfl, hZ, hh⟩ := hP
  have hx := Bd.exec
  have hby := Bd.bytes
  have hml : c.maxLocals = 15 := hml0
  have hown : s.vm.findClass "com/example/sequence_set/sequenceset/cli/DecimalParserResetPinLaw" = some m.cls := findClass_of_methodNamed Bd.named
  have hnm := (name_of_methodNamed Bd.named Bd.method).1
  have X0 : Stand p l e room_1 s m #[(.int p0), (.int p1), (.int p2), (.int p3), (.int p4), (.int p5)] below meth c s₁ [] 0 0 := Stand.of_body Bd
  have e0 : s₁.heap = h0 := by rw [← hh, Bd.state]; rfl
  have N0 := Fr.nil n0
  have pre0 : ∀ t, Steps p.tables e below (s₁.setTop (mkF m 0 #[.val (.int p0), .val (.int p1), .val (.int p2), .val (.int p3), .val (.int p4), .val (.int p5), .unset, .unset, .unset, .unset, .unset, .unset, .unset, .unset, .unset] [])) t → Steps p.tables e below (s₁.setTop (entryFrame m #[(.int p0), (.int p1), (.int p2), (.int p3), (.int p4), (.int p5)] maxLocals)) t := fun t k => castTop (ef_0 m p0 p1 p2 p3 p4 p5) k
  obtain ⟨T1, h1, X1, e1, E1, A1, D1, -, st1⟩ := newO X0 hx hZ hown (hw _ (List.mem_of_getElem? (i := 0) rfl)) (hw _ (List.mem_of_getElem? (i := 1) rfl)) (hw _ (List.mem_of_getElem? (i := 2) rfl)) e0 (g := (mkF m 0 #[.val (.int p0), .val (.int p1), .val (.int p2), .val (.int p3), .val (.int p4), .val (.int p5), .unset, .unset, .unset, .unset, .unset, .unset, .unset, .unset, .unset] [])) rfl (hb hby at_0) (by decide) (by decide)
  obtain ⟨b1, g1⟩ : ∃ z, z = h0.size := ⟨_, rfl⟩
  rw [← g1] at A1 D1 st1
  have g_b1 : n0 ≤ b1 := Nat.le_trans Z0 (Nat.le_of_eq g1.symm)
  have sz_b1 : h0.size ≤ b1 := Nat.le_trans (Keep.refl h0 []).1 (Nat.le_of_eq g1.symm)
  have F1_wellFormed : Fld Z h1 b1 "com/example/sequence_set/sequenceset/cli/DecimalParser" "wellFormed" "Z" (.int (0 : Int32)) := D1 (Or.inl (hw _ (List.mem_of_getElem? (i := 10) rfl))) (ty := .boolean) (by decide)
  have F1_inRange : Fld Z h1 b1 "com/example/sequence_set/sequenceset/cli/DecimalParser" "inRange" "Z" (.int (0 : Int32)) := D1 (Or.inl (hw _ (List.mem_of_getElem? (i := 12) rfl))) (ty := .boolean) (by decide)
  have F1_characters : Fld Z h1 b1 "com/example/sequence_set/sequenceset/cli/DecimalParser" "characters" "I" (.int (0 : Int32)) := D1 (Or.inl (hw _ (List.mem_of_getElem? (i := 19) rfl))) (ty := .int) (by decide)
  have F1_negated : Fld Z h1 b1 "com/example/sequence_set/sequenceset/cli/DecimalParser" "negated" "J" (.long (0 : Int64)) := D1 (Or.inl (hw _ (List.mem_of_getElem? (i := 26) rfl))) (ty := .long) (by decide)
  have F1_negative : Fld Z h1 b1 "com/example/sequence_set/sequenceset/cli/DecimalParser" "negative" "Z" (.int (0 : Int32)) := D1 (Or.inl (hw _ (List.mem_of_getElem? (i := 28) rfl))) (ty := .boolean) (by decide)
  have F1_digits : Fld Z h1 b1 "com/example/sequence_set/sequenceset/cli/DecimalParser" "digits" "I" (.int (0 : Int32)) := D1 (Or.inl (hw _ (List.mem_of_getElem? (i := 30) rfl))) (ty := .int) (by decide)
  have c2 : ∀ t, Steps p.tables e below (T1.setTop (mkF m 4 #[.val (.int p0), .val (.int p1), .val (.int p2), .val (.int p3), .val (.int p4), .val (.int p5), .unset, .unset, .unset, .unset, .unset, .unset, .unset, .unset, .unset] [(.ref b1), (.ref b1)])) t → Steps p.tables e below (T1.setTop (mkF m 3 #[.val (.int p0), .val (.int p1), .val (.int p2), .val (.int p3), .val (.int p4), .val (.int p5), .unset, .unset, .unset, .unset, .unset, .unset, .unset, .unset, .unset] [(.ref b1)])) t := by
    intro t kt
    show Steps p.tables e below (T1.setTop (mkF m 3 #[.val (.int p0), .val (.int p1), .val (.int p2), .val (.int p3), .val (.int p4), .val (.int p5), .unset, .unset, .unset, .unset, .unset, .unset, .unset, .unset, .unset] [(.ref b1)])) _
    refine XS.dup X1.here hx rfl (hb hby at_3) rfl rfl ?_
    exact kt
  have f3 := (Nat.le_trans Z0 E1.1)
  obtain ⟨_, _, ⟨T4, L4, k4, n4⟩, -, X4, ⟨Lc4, hQ4, l4, y4, z4⟩, st4⟩ := X1.specialBack hx (y := (⟨"com/example/sequence_set/sequenceset/cli/DecimalParser", "<init>", "()V"⟩ : MethodName)) rfl hown (mvT hZ (hw _ (List.mem_of_getElem? (i := 3) rfl))) (mvT hZ (hw _ (List.mem_of_getElem? (i := 4) rfl))) (mvT hZ (hw _ (List.mem_of_getElem? (i := 5) rfl))) (by decide) (backOf (W := 1) (rm1 l Z a0 hw [] b1  h1 n0 f3 F1_negated F1_negative F1_characters F1_digits F1_wellFormed F1_inRange A1 g_b1) hZ (hw _ (List.mem_of_getElem? (i := 5) rfl)) (hw _ (List.mem_of_getElem? (i := 2) rfl)) (by decide) (by decide)) (g := (mkF m 4 #[.val (.int p0), .val (.int p1), .val (.int p2), .val (.int p3), .val (.int p4), .val (.int p5), .unset, .unset, .unset, .unset, .unset, .unset, .unset, .unset, .unset] [(.ref b1), (.ref b1)])) rfl (by rw [hml]; rfl) (Steps.refl _) (a := b1) (argsL := []) (rest := [(.ref b1)]) (lenOf pd_0 rfl) rfl (by show 2 * 0 + _ ≤ _; exact Nat.le_of_eq rfl) (hb hby at_4) (fun _ _ => ⟨rfl, e1, (by decide : 1 + 0 ≤ _), (by decide : 6 + 0 ≤ _)⟩)
  dsimp only [Pt.U, Pt.locs, Pt.cells, Pt.slots] at X4 l4 y4 z4 st4 hQ4
  subst l4 y4 z4
  obtain ⟨rfl, N4q, Kq4, Eq4, Fq4_0, Fq4_1, Fq4_2, Fq4_3, Fq4_4, Fq4_5⟩ := hQ4
  have N4 := Fr.app N0 N4q
  have c5 : ∀ t, Steps p.tables e below (T4.setTop (mkF m 12 #[.val (.int p0), .val (.int p1), .val (.int p2), .val (.int p3), .val (.int p4), .val (.int p5), .val (.ref b1), .unset, .unset, .unset, .unset, .unset, .unset, .unset, .unset] [(.int p0), (.ref b1)])) t → Steps p.tables e below (T4.setTop (mkF m 7 #[.val (.int p0), .val (.int p1), .val (.int p2), .val (.int p3), .val (.int p4), .val (.int p5), .unset, .unset, .unset, .unset, .unset, .unset, .unset, .unset, .unset] [(.ref b1)])) t := by
    intro t kt
    show Steps p.tables e below (T4.setTop (mkF m 7 #[.val (.int p0), .val (.int p1), .val (.int p2), .val (.int p3), .val (.int p4), .val (.int p5), .unset, .unset, .unset, .unset, .unset, .unset, .unset, .unset, .unset] [(.ref b1)])) _
    refine XS.astore X4.here hx rfl (hb hby at_7) rfl rfl (l' := #[.val (.int p0), .val (.int p1), .val (.int p2), .val (.int p3), .val (.int p4), .val (.int p5), .val (.ref b1), .unset, .unset, .unset, .unset, .unset, .unset, .unset, .unset]) rfl ?_
    show Steps p.tables e below (T4.setTop (mkF m 9 #[.val (.int p0), .val (.int p1), .val (.int p2), .val (.int p3), .val (.int p4), .val (.int p5), .val (.ref b1), .unset, .unset, .unset, .unset, .unset, .unset, .unset, .unset] [])) _
    refine XS.aload X4.here hx rfl (hb hby at_9) rfl rfl ?_
    show Steps p.tables e below (T4.setTop (mkF m 11 #[.val (.int p0), .val (.int p1), .val (.int p2), .val (.int p3), .val (.int p4), .val (.int p5), .val (.ref b1), .unset, .unset, .unset, .unset, .unset, .unset, .unset, .unset] [(.ref b1)])) _
    refine XS.iloadN X4.here hx rfl (hb hby at_11) rfl ?_
    exact kt
  have f6 := (Nat.le_trans f3 Kq4.1)
  obtain ⟨cq7, kq7, q7a, q7b, q7c⟩ := isOf hZ rfl Eq4
  obtain ⟨_, _, ⟨T8, L8, k8, n8⟩, -, X8, ⟨Lc8, hQ8, l8, y8, z8⟩, st8⟩ := X4.virtualBack hx (y := (⟨"com/example/sequence_set/sequenceset/cli/DecimalParser", "accept", "(I)V"⟩ : MethodName)) (z := (⟨"com/example/sequence_set/sequenceset/cli/DecimalParser", "accept", "(I)V"⟩ : MethodName)) hown (mvT hZ (hw _ (List.mem_of_getElem? (i := 13) rfl))) (mvT hZ (hw _ (List.mem_of_getElem? (i := 14) rfl))) (notFace_of_selects (args := #[]) (mvT hZ (hw _ (List.mem_of_getElem? (i := 16) rfl)))) (mvT hZ (hw _ (List.mem_of_getElem? (i := 16) rfl))) (mvT hZ (hw _ (List.mem_of_getElem? (i := 15) rfl))) (by decide) (backOf (W := 0) (rm3 l Z a0 hw [] b1 p0 (0 : Int64) (0 : Int32) (0 : Int32) (0 : Int32) (1 : Int32) (1 : Int32) T4.heap n0 f6 Fq4_0 Fq4_1 Fq4_2 Fq4_3 Fq4_4 Fq4_5 Eq4 g_b1) hZ (hw _ (List.mem_of_getElem? (i := 17) rfl)) (hw _ (List.mem_of_getElem? (i := 2) rfl)) (by decide) (by decide)) q7a q7c (g := (mkF m 12 #[.val (.int p0), .val (.int p1), .val (.int p2), .val (.int p3), .val (.int p4), .val (.int p5), .val (.ref b1), .unset, .unset, .unset, .unset, .unset, .unset, .unset, .unset] [(.int p0), (.ref b1)])) rfl (by rw [hml]; rfl) (Steps.refl _) (argsL := [(.int p0)]) (rest := []) (lenOf pd_1 rfl) rfl (by show 2 * 0 + _ ≤ _; exact Nat.le_of_eq rfl) (hb hby at_12) (fun _ _ => ⟨rfl, rfl, (by decide : 1 + 0 ≤ _), (by decide : 6 + 0 ≤ _)⟩)
  dsimp only [Pt.U, Pt.locs, Pt.cells, Pt.slots] at X8 l8 y8 z8 st8 hQ8
  subst l8 y8 z8
  obtain ⟨ng8, ne8, ch8, dg8, wf8, ir8, hQ8⟩ := hQ8
  obtain ⟨rfl, N8q, Kq8, Eq8, Fq8_0, Fq8_1, Fq8_2, Fq8_3, Fq8_4, Fq8_5⟩ := hQ8
  have N8 := Fr.app N4 N8q
  have c9 : ∀ t, Steps p.tables e below (T8.setTop (mkF m 18 #[.val (.int p0), .val (.int p1), .val (.int p2), .val (.int p3), .val (.int p4), .val (.int p5), .val (.ref b1), .unset, .unset, .unset, .unset, .unset, .unset, .unset, .unset] [(.int p1), (.ref b1)])) t → Steps p.tables e below (T8.setTop (mkF m 15 #[.val (.int p0), .val (.int p1), .val (.int p2), .val (.int p3), .val (.int p4), .val (.int p5), .val (.ref b1), .unset, .unset, .unset, .unset, .unset, .unset, .unset, .unset] [])) t := by
    intro t kt
    show Steps p.tables e below (T8.setTop (mkF m 15 #[.val (.int p0), .val (.int p1), .val (.int p2), .val (.int p3), .val (.int p4), .val (.int p5), .val (.ref b1), .unset, .unset, .unset, .unset, .unset, .unset, .unset, .unset] [])) _
    refine XS.aload X8.here hx rfl (hb hby at_15) rfl rfl ?_
    show Steps p.tables e below (T8.setTop (mkF m 17 #[.val (.int p0), .val (.int p1), .val (.int p2), .val (.int p3), .val (.int p4), .val (.int p5), .val (.ref b1), .unset, .unset, .unset, .unset, .unset, .unset, .unset, .unset] [(.ref b1)])) _
    refine XS.iloadN X8.here hx rfl (hb hby at_17) rfl ?_
    exact kt
  have f10 := (Nat.le_trans f6 Kq8.1)
  obtain ⟨cq11, kq11, q11a, q11b, q11c⟩ := isOf hZ rfl Eq8
  obtain ⟨_, _, ⟨T12, L12, k12, n12⟩, -, X12, ⟨Lc12, hQ12, l12, y12, z12⟩, st12⟩ := X8.virtualBack hx (y := (⟨"com/example/sequence_set/sequenceset/cli/DecimalParser", "accept", "(I)V"⟩ : MethodName)) (z := (⟨"com/example/sequence_set/sequenceset/cli/DecimalParser", "accept", "(I)V"⟩ : MethodName)) hown (mvT hZ (hw _ (List.mem_of_getElem? (i := 13) rfl))) (mvT hZ (hw _ (List.mem_of_getElem? (i := 14) rfl))) (notFace_of_selects (args := #[]) (mvT hZ (hw _ (List.mem_of_getElem? (i := 16) rfl)))) (mvT hZ (hw _ (List.mem_of_getElem? (i := 16) rfl))) (mvT hZ (hw _ (List.mem_of_getElem? (i := 15) rfl))) (by decide) (backOf (W := 0) (rm3 l Z a0 hw [] b1 p1 ng8 ne8 ch8 dg8 wf8 ir8 T8.heap n0 f10 Fq8_0 Fq8_1 Fq8_2 Fq8_3 Fq8_4 Fq8_5 Eq8 g_b1) hZ (hw _ (List.mem_of_getElem? (i := 17) rfl)) (hw _ (List.mem_of_getElem? (i := 2) rfl)) (by decide) (by decide)) q11a q11c (g := (mkF m 18 #[.val (.int p0), .val (.int p1), .val (.int p2), .val (.int p3), .val (.int p4), .val (.int p5), .val (.ref b1), .unset, .unset, .unset, .unset, .unset, .unset, .unset, .unset] [(.int p1), (.ref b1)])) rfl (by rw [hml]; rfl) (Steps.refl _) (argsL := [(.int p1)]) (rest := []) (lenOf pd_1 rfl) rfl (by show 2 * 0 + _ ≤ _; exact Nat.le_of_eq rfl) (hb hby at_18) (fun _ _ => ⟨rfl, rfl, (by decide : 1 + 0 ≤ _), (by decide : 6 + 0 ≤ _)⟩)
  dsimp only [Pt.U, Pt.locs, Pt.cells, Pt.slots] at X12 l12 y12 z12 st12 hQ12
  subst l12 y12 z12
  obtain ⟨ng12, ne12, ch12, dg12, wf12, ir12, hQ12⟩ := hQ12
  obtain ⟨rfl, N12q, Kq12, Eq12, Fq12_0, Fq12_1, Fq12_2, Fq12_3, Fq12_4, Fq12_5⟩ := hQ12
  have N12 := Fr.app N8 N12q
  have c13 : ∀ t, Steps p.tables e below (T12.setTop (mkF m 24 #[.val (.int p0), .val (.int p1), .val (.int p2), .val (.int p3), .val (.int p4), .val (.int p5), .val (.ref b1), .unset, .unset, .unset, .unset, .unset, .unset, .unset, .unset] [(.int p2), (.ref b1)])) t → Steps p.tables e below (T12.setTop (mkF m 21 #[.val (.int p0), .val (.int p1), .val (.int p2), .val (.int p3), .val (.int p4), .val (.int p5), .val (.ref b1), .unset, .unset, .unset, .unset, .unset, .unset, .unset, .unset] [])) t := by
    intro t kt
    show Steps p.tables e below (T12.setTop (mkF m 21 #[.val (.int p0), .val (.int p1), .val (.int p2), .val (.int p3), .val (.int p4), .val (.int p5), .val (.ref b1), .unset, .unset, .unset, .unset, .unset, .unset, .unset, .unset] [])) _
    refine XS.aload X12.here hx rfl (hb hby at_21) rfl rfl ?_
    show Steps p.tables e below (T12.setTop (mkF m 23 #[.val (.int p0), .val (.int p1), .val (.int p2), .val (.int p3), .val (.int p4), .val (.int p5), .val (.ref b1), .unset, .unset, .unset, .unset, .unset, .unset, .unset, .unset] [(.ref b1)])) _
    refine XS.iloadN X12.here hx rfl (hb hby at_23) rfl ?_
    exact kt
  have f14 := (Nat.le_trans f10 Kq12.1)
  obtain ⟨cq15, kq15, q15a, q15b, q15c⟩ := isOf hZ rfl Eq12
  obtain ⟨_, _, ⟨T16, L16, k16, n16⟩, -, X16, ⟨Lc16, hQ16, l16, y16, z16⟩, st16⟩ := X12.virtualBack hx (y := (⟨"com/example/sequence_set/sequenceset/cli/DecimalParser", "accept", "(I)V"⟩ : MethodName)) (z := (⟨"com/example/sequence_set/sequenceset/cli/DecimalParser", "accept", "(I)V"⟩ : MethodName)) hown (mvT hZ (hw _ (List.mem_of_getElem? (i := 13) rfl))) (mvT hZ (hw _ (List.mem_of_getElem? (i := 14) rfl))) (notFace_of_selects (args := #[]) (mvT hZ (hw _ (List.mem_of_getElem? (i := 16) rfl)))) (mvT hZ (hw _ (List.mem_of_getElem? (i := 16) rfl))) (mvT hZ (hw _ (List.mem_of_getElem? (i := 15) rfl))) (by decide) (backOf (W := 0) (rm3 l Z a0 hw [] b1 p2 ng12 ne12 ch12 dg12 wf12 ir12 T12.heap n0 f14 Fq12_0 Fq12_1 Fq12_2 Fq12_3 Fq12_4 Fq12_5 Eq12 g_b1) hZ (hw _ (List.mem_of_getElem? (i := 17) rfl)) (hw _ (List.mem_of_getElem? (i := 2) rfl)) (by decide) (by decide)) q15a q15c (g := (mkF m 24 #[.val (.int p0), .val (.int p1), .val (.int p2), .val (.int p3), .val (.int p4), .val (.int p5), .val (.ref b1), .unset, .unset, .unset, .unset, .unset, .unset, .unset, .unset] [(.int p2), (.ref b1)])) rfl (by rw [hml]; rfl) (Steps.refl _) (argsL := [(.int p2)]) (rest := []) (lenOf pd_1 rfl) rfl (by show 2 * 0 + _ ≤ _; exact Nat.le_of_eq rfl) (hb hby at_24) (fun _ _ => ⟨rfl, rfl, (by decide : 1 + 0 ≤ _), (by decide : 6 + 0 ≤ _)⟩)
  dsimp only [Pt.U, Pt.locs, Pt.cells, Pt.slots] at X16 l16 y16 z16 st16 hQ16
  subst l16 y16 z16
  obtain ⟨ng16, ne16, ch16, dg16, wf16, ir16, hQ16⟩ := hQ16
  obtain ⟨rfl, N16q, Kq16, Eq16, Fq16_0, Fq16_1, Fq16_2, Fq16_3, Fq16_4, Fq16_5⟩ := hQ16
  have N16 := Fr.app N12 N16q
  have c17 : ∀ t, Steps p.tables e below (T16.setTop (mkF m 29 #[.val (.int p0), .val (.int p1), .val (.int p2), .val (.int p3), .val (.int p4), .val (.int p5), .val (.ref b1), .unset, .unset, .unset, .unset, .unset, .unset, .unset, .unset] [(.ref b1)])) t → Steps p.tables e below (T16.setTop (mkF m 27 #[.val (.int p0), .val (.int p1), .val (.int p2), .val (.int p3), .val (.int p4), .val (.int p5), .val (.ref b1), .unset, .unset, .unset, .unset, .unset, .unset, .unset, .unset] [])) t := by
    intro t kt
    show Steps p.tables e below (T16.setTop (mkF m 27 #[.val (.int p0), .val (.int p1), .val (.int p2), .val (.int p3), .val (.int p4), .val (.int p5), .val (.ref b1), .unset, .unset, .unset, .unset, .unset, .unset, .unset, .unset] [])) _
    refine XS.aload X16.here hx rfl (hb hby at_27) rfl rfl ?_
    exact kt
  have f18 := (Nat.le_trans f14 Kq16.1)
  obtain ⟨cq19, kq19, q19a, q19b, q19c⟩ := isOf hZ rfl Eq16
  obtain ⟨_, _, ⟨T20, L20, k20, n20⟩, -, X20, ⟨Lc20, hQ20, l20, y20, z20⟩, st20⟩ := X16.virtualBack hx (y := (⟨"com/example/sequence_set/sequenceset/cli/DecimalParser", "reset", "()V"⟩ : MethodName)) (z := (⟨"com/example/sequence_set/sequenceset/cli/DecimalParser", "reset", "()V"⟩ : MethodName)) hown (mvT hZ (hw _ (List.mem_of_getElem? (i := 20) rfl))) (mvT hZ (hw _ (List.mem_of_getElem? (i := 21) rfl))) (notFace_of_selects (args := #[]) (mvT hZ (hw _ (List.mem_of_getElem? (i := 23) rfl)))) (mvT hZ (hw _ (List.mem_of_getElem? (i := 23) rfl))) (mvT hZ (hw _ (List.mem_of_getElem? (i := 22) rfl))) (by decide) (backOf (W := 0) (rm4 l Z a0 hw [] b1 ng16 ne16 ch16 dg16 wf16 ir16 T16.heap n0 f18 Fq16_0 Fq16_1 Fq16_2 Fq16_3 Fq16_4 Fq16_5 Eq16 g_b1) hZ (hw _ (List.mem_of_getElem? (i := 24) rfl)) (hw _ (List.mem_of_getElem? (i := 2) rfl)) (by decide) (by decide)) q19a q19c (g := (mkF m 29 #[.val (.int p0), .val (.int p1), .val (.int p2), .val (.int p3), .val (.int p4), .val (.int p5), .val (.ref b1), .unset, .unset, .unset, .unset, .unset, .unset, .unset, .unset] [(.ref b1)])) rfl (by rw [hml]; rfl) (Steps.refl _) (argsL := []) (rest := []) (lenOf pd_0 rfl) rfl (by show 2 * 0 + _ ≤ _; exact Nat.le_of_eq rfl) (hb hby at_29) (fun _ _ => ⟨rfl, rfl, (by decide : 1 + 0 ≤ _), (by decide : 6 + 0 ≤ _)⟩)
  dsimp only [Pt.U, Pt.locs, Pt.cells, Pt.slots] at X20 l20 y20 z20 st20 hQ20
  subst l20 y20 z20
  obtain ⟨rfl, N20q, Kq20, Eq20, Fq20_0, Fq20_1, Fq20_2, Fq20_3, Fq20_4, Fq20_5⟩ := hQ20
  have N20 := Fr.app N16 N20q
  have c21 : ∀ t, Steps p.tables e below (T20.setTop (mkF m 40 #[.val (.int p0), .val (.int p1), .val (.int p2), .val (.int p3), .val (.int p4), .val (.int p5), .val (.ref b1), .val (.int ((p3 &&& (2147483647 : Int32)) % (3 : Int32))), .unset, .unset, .unset, .unset, .unset, .unset, .unset] [])) t → Steps p.tables e below (T20.setTop (mkF m 32 #[.val (.int p0), .val (.int p1), .val (.int p2), .val (.int p3), .val (.int p4), .val (.int p5), .val (.ref b1), .unset, .unset, .unset, .unset, .unset, .unset, .unset, .unset] [])) t := by
    intro t kt
    show Steps p.tables e below (T20.setTop (mkF m 32 #[.val (.int p0), .val (.int p1), .val (.int p2), .val (.int p3), .val (.int p4), .val (.int p5), .val (.ref b1), .unset, .unset, .unset, .unset, .unset, .unset, .unset, .unset] [])) _
    refine XS.iloadN X20.here hx rfl (hb hby at_32) rfl ?_
    show Steps p.tables e below (T20.setTop (mkF m 33 #[.val (.int p0), .val (.int p1), .val (.int p2), .val (.int p3), .val (.int p4), .val (.int p5), .val (.ref b1), .unset, .unset, .unset, .unset, .unset, .unset, .unset, .unset] [(.int p3)])) _
    refine X20.ldcInt hx hown (mvT hZ (hw _ (List.mem_of_getElem? (i := 31) rfl))) (g := (mkF m 33 #[.val (.int p0), .val (.int p1), .val (.int p2), .val (.int p3), .val (.int p4), .val (.int p5), .val (.ref b1), .unset, .unset, .unset, .unset, .unset, .unset, .unset, .unset] [(.int p3)])) rfl (hb hby at_33) _ ?_
    show Steps p.tables e below (T20.setTop (mkF m 35 #[.val (.int p0), .val (.int p1), .val (.int p2), .val (.int p3), .val (.int p4), .val (.int p5), .val (.ref b1), .unset, .unset, .unset, .unset, .unset, .unset, .unset, .unset] [(.int (2147483647 : Int32)), (.int p3)])) _
    refine XS.iand X20.here hx rfl (hb hby at_35) rfl ?_
    show Steps p.tables e below (T20.setTop (mkF m 36 #[.val (.int p0), .val (.int p1), .val (.int p2), .val (.int p3), .val (.int p4), .val (.int p5), .val (.ref b1), .unset, .unset, .unset, .unset, .unset, .unset, .unset, .unset] [(.int (p3 &&& (2147483647 : Int32)))])) _
    refine XS.iconst X20.here hx rfl (hb hby at_36) ?_
    show Steps p.tables e below (T20.setTop (mkF m 37 #[.val (.int p0), .val (.int p1), .val (.int p2), .val (.int p3), .val (.int p4), .val (.int p5), .val (.ref b1), .unset, .unset, .unset, .unset, .unset, .unset, .unset, .unset] [(.int (3 : Int32)), (.int (p3 &&& (2147483647 : Int32)))])) _
    refine iremM X20 hx rfl (hb hby at_37) rfl (by decide) ?_
    show Steps p.tables e below (T20.setTop (mkF m 38 #[.val (.int p0), .val (.int p1), .val (.int p2), .val (.int p3), .val (.int p4), .val (.int p5), .val (.ref b1), .unset, .unset, .unset, .unset, .unset, .unset, .unset, .unset] [(.int ((p3 &&& (2147483647 : Int32)) % (3 : Int32)))])) _
    refine XS.istore X20.here hx rfl (hb hby at_38) rfl (l' := #[.val (.int p0), .val (.int p1), .val (.int p2), .val (.int p3), .val (.int p4), .val (.int p5), .val (.ref b1), .val (.int ((p3 &&& (2147483647 : Int32)) % (3 : Int32))), .unset, .unset, .unset, .unset, .unset, .unset, .unset]) rfl ?_
    exact kt
  rcases own_mod3 p3 with hsg | hsg | hsg
  · skip
    have c22 : ∀ t, Steps p.tables e below (T20.setTop (mkF m 40 #[.val (.int p0), .val (.int p1), .val (.int p2), .val (.int p3), .val (.int p4), .val (.int p5), .val (.ref b1), .val (.int (0 : Int32)), .unset, .unset, .unset, .unset, .unset, .unset, .unset] [])) t → Steps p.tables e below (T20.setTop (mkF m 40 #[.val (.int p0), .val (.int p1), .val (.int p2), .val (.int p3), .val (.int p4), .val (.int p5), .val (.ref b1), .val (.int ((p3 &&& (2147483647 : Int32)) % (3 : Int32))), .unset, .unset, .unset, .unset, .unset, .unset, .unset] [])) t := fun t kt => by rw [hsg]; exact kt
    have c23 : ∀ t, Steps p.tables e below (T20.setTop (mkF m 46 #[.val (.int p0), .val (.int p1), .val (.int p2), .val (.int p3), .val (.int p4), .val (.int p5), .val (.ref b1), .val (.int (0 : Int32)), .unset, .unset, .unset, .unset, .unset, .unset, .unset] [(.int (((p3.toUInt32 >>> ((8 : Int32) &&& 31).toUInt32).toInt32) &&& (1 : Int32)))])) t → Steps p.tables e below (T20.setTop (mkF m 40 #[.val (.int p0), .val (.int p1), .val (.int p2), .val (.int p3), .val (.int p4), .val (.int p5), .val (.ref b1), .val (.int (0 : Int32)), .unset, .unset, .unset, .unset, .unset, .unset, .unset] [])) t := by
      intro t kt
      show Steps p.tables e below (T20.setTop (mkF m 40 #[.val (.int p0), .val (.int p1), .val (.int p2), .val (.int p3), .val (.int p4), .val (.int p5), .val (.ref b1), .val (.int (0 : Int32)), .unset, .unset, .unset, .unset, .unset, .unset, .unset] [])) _
      refine XS.iloadN X20.here hx rfl (hb hby at_40) rfl ?_
      show Steps p.tables e below (T20.setTop (mkF m 41 #[.val (.int p0), .val (.int p1), .val (.int p2), .val (.int p3), .val (.int p4), .val (.int p5), .val (.ref b1), .val (.int (0 : Int32)), .unset, .unset, .unset, .unset, .unset, .unset, .unset] [(.int p3)])) _
      refine XS.bipush X20.here hx rfl (hb hby at_41) ?_
      show Steps p.tables e below (T20.setTop (mkF m 43 #[.val (.int p0), .val (.int p1), .val (.int p2), .val (.int p3), .val (.int p4), .val (.int p5), .val (.ref b1), .val (.int (0 : Int32)), .unset, .unset, .unset, .unset, .unset, .unset, .unset] [(.int (8 : Int32)), (.int p3)])) _
      refine XS.iushr X20.here hx rfl (hb hby at_43) rfl ?_
      show Steps p.tables e below (T20.setTop (mkF m 44 #[.val (.int p0), .val (.int p1), .val (.int p2), .val (.int p3), .val (.int p4), .val (.int p5), .val (.ref b1), .val (.int (0 : Int32)), .unset, .unset, .unset, .unset, .unset, .unset, .unset] [(.int ((p3.toUInt32 >>> ((8 : Int32) &&& 31).toUInt32).toInt32))])) _
      refine XS.iconst X20.here hx rfl (hb hby at_44) ?_
      show Steps p.tables e below (T20.setTop (mkF m 45 #[.val (.int p0), .val (.int p1), .val (.int p2), .val (.int p3), .val (.int p4), .val (.int p5), .val (.ref b1), .val (.int (0 : Int32)), .unset, .unset, .unset, .unset, .unset, .unset, .unset] [(.int (1 : Int32)), (.int ((p3.toUInt32 >>> ((8 : Int32) &&& 31).toUInt32).toInt32))])) _
      refine XS.iand X20.here hx rfl (hb hby at_45) rfl ?_
      exact kt
    by_cases hc46 : (((p3.toUInt32 >>> ((8 : Int32) &&& 31).toUInt32).toInt32) &&& (1 : Int32)) = (0 : Int32)
    · -- it is
      have c24 : ∀ t, Steps p.tables e below (T20.setTop (mkF m 66 #[.val (.int p0), .val (.int p1), .val (.int p2), .val (.int p3), .val (.int p4), .val (.int p5), .val (.ref b1), .val (.int (0 : Int32)), .val (.int (0 : Int32)), .val (.int ((p4 &&& (2147483647 : Int32)) % (10 : Int32))), .unset, .unset, .unset, .unset, .unset] [])) t → Steps p.tables e below (T20.setTop (mkF m 46 #[.val (.int p0), .val (.int p1), .val (.int p2), .val (.int p3), .val (.int p4), .val (.int p5), .val (.ref b1), .val (.int (0 : Int32)), .unset, .unset, .unset, .unset, .unset, .unset, .unset] [(.int (((p3.toUInt32 >>> ((8 : Int32) &&& 31).toUInt32).toInt32) &&& (1 : Int32)))])) t := by
        intro t kt
        show Steps p.tables e below (T20.setTop (mkF m 46 #[.val (.int p0), .val (.int p1), .val (.int p2), .val (.int p3), .val (.int p4), .val (.int p5), .val (.ref b1), .val (.int (0 : Int32)), .unset, .unset, .unset, .unset, .unset, .unset, .unset] [(.int (((p3.toUInt32 >>> ((8 : Int32) &&& 31).toUInt32).toInt32) &&& (1 : Int32)))])) _
        refine XS.ifYes X20.here hx rfl (pc0 := 46) (pc' := 53) rfl (hb hby at_46) rfl ((if0 _ _).trans (teq hc46).1) (by decide) (by decide) ?_
        show Steps p.tables e below (T20.setTop (mkF m 53 #[.val (.int p0), .val (.int p1), .val (.int p2), .val (.int p3), .val (.int p4), .val (.int p5), .val (.ref b1), .val (.int (0 : Int32)), .unset, .unset, .unset, .unset, .unset, .unset, .unset] [])) _
        refine XS.iconst X20.here hx rfl (hb hby at_53) ?_
        show Steps p.tables e below (T20.setTop (mkF m 54 #[.val (.int p0), .val (.int p1), .val (.int p2), .val (.int p3), .val (.int p4), .val (.int p5), .val (.ref b1), .val (.int (0 : Int32)), .unset, .unset, .unset, .unset, .unset, .unset, .unset] [(.int (0 : Int32))])) _
        refine XS.istore X20.here hx rfl (hb hby at_54) rfl (l' := #[.val (.int p0), .val (.int p1), .val (.int p2), .val (.int p3), .val (.int p4), .val (.int p5), .val (.ref b1), .val (.int (0 : Int32)), .val (.int (0 : Int32)), .unset, .unset, .unset, .unset, .unset, .unset]) rfl ?_
        show Steps p.tables e below (T20.setTop (mkF m 56 #[.val (.int p0), .val (.int p1), .val (.int p2), .val (.int p3), .val (.int p4), .val (.int p5), .val (.ref b1), .val (.int (0 : Int32)), .val (.int (0 : Int32)), .unset, .unset, .unset, .unset, .unset, .unset] [])) _
        refine XS.iload X20.here hx rfl (hb hby at_56) rfl ?_
        show Steps p.tables e below (T20.setTop (mkF m 58 #[.val (.int p0), .val (.int p1), .val (.int p2), .val (.int p3), .val (.int p4), .val (.int p5), .val (.ref b1), .val (.int (0 : Int32)), .val (.int (0 : Int32)), .unset, .unset, .unset, .unset, .unset, .unset] [(.int p4)])) _
        refine X20.ldcInt hx hown (mvT hZ (hw _ (List.mem_of_getElem? (i := 31) rfl))) (g := (mkF m 58 #[.val (.int p0), .val (.int p1), .val (.int p2), .val (.int p3), .val (.int p4), .val (.int p5), .val (.ref b1), .val (.int (0 : Int32)), .val (.int (0 : Int32)), .unset, .unset, .unset, .unset, .unset, .unset] [(.int p4)])) rfl (hb hby at_58) _ ?_
        show Steps p.tables e below (T20.setTop (mkF m 60 #[.val (.int p0), .val (.int p1), .val (.int p2), .val (.int p3), .val (.int p4), .val (.int p5), .val (.ref b1), .val (.int (0 : Int32)), .val (.int (0 : Int32)), .unset, .unset, .unset, .unset, .unset, .unset] [(.int (2147483647 : Int32)), (.int p4)])) _
        refine XS.iand X20.here hx rfl (hb hby at_60) rfl ?_
        show Steps p.tables e below (T20.setTop (mkF m 61 #[.val (.int p0), .val (.int p1), .val (.int p2), .val (.int p3), .val (.int p4), .val (.int p5), .val (.ref b1), .val (.int (0 : Int32)), .val (.int (0 : Int32)), .unset, .unset, .unset, .unset, .unset, .unset] [(.int (p4 &&& (2147483647 : Int32)))])) _
        refine XS.bipush X20.here hx rfl (hb hby at_61) ?_
        show Steps p.tables e below (T20.setTop (mkF m 63 #[.val (.int p0), .val (.int p1), .val (.int p2), .val (.int p3), .val (.int p4), .val (.int p5), .val (.ref b1), .val (.int (0 : Int32)), .val (.int (0 : Int32)), .unset, .unset, .unset, .unset, .unset, .unset] [(.int (10 : Int32)), (.int (p4 &&& (2147483647 : Int32)))])) _
        refine iremM X20 hx rfl (hb hby at_63) rfl (by decide) ?_
        show Steps p.tables e below (T20.setTop (mkF m 64 #[.val (.int p0), .val (.int p1), .val (.int p2), .val (.int p3), .val (.int p4), .val (.int p5), .val (.ref b1), .val (.int (0 : Int32)), .val (.int (0 : Int32)), .unset, .unset, .unset, .unset, .unset, .unset] [(.int ((p4 &&& (2147483647 : Int32)) % (10 : Int32)))])) _
        refine XS.istore X20.here hx rfl (hb hby at_64) rfl (l' := #[.val (.int p0), .val (.int p1), .val (.int p2), .val (.int p3), .val (.int p4), .val (.int p5), .val (.ref b1), .val (.int (0 : Int32)), .val (.int (0 : Int32)), .val (.int ((p4 &&& (2147483647 : Int32)) % (10 : Int32))), .unset, .unset, .unset, .unset, .unset]) rfl ?_
        exact kt
      obtain ⟨dn, hdn, hde⟩ := own_ten p4
      have c25 : ∀ t, Steps p.tables e below (T20.setTop (mkF m 66 #[.val (.int p0), .val (.int p1), .val (.int p2), .val (.int p3), .val (.int p4), .val (.int p5), .val (.ref b1), .val (.int (0 : Int32)), .val (.int (0 : Int32)), .val (.int (Int32.ofNat dn)), .unset, .unset, .unset, .unset, .unset] [])) t → Steps p.tables e below (T20.setTop (mkF m 66 #[.val (.int p0), .val (.int p1), .val (.int p2), .val (.int p3), .val (.int p4), .val (.int p5), .val (.ref b1), .val (.int (0 : Int32)), .val (.int (0 : Int32)), .val (.int ((p4 &&& (2147483647 : Int32)) % (10 : Int32))), .unset, .unset, .unset, .unset, .unset] [])) t := fun t kt => by rw [hde]; exact kt
      have c26 : ∀ t, Steps p.tables e below (T20.setTop (mkF m 76 #[.val (.int p0), .val (.int p1), .val (.int p2), .val (.int p3), .val (.int p4), .val (.int p5), .val (.ref b1), .val (.int (0 : Int32)), .val (.int (0 : Int32)), .val (.int (Int32.ofNat dn)), .val (.int ((p5 &&& (2147483647 : Int32)) % (10 : Int32))), .unset, .unset, .unset, .unset] [])) t → Steps p.tables e below (T20.setTop (mkF m 66 #[.val (.int p0), .val (.int p1), .val (.int p2), .val (.int p3), .val (.int p4), .val (.int p5), .val (.ref b1), .val (.int (0 : Int32)), .val (.int (0 : Int32)), .val (.int (Int32.ofNat dn)), .unset, .unset, .unset, .unset, .unset] [])) t := by
        intro t kt
        show Steps p.tables e below (T20.setTop (mkF m 66 #[.val (.int p0), .val (.int p1), .val (.int p2), .val (.int p3), .val (.int p4), .val (.int p5), .val (.ref b1), .val (.int (0 : Int32)), .val (.int (0 : Int32)), .val (.int (Int32.ofNat dn)), .unset, .unset, .unset, .unset, .unset] [])) _
        refine XS.iload X20.here hx rfl (hb hby at_66) rfl ?_
        show Steps p.tables e below (T20.setTop (mkF m 68 #[.val (.int p0), .val (.int p1), .val (.int p2), .val (.int p3), .val (.int p4), .val (.int p5), .val (.ref b1), .val (.int (0 : Int32)), .val (.int (0 : Int32)), .val (.int (Int32.ofNat dn)), .unset, .unset, .unset, .unset, .unset] [(.int p5)])) _
        refine X20.ldcInt hx hown (mvT hZ (hw _ (List.mem_of_getElem? (i := 31) rfl))) (g := (mkF m 68 #[.val (.int p0), .val (.int p1), .val (.int p2), .val (.int p3), .val (.int p4), .val (.int p5), .val (.ref b1), .val (.int (0 : Int32)), .val (.int (0 : Int32)), .val (.int (Int32.ofNat dn)), .unset, .unset, .unset, .unset, .unset] [(.int p5)])) rfl (hb hby at_68) _ ?_
        show Steps p.tables e below (T20.setTop (mkF m 70 #[.val (.int p0), .val (.int p1), .val (.int p2), .val (.int p3), .val (.int p4), .val (.int p5), .val (.ref b1), .val (.int (0 : Int32)), .val (.int (0 : Int32)), .val (.int (Int32.ofNat dn)), .unset, .unset, .unset, .unset, .unset] [(.int (2147483647 : Int32)), (.int p5)])) _
        refine XS.iand X20.here hx rfl (hb hby at_70) rfl ?_
        show Steps p.tables e below (T20.setTop (mkF m 71 #[.val (.int p0), .val (.int p1), .val (.int p2), .val (.int p3), .val (.int p4), .val (.int p5), .val (.ref b1), .val (.int (0 : Int32)), .val (.int (0 : Int32)), .val (.int (Int32.ofNat dn)), .unset, .unset, .unset, .unset, .unset] [(.int (p5 &&& (2147483647 : Int32)))])) _
        refine XS.bipush X20.here hx rfl (hb hby at_71) ?_
        show Steps p.tables e below (T20.setTop (mkF m 73 #[.val (.int p0), .val (.int p1), .val (.int p2), .val (.int p3), .val (.int p4), .val (.int p5), .val (.ref b1), .val (.int (0 : Int32)), .val (.int (0 : Int32)), .val (.int (Int32.ofNat dn)), .unset, .unset, .unset, .unset, .unset] [(.int (10 : Int32)), (.int (p5 &&& (2147483647 : Int32)))])) _
        refine iremM X20 hx rfl (hb hby at_73) rfl (by decide) ?_
        show Steps p.tables e below (T20.setTop (mkF m 74 #[.val (.int p0), .val (.int p1), .val (.int p2), .val (.int p3), .val (.int p4), .val (.int p5), .val (.ref b1), .val (.int (0 : Int32)), .val (.int (0 : Int32)), .val (.int (Int32.ofNat dn)), .unset, .unset, .unset, .unset, .unset] [(.int ((p5 &&& (2147483647 : Int32)) % (10 : Int32)))])) _
        refine XS.istore X20.here hx rfl (hb hby at_74) rfl (l' := #[.val (.int p0), .val (.int p1), .val (.int p2), .val (.int p3), .val (.int p4), .val (.int p5), .val (.ref b1), .val (.int (0 : Int32)), .val (.int (0 : Int32)), .val (.int (Int32.ofNat dn)), .val (.int ((p5 &&& (2147483647 : Int32)) % (10 : Int32))), .unset, .unset, .unset, .unset]) rfl ?_
        exact kt
      obtain ⟨en, hen, hee⟩ := own_ten p5
      have c27 : ∀ t, Steps p.tables e below (T20.setTop (mkF m 76 #[.val (.int p0), .val (.int p1), .val (.int p2), .val (.int p3), .val (.int p4), .val (.int p5), .val (.ref b1), .val (.int (0 : Int32)), .val (.int (0 : Int32)), .val (.int (Int32.ofNat dn)), .val (.int (Int32.ofNat en)), .unset, .unset, .unset, .unset] [])) t → Steps p.tables e below (T20.setTop (mkF m 76 #[.val (.int p0), .val (.int p1), .val (.int p2), .val (.int p3), .val (.int p4), .val (.int p5), .val (.ref b1), .val (.int (0 : Int32)), .val (.int (0 : Int32)), .val (.int (Int32.ofNat dn)), .val (.int ((p5 &&& (2147483647 : Int32)) % (10 : Int32))), .unset, .unset, .unset, .unset] [])) t := fun t kt => by rw [hee]; exact kt
      have c28 : ∀ t, Steps p.tables e below (T20.setTop (mkF m 112 #[.val (.int p0), .val (.int p1), .val (.int p2), .val (.int p3), .val (.int p4), .val (.int p5), .val (.ref b1), .val (.int (0 : Int32)), .val (.int (0 : Int32)), .val (.int (Int32.ofNat dn)), .val (.int (Int32.ofNat en)), .unset, .unset, .unset, .unset] [(.int ((48 : Int32) + (Int32.ofNat dn))), (.ref b1)])) t → Steps p.tables e below (T20.setTop (mkF m 76 #[.val (.int p0), .val (.int p1), .val (.int p2), .val (.int p3), .val (.int p4), .val (.int p5), .val (.ref b1), .val (.int (0 : Int32)), .val (.int (0 : Int32)), .val (.int (Int32.ofNat dn)), .val (.int (Int32.ofNat en)), .unset, .unset, .unset, .unset] [])) t := by
        intro t kt
        show Steps p.tables e below (T20.setTop (mkF m 76 #[.val (.int p0), .val (.int p1), .val (.int p2), .val (.int p3), .val (.int p4), .val (.int p5), .val (.ref b1), .val (.int (0 : Int32)), .val (.int (0 : Int32)), .val (.int (Int32.ofNat dn)), .val (.int (Int32.ofNat en)), .unset, .unset, .unset, .unset] [])) _
        refine XS.iload X20.here hx rfl (hb hby at_76) rfl ?_
        show Steps p.tables e below (T20.setTop (mkF m 78 #[.val (.int p0), .val (.int p1), .val (.int p2), .val (.int p3), .val (.int p4), .val (.int p5), .val (.ref b1), .val (.int (0 : Int32)), .val (.int (0 : Int32)), .val (.int (Int32.ofNat dn)), .val (.int (Int32.ofNat en)), .unset, .unset, .unset, .unset] [(.int (0 : Int32))])) _
        refine XS.iconst X20.here hx rfl (hb hby at_78) ?_
        show Steps p.tables e below (T20.setTop (mkF m 79 #[.val (.int p0), .val (.int p1), .val (.int p2), .val (.int p3), .val (.int p4), .val (.int p5), .val (.ref b1), .val (.int (0 : Int32)), .val (.int (0 : Int32)), .val (.int (Int32.ofNat dn)), .val (.int (Int32.ofNat en)), .unset, .unset, .unset, .unset] [(.int (1 : Int32)), (.int (0 : Int32))])) _
        refine XS.icmpYes X20.here hx rfl (pc0 := 79) (pc' := 92) rfl (hb hby at_79) rfl (feq (by decide : ¬ ((0 : Int32) = (1 : Int32)))).2 (by decide) (by decide) ?_
        show Steps p.tables e below (T20.setTop (mkF m 92 #[.val (.int p0), .val (.int p1), .val (.int p2), .val (.int p3), .val (.int p4), .val (.int p5), .val (.ref b1), .val (.int (0 : Int32)), .val (.int (0 : Int32)), .val (.int (Int32.ofNat dn)), .val (.int (Int32.ofNat en)), .unset, .unset, .unset, .unset] [])) _
        refine XS.iload X20.here hx rfl (hb hby at_92) rfl ?_
        show Steps p.tables e below (T20.setTop (mkF m 94 #[.val (.int p0), .val (.int p1), .val (.int p2), .val (.int p3), .val (.int p4), .val (.int p5), .val (.ref b1), .val (.int (0 : Int32)), .val (.int (0 : Int32)), .val (.int (Int32.ofNat dn)), .val (.int (Int32.ofNat en)), .unset, .unset, .unset, .unset] [(.int (0 : Int32))])) _
        refine XS.iconst X20.here hx rfl (hb hby at_94) ?_
        show Steps p.tables e below (T20.setTop (mkF m 95 #[.val (.int p0), .val (.int p1), .val (.int p2), .val (.int p3), .val (.int p4), .val (.int p5), .val (.ref b1), .val (.int (0 : Int32)), .val (.int (0 : Int32)), .val (.int (Int32.ofNat dn)), .val (.int (Int32.ofNat en)), .unset, .unset, .unset, .unset] [(.int (2 : Int32)), (.int (0 : Int32))])) _
        refine XS.icmpYes X20.here hx rfl (pc0 := 95) (pc' := 105) rfl (hb hby at_95) rfl (feq (by decide : ¬ ((0 : Int32) = (2 : Int32)))).2 (by decide) (by decide) ?_
        show Steps p.tables e below (T20.setTop (mkF m 105 #[.val (.int p0), .val (.int p1), .val (.int p2), .val (.int p3), .val (.int p4), .val (.int p5), .val (.ref b1), .val (.int (0 : Int32)), .val (.int (0 : Int32)), .val (.int (Int32.ofNat dn)), .val (.int (Int32.ofNat en)), .unset, .unset, .unset, .unset] [])) _
        refine XS.aload X20.here hx rfl (hb hby at_105) rfl rfl ?_
        show Steps p.tables e below (T20.setTop (mkF m 107 #[.val (.int p0), .val (.int p1), .val (.int p2), .val (.int p3), .val (.int p4), .val (.int p5), .val (.ref b1), .val (.int (0 : Int32)), .val (.int (0 : Int32)), .val (.int (Int32.ofNat dn)), .val (.int (Int32.ofNat en)), .unset, .unset, .unset, .unset] [(.ref b1)])) _
        refine XS.bipush X20.here hx rfl (hb hby at_107) ?_
        show Steps p.tables e below (T20.setTop (mkF m 109 #[.val (.int p0), .val (.int p1), .val (.int p2), .val (.int p3), .val (.int p4), .val (.int p5), .val (.ref b1), .val (.int (0 : Int32)), .val (.int (0 : Int32)), .val (.int (Int32.ofNat dn)), .val (.int (Int32.ofNat en)), .unset, .unset, .unset, .unset] [(.int (48 : Int32)), (.ref b1)])) _
        refine XS.iload X20.here hx rfl (hb hby at_109) rfl ?_
        show Steps p.tables e below (T20.setTop (mkF m 111 #[.val (.int p0), .val (.int p1), .val (.int p2), .val (.int p3), .val (.int p4), .val (.int p5), .val (.ref b1), .val (.int (0 : Int32)), .val (.int (0 : Int32)), .val (.int (Int32.ofNat dn)), .val (.int (Int32.ofNat en)), .unset, .unset, .unset, .unset] [(.int (Int32.ofNat dn)), (.int (48 : Int32)), (.ref b1)])) _
        refine XS.iadd X20.here hx rfl (hb hby at_111) rfl ?_
        exact kt
      have c29 : ∀ t, Steps p.tables e below (T20.setTop (mkF m 112 #[.val (.int p0), .val (.int p1), .val (.int p2), .val (.int p3), .val (.int p4), .val (.int p5), .val (.ref b1), .val (.int (0 : Int32)), .val (.int (0 : Int32)), .val (.int (Int32.ofNat dn)), .val (.int (Int32.ofNat en)), .unset, .unset, .unset, .unset] [(.int (own_d dn)), (.ref b1)])) t → Steps p.tables e below (T20.setTop (mkF m 112 #[.val (.int p0), .val (.int p1), .val (.int p2), .val (.int p3), .val (.int p4), .val (.int p5), .val (.ref b1), .val (.int (0 : Int32)), .val (.int (0 : Int32)), .val (.int (Int32.ofNat dn)), .val (.int (Int32.ofNat en)), .unset, .unset, .unset, .unset] [(.int ((48 : Int32) + (Int32.ofNat dn))), (.ref b1)])) t := fun t kt => by show Steps p.tables e below (T20.setTop (mkF m 112 #[.val (.int p0), .val (.int p1), .val (.int p2), .val (.int p3), .val (.int p4), .val (.int p5), .val (.ref b1), .val (.int (0 : Int32)), .val (.int (0 : Int32)), .val (.int (Int32.ofNat dn)), .val (.int (Int32.ofNat en)), .unset, .unset, .unset, .unset] [(.int (own_d dn)), (.ref b1)])) t; exact kt
      have f30 := (Nat.le_trans f18 Kq20.1)
      obtain ⟨cq31, kq31, q31a, q31b, q31c⟩ := isOf hZ rfl Eq20
      obtain ⟨_, _, ⟨T32, L32, k32, n32⟩, -, X32, ⟨Lc32, hQ32, l32, y32, z32⟩, st32⟩ := X20.virtualBack hx (y := (⟨"com/example/sequence_set/sequenceset/cli/DecimalParser", "accept", "(I)V"⟩ : MethodName)) (z := (⟨"com/example/sequence_set/sequenceset/cli/DecimalParser", "accept", "(I)V"⟩ : MethodName)) hown (mvT hZ (hw _ (List.mem_of_getElem? (i := 13) rfl))) (mvT hZ (hw _ (List.mem_of_getElem? (i := 14) rfl))) (notFace_of_selects (args := #[]) (mvT hZ (hw _ (List.mem_of_getElem? (i := 16) rfl)))) (mvT hZ (hw _ (List.mem_of_getElem? (i := 16) rfl))) (mvT hZ (hw _ (List.mem_of_getElem? (i := 15) rfl))) (by decide) (backOf (W := 0) (rm3d l Z a0 hw [] b1 (own_d dn) (0 : Int64) (0 : Int32) (0 : Int32) (0 : Int32) T20.heap n0 f30 Fq20_0 Fq20_1 Fq20_2 Fq20_3 Fq20_4 Fq20_5 Eq20 g_b1 (own_dc dn hdn).1 (own_dc dn hdn).2.1 (own_dc dn hdn).2.2.1 (own_dc dn hdn).2.2.2 (own_k1 dn hdn)) hZ (hw _ (List.mem_of_getElem? (i := 17) rfl)) (hw _ (List.mem_of_getElem? (i := 2) rfl)) (by decide) (by decide)) q31a q31c (g := (mkF m 112 #[.val (.int p0), .val (.int p1), .val (.int p2), .val (.int p3), .val (.int p4), .val (.int p5), .val (.ref b1), .val (.int (0 : Int32)), .val (.int (0 : Int32)), .val (.int (Int32.ofNat dn)), .val (.int (Int32.ofNat en)), .unset, .unset, .unset, .unset] [(.int (own_d dn)), (.ref b1)])) rfl (by rw [hml]; rfl) (Steps.refl _) (argsL := [(.int (own_d dn))]) (rest := []) (lenOf pd_1 rfl) rfl (by show 2 * 0 + _ ≤ _; exact Nat.le_of_eq rfl) (hb hby at_112) (fun _ _ => ⟨rfl, rfl, (by decide : 1 + 0 ≤ _), (by decide : 6 + 0 ≤ _)⟩)
      dsimp only [Pt.U, Pt.locs, Pt.cells, Pt.slots] at X32 l32 y32 z32 st32 hQ32
      subst l32 y32 z32
      obtain ⟨rfl, N32q, Kq32, Eq32, Fq32_0, Fq32_1, Fq32_2, Fq32_3, Fq32_4, Fq32_5⟩ := hQ32
      have N32 := Fr.app N20 N32q
      have c33 : ∀ t, Steps p.tables e below (T32.setTop (mkF m 172 #[.val (.int p0), .val (.int p1), .val (.int p2), .val (.int p3), .val (.int p4), .val (.int p5), .val (.ref b1), .val (.int (0 : Int32)), .val (.int (0 : Int32)), .val (.int (Int32.ofNat dn)), .val (.int (Int32.ofNat en)), .val (.long ((Int32.ofNat dn).toInt64)), .second, .val (.long ((Int32.ofNat dn).toInt64)), .second] [(.ref b1)])) t → Steps p.tables e below (T32.setTop (mkF m 115 #[.val (.int p0), .val (.int p1), .val (.int p2), .val (.int p3), .val (.int p4), .val (.int p5), .val (.ref b1), .val (.int (0 : Int32)), .val (.int (0 : Int32)), .val (.int (Int32.ofNat dn)), .val (.int (Int32.ofNat en)), .unset, .unset, .unset, .unset] [])) t := by
        intro t kt
        show Steps p.tables e below (T32.setTop (mkF m 115 #[.val (.int p0), .val (.int p1), .val (.int p2), .val (.int p3), .val (.int p4), .val (.int p5), .val (.ref b1), .val (.int (0 : Int32)), .val (.int (0 : Int32)), .val (.int (Int32.ofNat dn)), .val (.int (Int32.ofNat en)), .unset, .unset, .unset, .unset] [])) _
        refine XS.iload X32.here hx rfl (hb hby at_115) rfl ?_
        show Steps p.tables e below (T32.setTop (mkF m 117 #[.val (.int p0), .val (.int p1), .val (.int p2), .val (.int p3), .val (.int p4), .val (.int p5), .val (.ref b1), .val (.int (0 : Int32)), .val (.int (0 : Int32)), .val (.int (Int32.ofNat dn)), .val (.int (Int32.ofNat en)), .unset, .unset, .unset, .unset] [(.int (0 : Int32))])) _
        refine XS.ifYes X32.here hx rfl (pc0 := 117) (pc' := 130) rfl (hb hby at_117) rfl ((if0 _ _).trans (teq (by decide : (0 : Int32) = (0 : Int32))).1) (by decide) (by decide) ?_
        show Steps p.tables e below (T32.setTop (mkF m 130 #[.val (.int p0), .val (.int p1), .val (.int p2), .val (.int p3), .val (.int p4), .val (.int p5), .val (.ref b1), .val (.int (0 : Int32)), .val (.int (0 : Int32)), .val (.int (Int32.ofNat dn)), .val (.int (Int32.ofNat en)), .unset, .unset, .unset, .unset] [])) _
        refine XS.iload X32.here hx rfl (hb hby at_130) rfl ?_
        show Steps p.tables e below (T32.setTop (mkF m 132 #[.val (.int p0), .val (.int p1), .val (.int p2), .val (.int p3), .val (.int p4), .val (.int p5), .val (.ref b1), .val (.int (0 : Int32)), .val (.int (0 : Int32)), .val (.int (Int32.ofNat dn)), .val (.int (Int32.ofNat en)), .unset, .unset, .unset, .unset] [(.int (0 : Int32))])) _
        refine XS.ifYes X32.here hx rfl (pc0 := 132) (pc' := 149) rfl (hb hby at_132) rfl ((if0 _ _).trans (teq (by decide : (0 : Int32) = (0 : Int32))).1) (by decide) (by decide) ?_
        show Steps p.tables e below (T32.setTop (mkF m 149 #[.val (.int p0), .val (.int p1), .val (.int p2), .val (.int p3), .val (.int p4), .val (.int p5), .val (.ref b1), .val (.int (0 : Int32)), .val (.int (0 : Int32)), .val (.int (Int32.ofNat dn)), .val (.int (Int32.ofNat en)), .unset, .unset, .unset, .unset] [])) _
        refine XS.iload X32.here hx rfl (hb hby at_149) rfl ?_
        show Steps p.tables e below (T32.setTop (mkF m 151 #[.val (.int p0), .val (.int p1), .val (.int p2), .val (.int p3), .val (.int p4), .val (.int p5), .val (.ref b1), .val (.int (0 : Int32)), .val (.int (0 : Int32)), .val (.int (Int32.ofNat dn)), .val (.int (Int32.ofNat en)), .unset, .unset, .unset, .unset] [(.int (Int32.ofNat dn))])) _
        refine XS.i2l X32.here hx rfl (hb hby at_151) rfl ?_
        show Steps p.tables e below (T32.setTop (mkF m 152 #[.val (.int p0), .val (.int p1), .val (.int p2), .val (.int p3), .val (.int p4), .val (.int p5), .val (.ref b1), .val (.int (0 : Int32)), .val (.int (0 : Int32)), .val (.int (Int32.ofNat dn)), .val (.int (Int32.ofNat en)), .unset, .unset, .unset, .unset] [(.long ((Int32.ofNat dn).toInt64))])) _
        refine XS.lstore X32.here hx rfl (hb hby at_152) rfl (l' := #[.val (.int p0), .val (.int p1), .val (.int p2), .val (.int p3), .val (.int p4), .val (.int p5), .val (.ref b1), .val (.int (0 : Int32)), .val (.int (0 : Int32)), .val (.int (Int32.ofNat dn)), .val (.int (Int32.ofNat en)), .val (.long ((Int32.ofNat dn).toInt64)), .second, .unset, .unset]) rfl ?_
        show Steps p.tables e below (T32.setTop (mkF m 154 #[.val (.int p0), .val (.int p1), .val (.int p2), .val (.int p3), .val (.int p4), .val (.int p5), .val (.ref b1), .val (.int (0 : Int32)), .val (.int (0 : Int32)), .val (.int (Int32.ofNat dn)), .val (.int (Int32.ofNat en)), .val (.long ((Int32.ofNat dn).toInt64)), .second, .unset, .unset] [])) _
        refine XS.iload X32.here hx rfl (hb hby at_154) rfl ?_
        show Steps p.tables e below (T32.setTop (mkF m 156 #[.val (.int p0), .val (.int p1), .val (.int p2), .val (.int p3), .val (.int p4), .val (.int p5), .val (.ref b1), .val (.int (0 : Int32)), .val (.int (0 : Int32)), .val (.int (Int32.ofNat dn)), .val (.int (Int32.ofNat en)), .val (.long ((Int32.ofNat dn).toInt64)), .second, .unset, .unset] [(.int (0 : Int32))])) _
        refine XS.iconst X32.here hx rfl (hb hby at_156) ?_
        show Steps p.tables e below (T32.setTop (mkF m 157 #[.val (.int p0), .val (.int p1), .val (.int p2), .val (.int p3), .val (.int p4), .val (.int p5), .val (.ref b1), .val (.int (0 : Int32)), .val (.int (0 : Int32)), .val (.int (Int32.ofNat dn)), .val (.int (Int32.ofNat en)), .val (.long ((Int32.ofNat dn).toInt64)), .second, .unset, .unset] [(.int (1 : Int32)), (.int (0 : Int32))])) _
        refine XS.icmpYes X32.here hx rfl (pc0 := 157) (pc' := 166) rfl (hb hby at_157) rfl (feq (by decide : ¬ ((0 : Int32) = (1 : Int32)))).2 (by decide) (by decide) ?_
        show Steps p.tables e below (T32.setTop (mkF m 166 #[.val (.int p0), .val (.int p1), .val (.int p2), .val (.int p3), .val (.int p4), .val (.int p5), .val (.ref b1), .val (.int (0 : Int32)), .val (.int (0 : Int32)), .val (.int (Int32.ofNat dn)), .val (.int (Int32.ofNat en)), .val (.long ((Int32.ofNat dn).toInt64)), .second, .unset, .unset] [])) _
        refine XS.lload X32.here hx rfl (hb hby at_166) rfl ?_
        show Steps p.tables e below (T32.setTop (mkF m 168 #[.val (.int p0), .val (.int p1), .val (.int p2), .val (.int p3), .val (.int p4), .val (.int p5), .val (.ref b1), .val (.int (0 : Int32)), .val (.int (0 : Int32)), .val (.int (Int32.ofNat dn)), .val (.int (Int32.ofNat en)), .val (.long ((Int32.ofNat dn).toInt64)), .second, .unset, .unset] [(.long ((Int32.ofNat dn).toInt64))])) _
        refine XS.lstore X32.here hx rfl (hb hby at_168) rfl (l' := #[.val (.int p0), .val (.int p1), .val (.int p2), .val (.int p3), .val (.int p4), .val (.int p5), .val (.ref b1), .val (.int (0 : Int32)), .val (.int (0 : Int32)), .val (.int (Int32.ofNat dn)), .val (.int (Int32.ofNat en)), .val (.long ((Int32.ofNat dn).toInt64)), .second, .val (.long ((Int32.ofNat dn).toInt64)), .second]) rfl ?_
        show Steps p.tables e below (T32.setTop (mkF m 170 #[.val (.int p0), .val (.int p1), .val (.int p2), .val (.int p3), .val (.int p4), .val (.int p5), .val (.ref b1), .val (.int (0 : Int32)), .val (.int (0 : Int32)), .val (.int (Int32.ofNat dn)), .val (.int (Int32.ofNat en)), .val (.long ((Int32.ofNat dn).toInt64)), .second, .val (.long ((Int32.ofNat dn).toInt64)), .second] [])) _
        refine XS.aload X32.here hx rfl (hb hby at_170) rfl rfl ?_
        exact kt
      have f34 := (Nat.le_trans f30 Kq32.1)
      obtain ⟨cq35, kq35, q35a, q35b, q35c⟩ := isOf hZ rfl Eq32
      obtain ⟨_, _, ⟨T36, L36, k36, n36⟩, -, X36, ⟨Lc36, hQ36, l36, y36, z36⟩, st36⟩ := X32.virtualBack hx (y := (⟨"com/example/sequence_set/sequenceset/cli/DecimalParser", "value", "()J"⟩ : MethodName)) (z := (⟨"com/example/sequence_set/sequenceset/cli/DecimalParser", "value", "()J"⟩ : MethodName)) hown (mvT hZ (hw _ (List.mem_of_getElem? (i := 34) rfl))) (mvT hZ (hw _ (List.mem_of_getElem? (i := 35) rfl))) (notFace_of_selects (args := #[]) (mvT hZ (hw _ (List.mem_of_getElem? (i := 37) rfl)))) (mvT hZ (hw _ (List.mem_of_getElem? (i := 37) rfl))) (mvT hZ (hw _ (List.mem_of_getElem? (i := 36) rfl))) (by decide) (backOf (W := 0) (rm5_0 l Z a0 hw [] b1 (own_ng (0 : Int64) (own_d dn)) ((0 : Int32) + (1 : Int32)) ((0 : Int32) + (1 : Int32)) T32.heap n0 f34 Fq32_0 Fq32_1 Fq32_2 Fq32_3 Fq32_4 Fq32_5 Eq32 g_b1 (by decide) (own_v1 dn hdn).1) hZ (hw _ (List.mem_of_getElem? (i := 38) rfl)) (hw _ (List.mem_of_getElem? (i := 2) rfl)) (by decide) (by decide)) q35a q35c (g := (mkF m 172 #[.val (.int p0), .val (.int p1), .val (.int p2), .val (.int p3), .val (.int p4), .val (.int p5), .val (.ref b1), .val (.int (0 : Int32)), .val (.int (0 : Int32)), .val (.int (Int32.ofNat dn)), .val (.int (Int32.ofNat en)), .val (.long ((Int32.ofNat dn).toInt64)), .second, .val (.long ((Int32.ofNat dn).toInt64)), .second] [(.ref b1)])) rfl (by rw [hml]; rfl) (Steps.refl _) (argsL := []) (rest := []) (lenOf pd_2 rfl) rfl (by show 2 * 0 + _ ≤ _; exact Nat.le_of_eq rfl) (hb hby at_172) (fun _ _ => ⟨rfl, rfl, (by decide : 1 + 0 ≤ _), (by decide : 6 + 0 ≤ _)⟩)
      dsimp only [Pt.U, Pt.locs, Pt.cells, Pt.slots] at X36 l36 y36 z36 st36 hQ36
      subst l36 y36 z36
      obtain ⟨rfl, N36q, e36⟩ := hQ36
      have N36 := Fr.app N32 N36q
      have c38 : ∀ t, Steps p.tables e below (T36.setTop (mkF m 178 #[.val (.int p0), .val (.int p1), .val (.int p2), .val (.int p3), .val (.int p4), .val (.int p5), .val (.ref b1), .val (.int (0 : Int32)), .val (.int (0 : Int32)), .val (.int (Int32.ofNat dn)), .val (.int (Int32.ofNat en)), .val (.long ((Int32.ofNat dn).toInt64)), .second, .val (.long ((Int32.ofNat dn).toInt64)), .second] [(.int (lcmpW (-(own_ng (0 : Int64) (own_d dn))) ((Int32.ofNat dn).toInt64)))])) t → Steps p.tables e below (T36.setTop (mkF m 175 #[.val (.int p0), .val (.int p1), .val (.int p2), .val (.int p3), .val (.int p4), .val (.int p5), .val (.ref b1), .val (.int (0 : Int32)), .val (.int (0 : Int32)), .val (.int (Int32.ofNat dn)), .val (.int (Int32.ofNat en)), .val (.long ((Int32.ofNat dn).toInt64)), .second, .val (.long ((Int32.ofNat dn).toInt64)), .second] [(.long (-(own_ng (0 : Int64) (own_d dn))))])) t := by
        intro t kt
        show Steps p.tables e below (T36.setTop (mkF m 175 #[.val (.int p0), .val (.int p1), .val (.int p2), .val (.int p3), .val (.int p4), .val (.int p5), .val (.ref b1), .val (.int (0 : Int32)), .val (.int (0 : Int32)), .val (.int (Int32.ofNat dn)), .val (.int (Int32.ofNat en)), .val (.long ((Int32.ofNat dn).toInt64)), .second, .val (.long ((Int32.ofNat dn).toInt64)), .second] [(.long (-(own_ng (0 : Int64) (own_d dn))))])) _
        refine XS.lload X36.here hx rfl (hb hby at_175) rfl ?_
        show Steps p.tables e below (T36.setTop (mkF m 177 #[.val (.int p0), .val (.int p1), .val (.int p2), .val (.int p3), .val (.int p4), .val (.int p5), .val (.ref b1), .val (.int (0 : Int32)), .val (.int (0 : Int32)), .val (.int (Int32.ofNat dn)), .val (.int (Int32.ofNat en)), .val (.long ((Int32.ofNat dn).toInt64)), .second, .val (.long ((Int32.ofNat dn).toInt64)), .second] [(.long ((Int32.ofNat dn).toInt64)), (.long (-(own_ng (0 : Int64) (own_d dn))))])) _
        refine XS.lcmp X36.here hx rfl (hb hby at_177) rfl ?_
        exact kt
      have hd37 : (-(own_ng (0 : Int64) (own_d dn))) = ((Int32.ofNat dn).toInt64) := (own_v1 dn hdn).2.2
      have c39 : ∀ t, Steps p.tables e below (T36.setTop (mkF m 186 #[.val (.int p0), .val (.int p1), .val (.int p2), .val (.int p3), .val (.int p4), .val (.int p5), .val (.ref b1), .val (.int (0 : Int32)), .val (.int (0 : Int32)), .val (.int (Int32.ofNat dn)), .val (.int (Int32.ofNat en)), .val (.long ((Int32.ofNat dn).toInt64)), .second, .val (.long ((Int32.ofNat dn).toInt64)), .second] [(.int (1 : Int32))])) t → Steps p.tables e below (T36.setTop (mkF m 178 #[.val (.int p0), .val (.int p1), .val (.int p2), .val (.int p3), .val (.int p4), .val (.int p5), .val (.ref b1), .val (.int (0 : Int32)), .val (.int (0 : Int32)), .val (.int (Int32.ofNat dn)), .val (.int (Int32.ofNat en)), .val (.long ((Int32.ofNat dn).toInt64)), .second, .val (.long ((Int32.ofNat dn).toInt64)), .second] [(.int (lcmpW (-(own_ng (0 : Int64) (own_d dn))) ((Int32.ofNat dn).toInt64)))])) t := by
        intro t kt
        show Steps p.tables e below (T36.setTop (mkF m 178 #[.val (.int p0), .val (.int p1), .val (.int p2), .val (.int p3), .val (.int p4), .val (.int p5), .val (.ref b1), .val (.int (0 : Int32)), .val (.int (0 : Int32)), .val (.int (Int32.ofNat dn)), .val (.int (Int32.ofNat en)), .val (.long ((Int32.ofNat dn).toInt64)), .second, .val (.long ((Int32.ofNat dn).toInt64)), .second] [(.int (lcmpW (-(own_ng (0 : Int64) (own_d dn))) ((Int32.ofNat dn).toInt64)))])) _
        refine XS.ifNo X36.here hx rfl (hb hby at_178) rfl ((if0 _ _).trans (teq ((lw_eq _ _).mpr (hd37))).2) ?_
        show Steps p.tables e below (T36.setTop (mkF m 181 #[.val (.int p0), .val (.int p1), .val (.int p2), .val (.int p3), .val (.int p4), .val (.int p5), .val (.ref b1), .val (.int (0 : Int32)), .val (.int (0 : Int32)), .val (.int (Int32.ofNat dn)), .val (.int (Int32.ofNat en)), .val (.long ((Int32.ofNat dn).toInt64)), .second, .val (.long ((Int32.ofNat dn).toInt64)), .second] [])) _
        refine XS.iconst X36.here hx rfl (hb hby at_181) ?_
        show Steps p.tables e below (T36.setTop (mkF m 182 #[.val (.int p0), .val (.int p1), .val (.int p2), .val (.int p3), .val (.int p4), .val (.int p5), .val (.ref b1), .val (.int (0 : Int32)), .val (.int (0 : Int32)), .val (.int (Int32.ofNat dn)), .val (.int (Int32.ofNat en)), .val (.long ((Int32.ofNat dn).toInt64)), .second, .val (.long ((Int32.ofNat dn).toInt64)), .second] [(.int (1 : Int32))])) _
        refine XS.goto X36.here hx rfl (pc0 := 182) (pc' := 186) rfl (hb hby at_182) (by decide) (by decide) ?_
        exact kt
      obtain ⟨fs, hr, hrun, hended, hW, hsame⟩ := X36.leave (v := some (.int (1 : Int32))) (fun h => by rw [Bd.returns] at h; cases h)
      refine ⟨_, _, pre0 _ (st1 _ (c2 _ (st4.trans (c5 _ (st8.trans (c9 _ (st12.trans (c13 _ (st16.trans (c17 _ (st20.trans (c21 _ (c22 _ (c23 _ (c24 _ (c25 _ (c26 _ (c27 _ (c28 _ (c29 _ (st32.trans (c33 _ (st36.trans (c38 _ (c39 _ (?_)))))))))))))))))))))))))), hrun, hended, _, _, rfl, ?_, ⟨_, rfl⟩, hW, hsame.mono (by decide) (by decide)⟩
      · show Steps p.tables e below (T36.setTop (mkF m 186 #[.val (.int p0), .val (.int p1), .val (.int p2), .val (.int p3), .val (.int p4), .val (.int p5), .val (.ref b1), .val (.int (0 : Int32)), .val (.int (0 : Int32)), .val (.int (Int32.ofNat dn)), .val (.int (Int32.ofNat en)), .val (.long ((Int32.ofNat dn).toInt64)), .second, .val (.long ((Int32.ofNat dn).toInt64)), .second] [(.int (1 : Int32))])) _
        exact retN X36 hx (t := .boolean) Bd.returns (by simp) (hb hby at_186) hr
      · show Q0 Z p0 p1 p2 p3 p4 p5 h0 n0 _ T36.heap _
        rw [e36]
        exact ⟨congrArg (fun z => some (Value.int z)) (show (1 : Int32) = (1 : Int32) from by rfl), N36⟩
    · -- it isn't
      have c41 : ∀ t, Steps p.tables e below (T20.setTop (mkF m 66 #[.val (.int p0), .val (.int p1), .val (.int p2), .val (.int p3), .val (.int p4), .val (.int p5), .val (.ref b1), .val (.int (0 : Int32)), .val (.int (1 : Int32)), .val (.int ((p4 &&& (2147483647 : Int32)) % (10 : Int32))), .unset, .unset, .unset, .unset, .unset] [])) t → Steps p.tables e below (T20.setTop (mkF m 46 #[.val (.int p0), .val (.int p1), .val (.int p2), .val (.int p3), .val (.int p4), .val (.int p5), .val (.ref b1), .val (.int (0 : Int32)), .unset, .unset, .unset, .unset, .unset, .unset, .unset] [(.int (((p3.toUInt32 >>> ((8 : Int32) &&& 31).toUInt32).toInt32) &&& (1 : Int32)))])) t := by
        intro t kt
        show Steps p.tables e below (T20.setTop (mkF m 46 #[.val (.int p0), .val (.int p1), .val (.int p2), .val (.int p3), .val (.int p4), .val (.int p5), .val (.ref b1), .val (.int (0 : Int32)), .unset, .unset, .unset, .unset, .unset, .unset, .unset] [(.int (((p3.toUInt32 >>> ((8 : Int32) &&& 31).toUInt32).toInt32) &&& (1 : Int32)))])) _
        refine XS.ifNo X20.here hx rfl (hb hby at_46) rfl ((if0 _ _).trans (feq hc46).1) ?_
        show Steps p.tables e below (T20.setTop (mkF m 49 #[.val (.int p0), .val (.int p1), .val (.int p2), .val (.int p3), .val (.int p4), .val (.int p5), .val (.ref b1), .val (.int (0 : Int32)), .unset, .unset, .unset, .unset, .unset, .unset, .unset] [])) _
        refine XS.iconst X20.here hx rfl (hb hby at_49) ?_
        show Steps p.tables e below (T20.setTop (mkF m 50 #[.val (.int p0), .val (.int p1), .val (.int p2), .val (.int p3), .val (.int p4), .val (.int p5), .val (.ref b1), .val (.int (0 : Int32)), .unset, .unset, .unset, .unset, .unset, .unset, .unset] [(.int (1 : Int32))])) _
        refine XS.goto X20.here hx rfl (pc0 := 50) (pc' := 54) rfl (hb hby at_50) (by decide) (by decide) ?_
        show Steps p.tables e below (T20.setTop (mkF m 54 #[.val (.int p0), .val (.int p1), .val (.int p2), .val (.int p3), .val (.int p4), .val (.int p5), .val (.ref b1), .val (.int (0 : Int32)), .unset, .unset, .unset, .unset, .unset, .unset, .unset] [(.int (1 : Int32))])) _
        refine XS.istore X20.here hx rfl (hb hby at_54) rfl (l' := #[.val (.int p0), .val (.int p1), .val (.int p2), .val (.int p3), .val (.int p4), .val (.int p5), .val (.ref b1), .val (.int (0 : Int32)), .val (.int (1 : Int32)), .unset, .unset, .unset, .unset, .unset, .unset]) rfl ?_
        show Steps p.tables e below (T20.setTop (mkF m 56 #[.val (.int p0), .val (.int p1), .val (.int p2), .val (.int p3), .val (.int p4), .val (.int p5), .val (.ref b1), .val (.int (0 : Int32)), .val (.int (1 : Int32)), .unset, .unset, .unset, .unset, .unset, .unset] [])) _
        refine XS.iload X20.here hx rfl (hb hby at_56) rfl ?_
        show Steps p.tables e below (T20.setTop (mkF m 58 #[.val (.int p0), .val (.int p1), .val (.int p2), .val (.int p3), .val (.int p4), .val (.int p5), .val (.ref b1), .val (.int (0 : Int32)), .val (.int (1 : Int32)), .unset, .unset, .unset, .unset, .unset, .unset] [(.int p4)])) _
        refine X20.ldcInt hx hown (mvT hZ (hw _ (List.mem_of_getElem? (i := 31) rfl))) (g := (mkF m 58 #[.val (.int p0), .val (.int p1), .val (.int p2), .val (.int p3), .val (.int p4), .val (.int p5), .val (.ref b1), .val (.int (0 : Int32)), .val (.int (1 : Int32)), .unset, .unset, .unset, .unset, .unset, .unset] [(.int p4)])) rfl (hb hby at_58) _ ?_
        show Steps p.tables e below (T20.setTop (mkF m 60 #[.val (.int p0), .val (.int p1), .val (.int p2), .val (.int p3), .val (.int p4), .val (.int p5), .val (.ref b1), .val (.int (0 : Int32)), .val (.int (1 : Int32)), .unset, .unset, .unset, .unset, .unset, .unset] [(.int (2147483647 : Int32)), (.int p4)])) _
        refine XS.iand X20.here hx rfl (hb hby at_60) rfl ?_
        show Steps p.tables e below (T20.setTop (mkF m 61 #[.val (.int p0), .val (.int p1), .val (.int p2), .val (.int p3), .val (.int p4), .val (.int p5), .val (.ref b1), .val (.int (0 : Int32)), .val (.int (1 : Int32)), .unset, .unset, .unset, .unset, .unset, .unset] [(.int (p4 &&& (2147483647 : Int32)))])) _
        refine XS.bipush X20.here hx rfl (hb hby at_61) ?_
        show Steps p.tables e below (T20.setTop (mkF m 63 #[.val (.int p0), .val (.int p1), .val (.int p2), .val (.int p3), .val (.int p4), .val (.int p5), .val (.ref b1), .val (.int (0 : Int32)), .val (.int (1 : Int32)), .unset, .unset, .unset, .unset, .unset, .unset] [(.int (10 : Int32)), (.int (p4 &&& (2147483647 : Int32)))])) _
        refine iremM X20 hx rfl (hb hby at_63) rfl (by decide) ?_
        show Steps p.tables e below (T20.setTop (mkF m 64 #[.val (.int p0), .val (.int p1), .val (.int p2), .val (.int p3), .val (.int p4), .val (.int p5), .val (.ref b1), .val (.int (0 : Int32)), .val (.int (1 : Int32)), .unset, .unset, .unset, .unset, .unset, .unset] [(.int ((p4 &&& (2147483647 : Int32)) % (10 : Int32)))])) _
        refine XS.istore X20.here hx rfl (hb hby at_64) rfl (l' := #[.val (.int p0), .val (.int p1), .val (.int p2), .val (.int p3), .val (.int p4), .val (.int p5), .val (.ref b1), .val (.int (0 : Int32)), .val (.int (1 : Int32)), .val (.int ((p4 &&& (2147483647 : Int32)) % (10 : Int32))), .unset, .unset, .unset, .unset, .unset]) rfl ?_
        exact kt
      obtain ⟨dn, hdn, hde⟩ := own_ten p4
      have c42 : ∀ t, Steps p.tables e below (T20.setTop (mkF m 66 #[.val (.int p0), .val (.int p1), .val (.int p2), .val (.int p3), .val (.int p4), .val (.int p5), .val (.ref b1), .val (.int (0 : Int32)), .val (.int (1 : Int32)), .val (.int (Int32.ofNat dn)), .unset, .unset, .unset, .unset, .unset] [])) t → Steps p.tables e below (T20.setTop (mkF m 66 #[.val (.int p0), .val (.int p1), .val (.int p2), .val (.int p3), .val (.int p4), .val (.int p5), .val (.ref b1), .val (.int (0 : Int32)), .val (.int (1 : Int32)), .val (.int ((p4 &&& (2147483647 : Int32)) % (10 : Int32))), .unset, .unset, .unset, .unset, .unset] [])) t := fun t kt => by rw [hde]; exact kt
      have c43 : ∀ t, Steps p.tables e below (T20.setTop (mkF m 76 #[.val (.int p0), .val (.int p1), .val (.int p2), .val (.int p3), .val (.int p4), .val (.int p5), .val (.ref b1), .val (.int (0 : Int32)), .val (.int (1 : Int32)), .val (.int (Int32.ofNat dn)), .val (.int ((p5 &&& (2147483647 : Int32)) % (10 : Int32))), .unset, .unset, .unset, .unset] [])) t → Steps p.tables e below (T20.setTop (mkF m 66 #[.val (.int p0), .val (.int p1), .val (.int p2), .val (.int p3), .val (.int p4), .val (.int p5), .val (.ref b1), .val (.int (0 : Int32)), .val (.int (1 : Int32)), .val (.int (Int32.ofNat dn)), .unset, .unset, .unset, .unset, .unset] [])) t := by
        intro t kt
        show Steps p.tables e below (T20.setTop (mkF m 66 #[.val (.int p0), .val (.int p1), .val (.int p2), .val (.int p3), .val (.int p4), .val (.int p5), .val (.ref b1), .val (.int (0 : Int32)), .val (.int (1 : Int32)), .val (.int (Int32.ofNat dn)), .unset, .unset, .unset, .unset, .unset] [])) _
        refine XS.iload X20.here hx rfl (hb hby at_66) rfl ?_
        show Steps p.tables e below (T20.setTop (mkF m 68 #[.val (.int p0), .val (.int p1), .val (.int p2), .val (.int p3), .val (.int p4), .val (.int p5), .val (.ref b1), .val (.int (0 : Int32)), .val (.int (1 : Int32)), .val (.int (Int32.ofNat dn)), .unset, .unset, .unset, .unset, .unset] [(.int p5)])) _
        refine X20.ldcInt hx hown (mvT hZ (hw _ (List.mem_of_getElem? (i := 31) rfl))) (g := (mkF m 68 #[.val (.int p0), .val (.int p1), .val (.int p2), .val (.int p3), .val (.int p4), .val (.int p5), .val (.ref b1), .val (.int (0 : Int32)), .val (.int (1 : Int32)), .val (.int (Int32.ofNat dn)), .unset, .unset, .unset, .unset, .unset] [(.int p5)])) rfl (hb hby at_68) _ ?_
        show Steps p.tables e below (T20.setTop (mkF m 70 #[.val (.int p0), .val (.int p1), .val (.int p2), .val (.int p3), .val (.int p4), .val (.int p5), .val (.ref b1), .val (.int (0 : Int32)), .val (.int (1 : Int32)), .val (.int (Int32.ofNat dn)), .unset, .unset, .unset, .unset, .unset] [(.int (2147483647 : Int32)), (.int p5)])) _
        refine XS.iand X20.here hx rfl (hb hby at_70) rfl ?_
        show Steps p.tables e below (T20.setTop (mkF m 71 #[.val (.int p0), .val (.int p1), .val (.int p2), .val (.int p3), .val (.int p4), .val (.int p5), .val (.ref b1), .val (.int (0 : Int32)), .val (.int (1 : Int32)), .val (.int (Int32.ofNat dn)), .unset, .unset, .unset, .unset, .unset] [(.int (p5 &&& (2147483647 : Int32)))])) _
        refine XS.bipush X20.here hx rfl (hb hby at_71) ?_
        show Steps p.tables e below (T20.setTop (mkF m 73 #[.val (.int p0), .val (.int p1), .val (.int p2), .val (.int p3), .val (.int p4), .val (.int p5), .val (.ref b1), .val (.int (0 : Int32)), .val (.int (1 : Int32)), .val (.int (Int32.ofNat dn)), .unset, .unset, .unset, .unset, .unset] [(.int (10 : Int32)), (.int (p5 &&& (2147483647 : Int32)))])) _
        refine iremM X20 hx rfl (hb hby at_73) rfl (by decide) ?_
        show Steps p.tables e below (T20.setTop (mkF m 74 #[.val (.int p0), .val (.int p1), .val (.int p2), .val (.int p3), .val (.int p4), .val (.int p5), .val (.ref b1), .val (.int (0 : Int32)), .val (.int (1 : Int32)), .val (.int (Int32.ofNat dn)), .unset, .unset, .unset, .unset, .unset] [(.int ((p5 &&& (2147483647 : Int32)) % (10 : Int32)))])) _
        refine XS.istore X20.here hx rfl (hb hby at_74) rfl (l' := #[.val (.int p0), .val (.int p1), .val (.int p2), .val (.int p3), .val (.int p4), .val (.int p5), .val (.ref b1), .val (.int (0 : Int32)), .val (.int (1 : Int32)), .val (.int (Int32.ofNat dn)), .val (.int ((p5 &&& (2147483647 : Int32)) % (10 : Int32))), .unset, .unset, .unset, .unset]) rfl ?_
        exact kt
      obtain ⟨en, hen, hee⟩ := own_ten p5
      have c44 : ∀ t, Steps p.tables e below (T20.setTop (mkF m 76 #[.val (.int p0), .val (.int p1), .val (.int p2), .val (.int p3), .val (.int p4), .val (.int p5), .val (.ref b1), .val (.int (0 : Int32)), .val (.int (1 : Int32)), .val (.int (Int32.ofNat dn)), .val (.int (Int32.ofNat en)), .unset, .unset, .unset, .unset] [])) t → Steps p.tables e below (T20.setTop (mkF m 76 #[.val (.int p0), .val (.int p1), .val (.int p2), .val (.int p3), .val (.int p4), .val (.int p5), .val (.ref b1), .val (.int (0 : Int32)), .val (.int (1 : Int32)), .val (.int (Int32.ofNat dn)), .val (.int ((p5 &&& (2147483647 : Int32)) % (10 : Int32))), .unset, .unset, .unset, .unset] [])) t := fun t kt => by rw [hee]; exact kt
      have c45 : ∀ t, Steps p.tables e below (T20.setTop (mkF m 112 #[.val (.int p0), .val (.int p1), .val (.int p2), .val (.int p3), .val (.int p4), .val (.int p5), .val (.ref b1), .val (.int (0 : Int32)), .val (.int (1 : Int32)), .val (.int (Int32.ofNat dn)), .val (.int (Int32.ofNat en)), .unset, .unset, .unset, .unset] [(.int ((48 : Int32) + (Int32.ofNat dn))), (.ref b1)])) t → Steps p.tables e below (T20.setTop (mkF m 76 #[.val (.int p0), .val (.int p1), .val (.int p2), .val (.int p3), .val (.int p4), .val (.int p5), .val (.ref b1), .val (.int (0 : Int32)), .val (.int (1 : Int32)), .val (.int (Int32.ofNat dn)), .val (.int (Int32.ofNat en)), .unset, .unset, .unset, .unset] [])) t := by
        intro t kt
        show Steps p.tables e below (T20.setTop (mkF m 76 #[.val (.int p0), .val (.int p1), .val (.int p2), .val (.int p3), .val (.int p4), .val (.int p5), .val (.ref b1), .val (.int (0 : Int32)), .val (.int (1 : Int32)), .val (.int (Int32.ofNat dn)), .val (.int (Int32.ofNat en)), .unset, .unset, .unset, .unset] [])) _
        refine XS.iload X20.here hx rfl (hb hby at_76) rfl ?_
        show Steps p.tables e below (T20.setTop (mkF m 78 #[.val (.int p0), .val (.int p1), .val (.int p2), .val (.int p3), .val (.int p4), .val (.int p5), .val (.ref b1), .val (.int (0 : Int32)), .val (.int (1 : Int32)), .val (.int (Int32.ofNat dn)), .val (.int (Int32.ofNat en)), .unset, .unset, .unset, .unset] [(.int (0 : Int32))])) _
        refine XS.iconst X20.here hx rfl (hb hby at_78) ?_
        show Steps p.tables e below (T20.setTop (mkF m 79 #[.val (.int p0), .val (.int p1), .val (.int p2), .val (.int p3), .val (.int p4), .val (.int p5), .val (.ref b1), .val (.int (0 : Int32)), .val (.int (1 : Int32)), .val (.int (Int32.ofNat dn)), .val (.int (Int32.ofNat en)), .unset, .unset, .unset, .unset] [(.int (1 : Int32)), (.int (0 : Int32))])) _
        refine XS.icmpYes X20.here hx rfl (pc0 := 79) (pc' := 92) rfl (hb hby at_79) rfl (feq (by decide : ¬ ((0 : Int32) = (1 : Int32)))).2 (by decide) (by decide) ?_
        show Steps p.tables e below (T20.setTop (mkF m 92 #[.val (.int p0), .val (.int p1), .val (.int p2), .val (.int p3), .val (.int p4), .val (.int p5), .val (.ref b1), .val (.int (0 : Int32)), .val (.int (1 : Int32)), .val (.int (Int32.ofNat dn)), .val (.int (Int32.ofNat en)), .unset, .unset, .unset, .unset] [])) _
        refine XS.iload X20.here hx rfl (hb hby at_92) rfl ?_
        show Steps p.tables e below (T20.setTop (mkF m 94 #[.val (.int p0), .val (.int p1), .val (.int p2), .val (.int p3), .val (.int p4), .val (.int p5), .val (.ref b1), .val (.int (0 : Int32)), .val (.int (1 : Int32)), .val (.int (Int32.ofNat dn)), .val (.int (Int32.ofNat en)), .unset, .unset, .unset, .unset] [(.int (0 : Int32))])) _
        refine XS.iconst X20.here hx rfl (hb hby at_94) ?_
        show Steps p.tables e below (T20.setTop (mkF m 95 #[.val (.int p0), .val (.int p1), .val (.int p2), .val (.int p3), .val (.int p4), .val (.int p5), .val (.ref b1), .val (.int (0 : Int32)), .val (.int (1 : Int32)), .val (.int (Int32.ofNat dn)), .val (.int (Int32.ofNat en)), .unset, .unset, .unset, .unset] [(.int (2 : Int32)), (.int (0 : Int32))])) _
        refine XS.icmpYes X20.here hx rfl (pc0 := 95) (pc' := 105) rfl (hb hby at_95) rfl (feq (by decide : ¬ ((0 : Int32) = (2 : Int32)))).2 (by decide) (by decide) ?_
        show Steps p.tables e below (T20.setTop (mkF m 105 #[.val (.int p0), .val (.int p1), .val (.int p2), .val (.int p3), .val (.int p4), .val (.int p5), .val (.ref b1), .val (.int (0 : Int32)), .val (.int (1 : Int32)), .val (.int (Int32.ofNat dn)), .val (.int (Int32.ofNat en)), .unset, .unset, .unset, .unset] [])) _
        refine XS.aload X20.here hx rfl (hb hby at_105) rfl rfl ?_
        show Steps p.tables e below (T20.setTop (mkF m 107 #[.val (.int p0), .val (.int p1), .val (.int p2), .val (.int p3), .val (.int p4), .val (.int p5), .val (.ref b1), .val (.int (0 : Int32)), .val (.int (1 : Int32)), .val (.int (Int32.ofNat dn)), .val (.int (Int32.ofNat en)), .unset, .unset, .unset, .unset] [(.ref b1)])) _
        refine XS.bipush X20.here hx rfl (hb hby at_107) ?_
        show Steps p.tables e below (T20.setTop (mkF m 109 #[.val (.int p0), .val (.int p1), .val (.int p2), .val (.int p3), .val (.int p4), .val (.int p5), .val (.ref b1), .val (.int (0 : Int32)), .val (.int (1 : Int32)), .val (.int (Int32.ofNat dn)), .val (.int (Int32.ofNat en)), .unset, .unset, .unset, .unset] [(.int (48 : Int32)), (.ref b1)])) _
        refine XS.iload X20.here hx rfl (hb hby at_109) rfl ?_
        show Steps p.tables e below (T20.setTop (mkF m 111 #[.val (.int p0), .val (.int p1), .val (.int p2), .val (.int p3), .val (.int p4), .val (.int p5), .val (.ref b1), .val (.int (0 : Int32)), .val (.int (1 : Int32)), .val (.int (Int32.ofNat dn)), .val (.int (Int32.ofNat en)), .unset, .unset, .unset, .unset] [(.int (Int32.ofNat dn)), (.int (48 : Int32)), (.ref b1)])) _
        refine XS.iadd X20.here hx rfl (hb hby at_111) rfl ?_
        exact kt
      have c46 : ∀ t, Steps p.tables e below (T20.setTop (mkF m 112 #[.val (.int p0), .val (.int p1), .val (.int p2), .val (.int p3), .val (.int p4), .val (.int p5), .val (.ref b1), .val (.int (0 : Int32)), .val (.int (1 : Int32)), .val (.int (Int32.ofNat dn)), .val (.int (Int32.ofNat en)), .unset, .unset, .unset, .unset] [(.int (own_d dn)), (.ref b1)])) t → Steps p.tables e below (T20.setTop (mkF m 112 #[.val (.int p0), .val (.int p1), .val (.int p2), .val (.int p3), .val (.int p4), .val (.int p5), .val (.ref b1), .val (.int (0 : Int32)), .val (.int (1 : Int32)), .val (.int (Int32.ofNat dn)), .val (.int (Int32.ofNat en)), .unset, .unset, .unset, .unset] [(.int ((48 : Int32) + (Int32.ofNat dn))), (.ref b1)])) t := fun t kt => by show Steps p.tables e below (T20.setTop (mkF m 112 #[.val (.int p0), .val (.int p1), .val (.int p2), .val (.int p3), .val (.int p4), .val (.int p5), .val (.ref b1), .val (.int (0 : Int32)), .val (.int (1 : Int32)), .val (.int (Int32.ofNat dn)), .val (.int (Int32.ofNat en)), .unset, .unset, .unset, .unset] [(.int (own_d dn)), (.ref b1)])) t; exact kt
      have f47 := (Nat.le_trans f18 Kq20.1)
      obtain ⟨cq48, kq48, q48a, q48b, q48c⟩ := isOf hZ rfl Eq20
      obtain ⟨_, _, ⟨T49, L49, k49, n49⟩, -, X49, ⟨Lc49, hQ49, l49, y49, z49⟩, st49⟩ := X20.virtualBack hx (y := (⟨"com/example/sequence_set/sequenceset/cli/DecimalParser", "accept", "(I)V"⟩ : MethodName)) (z := (⟨"com/example/sequence_set/sequenceset/cli/DecimalParser", "accept", "(I)V"⟩ : MethodName)) hown (mvT hZ (hw _ (List.mem_of_getElem? (i := 13) rfl))) (mvT hZ (hw _ (List.mem_of_getElem? (i := 14) rfl))) (notFace_of_selects (args := #[]) (mvT hZ (hw _ (List.mem_of_getElem? (i := 16) rfl)))) (mvT hZ (hw _ (List.mem_of_getElem? (i := 16) rfl))) (mvT hZ (hw _ (List.mem_of_getElem? (i := 15) rfl))) (by decide) (backOf (W := 0) (rm3d l Z a0 hw [] b1 (own_d dn) (0 : Int64) (0 : Int32) (0 : Int32) (0 : Int32) T20.heap n0 f47 Fq20_0 Fq20_1 Fq20_2 Fq20_3 Fq20_4 Fq20_5 Eq20 g_b1 (own_dc dn hdn).1 (own_dc dn hdn).2.1 (own_dc dn hdn).2.2.1 (own_dc dn hdn).2.2.2 (own_k1 dn hdn)) hZ (hw _ (List.mem_of_getElem? (i := 17) rfl)) (hw _ (List.mem_of_getElem? (i := 2) rfl)) (by decide) (by decide)) q48a q48c (g := (mkF m 112 #[.val (.int p0), .val (.int p1), .val (.int p2), .val (.int p3), .val (.int p4), .val (.int p5), .val (.ref b1), .val (.int (0 : Int32)), .val (.int (1 : Int32)), .val (.int (Int32.ofNat dn)), .val (.int (Int32.ofNat en)), .unset, .unset, .unset, .unset] [(.int (own_d dn)), (.ref b1)])) rfl (by rw [hml]; rfl) (Steps.refl _) (argsL := [(.int (own_d dn))]) (rest := []) (lenOf pd_1 rfl) rfl (by show 2 * 0 + _ ≤ _; exact Nat.le_of_eq rfl) (hb hby at_112) (fun _ _ => ⟨rfl, rfl, (by decide : 1 + 0 ≤ _), (by decide : 6 + 0 ≤ _)⟩)
      dsimp only [Pt.U, Pt.locs, Pt.cells, Pt.slots] at X49 l49 y49 z49 st49 hQ49
      subst l49 y49 z49
      obtain ⟨rfl, N49q, Kq49, Eq49, Fq49_0, Fq49_1, Fq49_2, Fq49_3, Fq49_4, Fq49_5⟩ := hQ49
      have N49 := Fr.app N20 N49q
      have c50 : ∀ t, Steps p.tables e below (T49.setTop (mkF m 127 #[.val (.int p0), .val (.int p1), .val (.int p2), .val (.int p3), .val (.int p4), .val (.int p5), .val (.ref b1), .val (.int (0 : Int32)), .val (.int (1 : Int32)), .val (.int (Int32.ofNat dn)), .val (.int (Int32.ofNat en)), .unset, .unset, .unset, .unset] [(.int ((48 : Int32) + (Int32.ofNat en))), (.ref b1)])) t → Steps p.tables e below (T49.setTop (mkF m 115 #[.val (.int p0), .val (.int p1), .val (.int p2), .val (.int p3), .val (.int p4), .val (.int p5), .val (.ref b1), .val (.int (0 : Int32)), .val (.int (1 : Int32)), .val (.int (Int32.ofNat dn)), .val (.int (Int32.ofNat en)), .unset, .unset, .unset, .unset] [])) t := by
        intro t kt
        show Steps p.tables e below (T49.setTop (mkF m 115 #[.val (.int p0), .val (.int p1), .val (.int p2), .val (.int p3), .val (.int p4), .val (.int p5), .val (.ref b1), .val (.int (0 : Int32)), .val (.int (1 : Int32)), .val (.int (Int32.ofNat dn)), .val (.int (Int32.ofNat en)), .unset, .unset, .unset, .unset] [])) _
        refine XS.iload X49.here hx rfl (hb hby at_115) rfl ?_
        show Steps p.tables e below (T49.setTop (mkF m 117 #[.val (.int p0), .val (.int p1), .val (.int p2), .val (.int p3), .val (.int p4), .val (.int p5), .val (.ref b1), .val (.int (0 : Int32)), .val (.int (1 : Int32)), .val (.int (Int32.ofNat dn)), .val (.int (Int32.ofNat en)), .unset, .unset, .unset, .unset] [(.int (1 : Int32))])) _
        refine XS.ifNo X49.here hx rfl (hb hby at_117) rfl ((if0 _ _).trans (feq (by decide : ¬ ((1 : Int32) = (0 : Int32)))).1) ?_
        show Steps p.tables e below (T49.setTop (mkF m 120 #[.val (.int p0), .val (.int p1), .val (.int p2), .val (.int p3), .val (.int p4), .val (.int p5), .val (.ref b1), .val (.int (0 : Int32)), .val (.int (1 : Int32)), .val (.int (Int32.ofNat dn)), .val (.int (Int32.ofNat en)), .unset, .unset, .unset, .unset] [])) _
        refine XS.aload X49.here hx rfl (hb hby at_120) rfl rfl ?_
        show Steps p.tables e below (T49.setTop (mkF m 122 #[.val (.int p0), .val (.int p1), .val (.int p2), .val (.int p3), .val (.int p4), .val (.int p5), .val (.ref b1), .val (.int (0 : Int32)), .val (.int (1 : Int32)), .val (.int (Int32.ofNat dn)), .val (.int (Int32.ofNat en)), .unset, .unset, .unset, .unset] [(.ref b1)])) _
        refine XS.bipush X49.here hx rfl (hb hby at_122) ?_
        show Steps p.tables e below (T49.setTop (mkF m 124 #[.val (.int p0), .val (.int p1), .val (.int p2), .val (.int p3), .val (.int p4), .val (.int p5), .val (.ref b1), .val (.int (0 : Int32)), .val (.int (1 : Int32)), .val (.int (Int32.ofNat dn)), .val (.int (Int32.ofNat en)), .unset, .unset, .unset, .unset] [(.int (48 : Int32)), (.ref b1)])) _
        refine XS.iload X49.here hx rfl (hb hby at_124) rfl ?_
        show Steps p.tables e below (T49.setTop (mkF m 126 #[.val (.int p0), .val (.int p1), .val (.int p2), .val (.int p3), .val (.int p4), .val (.int p5), .val (.ref b1), .val (.int (0 : Int32)), .val (.int (1 : Int32)), .val (.int (Int32.ofNat dn)), .val (.int (Int32.ofNat en)), .unset, .unset, .unset, .unset] [(.int (Int32.ofNat en)), (.int (48 : Int32)), (.ref b1)])) _
        refine XS.iadd X49.here hx rfl (hb hby at_126) rfl ?_
        exact kt
      have c51 : ∀ t, Steps p.tables e below (T49.setTop (mkF m 127 #[.val (.int p0), .val (.int p1), .val (.int p2), .val (.int p3), .val (.int p4), .val (.int p5), .val (.ref b1), .val (.int (0 : Int32)), .val (.int (1 : Int32)), .val (.int (Int32.ofNat dn)), .val (.int (Int32.ofNat en)), .unset, .unset, .unset, .unset] [(.int (own_d en)), (.ref b1)])) t → Steps p.tables e below (T49.setTop (mkF m 127 #[.val (.int p0), .val (.int p1), .val (.int p2), .val (.int p3), .val (.int p4), .val (.int p5), .val (.ref b1), .val (.int (0 : Int32)), .val (.int (1 : Int32)), .val (.int (Int32.ofNat dn)), .val (.int (Int32.ofNat en)), .unset, .unset, .unset, .unset] [(.int ((48 : Int32) + (Int32.ofNat en))), (.ref b1)])) t := fun t kt => by show Steps p.tables e below (T49.setTop (mkF m 127 #[.val (.int p0), .val (.int p1), .val (.int p2), .val (.int p3), .val (.int p4), .val (.int p5), .val (.ref b1), .val (.int (0 : Int32)), .val (.int (1 : Int32)), .val (.int (Int32.ofNat dn)), .val (.int (Int32.ofNat en)), .unset, .unset, .unset, .unset] [(.int (own_d en)), (.ref b1)])) t; exact kt
      have f52 := (Nat.le_trans f47 Kq49.1)
      obtain ⟨cq53, kq53, q53a, q53b, q53c⟩ := isOf hZ rfl Eq49
      obtain ⟨_, _, ⟨T54, L54, k54, n54⟩, -, X54, ⟨Lc54, hQ54, l54, y54, z54⟩, st54⟩ := X49.virtualBack hx (y := (⟨"com/example/sequence_set/sequenceset/cli/DecimalParser", "accept", "(I)V"⟩ : MethodName)) (z := (⟨"com/example/sequence_set/sequenceset/cli/DecimalParser", "accept", "(I)V"⟩ : MethodName)) hown (mvT hZ (hw _ (List.mem_of_getElem? (i := 13) rfl))) (mvT hZ (hw _ (List.mem_of_getElem? (i := 14) rfl))) (notFace_of_selects (args := #[]) (mvT hZ (hw _ (List.mem_of_getElem? (i := 16) rfl)))) (mvT hZ (hw _ (List.mem_of_getElem? (i := 16) rfl))) (mvT hZ (hw _ (List.mem_of_getElem? (i := 15) rfl))) (by decide) (backOf (W := 0) (rm3d l Z a0 hw [] b1 (own_d en) (own_ng (0 : Int64) (own_d dn)) (0 : Int32) ((0 : Int32) + (1 : Int32)) ((0 : Int32) + (1 : Int32)) T49.heap n0 f52 Fq49_0 Fq49_1 Fq49_2 Fq49_3 Fq49_4 Fq49_5 Eq49 g_b1 (own_dc en hen).1 (own_dc en hen).2.1 (own_dc en hen).2.2.1 (own_dc en hen).2.2.2 (own_k2 dn hdn en hen)) hZ (hw _ (List.mem_of_getElem? (i := 17) rfl)) (hw _ (List.mem_of_getElem? (i := 2) rfl)) (by decide) (by decide)) q53a q53c (g := (mkF m 127 #[.val (.int p0), .val (.int p1), .val (.int p2), .val (.int p3), .val (.int p4), .val (.int p5), .val (.ref b1), .val (.int (0 : Int32)), .val (.int (1 : Int32)), .val (.int (Int32.ofNat dn)), .val (.int (Int32.ofNat en)), .unset, .unset, .unset, .unset] [(.int (own_d en)), (.ref b1)])) rfl (by rw [hml]; rfl) (Steps.refl _) (argsL := [(.int (own_d en))]) (rest := []) (lenOf pd_1 rfl) rfl (by show 2 * 0 + _ ≤ _; exact Nat.le_of_eq rfl) (hb hby at_127) (fun _ _ => ⟨rfl, rfl, (by decide : 1 + 0 ≤ _), (by decide : 6 + 0 ≤ _)⟩)
      dsimp only [Pt.U, Pt.locs, Pt.cells, Pt.slots] at X54 l54 y54 z54 st54 hQ54
      subst l54 y54 z54
      obtain ⟨rfl, N54q, Kq54, Eq54, Fq54_0, Fq54_1, Fq54_2, Fq54_3, Fq54_4, Fq54_5⟩ := hQ54
      have N54 := Fr.app N49 N54q
      have c55 : ∀ t, Steps p.tables e below (T54.setTop (mkF m 172 #[.val (.int p0), .val (.int p1), .val (.int p2), .val (.int p3), .val (.int p4), .val (.int p5), .val (.ref b1), .val (.int (0 : Int32)), .val (.int (1 : Int32)), .val (.int (Int32.ofNat dn)), .val (.int (Int32.ofNat en)), .val (.long ((((Int32.ofNat dn).toInt64) * (10 : Int64)) + ((Int32.ofNat en).toInt64))), .second, .val (.long ((((Int32.ofNat dn).toInt64) * (10 : Int64)) + ((Int32.ofNat en).toInt64))), .second] [(.ref b1)])) t → Steps p.tables e below (T54.setTop (mkF m 130 #[.val (.int p0), .val (.int p1), .val (.int p2), .val (.int p3), .val (.int p4), .val (.int p5), .val (.ref b1), .val (.int (0 : Int32)), .val (.int (1 : Int32)), .val (.int (Int32.ofNat dn)), .val (.int (Int32.ofNat en)), .unset, .unset, .unset, .unset] [])) t := by
        intro t kt
        show Steps p.tables e below (T54.setTop (mkF m 130 #[.val (.int p0), .val (.int p1), .val (.int p2), .val (.int p3), .val (.int p4), .val (.int p5), .val (.ref b1), .val (.int (0 : Int32)), .val (.int (1 : Int32)), .val (.int (Int32.ofNat dn)), .val (.int (Int32.ofNat en)), .unset, .unset, .unset, .unset] [])) _
        refine XS.iload X54.here hx rfl (hb hby at_130) rfl ?_
        show Steps p.tables e below (T54.setTop (mkF m 132 #[.val (.int p0), .val (.int p1), .val (.int p2), .val (.int p3), .val (.int p4), .val (.int p5), .val (.ref b1), .val (.int (0 : Int32)), .val (.int (1 : Int32)), .val (.int (Int32.ofNat dn)), .val (.int (Int32.ofNat en)), .unset, .unset, .unset, .unset] [(.int (1 : Int32))])) _
        refine XS.ifNo X54.here hx rfl (hb hby at_132) rfl ((if0 _ _).trans (feq (by decide : ¬ ((1 : Int32) = (0 : Int32)))).1) ?_
        show Steps p.tables e below (T54.setTop (mkF m 135 #[.val (.int p0), .val (.int p1), .val (.int p2), .val (.int p3), .val (.int p4), .val (.int p5), .val (.ref b1), .val (.int (0 : Int32)), .val (.int (1 : Int32)), .val (.int (Int32.ofNat dn)), .val (.int (Int32.ofNat en)), .unset, .unset, .unset, .unset] [])) _
        refine XS.iload X54.here hx rfl (hb hby at_135) rfl ?_
        show Steps p.tables e below (T54.setTop (mkF m 137 #[.val (.int p0), .val (.int p1), .val (.int p2), .val (.int p3), .val (.int p4), .val (.int p5), .val (.ref b1), .val (.int (0 : Int32)), .val (.int (1 : Int32)), .val (.int (Int32.ofNat dn)), .val (.int (Int32.ofNat en)), .unset, .unset, .unset, .unset] [(.int (Int32.ofNat dn))])) _
        refine XS.i2l X54.here hx rfl (hb hby at_137) rfl ?_
        show Steps p.tables e below (T54.setTop (mkF m 138 #[.val (.int p0), .val (.int p1), .val (.int p2), .val (.int p3), .val (.int p4), .val (.int p5), .val (.ref b1), .val (.int (0 : Int32)), .val (.int (1 : Int32)), .val (.int (Int32.ofNat dn)), .val (.int (Int32.ofNat en)), .unset, .unset, .unset, .unset] [(.long ((Int32.ofNat dn).toInt64))])) _
        refine X54.ldc2Long hx hown (mvT hZ (hw _ (List.mem_of_getElem? (i := 39) rfl))) (g := (mkF m 138 #[.val (.int p0), .val (.int p1), .val (.int p2), .val (.int p3), .val (.int p4), .val (.int p5), .val (.ref b1), .val (.int (0 : Int32)), .val (.int (1 : Int32)), .val (.int (Int32.ofNat dn)), .val (.int (Int32.ofNat en)), .unset, .unset, .unset, .unset] [(.long ((Int32.ofNat dn).toInt64))])) rfl (hb hby at_138) _ ?_
        show Steps p.tables e below (T54.setTop (mkF m 141 #[.val (.int p0), .val (.int p1), .val (.int p2), .val (.int p3), .val (.int p4), .val (.int p5), .val (.ref b1), .val (.int (0 : Int32)), .val (.int (1 : Int32)), .val (.int (Int32.ofNat dn)), .val (.int (Int32.ofNat en)), .unset, .unset, .unset, .unset] [(.long (10 : Int64)), (.long ((Int32.ofNat dn).toInt64))])) _
        refine XS.lmul X54.here hx rfl (hb hby at_141) rfl ?_
        show Steps p.tables e below (T54.setTop (mkF m 142 #[.val (.int p0), .val (.int p1), .val (.int p2), .val (.int p3), .val (.int p4), .val (.int p5), .val (.ref b1), .val (.int (0 : Int32)), .val (.int (1 : Int32)), .val (.int (Int32.ofNat dn)), .val (.int (Int32.ofNat en)), .unset, .unset, .unset, .unset] [(.long (((Int32.ofNat dn).toInt64) * (10 : Int64)))])) _
        refine XS.iload X54.here hx rfl (hb hby at_142) rfl ?_
        show Steps p.tables e below (T54.setTop (mkF m 144 #[.val (.int p0), .val (.int p1), .val (.int p2), .val (.int p3), .val (.int p4), .val (.int p5), .val (.ref b1), .val (.int (0 : Int32)), .val (.int (1 : Int32)), .val (.int (Int32.ofNat dn)), .val (.int (Int32.ofNat en)), .unset, .unset, .unset, .unset] [(.int (Int32.ofNat en)), (.long (((Int32.ofNat dn).toInt64) * (10 : Int64)))])) _
        refine XS.i2l X54.here hx rfl (hb hby at_144) rfl ?_
        show Steps p.tables e below (T54.setTop (mkF m 145 #[.val (.int p0), .val (.int p1), .val (.int p2), .val (.int p3), .val (.int p4), .val (.int p5), .val (.ref b1), .val (.int (0 : Int32)), .val (.int (1 : Int32)), .val (.int (Int32.ofNat dn)), .val (.int (Int32.ofNat en)), .unset, .unset, .unset, .unset] [(.long ((Int32.ofNat en).toInt64)), (.long (((Int32.ofNat dn).toInt64) * (10 : Int64)))])) _
        refine XS.ladd X54.here hx rfl (hb hby at_145) rfl ?_
        show Steps p.tables e below (T54.setTop (mkF m 146 #[.val (.int p0), .val (.int p1), .val (.int p2), .val (.int p3), .val (.int p4), .val (.int p5), .val (.ref b1), .val (.int (0 : Int32)), .val (.int (1 : Int32)), .val (.int (Int32.ofNat dn)), .val (.int (Int32.ofNat en)), .unset, .unset, .unset, .unset] [(.long ((((Int32.ofNat dn).toInt64) * (10 : Int64)) + ((Int32.ofNat en).toInt64)))])) _
        refine XS.goto X54.here hx rfl (pc0 := 146) (pc' := 152) rfl (hb hby at_146) (by decide) (by decide) ?_
        show Steps p.tables e below (T54.setTop (mkF m 152 #[.val (.int p0), .val (.int p1), .val (.int p2), .val (.int p3), .val (.int p4), .val (.int p5), .val (.ref b1), .val (.int (0 : Int32)), .val (.int (1 : Int32)), .val (.int (Int32.ofNat dn)), .val (.int (Int32.ofNat en)), .unset, .unset, .unset, .unset] [(.long ((((Int32.ofNat dn).toInt64) * (10 : Int64)) + ((Int32.ofNat en).toInt64)))])) _
        refine XS.lstore X54.here hx rfl (hb hby at_152) rfl (l' := #[.val (.int p0), .val (.int p1), .val (.int p2), .val (.int p3), .val (.int p4), .val (.int p5), .val (.ref b1), .val (.int (0 : Int32)), .val (.int (1 : Int32)), .val (.int (Int32.ofNat dn)), .val (.int (Int32.ofNat en)), .val (.long ((((Int32.ofNat dn).toInt64) * (10 : Int64)) + ((Int32.ofNat en).toInt64))), .second, .unset, .unset]) rfl ?_
        show Steps p.tables e below (T54.setTop (mkF m 154 #[.val (.int p0), .val (.int p1), .val (.int p2), .val (.int p3), .val (.int p4), .val (.int p5), .val (.ref b1), .val (.int (0 : Int32)), .val (.int (1 : Int32)), .val (.int (Int32.ofNat dn)), .val (.int (Int32.ofNat en)), .val (.long ((((Int32.ofNat dn).toInt64) * (10 : Int64)) + ((Int32.ofNat en).toInt64))), .second, .unset, .unset] [])) _
        refine XS.iload X54.here hx rfl (hb hby at_154) rfl ?_
        show Steps p.tables e below (T54.setTop (mkF m 156 #[.val (.int p0), .val (.int p1), .val (.int p2), .val (.int p3), .val (.int p4), .val (.int p5), .val (.ref b1), .val (.int (0 : Int32)), .val (.int (1 : Int32)), .val (.int (Int32.ofNat dn)), .val (.int (Int32.ofNat en)), .val (.long ((((Int32.ofNat dn).toInt64) * (10 : Int64)) + ((Int32.ofNat en).toInt64))), .second, .unset, .unset] [(.int (0 : Int32))])) _
        refine XS.iconst X54.here hx rfl (hb hby at_156) ?_
        show Steps p.tables e below (T54.setTop (mkF m 157 #[.val (.int p0), .val (.int p1), .val (.int p2), .val (.int p3), .val (.int p4), .val (.int p5), .val (.ref b1), .val (.int (0 : Int32)), .val (.int (1 : Int32)), .val (.int (Int32.ofNat dn)), .val (.int (Int32.ofNat en)), .val (.long ((((Int32.ofNat dn).toInt64) * (10 : Int64)) + ((Int32.ofNat en).toInt64))), .second, .unset, .unset] [(.int (1 : Int32)), (.int (0 : Int32))])) _
        refine XS.icmpYes X54.here hx rfl (pc0 := 157) (pc' := 166) rfl (hb hby at_157) rfl (feq (by decide : ¬ ((0 : Int32) = (1 : Int32)))).2 (by decide) (by decide) ?_
        show Steps p.tables e below (T54.setTop (mkF m 166 #[.val (.int p0), .val (.int p1), .val (.int p2), .val (.int p3), .val (.int p4), .val (.int p5), .val (.ref b1), .val (.int (0 : Int32)), .val (.int (1 : Int32)), .val (.int (Int32.ofNat dn)), .val (.int (Int32.ofNat en)), .val (.long ((((Int32.ofNat dn).toInt64) * (10 : Int64)) + ((Int32.ofNat en).toInt64))), .second, .unset, .unset] [])) _
        refine XS.lload X54.here hx rfl (hb hby at_166) rfl ?_
        show Steps p.tables e below (T54.setTop (mkF m 168 #[.val (.int p0), .val (.int p1), .val (.int p2), .val (.int p3), .val (.int p4), .val (.int p5), .val (.ref b1), .val (.int (0 : Int32)), .val (.int (1 : Int32)), .val (.int (Int32.ofNat dn)), .val (.int (Int32.ofNat en)), .val (.long ((((Int32.ofNat dn).toInt64) * (10 : Int64)) + ((Int32.ofNat en).toInt64))), .second, .unset, .unset] [(.long ((((Int32.ofNat dn).toInt64) * (10 : Int64)) + ((Int32.ofNat en).toInt64)))])) _
        refine XS.lstore X54.here hx rfl (hb hby at_168) rfl (l' := #[.val (.int p0), .val (.int p1), .val (.int p2), .val (.int p3), .val (.int p4), .val (.int p5), .val (.ref b1), .val (.int (0 : Int32)), .val (.int (1 : Int32)), .val (.int (Int32.ofNat dn)), .val (.int (Int32.ofNat en)), .val (.long ((((Int32.ofNat dn).toInt64) * (10 : Int64)) + ((Int32.ofNat en).toInt64))), .second, .val (.long ((((Int32.ofNat dn).toInt64) * (10 : Int64)) + ((Int32.ofNat en).toInt64))), .second]) rfl ?_
        show Steps p.tables e below (T54.setTop (mkF m 170 #[.val (.int p0), .val (.int p1), .val (.int p2), .val (.int p3), .val (.int p4), .val (.int p5), .val (.ref b1), .val (.int (0 : Int32)), .val (.int (1 : Int32)), .val (.int (Int32.ofNat dn)), .val (.int (Int32.ofNat en)), .val (.long ((((Int32.ofNat dn).toInt64) * (10 : Int64)) + ((Int32.ofNat en).toInt64))), .second, .val (.long ((((Int32.ofNat dn).toInt64) * (10 : Int64)) + ((Int32.ofNat en).toInt64))), .second] [])) _
        refine XS.aload X54.here hx rfl (hb hby at_170) rfl rfl ?_
        exact kt
      have f56 := (Nat.le_trans f52 Kq54.1)
      obtain ⟨cq57, kq57, q57a, q57b, q57c⟩ := isOf hZ rfl Eq54
      obtain ⟨_, _, ⟨T58, L58, k58, n58⟩, -, X58, ⟨Lc58, hQ58, l58, y58, z58⟩, st58⟩ := X54.virtualBack hx (y := (⟨"com/example/sequence_set/sequenceset/cli/DecimalParser", "value", "()J"⟩ : MethodName)) (z := (⟨"com/example/sequence_set/sequenceset/cli/DecimalParser", "value", "()J"⟩ : MethodName)) hown (mvT hZ (hw _ (List.mem_of_getElem? (i := 34) rfl))) (mvT hZ (hw _ (List.mem_of_getElem? (i := 35) rfl))) (notFace_of_selects (args := #[]) (mvT hZ (hw _ (List.mem_of_getElem? (i := 37) rfl)))) (mvT hZ (hw _ (List.mem_of_getElem? (i := 37) rfl))) (mvT hZ (hw _ (List.mem_of_getElem? (i := 36) rfl))) (by decide) (backOf (W := 0) (rm5_0 l Z a0 hw [] b1 (own_ng (own_ng (0 : Int64) (own_d dn)) (own_d en)) (((0 : Int32) + (1 : Int32)) + (1 : Int32)) (((0 : Int32) + (1 : Int32)) + (1 : Int32)) T54.heap n0 f56 Fq54_0 Fq54_1 Fq54_2 Fq54_3 Fq54_4 Fq54_5 Eq54 g_b1 (by decide) (own_v2 dn hdn en hen).1) hZ (hw _ (List.mem_of_getElem? (i := 38) rfl)) (hw _ (List.mem_of_getElem? (i := 2) rfl)) (by decide) (by decide)) q57a q57c (g := (mkF m 172 #[.val (.int p0), .val (.int p1), .val (.int p2), .val (.int p3), .val (.int p4), .val (.int p5), .val (.ref b1), .val (.int (0 : Int32)), .val (.int (1 : Int32)), .val (.int (Int32.ofNat dn)), .val (.int (Int32.ofNat en)), .val (.long ((((Int32.ofNat dn).toInt64) * (10 : Int64)) + ((Int32.ofNat en).toInt64))), .second, .val (.long ((((Int32.ofNat dn).toInt64) * (10 : Int64)) + ((Int32.ofNat en).toInt64))), .second] [(.ref b1)])) rfl (by rw [hml]; rfl) (Steps.refl _) (argsL := []) (rest := []) (lenOf pd_2 rfl) rfl (by show 2 * 0 + _ ≤ _; exact Nat.le_of_eq rfl) (hb hby at_172) (fun _ _ => ⟨rfl, rfl, (by decide : 1 + 0 ≤ _), (by decide : 6 + 0 ≤ _)⟩)
      dsimp only [Pt.U, Pt.locs, Pt.cells, Pt.slots] at X58 l58 y58 z58 st58 hQ58
      subst l58 y58 z58
      obtain ⟨rfl, N58q, e58⟩ := hQ58
      have N58 := Fr.app N54 N58q
      have c60 : ∀ t, Steps p.tables e below (T58.setTop (mkF m 178 #[.val (.int p0), .val (.int p1), .val (.int p2), .val (.int p3), .val (.int p4), .val (.int p5), .val (.ref b1), .val (.int (0 : Int32)), .val (.int (1 : Int32)), .val (.int (Int32.ofNat dn)), .val (.int (Int32.ofNat en)), .val (.long ((((Int32.ofNat dn).toInt64) * (10 : Int64)) + ((Int32.ofNat en).toInt64))), .second, .val (.long ((((Int32.ofNat dn).toInt64) * (10 : Int64)) + ((Int32.ofNat en).toInt64))), .second] [(.int (lcmpW (-(own_ng (own_ng (0 : Int64) (own_d dn)) (own_d en))) ((((Int32.ofNat dn).toInt64) * (10 : Int64)) + ((Int32.ofNat en).toInt64))))])) t → Steps p.tables e below (T58.setTop (mkF m 175 #[.val (.int p0), .val (.int p1), .val (.int p2), .val (.int p3), .val (.int p4), .val (.int p5), .val (.ref b1), .val (.int (0 : Int32)), .val (.int (1 : Int32)), .val (.int (Int32.ofNat dn)), .val (.int (Int32.ofNat en)), .val (.long ((((Int32.ofNat dn).toInt64) * (10 : Int64)) + ((Int32.ofNat en).toInt64))), .second, .val (.long ((((Int32.ofNat dn).toInt64) * (10 : Int64)) + ((Int32.ofNat en).toInt64))), .second] [(.long (-(own_ng (own_ng (0 : Int64) (own_d dn)) (own_d en))))])) t := by
        intro t kt
        show Steps p.tables e below (T58.setTop (mkF m 175 #[.val (.int p0), .val (.int p1), .val (.int p2), .val (.int p3), .val (.int p4), .val (.int p5), .val (.ref b1), .val (.int (0 : Int32)), .val (.int (1 : Int32)), .val (.int (Int32.ofNat dn)), .val (.int (Int32.ofNat en)), .val (.long ((((Int32.ofNat dn).toInt64) * (10 : Int64)) + ((Int32.ofNat en).toInt64))), .second, .val (.long ((((Int32.ofNat dn).toInt64) * (10 : Int64)) + ((Int32.ofNat en).toInt64))), .second] [(.long (-(own_ng (own_ng (0 : Int64) (own_d dn)) (own_d en))))])) _
        refine XS.lload X58.here hx rfl (hb hby at_175) rfl ?_
        show Steps p.tables e below (T58.setTop (mkF m 177 #[.val (.int p0), .val (.int p1), .val (.int p2), .val (.int p3), .val (.int p4), .val (.int p5), .val (.ref b1), .val (.int (0 : Int32)), .val (.int (1 : Int32)), .val (.int (Int32.ofNat dn)), .val (.int (Int32.ofNat en)), .val (.long ((((Int32.ofNat dn).toInt64) * (10 : Int64)) + ((Int32.ofNat en).toInt64))), .second, .val (.long ((((Int32.ofNat dn).toInt64) * (10 : Int64)) + ((Int32.ofNat en).toInt64))), .second] [(.long ((((Int32.ofNat dn).toInt64) * (10 : Int64)) + ((Int32.ofNat en).toInt64))), (.long (-(own_ng (own_ng (0 : Int64) (own_d dn)) (own_d en))))])) _
        refine XS.lcmp X58.here hx rfl (hb hby at_177) rfl ?_
        exact kt
      have hd59 : (-(own_ng (own_ng (0 : Int64) (own_d dn)) (own_d en))) = ((((Int32.ofNat dn).toInt64) * (10 : Int64)) + ((Int32.ofNat en).toInt64)) := (own_v2 dn hdn en hen).2.2
      have c61 : ∀ t, Steps p.tables e below (T58.setTop (mkF m 186 #[.val (.int p0), .val (.int p1), .val (.int p2), .val (.int p3), .val (.int p4), .val (.int p5), .val (.ref b1), .val (.int (0 : Int32)), .val (.int (1 : Int32)), .val (.int (Int32.ofNat dn)), .val (.int (Int32.ofNat en)), .val (.long ((((Int32.ofNat dn).toInt64) * (10 : Int64)) + ((Int32.ofNat en).toInt64))), .second, .val (.long ((((Int32.ofNat dn).toInt64) * (10 : Int64)) + ((Int32.ofNat en).toInt64))), .second] [(.int (1 : Int32))])) t → Steps p.tables e below (T58.setTop (mkF m 178 #[.val (.int p0), .val (.int p1), .val (.int p2), .val (.int p3), .val (.int p4), .val (.int p5), .val (.ref b1), .val (.int (0 : Int32)), .val (.int (1 : Int32)), .val (.int (Int32.ofNat dn)), .val (.int (Int32.ofNat en)), .val (.long ((((Int32.ofNat dn).toInt64) * (10 : Int64)) + ((Int32.ofNat en).toInt64))), .second, .val (.long ((((Int32.ofNat dn).toInt64) * (10 : Int64)) + ((Int32.ofNat en).toInt64))), .second] [(.int (lcmpW (-(own_ng (own_ng (0 : Int64) (own_d dn)) (own_d en))) ((((Int32.ofNat dn).toInt64) * (10 : Int64)) + ((Int32.ofNat en).toInt64))))])) t := by
        intro t kt
        show Steps p.tables e below (T58.setTop (mkF m 178 #[.val (.int p0), .val (.int p1), .val (.int p2), .val (.int p3), .val (.int p4), .val (.int p5), .val (.ref b1), .val (.int (0 : Int32)), .val (.int (1 : Int32)), .val (.int (Int32.ofNat dn)), .val (.int (Int32.ofNat en)), .val (.long ((((Int32.ofNat dn).toInt64) * (10 : Int64)) + ((Int32.ofNat en).toInt64))), .second, .val (.long ((((Int32.ofNat dn).toInt64) * (10 : Int64)) + ((Int32.ofNat en).toInt64))), .second] [(.int (lcmpW (-(own_ng (own_ng (0 : Int64) (own_d dn)) (own_d en))) ((((Int32.ofNat dn).toInt64) * (10 : Int64)) + ((Int32.ofNat en).toInt64))))])) _
        refine XS.ifNo X58.here hx rfl (hb hby at_178) rfl ((if0 _ _).trans (teq ((lw_eq _ _).mpr (hd59))).2) ?_
        show Steps p.tables e below (T58.setTop (mkF m 181 #[.val (.int p0), .val (.int p1), .val (.int p2), .val (.int p3), .val (.int p4), .val (.int p5), .val (.ref b1), .val (.int (0 : Int32)), .val (.int (1 : Int32)), .val (.int (Int32.ofNat dn)), .val (.int (Int32.ofNat en)), .val (.long ((((Int32.ofNat dn).toInt64) * (10 : Int64)) + ((Int32.ofNat en).toInt64))), .second, .val (.long ((((Int32.ofNat dn).toInt64) * (10 : Int64)) + ((Int32.ofNat en).toInt64))), .second] [])) _
        refine XS.iconst X58.here hx rfl (hb hby at_181) ?_
        show Steps p.tables e below (T58.setTop (mkF m 182 #[.val (.int p0), .val (.int p1), .val (.int p2), .val (.int p3), .val (.int p4), .val (.int p5), .val (.ref b1), .val (.int (0 : Int32)), .val (.int (1 : Int32)), .val (.int (Int32.ofNat dn)), .val (.int (Int32.ofNat en)), .val (.long ((((Int32.ofNat dn).toInt64) * (10 : Int64)) + ((Int32.ofNat en).toInt64))), .second, .val (.long ((((Int32.ofNat dn).toInt64) * (10 : Int64)) + ((Int32.ofNat en).toInt64))), .second] [(.int (1 : Int32))])) _
        refine XS.goto X58.here hx rfl (pc0 := 182) (pc' := 186) rfl (hb hby at_182) (by decide) (by decide) ?_
        exact kt
      obtain ⟨fs, hr, hrun, hended, hW, hsame⟩ := X58.leave (v := some (.int (1 : Int32))) (fun h => by rw [Bd.returns] at h; cases h)
      refine ⟨_, _, pre0 _ (st1 _ (c2 _ (st4.trans (c5 _ (st8.trans (c9 _ (st12.trans (c13 _ (st16.trans (c17 _ (st20.trans (c21 _ (c22 _ (c23 _ (c41 _ (c42 _ (c43 _ (c44 _ (c45 _ (c46 _ (st49.trans (c50 _ (c51 _ (st54.trans (c55 _ (st58.trans (c60 _ (c61 _ (?_))))))))))))))))))))))))))))), hrun, hended, _, _, rfl, ?_, ⟨_, rfl⟩, hW, hsame.mono (by decide) (by decide)⟩
      · show Steps p.tables e below (T58.setTop (mkF m 186 #[.val (.int p0), .val (.int p1), .val (.int p2), .val (.int p3), .val (.int p4), .val (.int p5), .val (.ref b1), .val (.int (0 : Int32)), .val (.int (1 : Int32)), .val (.int (Int32.ofNat dn)), .val (.int (Int32.ofNat en)), .val (.long ((((Int32.ofNat dn).toInt64) * (10 : Int64)) + ((Int32.ofNat en).toInt64))), .second, .val (.long ((((Int32.ofNat dn).toInt64) * (10 : Int64)) + ((Int32.ofNat en).toInt64))), .second] [(.int (1 : Int32))])) _
        exact retN X58 hx (t := .boolean) Bd.returns (by simp) (hb hby at_186) hr
      · show Q0 Z p0 p1 p2 p3 p4 p5 h0 n0 _ T58.heap _
        rw [e58]
        exact ⟨congrArg (fun z => some (Value.int z)) (show (1 : Int32) = (1 : Int32) from by rfl), N58⟩
  · skip
    have c63 : ∀ t, Steps p.tables e below (T20.setTop (mkF m 40 #[.val (.int p0), .val (.int p1), .val (.int p2), .val (.int p3), .val (.int p4), .val (.int p5), .val (.ref b1), .val (.int (1 : Int32)), .unset, .unset, .unset, .unset, .unset, .unset, .unset] [])) t → Steps p.tables e below (T20.setTop (mkF m 40 #[.val (.int p0), .val (.int p1), .val (.int p2), .val (.int p3), .val (.int p4), .val (.int p5), .val (.ref b1), .val (.int ((p3 &&& (2147483647 : Int32)) % (3 : Int32))), .unset, .unset, .unset, .unset, .unset, .unset, .unset] [])) t := fun t kt => by rw [hsg]; exact kt
    have c64 : ∀ t, Steps p.tables e below (T20.setTop (mkF m 46 #[.val (.int p0), .val (.int p1), .val (.int p2), .val (.int p3), .val (.int p4), .val (.int p5), .val (.ref b1), .val (.int (1 : Int32)), .unset, .unset, .unset, .unset, .unset, .unset, .unset] [(.int (((p3.toUInt32 >>> ((8 : Int32) &&& 31).toUInt32).toInt32) &&& (1 : Int32)))])) t → Steps p.tables e below (T20.setTop (mkF m 40 #[.val (.int p0), .val (.int p1), .val (.int p2), .val (.int p3), .val (.int p4), .val (.int p5), .val (.ref b1), .val (.int (1 : Int32)), .unset, .unset, .unset, .unset, .unset, .unset, .unset] [])) t := by
      intro t kt
      show Steps p.tables e below (T20.setTop (mkF m 40 #[.val (.int p0), .val (.int p1), .val (.int p2), .val (.int p3), .val (.int p4), .val (.int p5), .val (.ref b1), .val (.int (1 : Int32)), .unset, .unset, .unset, .unset, .unset, .unset, .unset] [])) _
      refine XS.iloadN X20.here hx rfl (hb hby at_40) rfl ?_
      show Steps p.tables e below (T20.setTop (mkF m 41 #[.val (.int p0), .val (.int p1), .val (.int p2), .val (.int p3), .val (.int p4), .val (.int p5), .val (.ref b1), .val (.int (1 : Int32)), .unset, .unset, .unset, .unset, .unset, .unset, .unset] [(.int p3)])) _
      refine XS.bipush X20.here hx rfl (hb hby at_41) ?_
      show Steps p.tables e below (T20.setTop (mkF m 43 #[.val (.int p0), .val (.int p1), .val (.int p2), .val (.int p3), .val (.int p4), .val (.int p5), .val (.ref b1), .val (.int (1 : Int32)), .unset, .unset, .unset, .unset, .unset, .unset, .unset] [(.int (8 : Int32)), (.int p3)])) _
      refine XS.iushr X20.here hx rfl (hb hby at_43) rfl ?_
      show Steps p.tables e below (T20.setTop (mkF m 44 #[.val (.int p0), .val (.int p1), .val (.int p2), .val (.int p3), .val (.int p4), .val (.int p5), .val (.ref b1), .val (.int (1 : Int32)), .unset, .unset, .unset, .unset, .unset, .unset, .unset] [(.int ((p3.toUInt32 >>> ((8 : Int32) &&& 31).toUInt32).toInt32))])) _
      refine XS.iconst X20.here hx rfl (hb hby at_44) ?_
      show Steps p.tables e below (T20.setTop (mkF m 45 #[.val (.int p0), .val (.int p1), .val (.int p2), .val (.int p3), .val (.int p4), .val (.int p5), .val (.ref b1), .val (.int (1 : Int32)), .unset, .unset, .unset, .unset, .unset, .unset, .unset] [(.int (1 : Int32)), (.int ((p3.toUInt32 >>> ((8 : Int32) &&& 31).toUInt32).toInt32))])) _
      refine XS.iand X20.here hx rfl (hb hby at_45) rfl ?_
      exact kt
    by_cases hc46 : (((p3.toUInt32 >>> ((8 : Int32) &&& 31).toUInt32).toInt32) &&& (1 : Int32)) = (0 : Int32)
    · -- it is
      have c65 : ∀ t, Steps p.tables e below (T20.setTop (mkF m 66 #[.val (.int p0), .val (.int p1), .val (.int p2), .val (.int p3), .val (.int p4), .val (.int p5), .val (.ref b1), .val (.int (1 : Int32)), .val (.int (0 : Int32)), .val (.int ((p4 &&& (2147483647 : Int32)) % (10 : Int32))), .unset, .unset, .unset, .unset, .unset] [])) t → Steps p.tables e below (T20.setTop (mkF m 46 #[.val (.int p0), .val (.int p1), .val (.int p2), .val (.int p3), .val (.int p4), .val (.int p5), .val (.ref b1), .val (.int (1 : Int32)), .unset, .unset, .unset, .unset, .unset, .unset, .unset] [(.int (((p3.toUInt32 >>> ((8 : Int32) &&& 31).toUInt32).toInt32) &&& (1 : Int32)))])) t := by
        intro t kt
        show Steps p.tables e below (T20.setTop (mkF m 46 #[.val (.int p0), .val (.int p1), .val (.int p2), .val (.int p3), .val (.int p4), .val (.int p5), .val (.ref b1), .val (.int (1 : Int32)), .unset, .unset, .unset, .unset, .unset, .unset, .unset] [(.int (((p3.toUInt32 >>> ((8 : Int32) &&& 31).toUInt32).toInt32) &&& (1 : Int32)))])) _
        refine XS.ifYes X20.here hx rfl (pc0 := 46) (pc' := 53) rfl (hb hby at_46) rfl ((if0 _ _).trans (teq hc46).1) (by decide) (by decide) ?_
        show Steps p.tables e below (T20.setTop (mkF m 53 #[.val (.int p0), .val (.int p1), .val (.int p2), .val (.int p3), .val (.int p4), .val (.int p5), .val (.ref b1), .val (.int (1 : Int32)), .unset, .unset, .unset, .unset, .unset, .unset, .unset] [])) _
        refine XS.iconst X20.here hx rfl (hb hby at_53) ?_
        show Steps p.tables e below (T20.setTop (mkF m 54 #[.val (.int p0), .val (.int p1), .val (.int p2), .val (.int p3), .val (.int p4), .val (.int p5), .val (.ref b1), .val (.int (1 : Int32)), .unset, .unset, .unset, .unset, .unset, .unset, .unset] [(.int (0 : Int32))])) _
        refine XS.istore X20.here hx rfl (hb hby at_54) rfl (l' := #[.val (.int p0), .val (.int p1), .val (.int p2), .val (.int p3), .val (.int p4), .val (.int p5), .val (.ref b1), .val (.int (1 : Int32)), .val (.int (0 : Int32)), .unset, .unset, .unset, .unset, .unset, .unset]) rfl ?_
        show Steps p.tables e below (T20.setTop (mkF m 56 #[.val (.int p0), .val (.int p1), .val (.int p2), .val (.int p3), .val (.int p4), .val (.int p5), .val (.ref b1), .val (.int (1 : Int32)), .val (.int (0 : Int32)), .unset, .unset, .unset, .unset, .unset, .unset] [])) _
        refine XS.iload X20.here hx rfl (hb hby at_56) rfl ?_
        show Steps p.tables e below (T20.setTop (mkF m 58 #[.val (.int p0), .val (.int p1), .val (.int p2), .val (.int p3), .val (.int p4), .val (.int p5), .val (.ref b1), .val (.int (1 : Int32)), .val (.int (0 : Int32)), .unset, .unset, .unset, .unset, .unset, .unset] [(.int p4)])) _
        refine X20.ldcInt hx hown (mvT hZ (hw _ (List.mem_of_getElem? (i := 31) rfl))) (g := (mkF m 58 #[.val (.int p0), .val (.int p1), .val (.int p2), .val (.int p3), .val (.int p4), .val (.int p5), .val (.ref b1), .val (.int (1 : Int32)), .val (.int (0 : Int32)), .unset, .unset, .unset, .unset, .unset, .unset] [(.int p4)])) rfl (hb hby at_58) _ ?_
        show Steps p.tables e below (T20.setTop (mkF m 60 #[.val (.int p0), .val (.int p1), .val (.int p2), .val (.int p3), .val (.int p4), .val (.int p5), .val (.ref b1), .val (.int (1 : Int32)), .val (.int (0 : Int32)), .unset, .unset, .unset, .unset, .unset, .unset] [(.int (2147483647 : Int32)), (.int p4)])) _
        refine XS.iand X20.here hx rfl (hb hby at_60) rfl ?_
        show Steps p.tables e below (T20.setTop (mkF m 61 #[.val (.int p0), .val (.int p1), .val (.int p2), .val (.int p3), .val (.int p4), .val (.int p5), .val (.ref b1), .val (.int (1 : Int32)), .val (.int (0 : Int32)), .unset, .unset, .unset, .unset, .unset, .unset] [(.int (p4 &&& (2147483647 : Int32)))])) _
        refine XS.bipush X20.here hx rfl (hb hby at_61) ?_
        show Steps p.tables e below (T20.setTop (mkF m 63 #[.val (.int p0), .val (.int p1), .val (.int p2), .val (.int p3), .val (.int p4), .val (.int p5), .val (.ref b1), .val (.int (1 : Int32)), .val (.int (0 : Int32)), .unset, .unset, .unset, .unset, .unset, .unset] [(.int (10 : Int32)), (.int (p4 &&& (2147483647 : Int32)))])) _
        refine iremM X20 hx rfl (hb hby at_63) rfl (by decide) ?_
        show Steps p.tables e below (T20.setTop (mkF m 64 #[.val (.int p0), .val (.int p1), .val (.int p2), .val (.int p3), .val (.int p4), .val (.int p5), .val (.ref b1), .val (.int (1 : Int32)), .val (.int (0 : Int32)), .unset, .unset, .unset, .unset, .unset, .unset] [(.int ((p4 &&& (2147483647 : Int32)) % (10 : Int32)))])) _
        refine XS.istore X20.here hx rfl (hb hby at_64) rfl (l' := #[.val (.int p0), .val (.int p1), .val (.int p2), .val (.int p3), .val (.int p4), .val (.int p5), .val (.ref b1), .val (.int (1 : Int32)), .val (.int (0 : Int32)), .val (.int ((p4 &&& (2147483647 : Int32)) % (10 : Int32))), .unset, .unset, .unset, .unset, .unset]) rfl ?_
        exact kt
      obtain ⟨dn, hdn, hde⟩ := own_ten p4
      have c66 : ∀ t, Steps p.tables e below (T20.setTop (mkF m 66 #[.val (.int p0), .val (.int p1), .val (.int p2), .val (.int p3), .val (.int p4), .val (.int p5), .val (.ref b1), .val (.int (1 : Int32)), .val (.int (0 : Int32)), .val (.int (Int32.ofNat dn)), .unset, .unset, .unset, .unset, .unset] [])) t → Steps p.tables e below (T20.setTop (mkF m 66 #[.val (.int p0), .val (.int p1), .val (.int p2), .val (.int p3), .val (.int p4), .val (.int p5), .val (.ref b1), .val (.int (1 : Int32)), .val (.int (0 : Int32)), .val (.int ((p4 &&& (2147483647 : Int32)) % (10 : Int32))), .unset, .unset, .unset, .unset, .unset] [])) t := fun t kt => by rw [hde]; exact kt
      have c67 : ∀ t, Steps p.tables e below (T20.setTop (mkF m 76 #[.val (.int p0), .val (.int p1), .val (.int p2), .val (.int p3), .val (.int p4), .val (.int p5), .val (.ref b1), .val (.int (1 : Int32)), .val (.int (0 : Int32)), .val (.int (Int32.ofNat dn)), .val (.int ((p5 &&& (2147483647 : Int32)) % (10 : Int32))), .unset, .unset, .unset, .unset] [])) t → Steps p.tables e below (T20.setTop (mkF m 66 #[.val (.int p0), .val (.int p1), .val (.int p2), .val (.int p3), .val (.int p4), .val (.int p5), .val (.ref b1), .val (.int (1 : Int32)), .val (.int (0 : Int32)), .val (.int (Int32.ofNat dn)), .unset, .unset, .unset, .unset, .unset] [])) t := by
        intro t kt
        show Steps p.tables e below (T20.setTop (mkF m 66 #[.val (.int p0), .val (.int p1), .val (.int p2), .val (.int p3), .val (.int p4), .val (.int p5), .val (.ref b1), .val (.int (1 : Int32)), .val (.int (0 : Int32)), .val (.int (Int32.ofNat dn)), .unset, .unset, .unset, .unset, .unset] [])) _
        refine XS.iload X20.here hx rfl (hb hby at_66) rfl ?_
        show Steps p.tables e below (T20.setTop (mkF m 68 #[.val (.int p0), .val (.int p1), .val (.int p2), .val (.int p3), .val (.int p4), .val (.int p5), .val (.ref b1), .val (.int (1 : Int32)), .val (.int (0 : Int32)), .val (.int (Int32.ofNat dn)), .unset, .unset, .unset, .unset, .unset] [(.int p5)])) _
        refine X20.ldcInt hx hown (mvT hZ (hw _ (List.mem_of_getElem? (i := 31) rfl))) (g := (mkF m 68 #[.val (.int p0), .val (.int p1), .val (.int p2), .val (.int p3), .val (.int p4), .val (.int p5), .val (.ref b1), .val (.int (1 : Int32)), .val (.int (0 : Int32)), .val (.int (Int32.ofNat dn)), .unset, .unset, .unset, .unset, .unset] [(.int p5)])) rfl (hb hby at_68) _ ?_
        show Steps p.tables e below (T20.setTop (mkF m 70 #[.val (.int p0), .val (.int p1), .val (.int p2), .val (.int p3), .val (.int p4), .val (.int p5), .val (.ref b1), .val (.int (1 : Int32)), .val (.int (0 : Int32)), .val (.int (Int32.ofNat dn)), .unset, .unset, .unset, .unset, .unset] [(.int (2147483647 : Int32)), (.int p5)])) _
        refine XS.iand X20.here hx rfl (hb hby at_70) rfl ?_
        show Steps p.tables e below (T20.setTop (mkF m 71 #[.val (.int p0), .val (.int p1), .val (.int p2), .val (.int p3), .val (.int p4), .val (.int p5), .val (.ref b1), .val (.int (1 : Int32)), .val (.int (0 : Int32)), .val (.int (Int32.ofNat dn)), .unset, .unset, .unset, .unset, .unset] [(.int (p5 &&& (2147483647 : Int32)))])) _
        refine XS.bipush X20.here hx rfl (hb hby at_71) ?_
        show Steps p.tables e below (T20.setTop (mkF m 73 #[.val (.int p0), .val (.int p1), .val (.int p2), .val (.int p3), .val (.int p4), .val (.int p5), .val (.ref b1), .val (.int (1 : Int32)), .val (.int (0 : Int32)), .val (.int (Int32.ofNat dn)), .unset, .unset, .unset, .unset, .unset] [(.int (10 : Int32)), (.int (p5 &&& (2147483647 : Int32)))])) _
        refine iremM X20 hx rfl (hb hby at_73) rfl (by decide) ?_
        show Steps p.tables e below (T20.setTop (mkF m 74 #[.val (.int p0), .val (.int p1), .val (.int p2), .val (.int p3), .val (.int p4), .val (.int p5), .val (.ref b1), .val (.int (1 : Int32)), .val (.int (0 : Int32)), .val (.int (Int32.ofNat dn)), .unset, .unset, .unset, .unset, .unset] [(.int ((p5 &&& (2147483647 : Int32)) % (10 : Int32)))])) _
        refine XS.istore X20.here hx rfl (hb hby at_74) rfl (l' := #[.val (.int p0), .val (.int p1), .val (.int p2), .val (.int p3), .val (.int p4), .val (.int p5), .val (.ref b1), .val (.int (1 : Int32)), .val (.int (0 : Int32)), .val (.int (Int32.ofNat dn)), .val (.int ((p5 &&& (2147483647 : Int32)) % (10 : Int32))), .unset, .unset, .unset, .unset]) rfl ?_
        exact kt
      obtain ⟨en, hen, hee⟩ := own_ten p5
      have c68 : ∀ t, Steps p.tables e below (T20.setTop (mkF m 76 #[.val (.int p0), .val (.int p1), .val (.int p2), .val (.int p3), .val (.int p4), .val (.int p5), .val (.ref b1), .val (.int (1 : Int32)), .val (.int (0 : Int32)), .val (.int (Int32.ofNat dn)), .val (.int (Int32.ofNat en)), .unset, .unset, .unset, .unset] [])) t → Steps p.tables e below (T20.setTop (mkF m 76 #[.val (.int p0), .val (.int p1), .val (.int p2), .val (.int p3), .val (.int p4), .val (.int p5), .val (.ref b1), .val (.int (1 : Int32)), .val (.int (0 : Int32)), .val (.int (Int32.ofNat dn)), .val (.int ((p5 &&& (2147483647 : Int32)) % (10 : Int32))), .unset, .unset, .unset, .unset] [])) t := fun t kt => by rw [hee]; exact kt
      have c69 : ∀ t, Steps p.tables e below (T20.setTop (mkF m 86 #[.val (.int p0), .val (.int p1), .val (.int p2), .val (.int p3), .val (.int p4), .val (.int p5), .val (.ref b1), .val (.int (1 : Int32)), .val (.int (0 : Int32)), .val (.int (Int32.ofNat dn)), .val (.int (Int32.ofNat en)), .unset, .unset, .unset, .unset] [(.int (45 : Int32)), (.ref b1)])) t → Steps p.tables e below (T20.setTop (mkF m 76 #[.val (.int p0), .val (.int p1), .val (.int p2), .val (.int p3), .val (.int p4), .val (.int p5), .val (.ref b1), .val (.int (1 : Int32)), .val (.int (0 : Int32)), .val (.int (Int32.ofNat dn)), .val (.int (Int32.ofNat en)), .unset, .unset, .unset, .unset] [])) t := by
        intro t kt
        show Steps p.tables e below (T20.setTop (mkF m 76 #[.val (.int p0), .val (.int p1), .val (.int p2), .val (.int p3), .val (.int p4), .val (.int p5), .val (.ref b1), .val (.int (1 : Int32)), .val (.int (0 : Int32)), .val (.int (Int32.ofNat dn)), .val (.int (Int32.ofNat en)), .unset, .unset, .unset, .unset] [])) _
        refine XS.iload X20.here hx rfl (hb hby at_76) rfl ?_
        show Steps p.tables e below (T20.setTop (mkF m 78 #[.val (.int p0), .val (.int p1), .val (.int p2), .val (.int p3), .val (.int p4), .val (.int p5), .val (.ref b1), .val (.int (1 : Int32)), .val (.int (0 : Int32)), .val (.int (Int32.ofNat dn)), .val (.int (Int32.ofNat en)), .unset, .unset, .unset, .unset] [(.int (1 : Int32))])) _
        refine XS.iconst X20.here hx rfl (hb hby at_78) ?_
        show Steps p.tables e below (T20.setTop (mkF m 79 #[.val (.int p0), .val (.int p1), .val (.int p2), .val (.int p3), .val (.int p4), .val (.int p5), .val (.ref b1), .val (.int (1 : Int32)), .val (.int (0 : Int32)), .val (.int (Int32.ofNat dn)), .val (.int (Int32.ofNat en)), .unset, .unset, .unset, .unset] [(.int (1 : Int32)), (.int (1 : Int32))])) _
        refine XS.icmpNo X20.here hx rfl (hb hby at_79) rfl (teq (by decide : (1 : Int32) = (1 : Int32))).2 ?_
        show Steps p.tables e below (T20.setTop (mkF m 82 #[.val (.int p0), .val (.int p1), .val (.int p2), .val (.int p3), .val (.int p4), .val (.int p5), .val (.ref b1), .val (.int (1 : Int32)), .val (.int (0 : Int32)), .val (.int (Int32.ofNat dn)), .val (.int (Int32.ofNat en)), .unset, .unset, .unset, .unset] [])) _
        refine XS.aload X20.here hx rfl (hb hby at_82) rfl rfl ?_
        show Steps p.tables e below (T20.setTop (mkF m 84 #[.val (.int p0), .val (.int p1), .val (.int p2), .val (.int p3), .val (.int p4), .val (.int p5), .val (.ref b1), .val (.int (1 : Int32)), .val (.int (0 : Int32)), .val (.int (Int32.ofNat dn)), .val (.int (Int32.ofNat en)), .unset, .unset, .unset, .unset] [(.ref b1)])) _
        refine XS.bipush X20.here hx rfl (hb hby at_84) ?_
        exact kt
      have f70 := (Nat.le_trans f18 Kq20.1)
      obtain ⟨cq71, kq71, q71a, q71b, q71c⟩ := isOf hZ rfl Eq20
      obtain ⟨_, _, ⟨T72, L72, k72, n72⟩, -, X72, ⟨Lc72, hQ72, l72, y72, z72⟩, st72⟩ := X20.virtualBack hx (y := (⟨"com/example/sequence_set/sequenceset/cli/DecimalParser", "accept", "(I)V"⟩ : MethodName)) (z := (⟨"com/example/sequence_set/sequenceset/cli/DecimalParser", "accept", "(I)V"⟩ : MethodName)) hown (mvT hZ (hw _ (List.mem_of_getElem? (i := 13) rfl))) (mvT hZ (hw _ (List.mem_of_getElem? (i := 14) rfl))) (notFace_of_selects (args := #[]) (mvT hZ (hw _ (List.mem_of_getElem? (i := 16) rfl)))) (mvT hZ (hw _ (List.mem_of_getElem? (i := 16) rfl))) (mvT hZ (hw _ (List.mem_of_getElem? (i := 15) rfl))) (by decide) (backOf (W := 0) (rm3s45 l Z a0 hw []  b1 T20.heap n0 f70 Fq20_0 Fq20_1 Fq20_2 Fq20_3 Fq20_4 Fq20_5 Eq20 g_b1) hZ (hw _ (List.mem_of_getElem? (i := 17) rfl)) (hw _ (List.mem_of_getElem? (i := 2) rfl)) (by decide) (by decide)) q71a q71c (g := (mkF m 86 #[.val (.int p0), .val (.int p1), .val (.int p2), .val (.int p3), .val (.int p4), .val (.int p5), .val (.ref b1), .val (.int (1 : Int32)), .val (.int (0 : Int32)), .val (.int (Int32.ofNat dn)), .val (.int (Int32.ofNat en)), .unset, .unset, .unset, .unset] [(.int (45 : Int32)), (.ref b1)])) rfl (by rw [hml]; rfl) (Steps.refl _) (argsL := [(.int (45 : Int32))]) (rest := []) (lenOf pd_1 rfl) rfl (by show 2 * 0 + _ ≤ _; exact Nat.le_of_eq rfl) (hb hby at_86) (fun _ _ => ⟨rfl, rfl, (by decide : 1 + 0 ≤ _), (by decide : 6 + 0 ≤ _)⟩)
      dsimp only [Pt.U, Pt.locs, Pt.cells, Pt.slots] at X72 l72 y72 z72 st72 hQ72
      subst l72 y72 z72
      obtain ⟨rfl, N72q, Kq72, Eq72, Fq72_0, Fq72_1, Fq72_2, Fq72_3, Fq72_4, Fq72_5⟩ := hQ72
      have N72 := Fr.app N20 N72q
      have c73 : ∀ t, Steps p.tables e below (T72.setTop (mkF m 112 #[.val (.int p0), .val (.int p1), .val (.int p2), .val (.int p3), .val (.int p4), .val (.int p5), .val (.ref b1), .val (.int (1 : Int32)), .val (.int (0 : Int32)), .val (.int (Int32.ofNat dn)), .val (.int (Int32.ofNat en)), .unset, .unset, .unset, .unset] [(.int ((48 : Int32) + (Int32.ofNat dn))), (.ref b1)])) t → Steps p.tables e below (T72.setTop (mkF m 89 #[.val (.int p0), .val (.int p1), .val (.int p2), .val (.int p3), .val (.int p4), .val (.int p5), .val (.ref b1), .val (.int (1 : Int32)), .val (.int (0 : Int32)), .val (.int (Int32.ofNat dn)), .val (.int (Int32.ofNat en)), .unset, .unset, .unset, .unset] [])) t := by
        intro t kt
        show Steps p.tables e below (T72.setTop (mkF m 89 #[.val (.int p0), .val (.int p1), .val (.int p2), .val (.int p3), .val (.int p4), .val (.int p5), .val (.ref b1), .val (.int (1 : Int32)), .val (.int (0 : Int32)), .val (.int (Int32.ofNat dn)), .val (.int (Int32.ofNat en)), .unset, .unset, .unset, .unset] [])) _
        refine XS.goto X72.here hx rfl (pc0 := 89) (pc' := 105) rfl (hb hby at_89) (by decide) (by decide) ?_
        show Steps p.tables e below (T72.setTop (mkF m 105 #[.val (.int p0), .val (.int p1), .val (.int p2), .val (.int p3), .val (.int p4), .val (.int p5), .val (.ref b1), .val (.int (1 : Int32)), .val (.int (0 : Int32)), .val (.int (Int32.ofNat dn)), .val (.int (Int32.ofNat en)), .unset, .unset, .unset, .unset] [])) _
        refine XS.aload X72.here hx rfl (hb hby at_105) rfl rfl ?_
        show Steps p.tables e below (T72.setTop (mkF m 107 #[.val (.int p0), .val (.int p1), .val (.int p2), .val (.int p3), .val (.int p4), .val (.int p5), .val (.ref b1), .val (.int (1 : Int32)), .val (.int (0 : Int32)), .val (.int (Int32.ofNat dn)), .val (.int (Int32.ofNat en)), .unset, .unset, .unset, .unset] [(.ref b1)])) _
        refine XS.bipush X72.here hx rfl (hb hby at_107) ?_
        show Steps p.tables e below (T72.setTop (mkF m 109 #[.val (.int p0), .val (.int p1), .val (.int p2), .val (.int p3), .val (.int p4), .val (.int p5), .val (.ref b1), .val (.int (1 : Int32)), .val (.int (0 : Int32)), .val (.int (Int32.ofNat dn)), .val (.int (Int32.ofNat en)), .unset, .unset, .unset, .unset] [(.int (48 : Int32)), (.ref b1)])) _
        refine XS.iload X72.here hx rfl (hb hby at_109) rfl ?_
        show Steps p.tables e below (T72.setTop (mkF m 111 #[.val (.int p0), .val (.int p1), .val (.int p2), .val (.int p3), .val (.int p4), .val (.int p5), .val (.ref b1), .val (.int (1 : Int32)), .val (.int (0 : Int32)), .val (.int (Int32.ofNat dn)), .val (.int (Int32.ofNat en)), .unset, .unset, .unset, .unset] [(.int (Int32.ofNat dn)), (.int (48 : Int32)), (.ref b1)])) _
        refine XS.iadd X72.here hx rfl (hb hby at_111) rfl ?_
        exact kt
      have c74 : ∀ t, Steps p.tables e below (T72.setTop (mkF m 112 #[.val (.int p0), .val (.int p1), .val (.int p2), .val (.int p3), .val (.int p4), .val (.int p5), .val (.ref b1), .val (.int (1 : Int32)), .val (.int (0 : Int32)), .val (.int (Int32.ofNat dn)), .val (.int (Int32.ofNat en)), .unset, .unset, .unset, .unset] [(.int (own_d dn)), (.ref b1)])) t → Steps p.tables e below (T72.setTop (mkF m 112 #[.val (.int p0), .val (.int p1), .val (.int p2), .val (.int p3), .val (.int p4), .val (.int p5), .val (.ref b1), .val (.int (1 : Int32)), .val (.int (0 : Int32)), .val (.int (Int32.ofNat dn)), .val (.int (Int32.ofNat en)), .unset, .unset, .unset, .unset] [(.int ((48 : Int32) + (Int32.ofNat dn))), (.ref b1)])) t := fun t kt => by show Steps p.tables e below (T72.setTop (mkF m 112 #[.val (.int p0), .val (.int p1), .val (.int p2), .val (.int p3), .val (.int p4), .val (.int p5), .val (.ref b1), .val (.int (1 : Int32)), .val (.int (0 : Int32)), .val (.int (Int32.ofNat dn)), .val (.int (Int32.ofNat en)), .unset, .unset, .unset, .unset] [(.int (own_d dn)), (.ref b1)])) t; exact kt
      have f75 := (Nat.le_trans f70 Kq72.1)
      obtain ⟨cq76, kq76, q76a, q76b, q76c⟩ := isOf hZ rfl Eq72
      obtain ⟨_, _, ⟨T77, L77, k77, n77⟩, -, X77, ⟨Lc77, hQ77, l77, y77, z77⟩, st77⟩ := X72.virtualBack hx (y := (⟨"com/example/sequence_set/sequenceset/cli/DecimalParser", "accept", "(I)V"⟩ : MethodName)) (z := (⟨"com/example/sequence_set/sequenceset/cli/DecimalParser", "accept", "(I)V"⟩ : MethodName)) hown (mvT hZ (hw _ (List.mem_of_getElem? (i := 13) rfl))) (mvT hZ (hw _ (List.mem_of_getElem? (i := 14) rfl))) (notFace_of_selects (args := #[]) (mvT hZ (hw _ (List.mem_of_getElem? (i := 16) rfl)))) (mvT hZ (hw _ (List.mem_of_getElem? (i := 16) rfl))) (mvT hZ (hw _ (List.mem_of_getElem? (i := 15) rfl))) (by decide) (backOf (W := 0) (rm3d l Z a0 hw [] b1 (own_d dn) (0 : Int64) (1 : Int32) ((0 : Int32) + (1 : Int32)) (0 : Int32) T72.heap n0 f75 Fq72_0 Fq72_1 Fq72_2 Fq72_3 Fq72_4 Fq72_5 Eq72 g_b1 (own_dc dn hdn).1 (own_dc dn hdn).2.1 (own_dc dn hdn).2.2.1 (own_dc dn hdn).2.2.2 (own_k1 dn hdn)) hZ (hw _ (List.mem_of_getElem? (i := 17) rfl)) (hw _ (List.mem_of_getElem? (i := 2) rfl)) (by decide) (by decide)) q76a q76c (g := (mkF m 112 #[.val (.int p0), .val (.int p1), .val (.int p2), .val (.int p3), .val (.int p4), .val (.int p5), .val (.ref b1), .val (.int (1 : Int32)), .val (.int (0 : Int32)), .val (.int (Int32.ofNat dn)), .val (.int (Int32.ofNat en)), .unset, .unset, .unset, .unset] [(.int (own_d dn)), (.ref b1)])) rfl (by rw [hml]; rfl) (Steps.refl _) (argsL := [(.int (own_d dn))]) (rest := []) (lenOf pd_1 rfl) rfl (by show 2 * 0 + _ ≤ _; exact Nat.le_of_eq rfl) (hb hby at_112) (fun _ _ => ⟨rfl, rfl, (by decide : 1 + 0 ≤ _), (by decide : 6 + 0 ≤ _)⟩)
      dsimp only [Pt.U, Pt.locs, Pt.cells, Pt.slots] at X77 l77 y77 z77 st77 hQ77
      subst l77 y77 z77
      obtain ⟨rfl, N77q, Kq77, Eq77, Fq77_0, Fq77_1, Fq77_2, Fq77_3, Fq77_4, Fq77_5⟩ := hQ77
      have N77 := Fr.app N72 N77q
      have c78 : ∀ t, Steps p.tables e below (T77.setTop (mkF m 172 #[.val (.int p0), .val (.int p1), .val (.int p2), .val (.int p3), .val (.int p4), .val (.int p5), .val (.ref b1), .val (.int (1 : Int32)), .val (.int (0 : Int32)), .val (.int (Int32.ofNat dn)), .val (.int (Int32.ofNat en)), .val (.long ((Int32.ofNat dn).toInt64)), .second, .val (.long (-((Int32.ofNat dn).toInt64))), .second] [(.ref b1)])) t → Steps p.tables e below (T77.setTop (mkF m 115 #[.val (.int p0), .val (.int p1), .val (.int p2), .val (.int p3), .val (.int p4), .val (.int p5), .val (.ref b1), .val (.int (1 : Int32)), .val (.int (0 : Int32)), .val (.int (Int32.ofNat dn)), .val (.int (Int32.ofNat en)), .unset, .unset, .unset, .unset] [])) t := by
        intro t kt
        show Steps p.tables e below (T77.setTop (mkF m 115 #[.val (.int p0), .val (.int p1), .val (.int p2), .val (.int p3), .val (.int p4), .val (.int p5), .val (.ref b1), .val (.int (1 : Int32)), .val (.int (0 : Int32)), .val (.int (Int32.ofNat dn)), .val (.int (Int32.ofNat en)), .unset, .unset, .unset, .unset] [])) _
        refine XS.iload X77.here hx rfl (hb hby at_115) rfl ?_
        show Steps p.tables e below (T77.setTop (mkF m 117 #[.val (.int p0), .val (.int p1), .val (.int p2), .val (.int p3), .val (.int p4), .val (.int p5), .val (.ref b1), .val (.int (1 : Int32)), .val (.int (0 : Int32)), .val (.int (Int32.ofNat dn)), .val (.int (Int32.ofNat en)), .unset, .unset, .unset, .unset] [(.int (0 : Int32))])) _
        refine XS.ifYes X77.here hx rfl (pc0 := 117) (pc' := 130) rfl (hb hby at_117) rfl ((if0 _ _).trans (teq (by decide : (0 : Int32) = (0 : Int32))).1) (by decide) (by decide) ?_
        show Steps p.tables e below (T77.setTop (mkF m 130 #[.val (.int p0), .val (.int p1), .val (.int p2), .val (.int p3), .val (.int p4), .val (.int p5), .val (.ref b1), .val (.int (1 : Int32)), .val (.int (0 : Int32)), .val (.int (Int32.ofNat dn)), .val (.int (Int32.ofNat en)), .unset, .unset, .unset, .unset] [])) _
        refine XS.iload X77.here hx rfl (hb hby at_130) rfl ?_
        show Steps p.tables e below (T77.setTop (mkF m 132 #[.val (.int p0), .val (.int p1), .val (.int p2), .val (.int p3), .val (.int p4), .val (.int p5), .val (.ref b1), .val (.int (1 : Int32)), .val (.int (0 : Int32)), .val (.int (Int32.ofNat dn)), .val (.int (Int32.ofNat en)), .unset, .unset, .unset, .unset] [(.int (0 : Int32))])) _
        refine XS.ifYes X77.here hx rfl (pc0 := 132) (pc' := 149) rfl (hb hby at_132) rfl ((if0 _ _).trans (teq (by decide : (0 : Int32) = (0 : Int32))).1) (by decide) (by decide) ?_
        show Steps p.tables e below (T77.setTop (mkF m 149 #[.val (.int p0), .val (.int p1), .val (.int p2), .val (.int p3), .val (.int p4), .val (.int p5), .val (.ref b1), .val (.int (1 : Int32)), .val (.int (0 : Int32)), .val (.int (Int32.ofNat dn)), .val (.int (Int32.ofNat en)), .unset, .unset, .unset, .unset] [])) _
        refine XS.iload X77.here hx rfl (hb hby at_149) rfl ?_
        show Steps p.tables e below (T77.setTop (mkF m 151 #[.val (.int p0), .val (.int p1), .val (.int p2), .val (.int p3), .val (.int p4), .val (.int p5), .val (.ref b1), .val (.int (1 : Int32)), .val (.int (0 : Int32)), .val (.int (Int32.ofNat dn)), .val (.int (Int32.ofNat en)), .unset, .unset, .unset, .unset] [(.int (Int32.ofNat dn))])) _
        refine XS.i2l X77.here hx rfl (hb hby at_151) rfl ?_
        show Steps p.tables e below (T77.setTop (mkF m 152 #[.val (.int p0), .val (.int p1), .val (.int p2), .val (.int p3), .val (.int p4), .val (.int p5), .val (.ref b1), .val (.int (1 : Int32)), .val (.int (0 : Int32)), .val (.int (Int32.ofNat dn)), .val (.int (Int32.ofNat en)), .unset, .unset, .unset, .unset] [(.long ((Int32.ofNat dn).toInt64))])) _
        refine XS.lstore X77.here hx rfl (hb hby at_152) rfl (l' := #[.val (.int p0), .val (.int p1), .val (.int p2), .val (.int p3), .val (.int p4), .val (.int p5), .val (.ref b1), .val (.int (1 : Int32)), .val (.int (0 : Int32)), .val (.int (Int32.ofNat dn)), .val (.int (Int32.ofNat en)), .val (.long ((Int32.ofNat dn).toInt64)), .second, .unset, .unset]) rfl ?_
        show Steps p.tables e below (T77.setTop (mkF m 154 #[.val (.int p0), .val (.int p1), .val (.int p2), .val (.int p3), .val (.int p4), .val (.int p5), .val (.ref b1), .val (.int (1 : Int32)), .val (.int (0 : Int32)), .val (.int (Int32.ofNat dn)), .val (.int (Int32.ofNat en)), .val (.long ((Int32.ofNat dn).toInt64)), .second, .unset, .unset] [])) _
        refine XS.iload X77.here hx rfl (hb hby at_154) rfl ?_
        show Steps p.tables e below (T77.setTop (mkF m 156 #[.val (.int p0), .val (.int p1), .val (.int p2), .val (.int p3), .val (.int p4), .val (.int p5), .val (.ref b1), .val (.int (1 : Int32)), .val (.int (0 : Int32)), .val (.int (Int32.ofNat dn)), .val (.int (Int32.ofNat en)), .val (.long ((Int32.ofNat dn).toInt64)), .second, .unset, .unset] [(.int (1 : Int32))])) _
        refine XS.iconst X77.here hx rfl (hb hby at_156) ?_
        show Steps p.tables e below (T77.setTop (mkF m 157 #[.val (.int p0), .val (.int p1), .val (.int p2), .val (.int p3), .val (.int p4), .val (.int p5), .val (.ref b1), .val (.int (1 : Int32)), .val (.int (0 : Int32)), .val (.int (Int32.ofNat dn)), .val (.int (Int32.ofNat en)), .val (.long ((Int32.ofNat dn).toInt64)), .second, .unset, .unset] [(.int (1 : Int32)), (.int (1 : Int32))])) _
        refine XS.icmpNo X77.here hx rfl (hb hby at_157) rfl (teq (by decide : (1 : Int32) = (1 : Int32))).2 ?_
        show Steps p.tables e below (T77.setTop (mkF m 160 #[.val (.int p0), .val (.int p1), .val (.int p2), .val (.int p3), .val (.int p4), .val (.int p5), .val (.ref b1), .val (.int (1 : Int32)), .val (.int (0 : Int32)), .val (.int (Int32.ofNat dn)), .val (.int (Int32.ofNat en)), .val (.long ((Int32.ofNat dn).toInt64)), .second, .unset, .unset] [])) _
        refine XS.lload X77.here hx rfl (hb hby at_160) rfl ?_
        show Steps p.tables e below (T77.setTop (mkF m 162 #[.val (.int p0), .val (.int p1), .val (.int p2), .val (.int p3), .val (.int p4), .val (.int p5), .val (.ref b1), .val (.int (1 : Int32)), .val (.int (0 : Int32)), .val (.int (Int32.ofNat dn)), .val (.int (Int32.ofNat en)), .val (.long ((Int32.ofNat dn).toInt64)), .second, .unset, .unset] [(.long ((Int32.ofNat dn).toInt64))])) _
        refine XS.lneg X77.here hx rfl (hb hby at_162) rfl ?_
        show Steps p.tables e below (T77.setTop (mkF m 163 #[.val (.int p0), .val (.int p1), .val (.int p2), .val (.int p3), .val (.int p4), .val (.int p5), .val (.ref b1), .val (.int (1 : Int32)), .val (.int (0 : Int32)), .val (.int (Int32.ofNat dn)), .val (.int (Int32.ofNat en)), .val (.long ((Int32.ofNat dn).toInt64)), .second, .unset, .unset] [(.long (-((Int32.ofNat dn).toInt64)))])) _
        refine XS.goto X77.here hx rfl (pc0 := 163) (pc' := 168) rfl (hb hby at_163) (by decide) (by decide) ?_
        show Steps p.tables e below (T77.setTop (mkF m 168 #[.val (.int p0), .val (.int p1), .val (.int p2), .val (.int p3), .val (.int p4), .val (.int p5), .val (.ref b1), .val (.int (1 : Int32)), .val (.int (0 : Int32)), .val (.int (Int32.ofNat dn)), .val (.int (Int32.ofNat en)), .val (.long ((Int32.ofNat dn).toInt64)), .second, .unset, .unset] [(.long (-((Int32.ofNat dn).toInt64)))])) _
        refine XS.lstore X77.here hx rfl (hb hby at_168) rfl (l' := #[.val (.int p0), .val (.int p1), .val (.int p2), .val (.int p3), .val (.int p4), .val (.int p5), .val (.ref b1), .val (.int (1 : Int32)), .val (.int (0 : Int32)), .val (.int (Int32.ofNat dn)), .val (.int (Int32.ofNat en)), .val (.long ((Int32.ofNat dn).toInt64)), .second, .val (.long (-((Int32.ofNat dn).toInt64))), .second]) rfl ?_
        show Steps p.tables e below (T77.setTop (mkF m 170 #[.val (.int p0), .val (.int p1), .val (.int p2), .val (.int p3), .val (.int p4), .val (.int p5), .val (.ref b1), .val (.int (1 : Int32)), .val (.int (0 : Int32)), .val (.int (Int32.ofNat dn)), .val (.int (Int32.ofNat en)), .val (.long ((Int32.ofNat dn).toInt64)), .second, .val (.long (-((Int32.ofNat dn).toInt64))), .second] [])) _
        refine XS.aload X77.here hx rfl (hb hby at_170) rfl rfl ?_
        exact kt
      have f79 := (Nat.le_trans f75 Kq77.1)
      obtain ⟨cq80, kq80, q80a, q80b, q80c⟩ := isOf hZ rfl Eq77
      obtain ⟨_, _, ⟨T81, L81, k81, n81⟩, -, X81, ⟨Lc81, hQ81, l81, y81, z81⟩, st81⟩ := X77.virtualBack hx (y := (⟨"com/example/sequence_set/sequenceset/cli/DecimalParser", "value", "()J"⟩ : MethodName)) (z := (⟨"com/example/sequence_set/sequenceset/cli/DecimalParser", "value", "()J"⟩ : MethodName)) hown (mvT hZ (hw _ (List.mem_of_getElem? (i := 34) rfl))) (mvT hZ (hw _ (List.mem_of_getElem? (i := 35) rfl))) (notFace_of_selects (args := #[]) (mvT hZ (hw _ (List.mem_of_getElem? (i := 37) rfl)))) (mvT hZ (hw _ (List.mem_of_getElem? (i := 37) rfl))) (mvT hZ (hw _ (List.mem_of_getElem? (i := 36) rfl))) (by decide) (backOf (W := 0) (rm5_1 l Z a0 hw [] b1 (own_ng (0 : Int64) (own_d dn)) (((0 : Int32) + (1 : Int32)) + (1 : Int32)) ((0 : Int32) + (1 : Int32)) T77.heap n0 f79 Fq77_0 Fq77_1 Fq77_2 Fq77_3 Fq77_4 Fq77_5 Eq77 g_b1 (by decide) (own_v1 dn hdn).1) hZ (hw _ (List.mem_of_getElem? (i := 38) rfl)) (hw _ (List.mem_of_getElem? (i := 2) rfl)) (by decide) (by decide)) q80a q80c (g := (mkF m 172 #[.val (.int p0), .val (.int p1), .val (.int p2), .val (.int p3), .val (.int p4), .val (.int p5), .val (.ref b1), .val (.int (1 : Int32)), .val (.int (0 : Int32)), .val (.int (Int32.ofNat dn)), .val (.int (Int32.ofNat en)), .val (.long ((Int32.ofNat dn).toInt64)), .second, .val (.long (-((Int32.ofNat dn).toInt64))), .second] [(.ref b1)])) rfl (by rw [hml]; rfl) (Steps.refl _) (argsL := []) (rest := []) (lenOf pd_2 rfl) rfl (by show 2 * 0 + _ ≤ _; exact Nat.le_of_eq rfl) (hb hby at_172) (fun _ _ => ⟨rfl, rfl, (by decide : 1 + 0 ≤ _), (by decide : 6 + 0 ≤ _)⟩)
      dsimp only [Pt.U, Pt.locs, Pt.cells, Pt.slots] at X81 l81 y81 z81 st81 hQ81
      subst l81 y81 z81
      obtain ⟨rfl, N81q, e81⟩ := hQ81
      have N81 := Fr.app N77 N81q
      have c83 : ∀ t, Steps p.tables e below (T81.setTop (mkF m 178 #[.val (.int p0), .val (.int p1), .val (.int p2), .val (.int p3), .val (.int p4), .val (.int p5), .val (.ref b1), .val (.int (1 : Int32)), .val (.int (0 : Int32)), .val (.int (Int32.ofNat dn)), .val (.int (Int32.ofNat en)), .val (.long ((Int32.ofNat dn).toInt64)), .second, .val (.long (-((Int32.ofNat dn).toInt64))), .second] [(.int (lcmpW (own_ng (0 : Int64) (own_d dn)) (-((Int32.ofNat dn).toInt64))))])) t → Steps p.tables e below (T81.setTop (mkF m 175 #[.val (.int p0), .val (.int p1), .val (.int p2), .val (.int p3), .val (.int p4), .val (.int p5), .val (.ref b1), .val (.int (1 : Int32)), .val (.int (0 : Int32)), .val (.int (Int32.ofNat dn)), .val (.int (Int32.ofNat en)), .val (.long ((Int32.ofNat dn).toInt64)), .second, .val (.long (-((Int32.ofNat dn).toInt64))), .second] [(.long (own_ng (0 : Int64) (own_d dn)))])) t := by
        intro t kt
        show Steps p.tables e below (T81.setTop (mkF m 175 #[.val (.int p0), .val (.int p1), .val (.int p2), .val (.int p3), .val (.int p4), .val (.int p5), .val (.ref b1), .val (.int (1 : Int32)), .val (.int (0 : Int32)), .val (.int (Int32.ofNat dn)), .val (.int (Int32.ofNat en)), .val (.long ((Int32.ofNat dn).toInt64)), .second, .val (.long (-((Int32.ofNat dn).toInt64))), .second] [(.long (own_ng (0 : Int64) (own_d dn)))])) _
        refine XS.lload X81.here hx rfl (hb hby at_175) rfl ?_
        show Steps p.tables e below (T81.setTop (mkF m 177 #[.val (.int p0), .val (.int p1), .val (.int p2), .val (.int p3), .val (.int p4), .val (.int p5), .val (.ref b1), .val (.int (1 : Int32)), .val (.int (0 : Int32)), .val (.int (Int32.ofNat dn)), .val (.int (Int32.ofNat en)), .val (.long ((Int32.ofNat dn).toInt64)), .second, .val (.long (-((Int32.ofNat dn).toInt64))), .second] [(.long (-((Int32.ofNat dn).toInt64))), (.long (own_ng (0 : Int64) (own_d dn)))])) _
        refine XS.lcmp X81.here hx rfl (hb hby at_177) rfl ?_
        exact kt
      have hd82 : (own_ng (0 : Int64) (own_d dn)) = (-((Int32.ofNat dn).toInt64)) := (own_v1 dn hdn).2.1
      have c84 : ∀ t, Steps p.tables e below (T81.setTop (mkF m 186 #[.val (.int p0), .val (.int p1), .val (.int p2), .val (.int p3), .val (.int p4), .val (.int p5), .val (.ref b1), .val (.int (1 : Int32)), .val (.int (0 : Int32)), .val (.int (Int32.ofNat dn)), .val (.int (Int32.ofNat en)), .val (.long ((Int32.ofNat dn).toInt64)), .second, .val (.long (-((Int32.ofNat dn).toInt64))), .second] [(.int (1 : Int32))])) t → Steps p.tables e below (T81.setTop (mkF m 178 #[.val (.int p0), .val (.int p1), .val (.int p2), .val (.int p3), .val (.int p4), .val (.int p5), .val (.ref b1), .val (.int (1 : Int32)), .val (.int (0 : Int32)), .val (.int (Int32.ofNat dn)), .val (.int (Int32.ofNat en)), .val (.long ((Int32.ofNat dn).toInt64)), .second, .val (.long (-((Int32.ofNat dn).toInt64))), .second] [(.int (lcmpW (own_ng (0 : Int64) (own_d dn)) (-((Int32.ofNat dn).toInt64))))])) t := by
        intro t kt
        show Steps p.tables e below (T81.setTop (mkF m 178 #[.val (.int p0), .val (.int p1), .val (.int p2), .val (.int p3), .val (.int p4), .val (.int p5), .val (.ref b1), .val (.int (1 : Int32)), .val (.int (0 : Int32)), .val (.int (Int32.ofNat dn)), .val (.int (Int32.ofNat en)), .val (.long ((Int32.ofNat dn).toInt64)), .second, .val (.long (-((Int32.ofNat dn).toInt64))), .second] [(.int (lcmpW (own_ng (0 : Int64) (own_d dn)) (-((Int32.ofNat dn).toInt64))))])) _
        refine XS.ifNo X81.here hx rfl (hb hby at_178) rfl ((if0 _ _).trans (teq ((lw_eq _ _).mpr (hd82))).2) ?_
        show Steps p.tables e below (T81.setTop (mkF m 181 #[.val (.int p0), .val (.int p1), .val (.int p2), .val (.int p3), .val (.int p4), .val (.int p5), .val (.ref b1), .val (.int (1 : Int32)), .val (.int (0 : Int32)), .val (.int (Int32.ofNat dn)), .val (.int (Int32.ofNat en)), .val (.long ((Int32.ofNat dn).toInt64)), .second, .val (.long (-((Int32.ofNat dn).toInt64))), .second] [])) _
        refine XS.iconst X81.here hx rfl (hb hby at_181) ?_
        show Steps p.tables e below (T81.setTop (mkF m 182 #[.val (.int p0), .val (.int p1), .val (.int p2), .val (.int p3), .val (.int p4), .val (.int p5), .val (.ref b1), .val (.int (1 : Int32)), .val (.int (0 : Int32)), .val (.int (Int32.ofNat dn)), .val (.int (Int32.ofNat en)), .val (.long ((Int32.ofNat dn).toInt64)), .second, .val (.long (-((Int32.ofNat dn).toInt64))), .second] [(.int (1 : Int32))])) _
        refine XS.goto X81.here hx rfl (pc0 := 182) (pc' := 186) rfl (hb hby at_182) (by decide) (by decide) ?_
        exact kt
      obtain ⟨fs, hr, hrun, hended, hW, hsame⟩ := X81.leave (v := some (.int (1 : Int32))) (fun h => by rw [Bd.returns] at h; cases h)
      refine ⟨_, _, pre0 _ (st1 _ (c2 _ (st4.trans (c5 _ (st8.trans (c9 _ (st12.trans (c13 _ (st16.trans (c17 _ (st20.trans (c21 _ (c63 _ (c64 _ (c65 _ (c66 _ (c67 _ (c68 _ (c69 _ (st72.trans (c73 _ (c74 _ (st77.trans (c78 _ (st81.trans (c83 _ (c84 _ (?_)))))))))))))))))))))))))))), hrun, hended, _, _, rfl, ?_, ⟨_, rfl⟩, hW, hsame.mono (by decide) (by decide)⟩
      · show Steps p.tables e below (T81.setTop (mkF m 186 #[.val (.int p0), .val (.int p1), .val (.int p2), .val (.int p3), .val (.int p4), .val (.int p5), .val (.ref b1), .val (.int (1 : Int32)), .val (.int (0 : Int32)), .val (.int (Int32.ofNat dn)), .val (.int (Int32.ofNat en)), .val (.long ((Int32.ofNat dn).toInt64)), .second, .val (.long (-((Int32.ofNat dn).toInt64))), .second] [(.int (1 : Int32))])) _
        exact retN X81 hx (t := .boolean) Bd.returns (by simp) (hb hby at_186) hr
      · show Q0 Z p0 p1 p2 p3 p4 p5 h0 n0 _ T81.heap _
        rw [e81]
        exact ⟨congrArg (fun z => some (Value.int z)) (show (1 : Int32) = (1 : Int32) from by rfl), N81⟩
    · -- it isn't
      have c86 : ∀ t, Steps p.tables e below (T20.setTop (mkF m 66 #[.val (.int p0), .val (.int p1), .val (.int p2), .val (.int p3), .val (.int p4), .val (.int p5), .val (.ref b1), .val (.int (1 : Int32)), .val (.int (1 : Int32)), .val (.int ((p4 &&& (2147483647 : Int32)) % (10 : Int32))), .unset, .unset, .unset, .unset, .unset] [])) t → Steps p.tables e below (T20.setTop (mkF m 46 #[.val (.int p0), .val (.int p1), .val (.int p2), .val (.int p3), .val (.int p4), .val (.int p5), .val (.ref b1), .val (.int (1 : Int32)), .unset, .unset, .unset, .unset, .unset, .unset, .unset] [(.int (((p3.toUInt32 >>> ((8 : Int32) &&& 31).toUInt32).toInt32) &&& (1 : Int32)))])) t := by
        intro t kt
        show Steps p.tables e below (T20.setTop (mkF m 46 #[.val (.int p0), .val (.int p1), .val (.int p2), .val (.int p3), .val (.int p4), .val (.int p5), .val (.ref b1), .val (.int (1 : Int32)), .unset, .unset, .unset, .unset, .unset, .unset, .unset] [(.int (((p3.toUInt32 >>> ((8 : Int32) &&& 31).toUInt32).toInt32) &&& (1 : Int32)))])) _
        refine XS.ifNo X20.here hx rfl (hb hby at_46) rfl ((if0 _ _).trans (feq hc46).1) ?_
        show Steps p.tables e below (T20.setTop (mkF m 49 #[.val (.int p0), .val (.int p1), .val (.int p2), .val (.int p3), .val (.int p4), .val (.int p5), .val (.ref b1), .val (.int (1 : Int32)), .unset, .unset, .unset, .unset, .unset, .unset, .unset] [])) _
        refine XS.iconst X20.here hx rfl (hb hby at_49) ?_
        show Steps p.tables e below (T20.setTop (mkF m 50 #[.val (.int p0), .val (.int p1), .val (.int p2), .val (.int p3), .val (.int p4), .val (.int p5), .val (.ref b1), .val (.int (1 : Int32)), .unset, .unset, .unset, .unset, .unset, .unset, .unset] [(.int (1 : Int32))])) _
        refine XS.goto X20.here hx rfl (pc0 := 50) (pc' := 54) rfl (hb hby at_50) (by decide) (by decide) ?_
        show Steps p.tables e below (T20.setTop (mkF m 54 #[.val (.int p0), .val (.int p1), .val (.int p2), .val (.int p3), .val (.int p4), .val (.int p5), .val (.ref b1), .val (.int (1 : Int32)), .unset, .unset, .unset, .unset, .unset, .unset, .unset] [(.int (1 : Int32))])) _
        refine XS.istore X20.here hx rfl (hb hby at_54) rfl (l' := #[.val (.int p0), .val (.int p1), .val (.int p2), .val (.int p3), .val (.int p4), .val (.int p5), .val (.ref b1), .val (.int (1 : Int32)), .val (.int (1 : Int32)), .unset, .unset, .unset, .unset, .unset, .unset]) rfl ?_
        show Steps p.tables e below (T20.setTop (mkF m 56 #[.val (.int p0), .val (.int p1), .val (.int p2), .val (.int p3), .val (.int p4), .val (.int p5), .val (.ref b1), .val (.int (1 : Int32)), .val (.int (1 : Int32)), .unset, .unset, .unset, .unset, .unset, .unset] [])) _
        refine XS.iload X20.here hx rfl (hb hby at_56) rfl ?_
        show Steps p.tables e below (T20.setTop (mkF m 58 #[.val (.int p0), .val (.int p1), .val (.int p2), .val (.int p3), .val (.int p4), .val (.int p5), .val (.ref b1), .val (.int (1 : Int32)), .val (.int (1 : Int32)), .unset, .unset, .unset, .unset, .unset, .unset] [(.int p4)])) _
        refine X20.ldcInt hx hown (mvT hZ (hw _ (List.mem_of_getElem? (i := 31) rfl))) (g := (mkF m 58 #[.val (.int p0), .val (.int p1), .val (.int p2), .val (.int p3), .val (.int p4), .val (.int p5), .val (.ref b1), .val (.int (1 : Int32)), .val (.int (1 : Int32)), .unset, .unset, .unset, .unset, .unset, .unset] [(.int p4)])) rfl (hb hby at_58) _ ?_
        show Steps p.tables e below (T20.setTop (mkF m 60 #[.val (.int p0), .val (.int p1), .val (.int p2), .val (.int p3), .val (.int p4), .val (.int p5), .val (.ref b1), .val (.int (1 : Int32)), .val (.int (1 : Int32)), .unset, .unset, .unset, .unset, .unset, .unset] [(.int (2147483647 : Int32)), (.int p4)])) _
        refine XS.iand X20.here hx rfl (hb hby at_60) rfl ?_
        show Steps p.tables e below (T20.setTop (mkF m 61 #[.val (.int p0), .val (.int p1), .val (.int p2), .val (.int p3), .val (.int p4), .val (.int p5), .val (.ref b1), .val (.int (1 : Int32)), .val (.int (1 : Int32)), .unset, .unset, .unset, .unset, .unset, .unset] [(.int (p4 &&& (2147483647 : Int32)))])) _
        refine XS.bipush X20.here hx rfl (hb hby at_61) ?_
        show Steps p.tables e below (T20.setTop (mkF m 63 #[.val (.int p0), .val (.int p1), .val (.int p2), .val (.int p3), .val (.int p4), .val (.int p5), .val (.ref b1), .val (.int (1 : Int32)), .val (.int (1 : Int32)), .unset, .unset, .unset, .unset, .unset, .unset] [(.int (10 : Int32)), (.int (p4 &&& (2147483647 : Int32)))])) _
        refine iremM X20 hx rfl (hb hby at_63) rfl (by decide) ?_
        show Steps p.tables e below (T20.setTop (mkF m 64 #[.val (.int p0), .val (.int p1), .val (.int p2), .val (.int p3), .val (.int p4), .val (.int p5), .val (.ref b1), .val (.int (1 : Int32)), .val (.int (1 : Int32)), .unset, .unset, .unset, .unset, .unset, .unset] [(.int ((p4 &&& (2147483647 : Int32)) % (10 : Int32)))])) _
        refine XS.istore X20.here hx rfl (hb hby at_64) rfl (l' := #[.val (.int p0), .val (.int p1), .val (.int p2), .val (.int p3), .val (.int p4), .val (.int p5), .val (.ref b1), .val (.int (1 : Int32)), .val (.int (1 : Int32)), .val (.int ((p4 &&& (2147483647 : Int32)) % (10 : Int32))), .unset, .unset, .unset, .unset, .unset]) rfl ?_
        exact kt
      obtain ⟨dn, hdn, hde⟩ := own_ten p4
      have c87 : ∀ t, Steps p.tables e below (T20.setTop (mkF m 66 #[.val (.int p0), .val (.int p1), .val (.int p2), .val (.int p3), .val (.int p4), .val (.int p5), .val (.ref b1), .val (.int (1 : Int32)), .val (.int (1 : Int32)), .val (.int (Int32.ofNat dn)), .unset, .unset, .unset, .unset, .unset] [])) t → Steps p.tables e below (T20.setTop (mkF m 66 #[.val (.int p0), .val (.int p1), .val (.int p2), .val (.int p3), .val (.int p4), .val (.int p5), .val (.ref b1), .val (.int (1 : Int32)), .val (.int (1 : Int32)), .val (.int ((p4 &&& (2147483647 : Int32)) % (10 : Int32))), .unset, .unset, .unset, .unset, .unset] [])) t := fun t kt => by rw [hde]; exact kt
      have c88 : ∀ t, Steps p.tables e below (T20.setTop (mkF m 76 #[.val (.int p0), .val (.int p1), .val (.int p2), .val (.int p3), .val (.int p4), .val (.int p5), .val (.ref b1), .val (.int (1 : Int32)), .val (.int (1 : Int32)), .val (.int (Int32.ofNat dn)), .val (.int ((p5 &&& (2147483647 : Int32)) % (10 : Int32))), .unset, .unset, .unset, .unset] [])) t → Steps p.tables e below (T20.setTop (mkF m 66 #[.val (.int p0), .val (.int p1), .val (.int p2), .val (.int p3), .val (.int p4), .val (.int p5), .val (.ref b1), .val (.int (1 : Int32)), .val (.int (1 : Int32)), .val (.int (Int32.ofNat dn)), .unset, .unset, .unset, .unset, .unset] [])) t := by
        intro t kt
        show Steps p.tables e below (T20.setTop (mkF m 66 #[.val (.int p0), .val (.int p1), .val (.int p2), .val (.int p3), .val (.int p4), .val (.int p5), .val (.ref b1), .val (.int (1 : Int32)), .val (.int (1 : Int32)), .val (.int (Int32.ofNat dn)), .unset, .unset, .unset, .unset, .unset] [])) _
        refine XS.iload X20.here hx rfl (hb hby at_66) rfl ?_
        show Steps p.tables e below (T20.setTop (mkF m 68 #[.val (.int p0), .val (.int p1), .val (.int p2), .val (.int p3), .val (.int p4), .val (.int p5), .val (.ref b1), .val (.int (1 : Int32)), .val (.int (1 : Int32)), .val (.int (Int32.ofNat dn)), .unset, .unset, .unset, .unset, .unset] [(.int p5)])) _
        refine X20.ldcInt hx hown (mvT hZ (hw _ (List.mem_of_getElem? (i := 31) rfl))) (g := (mkF m 68 #[.val (.int p0), .val (.int p1), .val (.int p2), .val (.int p3), .val (.int p4), .val (.int p5), .val (.ref b1), .val (.int (1 : Int32)), .val (.int (1 : Int32)), .val (.int (Int32.ofNat dn)), .unset, .unset, .unset, .unset, .unset] [(.int p5)])) rfl (hb hby at_68) _ ?_
        show Steps p.tables e below (T20.setTop (mkF m 70 #[.val (.int p0), .val (.int p1), .val (.int p2), .val (.int p3), .val (.int p4), .val (.int p5), .val (.ref b1), .val (.int (1 : Int32)), .val (.int (1 : Int32)), .val (.int (Int32.ofNat dn)), .unset, .unset, .unset, .unset, .unset] [(.int (2147483647 : Int32)), (.int p5)])) _
        refine XS.iand X20.here hx rfl (hb hby at_70) rfl ?_
        show Steps p.tables e below (T20.setTop (mkF m 71 #[.val (.int p0), .val (.int p1), .val (.int p2), .val (.int p3), .val (.int p4), .val (.int p5), .val (.ref b1), .val (.int (1 : Int32)), .val (.int (1 : Int32)), .val (.int (Int32.ofNat dn)), .unset, .unset, .unset, .unset, .unset] [(.int (p5 &&& (2147483647 : Int32)))])) _
        refine XS.bipush X20.here hx rfl (hb hby at_71) ?_
        show Steps p.tables e below (T20.setTop (mkF m 73 #[.val (.int p0), .val (.int p1), .val (.int p2), .val (.int p3), .val (.int p4), .val (.int p5), .val (.ref b1), .val (.int (1 : Int32)), .val (.int (1 : Int32)), .val (.int (Int32.ofNat dn)), .unset, .unset, .unset, .unset, .unset] [(.int (10 : Int32)), (.int (p5 &&& (2147483647 : Int32)))])) _
        refine iremM X20 hx rfl (hb hby at_73) rfl (by decide) ?_
        show Steps p.tables e below (T20.setTop (mkF m 74 #[.val (.int p0), .val (.int p1), .val (.int p2), .val (.int p3), .val (.int p4), .val (.int p5), .val (.ref b1), .val (.int (1 : Int32)), .val (.int (1 : Int32)), .val (.int (Int32.ofNat dn)), .unset, .unset, .unset, .unset, .unset] [(.int ((p5 &&& (2147483647 : Int32)) % (10 : Int32)))])) _
        refine XS.istore X20.here hx rfl (hb hby at_74) rfl (l' := #[.val (.int p0), .val (.int p1), .val (.int p2), .val (.int p3), .val (.int p4), .val (.int p5), .val (.ref b1), .val (.int (1 : Int32)), .val (.int (1 : Int32)), .val (.int (Int32.ofNat dn)), .val (.int ((p5 &&& (2147483647 : Int32)) % (10 : Int32))), .unset, .unset, .unset, .unset]) rfl ?_
        exact kt
      obtain ⟨en, hen, hee⟩ := own_ten p5
      have c89 : ∀ t, Steps p.tables e below (T20.setTop (mkF m 76 #[.val (.int p0), .val (.int p1), .val (.int p2), .val (.int p3), .val (.int p4), .val (.int p5), .val (.ref b1), .val (.int (1 : Int32)), .val (.int (1 : Int32)), .val (.int (Int32.ofNat dn)), .val (.int (Int32.ofNat en)), .unset, .unset, .unset, .unset] [])) t → Steps p.tables e below (T20.setTop (mkF m 76 #[.val (.int p0), .val (.int p1), .val (.int p2), .val (.int p3), .val (.int p4), .val (.int p5), .val (.ref b1), .val (.int (1 : Int32)), .val (.int (1 : Int32)), .val (.int (Int32.ofNat dn)), .val (.int ((p5 &&& (2147483647 : Int32)) % (10 : Int32))), .unset, .unset, .unset, .unset] [])) t := fun t kt => by rw [hee]; exact kt
      have c90 : ∀ t, Steps p.tables e below (T20.setTop (mkF m 86 #[.val (.int p0), .val (.int p1), .val (.int p2), .val (.int p3), .val (.int p4), .val (.int p5), .val (.ref b1), .val (.int (1 : Int32)), .val (.int (1 : Int32)), .val (.int (Int32.ofNat dn)), .val (.int (Int32.ofNat en)), .unset, .unset, .unset, .unset] [(.int (45 : Int32)), (.ref b1)])) t → Steps p.tables e below (T20.setTop (mkF m 76 #[.val (.int p0), .val (.int p1), .val (.int p2), .val (.int p3), .val (.int p4), .val (.int p5), .val (.ref b1), .val (.int (1 : Int32)), .val (.int (1 : Int32)), .val (.int (Int32.ofNat dn)), .val (.int (Int32.ofNat en)), .unset, .unset, .unset, .unset] [])) t := by
        intro t kt
        show Steps p.tables e below (T20.setTop (mkF m 76 #[.val (.int p0), .val (.int p1), .val (.int p2), .val (.int p3), .val (.int p4), .val (.int p5), .val (.ref b1), .val (.int (1 : Int32)), .val (.int (1 : Int32)), .val (.int (Int32.ofNat dn)), .val (.int (Int32.ofNat en)), .unset, .unset, .unset, .unset] [])) _
        refine XS.iload X20.here hx rfl (hb hby at_76) rfl ?_
        show Steps p.tables e below (T20.setTop (mkF m 78 #[.val (.int p0), .val (.int p1), .val (.int p2), .val (.int p3), .val (.int p4), .val (.int p5), .val (.ref b1), .val (.int (1 : Int32)), .val (.int (1 : Int32)), .val (.int (Int32.ofNat dn)), .val (.int (Int32.ofNat en)), .unset, .unset, .unset, .unset] [(.int (1 : Int32))])) _
        refine XS.iconst X20.here hx rfl (hb hby at_78) ?_
        show Steps p.tables e below (T20.setTop (mkF m 79 #[.val (.int p0), .val (.int p1), .val (.int p2), .val (.int p3), .val (.int p4), .val (.int p5), .val (.ref b1), .val (.int (1 : Int32)), .val (.int (1 : Int32)), .val (.int (Int32.ofNat dn)), .val (.int (Int32.ofNat en)), .unset, .unset, .unset, .unset] [(.int (1 : Int32)), (.int (1 : Int32))])) _
        refine XS.icmpNo X20.here hx rfl (hb hby at_79) rfl (teq (by decide : (1 : Int32) = (1 : Int32))).2 ?_
        show Steps p.tables e below (T20.setTop (mkF m 82 #[.val (.int p0), .val (.int p1), .val (.int p2), .val (.int p3), .val (.int p4), .val (.int p5), .val (.ref b1), .val (.int (1 : Int32)), .val (.int (1 : Int32)), .val (.int (Int32.ofNat dn)), .val (.int (Int32.ofNat en)), .unset, .unset, .unset, .unset] [])) _
        refine XS.aload X20.here hx rfl (hb hby at_82) rfl rfl ?_
        show Steps p.tables e below (T20.setTop (mkF m 84 #[.val (.int p0), .val (.int p1), .val (.int p2), .val (.int p3), .val (.int p4), .val (.int p5), .val (.ref b1), .val (.int (1 : Int32)), .val (.int (1 : Int32)), .val (.int (Int32.ofNat dn)), .val (.int (Int32.ofNat en)), .unset, .unset, .unset, .unset] [(.ref b1)])) _
        refine XS.bipush X20.here hx rfl (hb hby at_84) ?_
        exact kt
      have f91 := (Nat.le_trans f18 Kq20.1)
      obtain ⟨cq92, kq92, q92a, q92b, q92c⟩ := isOf hZ rfl Eq20
      obtain ⟨_, _, ⟨T93, L93, k93, n93⟩, -, X93, ⟨Lc93, hQ93, l93, y93, z93⟩, st93⟩ := X20.virtualBack hx (y := (⟨"com/example/sequence_set/sequenceset/cli/DecimalParser", "accept", "(I)V"⟩ : MethodName)) (z := (⟨"com/example/sequence_set/sequenceset/cli/DecimalParser", "accept", "(I)V"⟩ : MethodName)) hown (mvT hZ (hw _ (List.mem_of_getElem? (i := 13) rfl))) (mvT hZ (hw _ (List.mem_of_getElem? (i := 14) rfl))) (notFace_of_selects (args := #[]) (mvT hZ (hw _ (List.mem_of_getElem? (i := 16) rfl)))) (mvT hZ (hw _ (List.mem_of_getElem? (i := 16) rfl))) (mvT hZ (hw _ (List.mem_of_getElem? (i := 15) rfl))) (by decide) (backOf (W := 0) (rm3s45 l Z a0 hw []  b1 T20.heap n0 f91 Fq20_0 Fq20_1 Fq20_2 Fq20_3 Fq20_4 Fq20_5 Eq20 g_b1) hZ (hw _ (List.mem_of_getElem? (i := 17) rfl)) (hw _ (List.mem_of_getElem? (i := 2) rfl)) (by decide) (by decide)) q92a q92c (g := (mkF m 86 #[.val (.int p0), .val (.int p1), .val (.int p2), .val (.int p3), .val (.int p4), .val (.int p5), .val (.ref b1), .val (.int (1 : Int32)), .val (.int (1 : Int32)), .val (.int (Int32.ofNat dn)), .val (.int (Int32.ofNat en)), .unset, .unset, .unset, .unset] [(.int (45 : Int32)), (.ref b1)])) rfl (by rw [hml]; rfl) (Steps.refl _) (argsL := [(.int (45 : Int32))]) (rest := []) (lenOf pd_1 rfl) rfl (by show 2 * 0 + _ ≤ _; exact Nat.le_of_eq rfl) (hb hby at_86) (fun _ _ => ⟨rfl, rfl, (by decide : 1 + 0 ≤ _), (by decide : 6 + 0 ≤ _)⟩)
      dsimp only [Pt.U, Pt.locs, Pt.cells, Pt.slots] at X93 l93 y93 z93 st93 hQ93
      subst l93 y93 z93
      obtain ⟨rfl, N93q, Kq93, Eq93, Fq93_0, Fq93_1, Fq93_2, Fq93_3, Fq93_4, Fq93_5⟩ := hQ93
      have N93 := Fr.app N20 N93q
      have c94 : ∀ t, Steps p.tables e below (T93.setTop (mkF m 112 #[.val (.int p0), .val (.int p1), .val (.int p2), .val (.int p3), .val (.int p4), .val (.int p5), .val (.ref b1), .val (.int (1 : Int32)), .val (.int (1 : Int32)), .val (.int (Int32.ofNat dn)), .val (.int (Int32.ofNat en)), .unset, .unset, .unset, .unset] [(.int ((48 : Int32) + (Int32.ofNat dn))), (.ref b1)])) t → Steps p.tables e below (T93.setTop (mkF m 89 #[.val (.int p0), .val (.int p1), .val (.int p2), .val (.int p3), .val (.int p4), .val (.int p5), .val (.ref b1), .val (.int (1 : Int32)), .val (.int (1 : Int32)), .val (.int (Int32.ofNat dn)), .val (.int (Int32.ofNat en)), .unset, .unset, .unset, .unset] [])) t := by
        intro t kt
        show Steps p.tables e below (T93.setTop (mkF m 89 #[.val (.int p0), .val (.int p1), .val (.int p2), .val (.int p3), .val (.int p4), .val (.int p5), .val (.ref b1), .val (.int (1 : Int32)), .val (.int (1 : Int32)), .val (.int (Int32.ofNat dn)), .val (.int (Int32.ofNat en)), .unset, .unset, .unset, .unset] [])) _
        refine XS.goto X93.here hx rfl (pc0 := 89) (pc' := 105) rfl (hb hby at_89) (by decide) (by decide) ?_
        show Steps p.tables e below (T93.setTop (mkF m 105 #[.val (.int p0), .val (.int p1), .val (.int p2), .val (.int p3), .val (.int p4), .val (.int p5), .val (.ref b1), .val (.int (1 : Int32)), .val (.int (1 : Int32)), .val (.int (Int32.ofNat dn)), .val (.int (Int32.ofNat en)), .unset, .unset, .unset, .unset] [])) _
        refine XS.aload X93.here hx rfl (hb hby at_105) rfl rfl ?_
        show Steps p.tables e below (T93.setTop (mkF m 107 #[.val (.int p0), .val (.int p1), .val (.int p2), .val (.int p3), .val (.int p4), .val (.int p5), .val (.ref b1), .val (.int (1 : Int32)), .val (.int (1 : Int32)), .val (.int (Int32.ofNat dn)), .val (.int (Int32.ofNat en)), .unset, .unset, .unset, .unset] [(.ref b1)])) _
        refine XS.bipush X93.here hx rfl (hb hby at_107) ?_
        show Steps p.tables e below (T93.setTop (mkF m 109 #[.val (.int p0), .val (.int p1), .val (.int p2), .val (.int p3), .val (.int p4), .val (.int p5), .val (.ref b1), .val (.int (1 : Int32)), .val (.int (1 : Int32)), .val (.int (Int32.ofNat dn)), .val (.int (Int32.ofNat en)), .unset, .unset, .unset, .unset] [(.int (48 : Int32)), (.ref b1)])) _
        refine XS.iload X93.here hx rfl (hb hby at_109) rfl ?_
        show Steps p.tables e below (T93.setTop (mkF m 111 #[.val (.int p0), .val (.int p1), .val (.int p2), .val (.int p3), .val (.int p4), .val (.int p5), .val (.ref b1), .val (.int (1 : Int32)), .val (.int (1 : Int32)), .val (.int (Int32.ofNat dn)), .val (.int (Int32.ofNat en)), .unset, .unset, .unset, .unset] [(.int (Int32.ofNat dn)), (.int (48 : Int32)), (.ref b1)])) _
        refine XS.iadd X93.here hx rfl (hb hby at_111) rfl ?_
        exact kt
      have c95 : ∀ t, Steps p.tables e below (T93.setTop (mkF m 112 #[.val (.int p0), .val (.int p1), .val (.int p2), .val (.int p3), .val (.int p4), .val (.int p5), .val (.ref b1), .val (.int (1 : Int32)), .val (.int (1 : Int32)), .val (.int (Int32.ofNat dn)), .val (.int (Int32.ofNat en)), .unset, .unset, .unset, .unset] [(.int (own_d dn)), (.ref b1)])) t → Steps p.tables e below (T93.setTop (mkF m 112 #[.val (.int p0), .val (.int p1), .val (.int p2), .val (.int p3), .val (.int p4), .val (.int p5), .val (.ref b1), .val (.int (1 : Int32)), .val (.int (1 : Int32)), .val (.int (Int32.ofNat dn)), .val (.int (Int32.ofNat en)), .unset, .unset, .unset, .unset] [(.int ((48 : Int32) + (Int32.ofNat dn))), (.ref b1)])) t := fun t kt => by show Steps p.tables e below (T93.setTop (mkF m 112 #[.val (.int p0), .val (.int p1), .val (.int p2), .val (.int p3), .val (.int p4), .val (.int p5), .val (.ref b1), .val (.int (1 : Int32)), .val (.int (1 : Int32)), .val (.int (Int32.ofNat dn)), .val (.int (Int32.ofNat en)), .unset, .unset, .unset, .unset] [(.int (own_d dn)), (.ref b1)])) t; exact kt
      have f96 := (Nat.le_trans f91 Kq93.1)
      obtain ⟨cq97, kq97, q97a, q97b, q97c⟩ := isOf hZ rfl Eq93
      obtain ⟨_, _, ⟨T98, L98, k98, n98⟩, -, X98, ⟨Lc98, hQ98, l98, y98, z98⟩, st98⟩ := X93.virtualBack hx (y := (⟨"com/example/sequence_set/sequenceset/cli/DecimalParser", "accept", "(I)V"⟩ : MethodName)) (z := (⟨"com/example/sequence_set/sequenceset/cli/DecimalParser", "accept", "(I)V"⟩ : MethodName)) hown (mvT hZ (hw _ (List.mem_of_getElem? (i := 13) rfl))) (mvT hZ (hw _ (List.mem_of_getElem? (i := 14) rfl))) (notFace_of_selects (args := #[]) (mvT hZ (hw _ (List.mem_of_getElem? (i := 16) rfl)))) (mvT hZ (hw _ (List.mem_of_getElem? (i := 16) rfl))) (mvT hZ (hw _ (List.mem_of_getElem? (i := 15) rfl))) (by decide) (backOf (W := 0) (rm3d l Z a0 hw [] b1 (own_d dn) (0 : Int64) (1 : Int32) ((0 : Int32) + (1 : Int32)) (0 : Int32) T93.heap n0 f96 Fq93_0 Fq93_1 Fq93_2 Fq93_3 Fq93_4 Fq93_5 Eq93 g_b1 (own_dc dn hdn).1 (own_dc dn hdn).2.1 (own_dc dn hdn).2.2.1 (own_dc dn hdn).2.2.2 (own_k1 dn hdn)) hZ (hw _ (List.mem_of_getElem? (i := 17) rfl)) (hw _ (List.mem_of_getElem? (i := 2) rfl)) (by decide) (by decide)) q97a q97c (g := (mkF m 112 #[.val (.int p0), .val (.int p1), .val (.int p2), .val (.int p3), .val (.int p4), .val (.int p5), .val (.ref b1), .val (.int (1 : Int32)), .val (.int (1 : Int32)), .val (.int (Int32.ofNat dn)), .val (.int (Int32.ofNat en)), .unset, .unset, .unset, .unset] [(.int (own_d dn)), (.ref b1)])) rfl (by rw [hml]; rfl) (Steps.refl _) (argsL := [(.int (own_d dn))]) (rest := []) (lenOf pd_1 rfl) rfl (by show 2 * 0 + _ ≤ _; exact Nat.le_of_eq rfl) (hb hby at_112) (fun _ _ => ⟨rfl, rfl, (by decide : 1 + 0 ≤ _), (by decide : 6 + 0 ≤ _)⟩)
      dsimp only [Pt.U, Pt.locs, Pt.cells, Pt.slots] at X98 l98 y98 z98 st98 hQ98
      subst l98 y98 z98
      obtain ⟨rfl, N98q, Kq98, Eq98, Fq98_0, Fq98_1, Fq98_2, Fq98_3, Fq98_4, Fq98_5⟩ := hQ98
      have N98 := Fr.app N93 N98q
      have c99 : ∀ t, Steps p.tables e below (T98.setTop (mkF m 127 #[.val (.int p0), .val (.int p1), .val (.int p2), .val (.int p3), .val (.int p4), .val (.int p5), .val (.ref b1), .val (.int (1 : Int32)), .val (.int (1 : Int32)), .val (.int (Int32.ofNat dn)), .val (.int (Int32.ofNat en)), .unset, .unset, .unset, .unset] [(.int ((48 : Int32) + (Int32.ofNat en))), (.ref b1)])) t → Steps p.tables e below (T98.setTop (mkF m 115 #[.val (.int p0), .val (.int p1), .val (.int p2), .val (.int p3), .val (.int p4), .val (.int p5), .val (.ref b1), .val (.int (1 : Int32)), .val (.int (1 : Int32)), .val (.int (Int32.ofNat dn)), .val (.int (Int32.ofNat en)), .unset, .unset, .unset, .unset] [])) t := by
        intro t kt
        show Steps p.tables e below (T98.setTop (mkF m 115 #[.val (.int p0), .val (.int p1), .val (.int p2), .val (.int p3), .val (.int p4), .val (.int p5), .val (.ref b1), .val (.int (1 : Int32)), .val (.int (1 : Int32)), .val (.int (Int32.ofNat dn)), .val (.int (Int32.ofNat en)), .unset, .unset, .unset, .unset] [])) _
        refine XS.iload X98.here hx rfl (hb hby at_115) rfl ?_
        show Steps p.tables e below (T98.setTop (mkF m 117 #[.val (.int p0), .val (.int p1), .val (.int p2), .val (.int p3), .val (.int p4), .val (.int p5), .val (.ref b1), .val (.int (1 : Int32)), .val (.int (1 : Int32)), .val (.int (Int32.ofNat dn)), .val (.int (Int32.ofNat en)), .unset, .unset, .unset, .unset] [(.int (1 : Int32))])) _
        refine XS.ifNo X98.here hx rfl (hb hby at_117) rfl ((if0 _ _).trans (feq (by decide : ¬ ((1 : Int32) = (0 : Int32)))).1) ?_
        show Steps p.tables e below (T98.setTop (mkF m 120 #[.val (.int p0), .val (.int p1), .val (.int p2), .val (.int p3), .val (.int p4), .val (.int p5), .val (.ref b1), .val (.int (1 : Int32)), .val (.int (1 : Int32)), .val (.int (Int32.ofNat dn)), .val (.int (Int32.ofNat en)), .unset, .unset, .unset, .unset] [])) _
        refine XS.aload X98.here hx rfl (hb hby at_120) rfl rfl ?_
        show Steps p.tables e below (T98.setTop (mkF m 122 #[.val (.int p0), .val (.int p1), .val (.int p2), .val (.int p3), .val (.int p4), .val (.int p5), .val (.ref b1), .val (.int (1 : Int32)), .val (.int (1 : Int32)), .val (.int (Int32.ofNat dn)), .val (.int (Int32.ofNat en)), .unset, .unset, .unset, .unset] [(.ref b1)])) _
        refine XS.bipush X98.here hx rfl (hb hby at_122) ?_
        show Steps p.tables e below (T98.setTop (mkF m 124 #[.val (.int p0), .val (.int p1), .val (.int p2), .val (.int p3), .val (.int p4), .val (.int p5), .val (.ref b1), .val (.int (1 : Int32)), .val (.int (1 : Int32)), .val (.int (Int32.ofNat dn)), .val (.int (Int32.ofNat en)), .unset, .unset, .unset, .unset] [(.int (48 : Int32)), (.ref b1)])) _
        refine XS.iload X98.here hx rfl (hb hby at_124) rfl ?_
        show Steps p.tables e below (T98.setTop (mkF m 126 #[.val (.int p0), .val (.int p1), .val (.int p2), .val (.int p3), .val (.int p4), .val (.int p5), .val (.ref b1), .val (.int (1 : Int32)), .val (.int (1 : Int32)), .val (.int (Int32.ofNat dn)), .val (.int (Int32.ofNat en)), .unset, .unset, .unset, .unset] [(.int (Int32.ofNat en)), (.int (48 : Int32)), (.ref b1)])) _
        refine XS.iadd X98.here hx rfl (hb hby at_126) rfl ?_
        exact kt
      have c100 : ∀ t, Steps p.tables e below (T98.setTop (mkF m 127 #[.val (.int p0), .val (.int p1), .val (.int p2), .val (.int p3), .val (.int p4), .val (.int p5), .val (.ref b1), .val (.int (1 : Int32)), .val (.int (1 : Int32)), .val (.int (Int32.ofNat dn)), .val (.int (Int32.ofNat en)), .unset, .unset, .unset, .unset] [(.int (own_d en)), (.ref b1)])) t → Steps p.tables e below (T98.setTop (mkF m 127 #[.val (.int p0), .val (.int p1), .val (.int p2), .val (.int p3), .val (.int p4), .val (.int p5), .val (.ref b1), .val (.int (1 : Int32)), .val (.int (1 : Int32)), .val (.int (Int32.ofNat dn)), .val (.int (Int32.ofNat en)), .unset, .unset, .unset, .unset] [(.int ((48 : Int32) + (Int32.ofNat en))), (.ref b1)])) t := fun t kt => by show Steps p.tables e below (T98.setTop (mkF m 127 #[.val (.int p0), .val (.int p1), .val (.int p2), .val (.int p3), .val (.int p4), .val (.int p5), .val (.ref b1), .val (.int (1 : Int32)), .val (.int (1 : Int32)), .val (.int (Int32.ofNat dn)), .val (.int (Int32.ofNat en)), .unset, .unset, .unset, .unset] [(.int (own_d en)), (.ref b1)])) t; exact kt
      have f101 := (Nat.le_trans f96 Kq98.1)
      obtain ⟨cq102, kq102, q102a, q102b, q102c⟩ := isOf hZ rfl Eq98
      obtain ⟨_, _, ⟨T103, L103, k103, n103⟩, -, X103, ⟨Lc103, hQ103, l103, y103, z103⟩, st103⟩ := X98.virtualBack hx (y := (⟨"com/example/sequence_set/sequenceset/cli/DecimalParser", "accept", "(I)V"⟩ : MethodName)) (z := (⟨"com/example/sequence_set/sequenceset/cli/DecimalParser", "accept", "(I)V"⟩ : MethodName)) hown (mvT hZ (hw _ (List.mem_of_getElem? (i := 13) rfl))) (mvT hZ (hw _ (List.mem_of_getElem? (i := 14) rfl))) (notFace_of_selects (args := #[]) (mvT hZ (hw _ (List.mem_of_getElem? (i := 16) rfl)))) (mvT hZ (hw _ (List.mem_of_getElem? (i := 16) rfl))) (mvT hZ (hw _ (List.mem_of_getElem? (i := 15) rfl))) (by decide) (backOf (W := 0) (rm3d l Z a0 hw [] b1 (own_d en) (own_ng (0 : Int64) (own_d dn)) (1 : Int32) (((0 : Int32) + (1 : Int32)) + (1 : Int32)) ((0 : Int32) + (1 : Int32)) T98.heap n0 f101 Fq98_0 Fq98_1 Fq98_2 Fq98_3 Fq98_4 Fq98_5 Eq98 g_b1 (own_dc en hen).1 (own_dc en hen).2.1 (own_dc en hen).2.2.1 (own_dc en hen).2.2.2 (own_k2 dn hdn en hen)) hZ (hw _ (List.mem_of_getElem? (i := 17) rfl)) (hw _ (List.mem_of_getElem? (i := 2) rfl)) (by decide) (by decide)) q102a q102c (g := (mkF m 127 #[.val (.int p0), .val (.int p1), .val (.int p2), .val (.int p3), .val (.int p4), .val (.int p5), .val (.ref b1), .val (.int (1 : Int32)), .val (.int (1 : Int32)), .val (.int (Int32.ofNat dn)), .val (.int (Int32.ofNat en)), .unset, .unset, .unset, .unset] [(.int (own_d en)), (.ref b1)])) rfl (by rw [hml]; rfl) (Steps.refl _) (argsL := [(.int (own_d en))]) (rest := []) (lenOf pd_1 rfl) rfl (by show 2 * 0 + _ ≤ _; exact Nat.le_of_eq rfl) (hb hby at_127) (fun _ _ => ⟨rfl, rfl, (by decide : 1 + 0 ≤ _), (by decide : 6 + 0 ≤ _)⟩)
      dsimp only [Pt.U, Pt.locs, Pt.cells, Pt.slots] at X103 l103 y103 z103 st103 hQ103
      subst l103 y103 z103
      obtain ⟨rfl, N103q, Kq103, Eq103, Fq103_0, Fq103_1, Fq103_2, Fq103_3, Fq103_4, Fq103_5⟩ := hQ103
      have N103 := Fr.app N98 N103q
      have c104 : ∀ t, Steps p.tables e below (T103.setTop (mkF m 172 #[.val (.int p0), .val (.int p1), .val (.int p2), .val (.int p3), .val (.int p4), .val (.int p5), .val (.ref b1), .val (.int (1 : Int32)), .val (.int (1 : Int32)), .val (.int (Int32.ofNat dn)), .val (.int (Int32.ofNat en)), .val (.long ((((Int32.ofNat dn).toInt64) * (10 : Int64)) + ((Int32.ofNat en).toInt64))), .second, .val (.long (-((((Int32.ofNat dn).toInt64) * (10 : Int64)) + ((Int32.ofNat en).toInt64)))), .second] [(.ref b1)])) t → Steps p.tables e below (T103.setTop (mkF m 130 #[.val (.int p0), .val (.int p1), .val (.int p2), .val (.int p3), .val (.int p4), .val (.int p5), .val (.ref b1), .val (.int (1 : Int32)), .val (.int (1 : Int32)), .val (.int (Int32.ofNat dn)), .val (.int (Int32.ofNat en)), .unset, .unset, .unset, .unset] [])) t := by
        intro t kt
        show Steps p.tables e below (T103.setTop (mkF m 130 #[.val (.int p0), .val (.int p1), .val (.int p2), .val (.int p3), .val (.int p4), .val (.int p5), .val (.ref b1), .val (.int (1 : Int32)), .val (.int (1 : Int32)), .val (.int (Int32.ofNat dn)), .val (.int (Int32.ofNat en)), .unset, .unset, .unset, .unset] [])) _
        refine XS.iload X103.here hx rfl (hb hby at_130) rfl ?_
        show Steps p.tables e below (T103.setTop (mkF m 132 #[.val (.int p0), .val (.int p1), .val (.int p2), .val (.int p3), .val (.int p4), .val (.int p5), .val (.ref b1), .val (.int (1 : Int32)), .val (.int (1 : Int32)), .val (.int (Int32.ofNat dn)), .val (.int (Int32.ofNat en)), .unset, .unset, .unset, .unset] [(.int (1 : Int32))])) _
        refine XS.ifNo X103.here hx rfl (hb hby at_132) rfl ((if0 _ _).trans (feq (by decide : ¬ ((1 : Int32) = (0 : Int32)))).1) ?_
        show Steps p.tables e below (T103.setTop (mkF m 135 #[.val (.int p0), .val (.int p1), .val (.int p2), .val (.int p3), .val (.int p4), .val (.int p5), .val (.ref b1), .val (.int (1 : Int32)), .val (.int (1 : Int32)), .val (.int (Int32.ofNat dn)), .val (.int (Int32.ofNat en)), .unset, .unset, .unset, .unset] [])) _
        refine XS.iload X103.here hx rfl (hb hby at_135) rfl ?_
        show Steps p.tables e below (T103.setTop (mkF m 137 #[.val (.int p0), .val (.int p1), .val (.int p2), .val (.int p3), .val (.int p4), .val (.int p5), .val (.ref b1), .val (.int (1 : Int32)), .val (.int (1 : Int32)), .val (.int (Int32.ofNat dn)), .val (.int (Int32.ofNat en)), .unset, .unset, .unset, .unset] [(.int (Int32.ofNat dn))])) _
        refine XS.i2l X103.here hx rfl (hb hby at_137) rfl ?_
        show Steps p.tables e below (T103.setTop (mkF m 138 #[.val (.int p0), .val (.int p1), .val (.int p2), .val (.int p3), .val (.int p4), .val (.int p5), .val (.ref b1), .val (.int (1 : Int32)), .val (.int (1 : Int32)), .val (.int (Int32.ofNat dn)), .val (.int (Int32.ofNat en)), .unset, .unset, .unset, .unset] [(.long ((Int32.ofNat dn).toInt64))])) _
        refine X103.ldc2Long hx hown (mvT hZ (hw _ (List.mem_of_getElem? (i := 39) rfl))) (g := (mkF m 138 #[.val (.int p0), .val (.int p1), .val (.int p2), .val (.int p3), .val (.int p4), .val (.int p5), .val (.ref b1), .val (.int (1 : Int32)), .val (.int (1 : Int32)), .val (.int (Int32.ofNat dn)), .val (.int (Int32.ofNat en)), .unset, .unset, .unset, .unset] [(.long ((Int32.ofNat dn).toInt64))])) rfl (hb hby at_138) _ ?_
        show Steps p.tables e below (T103.setTop (mkF m 141 #[.val (.int p0), .val (.int p1), .val (.int p2), .val (.int p3), .val (.int p4), .val (.int p5), .val (.ref b1), .val (.int (1 : Int32)), .val (.int (1 : Int32)), .val (.int (Int32.ofNat dn)), .val (.int (Int32.ofNat en)), .unset, .unset, .unset, .unset] [(.long (10 : Int64)), (.long ((Int32.ofNat dn).toInt64))])) _
        refine XS.lmul X103.here hx rfl (hb hby at_141) rfl ?_
        show Steps p.tables e below (T103.setTop (mkF m 142 #[.val (.int p0), .val (.int p1), .val (.int p2), .val (.int p3), .val (.int p4), .val (.int p5), .val (.ref b1), .val (.int (1 : Int32)), .val (.int (1 : Int32)), .val (.int (Int32.ofNat dn)), .val (.int (Int32.ofNat en)), .unset, .unset, .unset, .unset] [(.long (((Int32.ofNat dn).toInt64) * (10 : Int64)))])) _
        refine XS.iload X103.here hx rfl (hb hby at_142) rfl ?_
        show Steps p.tables e below (T103.setTop (mkF m 144 #[.val (.int p0), .val (.int p1), .val (.int p2), .val (.int p3), .val (.int p4), .val (.int p5), .val (.ref b1), .val (.int (1 : Int32)), .val (.int (1 : Int32)), .val (.int (Int32.ofNat dn)), .val (.int (Int32.ofNat en)), .unset, .unset, .unset, .unset] [(.int (Int32.ofNat en)), (.long (((Int32.ofNat dn).toInt64) * (10 : Int64)))])) _
        refine XS.i2l X103.here hx rfl (hb hby at_144) rfl ?_
        show Steps p.tables e below (T103.setTop (mkF m 145 #[.val (.int p0), .val (.int p1), .val (.int p2), .val (.int p3), .val (.int p4), .val (.int p5), .val (.ref b1), .val (.int (1 : Int32)), .val (.int (1 : Int32)), .val (.int (Int32.ofNat dn)), .val (.int (Int32.ofNat en)), .unset, .unset, .unset, .unset] [(.long ((Int32.ofNat en).toInt64)), (.long (((Int32.ofNat dn).toInt64) * (10 : Int64)))])) _
        refine XS.ladd X103.here hx rfl (hb hby at_145) rfl ?_
        show Steps p.tables e below (T103.setTop (mkF m 146 #[.val (.int p0), .val (.int p1), .val (.int p2), .val (.int p3), .val (.int p4), .val (.int p5), .val (.ref b1), .val (.int (1 : Int32)), .val (.int (1 : Int32)), .val (.int (Int32.ofNat dn)), .val (.int (Int32.ofNat en)), .unset, .unset, .unset, .unset] [(.long ((((Int32.ofNat dn).toInt64) * (10 : Int64)) + ((Int32.ofNat en).toInt64)))])) _
        refine XS.goto X103.here hx rfl (pc0 := 146) (pc' := 152) rfl (hb hby at_146) (by decide) (by decide) ?_
        show Steps p.tables e below (T103.setTop (mkF m 152 #[.val (.int p0), .val (.int p1), .val (.int p2), .val (.int p3), .val (.int p4), .val (.int p5), .val (.ref b1), .val (.int (1 : Int32)), .val (.int (1 : Int32)), .val (.int (Int32.ofNat dn)), .val (.int (Int32.ofNat en)), .unset, .unset, .unset, .unset] [(.long ((((Int32.ofNat dn).toInt64) * (10 : Int64)) + ((Int32.ofNat en).toInt64)))])) _
        refine XS.lstore X103.here hx rfl (hb hby at_152) rfl (l' := #[.val (.int p0), .val (.int p1), .val (.int p2), .val (.int p3), .val (.int p4), .val (.int p5), .val (.ref b1), .val (.int (1 : Int32)), .val (.int (1 : Int32)), .val (.int (Int32.ofNat dn)), .val (.int (Int32.ofNat en)), .val (.long ((((Int32.ofNat dn).toInt64) * (10 : Int64)) + ((Int32.ofNat en).toInt64))), .second, .unset, .unset]) rfl ?_
        show Steps p.tables e below (T103.setTop (mkF m 154 #[.val (.int p0), .val (.int p1), .val (.int p2), .val (.int p3), .val (.int p4), .val (.int p5), .val (.ref b1), .val (.int (1 : Int32)), .val (.int (1 : Int32)), .val (.int (Int32.ofNat dn)), .val (.int (Int32.ofNat en)), .val (.long ((((Int32.ofNat dn).toInt64) * (10 : Int64)) + ((Int32.ofNat en).toInt64))), .second, .unset, .unset] [])) _
        refine XS.iload X103.here hx rfl (hb hby at_154) rfl ?_
        show Steps p.tables e below (T103.setTop (mkF m 156 #[.val (.int p0), .val (.int p1), .val (.int p2), .val (.int p3), .val (.int p4), .val (.int p5), .val (.ref b1), .val (.int (1 : Int32)), .val (.int (1 : Int32)), .val (.int (Int32.ofNat dn)), .val (.int (Int32.ofNat en)), .val (.long ((((Int32.ofNat dn).toInt64) * (10 : Int64)) + ((Int32.ofNat en).toInt64))), .second, .unset, .unset] [(.int (1 : Int32))])) _
        refine XS.iconst X103.here hx rfl (hb hby at_156) ?_
        show Steps p.tables e below (T103.setTop (mkF m 157 #[.val (.int p0), .val (.int p1), .val (.int p2), .val (.int p3), .val (.int p4), .val (.int p5), .val (.ref b1), .val (.int (1 : Int32)), .val (.int (1 : Int32)), .val (.int (Int32.ofNat dn)), .val (.int (Int32.ofNat en)), .val (.long ((((Int32.ofNat dn).toInt64) * (10 : Int64)) + ((Int32.ofNat en).toInt64))), .second, .unset, .unset] [(.int (1 : Int32)), (.int (1 : Int32))])) _
        refine XS.icmpNo X103.here hx rfl (hb hby at_157) rfl (teq (by decide : (1 : Int32) = (1 : Int32))).2 ?_
        show Steps p.tables e below (T103.setTop (mkF m 160 #[.val (.int p0), .val (.int p1), .val (.int p2), .val (.int p3), .val (.int p4), .val (.int p5), .val (.ref b1), .val (.int (1 : Int32)), .val (.int (1 : Int32)), .val (.int (Int32.ofNat dn)), .val (.int (Int32.ofNat en)), .val (.long ((((Int32.ofNat dn).toInt64) * (10 : Int64)) + ((Int32.ofNat en).toInt64))), .second, .unset, .unset] [])) _
        refine XS.lload X103.here hx rfl (hb hby at_160) rfl ?_
        show Steps p.tables e below (T103.setTop (mkF m 162 #[.val (.int p0), .val (.int p1), .val (.int p2), .val (.int p3), .val (.int p4), .val (.int p5), .val (.ref b1), .val (.int (1 : Int32)), .val (.int (1 : Int32)), .val (.int (Int32.ofNat dn)), .val (.int (Int32.ofNat en)), .val (.long ((((Int32.ofNat dn).toInt64) * (10 : Int64)) + ((Int32.ofNat en).toInt64))), .second, .unset, .unset] [(.long ((((Int32.ofNat dn).toInt64) * (10 : Int64)) + ((Int32.ofNat en).toInt64)))])) _
        refine XS.lneg X103.here hx rfl (hb hby at_162) rfl ?_
        show Steps p.tables e below (T103.setTop (mkF m 163 #[.val (.int p0), .val (.int p1), .val (.int p2), .val (.int p3), .val (.int p4), .val (.int p5), .val (.ref b1), .val (.int (1 : Int32)), .val (.int (1 : Int32)), .val (.int (Int32.ofNat dn)), .val (.int (Int32.ofNat en)), .val (.long ((((Int32.ofNat dn).toInt64) * (10 : Int64)) + ((Int32.ofNat en).toInt64))), .second, .unset, .unset] [(.long (-((((Int32.ofNat dn).toInt64) * (10 : Int64)) + ((Int32.ofNat en).toInt64))))])) _
        refine XS.goto X103.here hx rfl (pc0 := 163) (pc' := 168) rfl (hb hby at_163) (by decide) (by decide) ?_
        show Steps p.tables e below (T103.setTop (mkF m 168 #[.val (.int p0), .val (.int p1), .val (.int p2), .val (.int p3), .val (.int p4), .val (.int p5), .val (.ref b1), .val (.int (1 : Int32)), .val (.int (1 : Int32)), .val (.int (Int32.ofNat dn)), .val (.int (Int32.ofNat en)), .val (.long ((((Int32.ofNat dn).toInt64) * (10 : Int64)) + ((Int32.ofNat en).toInt64))), .second, .unset, .unset] [(.long (-((((Int32.ofNat dn).toInt64) * (10 : Int64)) + ((Int32.ofNat en).toInt64))))])) _
        refine XS.lstore X103.here hx rfl (hb hby at_168) rfl (l' := #[.val (.int p0), .val (.int p1), .val (.int p2), .val (.int p3), .val (.int p4), .val (.int p5), .val (.ref b1), .val (.int (1 : Int32)), .val (.int (1 : Int32)), .val (.int (Int32.ofNat dn)), .val (.int (Int32.ofNat en)), .val (.long ((((Int32.ofNat dn).toInt64) * (10 : Int64)) + ((Int32.ofNat en).toInt64))), .second, .val (.long (-((((Int32.ofNat dn).toInt64) * (10 : Int64)) + ((Int32.ofNat en).toInt64)))), .second]) rfl ?_
        show Steps p.tables e below (T103.setTop (mkF m 170 #[.val (.int p0), .val (.int p1), .val (.int p2), .val (.int p3), .val (.int p4), .val (.int p5), .val (.ref b1), .val (.int (1 : Int32)), .val (.int (1 : Int32)), .val (.int (Int32.ofNat dn)), .val (.int (Int32.ofNat en)), .val (.long ((((Int32.ofNat dn).toInt64) * (10 : Int64)) + ((Int32.ofNat en).toInt64))), .second, .val (.long (-((((Int32.ofNat dn).toInt64) * (10 : Int64)) + ((Int32.ofNat en).toInt64)))), .second] [])) _
        refine XS.aload X103.here hx rfl (hb hby at_170) rfl rfl ?_
        exact kt
      have f105 := (Nat.le_trans f101 Kq103.1)
      obtain ⟨cq106, kq106, q106a, q106b, q106c⟩ := isOf hZ rfl Eq103
      obtain ⟨_, _, ⟨T107, L107, k107, n107⟩, -, X107, ⟨Lc107, hQ107, l107, y107, z107⟩, st107⟩ := X103.virtualBack hx (y := (⟨"com/example/sequence_set/sequenceset/cli/DecimalParser", "value", "()J"⟩ : MethodName)) (z := (⟨"com/example/sequence_set/sequenceset/cli/DecimalParser", "value", "()J"⟩ : MethodName)) hown (mvT hZ (hw _ (List.mem_of_getElem? (i := 34) rfl))) (mvT hZ (hw _ (List.mem_of_getElem? (i := 35) rfl))) (notFace_of_selects (args := #[]) (mvT hZ (hw _ (List.mem_of_getElem? (i := 37) rfl)))) (mvT hZ (hw _ (List.mem_of_getElem? (i := 37) rfl))) (mvT hZ (hw _ (List.mem_of_getElem? (i := 36) rfl))) (by decide) (backOf (W := 0) (rm5_1 l Z a0 hw [] b1 (own_ng (own_ng (0 : Int64) (own_d dn)) (own_d en)) ((((0 : Int32) + (1 : Int32)) + (1 : Int32)) + (1 : Int32)) (((0 : Int32) + (1 : Int32)) + (1 : Int32)) T103.heap n0 f105 Fq103_0 Fq103_1 Fq103_2 Fq103_3 Fq103_4 Fq103_5 Eq103 g_b1 (by decide) (own_v2 dn hdn en hen).1) hZ (hw _ (List.mem_of_getElem? (i := 38) rfl)) (hw _ (List.mem_of_getElem? (i := 2) rfl)) (by decide) (by decide)) q106a q106c (g := (mkF m 172 #[.val (.int p0), .val (.int p1), .val (.int p2), .val (.int p3), .val (.int p4), .val (.int p5), .val (.ref b1), .val (.int (1 : Int32)), .val (.int (1 : Int32)), .val (.int (Int32.ofNat dn)), .val (.int (Int32.ofNat en)), .val (.long ((((Int32.ofNat dn).toInt64) * (10 : Int64)) + ((Int32.ofNat en).toInt64))), .second, .val (.long (-((((Int32.ofNat dn).toInt64) * (10 : Int64)) + ((Int32.ofNat en).toInt64)))), .second] [(.ref b1)])) rfl (by rw [hml]; rfl) (Steps.refl _) (argsL := []) (rest := []) (lenOf pd_2 rfl) rfl (by show 2 * 0 + _ ≤ _; exact Nat.le_of_eq rfl) (hb hby at_172) (fun _ _ => ⟨rfl, rfl, (by decide : 1 + 0 ≤ _), (by decide : 6 + 0 ≤ _)⟩)
      dsimp only [Pt.U, Pt.locs, Pt.cells, Pt.slots] at X107 l107 y107 z107 st107 hQ107
      subst l107 y107 z107
      obtain ⟨rfl, N107q, e107⟩ := hQ107
      have N107 := Fr.app N103 N107q
      have c109 : ∀ t, Steps p.tables e below (T107.setTop (mkF m 178 #[.val (.int p0), .val (.int p1), .val (.int p2), .val (.int p3), .val (.int p4), .val (.int p5), .val (.ref b1), .val (.int (1 : Int32)), .val (.int (1 : Int32)), .val (.int (Int32.ofNat dn)), .val (.int (Int32.ofNat en)), .val (.long ((((Int32.ofNat dn).toInt64) * (10 : Int64)) + ((Int32.ofNat en).toInt64))), .second, .val (.long (-((((Int32.ofNat dn).toInt64) * (10 : Int64)) + ((Int32.ofNat en).toInt64)))), .second] [(.int (lcmpW (own_ng (own_ng (0 : Int64) (own_d dn)) (own_d en)) (-((((Int32.ofNat dn).toInt64) * (10 : Int64)) + ((Int32.ofNat en).toInt64)))))])) t → Steps p.tables e below (T107.setTop (mkF m 175 #[.val (.int p0), .val (.int p1), .val (.int p2), .val (.int p3), .val (.int p4), .val (.int p5), .val (.ref b1), .val (.int (1 : Int32)), .val (.int (1 : Int32)), .val (.int (Int32.ofNat dn)), .val (.int (Int32.ofNat en)), .val (.long ((((Int32.ofNat dn).toInt64) * (10 : Int64)) + ((Int32.ofNat en).toInt64))), .second, .val (.long (-((((Int32.ofNat dn).toInt64) * (10 : Int64)) + ((Int32.ofNat en).toInt64)))), .second] [(.long (own_ng (own_ng (0 : Int64) (own_d dn)) (own_d en)))])) t := by
        intro t kt
        show Steps p.tables e below (T107.setTop (mkF m 175 #[.val (.int p0), .val (.int p1), .val (.int p2), .val (.int p3), .val (.int p4), .val (.int p5), .val (.ref b1), .val (.int (1 : Int32)), .val (.int (1 : Int32)), .val (.int (Int32.ofNat dn)), .val (.int (Int32.ofNat en)), .val (.long ((((Int32.ofNat dn).toInt64) * (10 : Int64)) + ((Int32.ofNat en).toInt64))), .second, .val (.long (-((((Int32.ofNat dn).toInt64) * (10 : Int64)) + ((Int32.ofNat en).toInt64)))), .second] [(.long (own_ng (own_ng (0 : Int64) (own_d dn)) (own_d en)))])) _
        refine XS.lload X107.here hx rfl (hb hby at_175) rfl ?_
        show Steps p.tables e below (T107.setTop (mkF m 177 #[.val (.int p0), .val (.int p1), .val (.int p2), .val (.int p3), .val (.int p4), .val (.int p5), .val (.ref b1), .val (.int (1 : Int32)), .val (.int (1 : Int32)), .val (.int (Int32.ofNat dn)), .val (.int (Int32.ofNat en)), .val (.long ((((Int32.ofNat dn).toInt64) * (10 : Int64)) + ((Int32.ofNat en).toInt64))), .second, .val (.long (-((((Int32.ofNat dn).toInt64) * (10 : Int64)) + ((Int32.ofNat en).toInt64)))), .second] [(.long (-((((Int32.ofNat dn).toInt64) * (10 : Int64)) + ((Int32.ofNat en).toInt64)))), (.long (own_ng (own_ng (0 : Int64) (own_d dn)) (own_d en)))])) _
        refine XS.lcmp X107.here hx rfl (hb hby at_177) rfl ?_
        exact kt
      have hd108 : (own_ng (own_ng (0 : Int64) (own_d dn)) (own_d en)) = (-((((Int32.ofNat dn).toInt64) * (10 : Int64)) + ((Int32.ofNat en).toInt64))) := (own_v2 dn hdn en hen).2.1
      have c110 : ∀ t, Steps p.tables e below (T107.setTop (mkF m 186 #[.val (.int p0), .val (.int p1), .val (.int p2), .val (.int p3), .val (.int p4), .val (.int p5), .val (.ref b1), .val (.int (1 : Int32)), .val (.int (1 : Int32)), .val (.int (Int32.ofNat dn)), .val (.int (Int32.ofNat en)), .val (.long ((((Int32.ofNat dn).toInt64) * (10 : Int64)) + ((Int32.ofNat en).toInt64))), .second, .val (.long (-((((Int32.ofNat dn).toInt64) * (10 : Int64)) + ((Int32.ofNat en).toInt64)))), .second] [(.int (1 : Int32))])) t → Steps p.tables e below (T107.setTop (mkF m 178 #[.val (.int p0), .val (.int p1), .val (.int p2), .val (.int p3), .val (.int p4), .val (.int p5), .val (.ref b1), .val (.int (1 : Int32)), .val (.int (1 : Int32)), .val (.int (Int32.ofNat dn)), .val (.int (Int32.ofNat en)), .val (.long ((((Int32.ofNat dn).toInt64) * (10 : Int64)) + ((Int32.ofNat en).toInt64))), .second, .val (.long (-((((Int32.ofNat dn).toInt64) * (10 : Int64)) + ((Int32.ofNat en).toInt64)))), .second] [(.int (lcmpW (own_ng (own_ng (0 : Int64) (own_d dn)) (own_d en)) (-((((Int32.ofNat dn).toInt64) * (10 : Int64)) + ((Int32.ofNat en).toInt64)))))])) t := by
        intro t kt
        show Steps p.tables e below (T107.setTop (mkF m 178 #[.val (.int p0), .val (.int p1), .val (.int p2), .val (.int p3), .val (.int p4), .val (.int p5), .val (.ref b1), .val (.int (1 : Int32)), .val (.int (1 : Int32)), .val (.int (Int32.ofNat dn)), .val (.int (Int32.ofNat en)), .val (.long ((((Int32.ofNat dn).toInt64) * (10 : Int64)) + ((Int32.ofNat en).toInt64))), .second, .val (.long (-((((Int32.ofNat dn).toInt64) * (10 : Int64)) + ((Int32.ofNat en).toInt64)))), .second] [(.int (lcmpW (own_ng (own_ng (0 : Int64) (own_d dn)) (own_d en)) (-((((Int32.ofNat dn).toInt64) * (10 : Int64)) + ((Int32.ofNat en).toInt64)))))])) _
        refine XS.ifNo X107.here hx rfl (hb hby at_178) rfl ((if0 _ _).trans (teq ((lw_eq _ _).mpr (hd108))).2) ?_
        show Steps p.tables e below (T107.setTop (mkF m 181 #[.val (.int p0), .val (.int p1), .val (.int p2), .val (.int p3), .val (.int p4), .val (.int p5), .val (.ref b1), .val (.int (1 : Int32)), .val (.int (1 : Int32)), .val (.int (Int32.ofNat dn)), .val (.int (Int32.ofNat en)), .val (.long ((((Int32.ofNat dn).toInt64) * (10 : Int64)) + ((Int32.ofNat en).toInt64))), .second, .val (.long (-((((Int32.ofNat dn).toInt64) * (10 : Int64)) + ((Int32.ofNat en).toInt64)))), .second] [])) _
        refine XS.iconst X107.here hx rfl (hb hby at_181) ?_
        show Steps p.tables e below (T107.setTop (mkF m 182 #[.val (.int p0), .val (.int p1), .val (.int p2), .val (.int p3), .val (.int p4), .val (.int p5), .val (.ref b1), .val (.int (1 : Int32)), .val (.int (1 : Int32)), .val (.int (Int32.ofNat dn)), .val (.int (Int32.ofNat en)), .val (.long ((((Int32.ofNat dn).toInt64) * (10 : Int64)) + ((Int32.ofNat en).toInt64))), .second, .val (.long (-((((Int32.ofNat dn).toInt64) * (10 : Int64)) + ((Int32.ofNat en).toInt64)))), .second] [(.int (1 : Int32))])) _
        refine XS.goto X107.here hx rfl (pc0 := 182) (pc' := 186) rfl (hb hby at_182) (by decide) (by decide) ?_
        exact kt
      obtain ⟨fs, hr, hrun, hended, hW, hsame⟩ := X107.leave (v := some (.int (1 : Int32))) (fun h => by rw [Bd.returns] at h; cases h)
      refine ⟨_, _, pre0 _ (st1 _ (c2 _ (st4.trans (c5 _ (st8.trans (c9 _ (st12.trans (c13 _ (st16.trans (c17 _ (st20.trans (c21 _ (c63 _ (c64 _ (c86 _ (c87 _ (c88 _ (c89 _ (c90 _ (st93.trans (c94 _ (c95 _ (st98.trans (c99 _ (c100 _ (st103.trans (c104 _ (st107.trans (c109 _ (c110 _ (?_))))))))))))))))))))))))))))))), hrun, hended, _, _, rfl, ?_, ⟨_, rfl⟩, hW, hsame.mono (by decide) (by decide)⟩
      · show Steps p.tables e below (T107.setTop (mkF m 186 #[.val (.int p0), .val (.int p1), .val (.int p2), .val (.int p3), .val (.int p4), .val (.int p5), .val (.ref b1), .val (.int (1 : Int32)), .val (.int (1 : Int32)), .val (.int (Int32.ofNat dn)), .val (.int (Int32.ofNat en)), .val (.long ((((Int32.ofNat dn).toInt64) * (10 : Int64)) + ((Int32.ofNat en).toInt64))), .second, .val (.long (-((((Int32.ofNat dn).toInt64) * (10 : Int64)) + ((Int32.ofNat en).toInt64)))), .second] [(.int (1 : Int32))])) _
        exact retN X107 hx (t := .boolean) Bd.returns (by simp) (hb hby at_186) hr
      · show Q0 Z p0 p1 p2 p3 p4 p5 h0 n0 _ T107.heap _
        rw [e107]
        exact ⟨congrArg (fun z => some (Value.int z)) (show (1 : Int32) = (1 : Int32) from by rfl), N107⟩
  · skip
    have c112 : ∀ t, Steps p.tables e below (T20.setTop (mkF m 40 #[.val (.int p0), .val (.int p1), .val (.int p2), .val (.int p3), .val (.int p4), .val (.int p5), .val (.ref b1), .val (.int (2 : Int32)), .unset, .unset, .unset, .unset, .unset, .unset, .unset] [])) t → Steps p.tables e below (T20.setTop (mkF m 40 #[.val (.int p0), .val (.int p1), .val (.int p2), .val (.int p3), .val (.int p4), .val (.int p5), .val (.ref b1), .val (.int ((p3 &&& (2147483647 : Int32)) % (3 : Int32))), .unset, .unset, .unset, .unset, .unset, .unset, .unset] [])) t := fun t kt => by rw [hsg]; exact kt
    have c113 : ∀ t, Steps p.tables e below (T20.setTop (mkF m 46 #[.val (.int p0), .val (.int p1), .val (.int p2), .val (.int p3), .val (.int p4), .val (.int p5), .val (.ref b1), .val (.int (2 : Int32)), .unset, .unset, .unset, .unset, .unset, .unset, .unset] [(.int (((p3.toUInt32 >>> ((8 : Int32) &&& 31).toUInt32).toInt32) &&& (1 : Int32)))])) t → Steps p.tables e below (T20.setTop (mkF m 40 #[.val (.int p0), .val (.int p1), .val (.int p2), .val (.int p3), .val (.int p4), .val (.int p5), .val (.ref b1), .val (.int (2 : Int32)), .unset, .unset, .unset, .unset, .unset, .unset, .unset] [])) t := by
      intro t kt
      show Steps p.tables e below (T20.setTop (mkF m 40 #[.val (.int p0), .val (.int p1), .val (.int p2), .val (.int p3), .val (.int p4), .val (.int p5), .val (.ref b1), .val (.int (2 : Int32)), .unset, .unset, .unset, .unset, .unset, .unset, .unset] [])) _
      refine XS.iloadN X20.here hx rfl (hb hby at_40) rfl ?_
      show Steps p.tables e below (T20.setTop (mkF m 41 #[.val (.int p0), .val (.int p1), .val (.int p2), .val (.int p3), .val (.int p4), .val (.int p5), .val (.ref b1), .val (.int (2 : Int32)), .unset, .unset, .unset, .unset, .unset, .unset, .unset] [(.int p3)])) _
      refine XS.bipush X20.here hx rfl (hb hby at_41) ?_
      show Steps p.tables e below (T20.setTop (mkF m 43 #[.val (.int p0), .val (.int p1), .val (.int p2), .val (.int p3), .val (.int p4), .val (.int p5), .val (.ref b1), .val (.int (2 : Int32)), .unset, .unset, .unset, .unset, .unset, .unset, .unset] [(.int (8 : Int32)), (.int p3)])) _
      refine XS.iushr X20.here hx rfl (hb hby at_43) rfl ?_
      show Steps p.tables e below (T20.setTop (mkF m 44 #[.val (.int p0), .val (.int p1), .val (.int p2), .val (.int p3), .val (.int p4), .val (.int p5), .val (.ref b1), .val (.int (2 : Int32)), .unset, .unset, .unset, .unset, .unset, .unset, .unset] [(.int ((p3.toUInt32 >>> ((8 : Int32) &&& 31).toUInt32).toInt32))])) _
      refine XS.iconst X20.here hx rfl (hb hby at_44) ?_
      show Steps p.tables e below (T20.setTop (mkF m 45 #[.val (.int p0), .val (.int p1), .val (.int p2), .val (.int p3), .val (.int p4), .val (.int p5), .val (.ref b1), .val (.int (2 : Int32)), .unset, .unset, .unset, .unset, .unset, .unset, .unset] [(.int (1 : Int32)), (.int ((p3.toUInt32 >>> ((8 : Int32) &&& 31).toUInt32).toInt32))])) _
      refine XS.iand X20.here hx rfl (hb hby at_45) rfl ?_
      exact kt
    by_cases hc46 : (((p3.toUInt32 >>> ((8 : Int32) &&& 31).toUInt32).toInt32) &&& (1 : Int32)) = (0 : Int32)
    · -- it is
      have c114 : ∀ t, Steps p.tables e below (T20.setTop (mkF m 66 #[.val (.int p0), .val (.int p1), .val (.int p2), .val (.int p3), .val (.int p4), .val (.int p5), .val (.ref b1), .val (.int (2 : Int32)), .val (.int (0 : Int32)), .val (.int ((p4 &&& (2147483647 : Int32)) % (10 : Int32))), .unset, .unset, .unset, .unset, .unset] [])) t → Steps p.tables e below (T20.setTop (mkF m 46 #[.val (.int p0), .val (.int p1), .val (.int p2), .val (.int p3), .val (.int p4), .val (.int p5), .val (.ref b1), .val (.int (2 : Int32)), .unset, .unset, .unset, .unset, .unset, .unset, .unset] [(.int (((p3.toUInt32 >>> ((8 : Int32) &&& 31).toUInt32).toInt32) &&& (1 : Int32)))])) t := by
        intro t kt
        show Steps p.tables e below (T20.setTop (mkF m 46 #[.val (.int p0), .val (.int p1), .val (.int p2), .val (.int p3), .val (.int p4), .val (.int p5), .val (.ref b1), .val (.int (2 : Int32)), .unset, .unset, .unset, .unset, .unset, .unset, .unset] [(.int (((p3.toUInt32 >>> ((8 : Int32) &&& 31).toUInt32).toInt32) &&& (1 : Int32)))])) _
        refine XS.ifYes X20.here hx rfl (pc0 := 46) (pc' := 53) rfl (hb hby at_46) rfl ((if0 _ _).trans (teq hc46).1) (by decide) (by decide) ?_
        show Steps p.tables e below (T20.setTop (mkF m 53 #[.val (.int p0), .val (.int p1), .val (.int p2), .val (.int p3), .val (.int p4), .val (.int p5), .val (.ref b1), .val (.int (2 : Int32)), .unset, .unset, .unset, .unset, .unset, .unset, .unset] [])) _
        refine XS.iconst X20.here hx rfl (hb hby at_53) ?_
        show Steps p.tables e below (T20.setTop (mkF m 54 #[.val (.int p0), .val (.int p1), .val (.int p2), .val (.int p3), .val (.int p4), .val (.int p5), .val (.ref b1), .val (.int (2 : Int32)), .unset, .unset, .unset, .unset, .unset, .unset, .unset] [(.int (0 : Int32))])) _
        refine XS.istore X20.here hx rfl (hb hby at_54) rfl (l' := #[.val (.int p0), .val (.int p1), .val (.int p2), .val (.int p3), .val (.int p4), .val (.int p5), .val (.ref b1), .val (.int (2 : Int32)), .val (.int (0 : Int32)), .unset, .unset, .unset, .unset, .unset, .unset]) rfl ?_
        show Steps p.tables e below (T20.setTop (mkF m 56 #[.val (.int p0), .val (.int p1), .val (.int p2), .val (.int p3), .val (.int p4), .val (.int p5), .val (.ref b1), .val (.int (2 : Int32)), .val (.int (0 : Int32)), .unset, .unset, .unset, .unset, .unset, .unset] [])) _
        refine XS.iload X20.here hx rfl (hb hby at_56) rfl ?_
        show Steps p.tables e below (T20.setTop (mkF m 58 #[.val (.int p0), .val (.int p1), .val (.int p2), .val (.int p3), .val (.int p4), .val (.int p5), .val (.ref b1), .val (.int (2 : Int32)), .val (.int (0 : Int32)), .unset, .unset, .unset, .unset, .unset, .unset] [(.int p4)])) _
        refine X20.ldcInt hx hown (mvT hZ (hw _ (List.mem_of_getElem? (i := 31) rfl))) (g := (mkF m 58 #[.val (.int p0), .val (.int p1), .val (.int p2), .val (.int p3), .val (.int p4), .val (.int p5), .val (.ref b1), .val (.int (2 : Int32)), .val (.int (0 : Int32)), .unset, .unset, .unset, .unset, .unset, .unset] [(.int p4)])) rfl (hb hby at_58) _ ?_
        show Steps p.tables e below (T20.setTop (mkF m 60 #[.val (.int p0), .val (.int p1), .val (.int p2), .val (.int p3), .val (.int p4), .val (.int p5), .val (.ref b1), .val (.int (2 : Int32)), .val (.int (0 : Int32)), .unset, .unset, .unset, .unset, .unset, .unset] [(.int (2147483647 : Int32)), (.int p4)])) _
        refine XS.iand X20.here hx rfl (hb hby at_60) rfl ?_
        show Steps p.tables e below (T20.setTop (mkF m 61 #[.val (.int p0), .val (.int p1), .val (.int p2), .val (.int p3), .val (.int p4), .val (.int p5), .val (.ref b1), .val (.int (2 : Int32)), .val (.int (0 : Int32)), .unset, .unset, .unset, .unset, .unset, .unset] [(.int (p4 &&& (2147483647 : Int32)))])) _
        refine XS.bipush X20.here hx rfl (hb hby at_61) ?_
        show Steps p.tables e below (T20.setTop (mkF m 63 #[.val (.int p0), .val (.int p1), .val (.int p2), .val (.int p3), .val (.int p4), .val (.int p5), .val (.ref b1), .val (.int (2 : Int32)), .val (.int (0 : Int32)), .unset, .unset, .unset, .unset, .unset, .unset] [(.int (10 : Int32)), (.int (p4 &&& (2147483647 : Int32)))])) _
        refine iremM X20 hx rfl (hb hby at_63) rfl (by decide) ?_
        show Steps p.tables e below (T20.setTop (mkF m 64 #[.val (.int p0), .val (.int p1), .val (.int p2), .val (.int p3), .val (.int p4), .val (.int p5), .val (.ref b1), .val (.int (2 : Int32)), .val (.int (0 : Int32)), .unset, .unset, .unset, .unset, .unset, .unset] [(.int ((p4 &&& (2147483647 : Int32)) % (10 : Int32)))])) _
        refine XS.istore X20.here hx rfl (hb hby at_64) rfl (l' := #[.val (.int p0), .val (.int p1), .val (.int p2), .val (.int p3), .val (.int p4), .val (.int p5), .val (.ref b1), .val (.int (2 : Int32)), .val (.int (0 : Int32)), .val (.int ((p4 &&& (2147483647 : Int32)) % (10 : Int32))), .unset, .unset, .unset, .unset, .unset]) rfl ?_
        exact kt
      obtain ⟨dn, hdn, hde⟩ := own_ten p4
      have c115 : ∀ t, Steps p.tables e below (T20.setTop (mkF m 66 #[.val (.int p0), .val (.int p1), .val (.int p2), .val (.int p3), .val (.int p4), .val (.int p5), .val (.ref b1), .val (.int (2 : Int32)), .val (.int (0 : Int32)), .val (.int (Int32.ofNat dn)), .unset, .unset, .unset, .unset, .unset] [])) t → Steps p.tables e below (T20.setTop (mkF m 66 #[.val (.int p0), .val (.int p1), .val (.int p2), .val (.int p3), .val (.int p4), .val (.int p5), .val (.ref b1), .val (.int (2 : Int32)), .val (.int (0 : Int32)), .val (.int ((p4 &&& (2147483647 : Int32)) % (10 : Int32))), .unset, .unset, .unset, .unset, .unset] [])) t := fun t kt => by rw [hde]; exact kt
      have c116 : ∀ t, Steps p.tables e below (T20.setTop (mkF m 76 #[.val (.int p0), .val (.int p1), .val (.int p2), .val (.int p3), .val (.int p4), .val (.int p5), .val (.ref b1), .val (.int (2 : Int32)), .val (.int (0 : Int32)), .val (.int (Int32.ofNat dn)), .val (.int ((p5 &&& (2147483647 : Int32)) % (10 : Int32))), .unset, .unset, .unset, .unset] [])) t → Steps p.tables e below (T20.setTop (mkF m 66 #[.val (.int p0), .val (.int p1), .val (.int p2), .val (.int p3), .val (.int p4), .val (.int p5), .val (.ref b1), .val (.int (2 : Int32)), .val (.int (0 : Int32)), .val (.int (Int32.ofNat dn)), .unset, .unset, .unset, .unset, .unset] [])) t := by
        intro t kt
        show Steps p.tables e below (T20.setTop (mkF m 66 #[.val (.int p0), .val (.int p1), .val (.int p2), .val (.int p3), .val (.int p4), .val (.int p5), .val (.ref b1), .val (.int (2 : Int32)), .val (.int (0 : Int32)), .val (.int (Int32.ofNat dn)), .unset, .unset, .unset, .unset, .unset] [])) _
        refine XS.iload X20.here hx rfl (hb hby at_66) rfl ?_
        show Steps p.tables e below (T20.setTop (mkF m 68 #[.val (.int p0), .val (.int p1), .val (.int p2), .val (.int p3), .val (.int p4), .val (.int p5), .val (.ref b1), .val (.int (2 : Int32)), .val (.int (0 : Int32)), .val (.int (Int32.ofNat dn)), .unset, .unset, .unset, .unset, .unset] [(.int p5)])) _
        refine X20.ldcInt hx hown (mvT hZ (hw _ (List.mem_of_getElem? (i := 31) rfl))) (g := (mkF m 68 #[.val (.int p0), .val (.int p1), .val (.int p2), .val (.int p3), .val (.int p4), .val (.int p5), .val (.ref b1), .val (.int (2 : Int32)), .val (.int (0 : Int32)), .val (.int (Int32.ofNat dn)), .unset, .unset, .unset, .unset, .unset] [(.int p5)])) rfl (hb hby at_68) _ ?_
        show Steps p.tables e below (T20.setTop (mkF m 70 #[.val (.int p0), .val (.int p1), .val (.int p2), .val (.int p3), .val (.int p4), .val (.int p5), .val (.ref b1), .val (.int (2 : Int32)), .val (.int (0 : Int32)), .val (.int (Int32.ofNat dn)), .unset, .unset, .unset, .unset, .unset] [(.int (2147483647 : Int32)), (.int p5)])) _
        refine XS.iand X20.here hx rfl (hb hby at_70) rfl ?_
        show Steps p.tables e below (T20.setTop (mkF m 71 #[.val (.int p0), .val (.int p1), .val (.int p2), .val (.int p3), .val (.int p4), .val (.int p5), .val (.ref b1), .val (.int (2 : Int32)), .val (.int (0 : Int32)), .val (.int (Int32.ofNat dn)), .unset, .unset, .unset, .unset, .unset] [(.int (p5 &&& (2147483647 : Int32)))])) _
        refine XS.bipush X20.here hx rfl (hb hby at_71) ?_
        show Steps p.tables e below (T20.setTop (mkF m 73 #[.val (.int p0), .val (.int p1), .val (.int p2), .val (.int p3), .val (.int p4), .val (.int p5), .val (.ref b1), .val (.int (2 : Int32)), .val (.int (0 : Int32)), .val (.int (Int32.ofNat dn)), .unset, .unset, .unset, .unset, .unset] [(.int (10 : Int32)), (.int (p5 &&& (2147483647 : Int32)))])) _
        refine iremM X20 hx rfl (hb hby at_73) rfl (by decide) ?_
        show Steps p.tables e below (T20.setTop (mkF m 74 #[.val (.int p0), .val (.int p1), .val (.int p2), .val (.int p3), .val (.int p4), .val (.int p5), .val (.ref b1), .val (.int (2 : Int32)), .val (.int (0 : Int32)), .val (.int (Int32.ofNat dn)), .unset, .unset, .unset, .unset, .unset] [(.int ((p5 &&& (2147483647 : Int32)) % (10 : Int32)))])) _
        refine XS.istore X20.here hx rfl (hb hby at_74) rfl (l' := #[.val (.int p0), .val (.int p1), .val (.int p2), .val (.int p3), .val (.int p4), .val (.int p5), .val (.ref b1), .val (.int (2 : Int32)), .val (.int (0 : Int32)), .val (.int (Int32.ofNat dn)), .val (.int ((p5 &&& (2147483647 : Int32)) % (10 : Int32))), .unset, .unset, .unset, .unset]) rfl ?_
        exact kt
      obtain ⟨en, hen, hee⟩ := own_ten p5
      have c117 : ∀ t, Steps p.tables e below (T20.setTop (mkF m 76 #[.val (.int p0), .val (.int p1), .val (.int p2), .val (.int p3), .val (.int p4), .val (.int p5), .val (.ref b1), .val (.int (2 : Int32)), .val (.int (0 : Int32)), .val (.int (Int32.ofNat dn)), .val (.int (Int32.ofNat en)), .unset, .unset, .unset, .unset] [])) t → Steps p.tables e below (T20.setTop (mkF m 76 #[.val (.int p0), .val (.int p1), .val (.int p2), .val (.int p3), .val (.int p4), .val (.int p5), .val (.ref b1), .val (.int (2 : Int32)), .val (.int (0 : Int32)), .val (.int (Int32.ofNat dn)), .val (.int ((p5 &&& (2147483647 : Int32)) % (10 : Int32))), .unset, .unset, .unset, .unset] [])) t := fun t kt => by rw [hee]; exact kt
      have c118 : ∀ t, Steps p.tables e below (T20.setTop (mkF m 102 #[.val (.int p0), .val (.int p1), .val (.int p2), .val (.int p3), .val (.int p4), .val (.int p5), .val (.ref b1), .val (.int (2 : Int32)), .val (.int (0 : Int32)), .val (.int (Int32.ofNat dn)), .val (.int (Int32.ofNat en)), .unset, .unset, .unset, .unset] [(.int (43 : Int32)), (.ref b1)])) t → Steps p.tables e below (T20.setTop (mkF m 76 #[.val (.int p0), .val (.int p1), .val (.int p2), .val (.int p3), .val (.int p4), .val (.int p5), .val (.ref b1), .val (.int (2 : Int32)), .val (.int (0 : Int32)), .val (.int (Int32.ofNat dn)), .val (.int (Int32.ofNat en)), .unset, .unset, .unset, .unset] [])) t := by
        intro t kt
        show Steps p.tables e below (T20.setTop (mkF m 76 #[.val (.int p0), .val (.int p1), .val (.int p2), .val (.int p3), .val (.int p4), .val (.int p5), .val (.ref b1), .val (.int (2 : Int32)), .val (.int (0 : Int32)), .val (.int (Int32.ofNat dn)), .val (.int (Int32.ofNat en)), .unset, .unset, .unset, .unset] [])) _
        refine XS.iload X20.here hx rfl (hb hby at_76) rfl ?_
        show Steps p.tables e below (T20.setTop (mkF m 78 #[.val (.int p0), .val (.int p1), .val (.int p2), .val (.int p3), .val (.int p4), .val (.int p5), .val (.ref b1), .val (.int (2 : Int32)), .val (.int (0 : Int32)), .val (.int (Int32.ofNat dn)), .val (.int (Int32.ofNat en)), .unset, .unset, .unset, .unset] [(.int (2 : Int32))])) _
        refine XS.iconst X20.here hx rfl (hb hby at_78) ?_
        show Steps p.tables e below (T20.setTop (mkF m 79 #[.val (.int p0), .val (.int p1), .val (.int p2), .val (.int p3), .val (.int p4), .val (.int p5), .val (.ref b1), .val (.int (2 : Int32)), .val (.int (0 : Int32)), .val (.int (Int32.ofNat dn)), .val (.int (Int32.ofNat en)), .unset, .unset, .unset, .unset] [(.int (1 : Int32)), (.int (2 : Int32))])) _
        refine XS.icmpYes X20.here hx rfl (pc0 := 79) (pc' := 92) rfl (hb hby at_79) rfl (feq (by decide : ¬ ((2 : Int32) = (1 : Int32)))).2 (by decide) (by decide) ?_
        show Steps p.tables e below (T20.setTop (mkF m 92 #[.val (.int p0), .val (.int p1), .val (.int p2), .val (.int p3), .val (.int p4), .val (.int p5), .val (.ref b1), .val (.int (2 : Int32)), .val (.int (0 : Int32)), .val (.int (Int32.ofNat dn)), .val (.int (Int32.ofNat en)), .unset, .unset, .unset, .unset] [])) _
        refine XS.iload X20.here hx rfl (hb hby at_92) rfl ?_
        show Steps p.tables e below (T20.setTop (mkF m 94 #[.val (.int p0), .val (.int p1), .val (.int p2), .val (.int p3), .val (.int p4), .val (.int p5), .val (.ref b1), .val (.int (2 : Int32)), .val (.int (0 : Int32)), .val (.int (Int32.ofNat dn)), .val (.int (Int32.ofNat en)), .unset, .unset, .unset, .unset] [(.int (2 : Int32))])) _
        refine XS.iconst X20.here hx rfl (hb hby at_94) ?_
        show Steps p.tables e below (T20.setTop (mkF m 95 #[.val (.int p0), .val (.int p1), .val (.int p2), .val (.int p3), .val (.int p4), .val (.int p5), .val (.ref b1), .val (.int (2 : Int32)), .val (.int (0 : Int32)), .val (.int (Int32.ofNat dn)), .val (.int (Int32.ofNat en)), .unset, .unset, .unset, .unset] [(.int (2 : Int32)), (.int (2 : Int32))])) _
        refine XS.icmpNo X20.here hx rfl (hb hby at_95) rfl (teq (by decide : (2 : Int32) = (2 : Int32))).2 ?_
        show Steps p.tables e below (T20.setTop (mkF m 98 #[.val (.int p0), .val (.int p1), .val (.int p2), .val (.int p3), .val (.int p4), .val (.int p5), .val (.ref b1), .val (.int (2 : Int32)), .val (.int (0 : Int32)), .val (.int (Int32.ofNat dn)), .val (.int (Int32.ofNat en)), .unset, .unset, .unset, .unset] [])) _
        refine XS.aload X20.here hx rfl (hb hby at_98) rfl rfl ?_
        show Steps p.tables e below (T20.setTop (mkF m 100 #[.val (.int p0), .val (.int p1), .val (.int p2), .val (.int p3), .val (.int p4), .val (.int p5), .val (.ref b1), .val (.int (2 : Int32)), .val (.int (0 : Int32)), .val (.int (Int32.ofNat dn)), .val (.int (Int32.ofNat en)), .unset, .unset, .unset, .unset] [(.ref b1)])) _
        refine XS.bipush X20.here hx rfl (hb hby at_100) ?_
        exact kt
      have f119 := (Nat.le_trans f18 Kq20.1)
      obtain ⟨cq120, kq120, q120a, q120b, q120c⟩ := isOf hZ rfl Eq20
      obtain ⟨_, _, ⟨T121, L121, k121, n121⟩, -, X121, ⟨Lc121, hQ121, l121, y121, z121⟩, st121⟩ := X20.virtualBack hx (y := (⟨"com/example/sequence_set/sequenceset/cli/DecimalParser", "accept", "(I)V"⟩ : MethodName)) (z := (⟨"com/example/sequence_set/sequenceset/cli/DecimalParser", "accept", "(I)V"⟩ : MethodName)) hown (mvT hZ (hw _ (List.mem_of_getElem? (i := 13) rfl))) (mvT hZ (hw _ (List.mem_of_getElem? (i := 14) rfl))) (notFace_of_selects (args := #[]) (mvT hZ (hw _ (List.mem_of_getElem? (i := 16) rfl)))) (mvT hZ (hw _ (List.mem_of_getElem? (i := 16) rfl))) (mvT hZ (hw _ (List.mem_of_getElem? (i := 15) rfl))) (by decide) (backOf (W := 0) (rm3s43 l Z a0 hw []  b1 T20.heap n0 f119 Fq20_0 Fq20_1 Fq20_2 Fq20_3 Fq20_4 Fq20_5 Eq20 g_b1) hZ (hw _ (List.mem_of_getElem? (i := 17) rfl)) (hw _ (List.mem_of_getElem? (i := 2) rfl)) (by decide) (by decide)) q120a q120c (g := (mkF m 102 #[.val (.int p0), .val (.int p1), .val (.int p2), .val (.int p3), .val (.int p4), .val (.int p5), .val (.ref b1), .val (.int (2 : Int32)), .val (.int (0 : Int32)), .val (.int (Int32.ofNat dn)), .val (.int (Int32.ofNat en)), .unset, .unset, .unset, .unset] [(.int (43 : Int32)), (.ref b1)])) rfl (by rw [hml]; rfl) (Steps.refl _) (argsL := [(.int (43 : Int32))]) (rest := []) (lenOf pd_1 rfl) rfl (by show 2 * 0 + _ ≤ _; exact Nat.le_of_eq rfl) (hb hby at_102) (fun _ _ => ⟨rfl, rfl, (by decide : 1 + 0 ≤ _), (by decide : 6 + 0 ≤ _)⟩)
      dsimp only [Pt.U, Pt.locs, Pt.cells, Pt.slots] at X121 l121 y121 z121 st121 hQ121
      subst l121 y121 z121
      obtain ⟨rfl, N121q, Kq121, Eq121, Fq121_0, Fq121_1, Fq121_2, Fq121_3, Fq121_4, Fq121_5⟩ := hQ121
      have N121 := Fr.app N20 N121q
      have c122 : ∀ t, Steps p.tables e below (T121.setTop (mkF m 112 #[.val (.int p0), .val (.int p1), .val (.int p2), .val (.int p3), .val (.int p4), .val (.int p5), .val (.ref b1), .val (.int (2 : Int32)), .val (.int (0 : Int32)), .val (.int (Int32.ofNat dn)), .val (.int (Int32.ofNat en)), .unset, .unset, .unset, .unset] [(.int ((48 : Int32) + (Int32.ofNat dn))), (.ref b1)])) t → Steps p.tables e below (T121.setTop (mkF m 105 #[.val (.int p0), .val (.int p1), .val (.int p2), .val (.int p3), .val (.int p4), .val (.int p5), .val (.ref b1), .val (.int (2 : Int32)), .val (.int (0 : Int32)), .val (.int (Int32.ofNat dn)), .val (.int (Int32.ofNat en)), .unset, .unset, .unset, .unset] [])) t := by
        intro t kt
        show Steps p.tables e below (T121.setTop (mkF m 105 #[.val (.int p0), .val (.int p1), .val (.int p2), .val (.int p3), .val (.int p4), .val (.int p5), .val (.ref b1), .val (.int (2 : Int32)), .val (.int (0 : Int32)), .val (.int (Int32.ofNat dn)), .val (.int (Int32.ofNat en)), .unset, .unset, .unset, .unset] [])) _
        refine XS.aload X121.here hx rfl (hb hby at_105) rfl rfl ?_
        show Steps p.tables e below (T121.setTop (mkF m 107 #[.val (.int p0), .val (.int p1), .val (.int p2), .val (.int p3), .val (.int p4), .val (.int p5), .val (.ref b1), .val (.int (2 : Int32)), .val (.int (0 : Int32)), .val (.int (Int32.ofNat dn)), .val (.int (Int32.ofNat en)), .unset, .unset, .unset, .unset] [(.ref b1)])) _
        refine XS.bipush X121.here hx rfl (hb hby at_107) ?_
        show Steps p.tables e below (T121.setTop (mkF m 109 #[.val (.int p0), .val (.int p1), .val (.int p2), .val (.int p3), .val (.int p4), .val (.int p5), .val (.ref b1), .val (.int (2 : Int32)), .val (.int (0 : Int32)), .val (.int (Int32.ofNat dn)), .val (.int (Int32.ofNat en)), .unset, .unset, .unset, .unset] [(.int (48 : Int32)), (.ref b1)])) _
        refine XS.iload X121.here hx rfl (hb hby at_109) rfl ?_
        show Steps p.tables e below (T121.setTop (mkF m 111 #[.val (.int p0), .val (.int p1), .val (.int p2), .val (.int p3), .val (.int p4), .val (.int p5), .val (.ref b1), .val (.int (2 : Int32)), .val (.int (0 : Int32)), .val (.int (Int32.ofNat dn)), .val (.int (Int32.ofNat en)), .unset, .unset, .unset, .unset] [(.int (Int32.ofNat dn)), (.int (48 : Int32)), (.ref b1)])) _
        refine XS.iadd X121.here hx rfl (hb hby at_111) rfl ?_
        exact kt
      have c123 : ∀ t, Steps p.tables e below (T121.setTop (mkF m 112 #[.val (.int p0), .val (.int p1), .val (.int p2), .val (.int p3), .val (.int p4), .val (.int p5), .val (.ref b1), .val (.int (2 : Int32)), .val (.int (0 : Int32)), .val (.int (Int32.ofNat dn)), .val (.int (Int32.ofNat en)), .unset, .unset, .unset, .unset] [(.int (own_d dn)), (.ref b1)])) t → Steps p.tables e below (T121.setTop (mkF m 112 #[.val (.int p0), .val (.int p1), .val (.int p2), .val (.int p3), .val (.int p4), .val (.int p5), .val (.ref b1), .val (.int (2 : Int32)), .val (.int (0 : Int32)), .val (.int (Int32.ofNat dn)), .val (.int (Int32.ofNat en)), .unset, .unset, .unset, .unset] [(.int ((48 : Int32) + (Int32.ofNat dn))), (.ref b1)])) t := fun t kt => by show Steps p.tables e below (T121.setTop (mkF m 112 #[.val (.int p0), .val (.int p1), .val (.int p2), .val (.int p3), .val (.int p4), .val (.int p5), .val (.ref b1), .val (.int (2 : Int32)), .val (.int (0 : Int32)), .val (.int (Int32.ofNat dn)), .val (.int (Int32.ofNat en)), .unset, .unset, .unset, .unset] [(.int (own_d dn)), (.ref b1)])) t; exact kt
      have f124 := (Nat.le_trans f119 Kq121.1)
      obtain ⟨cq125, kq125, q125a, q125b, q125c⟩ := isOf hZ rfl Eq121
      obtain ⟨_, _, ⟨T126, L126, k126, n126⟩, -, X126, ⟨Lc126, hQ126, l126, y126, z126⟩, st126⟩ := X121.virtualBack hx (y := (⟨"com/example/sequence_set/sequenceset/cli/DecimalParser", "accept", "(I)V"⟩ : MethodName)) (z := (⟨"com/example/sequence_set/sequenceset/cli/DecimalParser", "accept", "(I)V"⟩ : MethodName)) hown (mvT hZ (hw _ (List.mem_of_getElem? (i := 13) rfl))) (mvT hZ (hw _ (List.mem_of_getElem? (i := 14) rfl))) (notFace_of_selects (args := #[]) (mvT hZ (hw _ (List.mem_of_getElem? (i := 16) rfl)))) (mvT hZ (hw _ (List.mem_of_getElem? (i := 16) rfl))) (mvT hZ (hw _ (List.mem_of_getElem? (i := 15) rfl))) (by decide) (backOf (W := 0) (rm3d l Z a0 hw [] b1 (own_d dn) (0 : Int64) (0 : Int32) ((0 : Int32) + (1 : Int32)) (0 : Int32) T121.heap n0 f124 Fq121_0 Fq121_1 Fq121_2 Fq121_3 Fq121_4 Fq121_5 Eq121 g_b1 (own_dc dn hdn).1 (own_dc dn hdn).2.1 (own_dc dn hdn).2.2.1 (own_dc dn hdn).2.2.2 (own_k1 dn hdn)) hZ (hw _ (List.mem_of_getElem? (i := 17) rfl)) (hw _ (List.mem_of_getElem? (i := 2) rfl)) (by decide) (by decide)) q125a q125c (g := (mkF m 112 #[.val (.int p0), .val (.int p1), .val (.int p2), .val (.int p3), .val (.int p4), .val (.int p5), .val (.ref b1), .val (.int (2 : Int32)), .val (.int (0 : Int32)), .val (.int (Int32.ofNat dn)), .val (.int (Int32.ofNat en)), .unset, .unset, .unset, .unset] [(.int (own_d dn)), (.ref b1)])) rfl (by rw [hml]; rfl) (Steps.refl _) (argsL := [(.int (own_d dn))]) (rest := []) (lenOf pd_1 rfl) rfl (by show 2 * 0 + _ ≤ _; exact Nat.le_of_eq rfl) (hb hby at_112) (fun _ _ => ⟨rfl, rfl, (by decide : 1 + 0 ≤ _), (by decide : 6 + 0 ≤ _)⟩)
      dsimp only [Pt.U, Pt.locs, Pt.cells, Pt.slots] at X126 l126 y126 z126 st126 hQ126
      subst l126 y126 z126
      obtain ⟨rfl, N126q, Kq126, Eq126, Fq126_0, Fq126_1, Fq126_2, Fq126_3, Fq126_4, Fq126_5⟩ := hQ126
      have N126 := Fr.app N121 N126q
      have c127 : ∀ t, Steps p.tables e below (T126.setTop (mkF m 172 #[.val (.int p0), .val (.int p1), .val (.int p2), .val (.int p3), .val (.int p4), .val (.int p5), .val (.ref b1), .val (.int (2 : Int32)), .val (.int (0 : Int32)), .val (.int (Int32.ofNat dn)), .val (.int (Int32.ofNat en)), .val (.long ((Int32.ofNat dn).toInt64)), .second, .val (.long ((Int32.ofNat dn).toInt64)), .second] [(.ref b1)])) t → Steps p.tables e below (T126.setTop (mkF m 115 #[.val (.int p0), .val (.int p1), .val (.int p2), .val (.int p3), .val (.int p4), .val (.int p5), .val (.ref b1), .val (.int (2 : Int32)), .val (.int (0 : Int32)), .val (.int (Int32.ofNat dn)), .val (.int (Int32.ofNat en)), .unset, .unset, .unset, .unset] [])) t := by
        intro t kt
        show Steps p.tables e below (T126.setTop (mkF m 115 #[.val (.int p0), .val (.int p1), .val (.int p2), .val (.int p3), .val (.int p4), .val (.int p5), .val (.ref b1), .val (.int (2 : Int32)), .val (.int (0 : Int32)), .val (.int (Int32.ofNat dn)), .val (.int (Int32.ofNat en)), .unset, .unset, .unset, .unset] [])) _
        refine XS.iload X126.here hx rfl (hb hby at_115) rfl ?_
        show Steps p.tables e below (T126.setTop (mkF m 117 #[.val (.int p0), .val (.int p1), .val (.int p2), .val (.int p3), .val (.int p4), .val (.int p5), .val (.ref b1), .val (.int (2 : Int32)), .val (.int (0 : Int32)), .val (.int (Int32.ofNat dn)), .val (.int (Int32.ofNat en)), .unset, .unset, .unset, .unset] [(.int (0 : Int32))])) _
        refine XS.ifYes X126.here hx rfl (pc0 := 117) (pc' := 130) rfl (hb hby at_117) rfl ((if0 _ _).trans (teq (by decide : (0 : Int32) = (0 : Int32))).1) (by decide) (by decide) ?_
        show Steps p.tables e below (T126.setTop (mkF m 130 #[.val (.int p0), .val (.int p1), .val (.int p2), .val (.int p3), .val (.int p4), .val (.int p5), .val (.ref b1), .val (.int (2 : Int32)), .val (.int (0 : Int32)), .val (.int (Int32.ofNat dn)), .val (.int (Int32.ofNat en)), .unset, .unset, .unset, .unset] [])) _
        refine XS.iload X126.here hx rfl (hb hby at_130) rfl ?_
        show Steps p.tables e below (T126.setTop (mkF m 132 #[.val (.int p0), .val (.int p1), .val (.int p2), .val (.int p3), .val (.int p4), .val (.int p5), .val (.ref b1), .val (.int (2 : Int32)), .val (.int (0 : Int32)), .val (.int (Int32.ofNat dn)), .val (.int (Int32.ofNat en)), .unset, .unset, .unset, .unset] [(.int (0 : Int32))])) _
        refine XS.ifYes X126.here hx rfl (pc0 := 132) (pc' := 149) rfl (hb hby at_132) rfl ((if0 _ _).trans (teq (by decide : (0 : Int32) = (0 : Int32))).1) (by decide) (by decide) ?_
        show Steps p.tables e below (T126.setTop (mkF m 149 #[.val (.int p0), .val (.int p1), .val (.int p2), .val (.int p3), .val (.int p4), .val (.int p5), .val (.ref b1), .val (.int (2 : Int32)), .val (.int (0 : Int32)), .val (.int (Int32.ofNat dn)), .val (.int (Int32.ofNat en)), .unset, .unset, .unset, .unset] [])) _
        refine XS.iload X126.here hx rfl (hb hby at_149) rfl ?_
        show Steps p.tables e below (T126.setTop (mkF m 151 #[.val (.int p0), .val (.int p1), .val (.int p2), .val (.int p3), .val (.int p4), .val (.int p5), .val (.ref b1), .val (.int (2 : Int32)), .val (.int (0 : Int32)), .val (.int (Int32.ofNat dn)), .val (.int (Int32.ofNat en)), .unset, .unset, .unset, .unset] [(.int (Int32.ofNat dn))])) _
        refine XS.i2l X126.here hx rfl (hb hby at_151) rfl ?_
        show Steps p.tables e below (T126.setTop (mkF m 152 #[.val (.int p0), .val (.int p1), .val (.int p2), .val (.int p3), .val (.int p4), .val (.int p5), .val (.ref b1), .val (.int (2 : Int32)), .val (.int (0 : Int32)), .val (.int (Int32.ofNat dn)), .val (.int (Int32.ofNat en)), .unset, .unset, .unset, .unset] [(.long ((Int32.ofNat dn).toInt64))])) _
        refine XS.lstore X126.here hx rfl (hb hby at_152) rfl (l' := #[.val (.int p0), .val (.int p1), .val (.int p2), .val (.int p3), .val (.int p4), .val (.int p5), .val (.ref b1), .val (.int (2 : Int32)), .val (.int (0 : Int32)), .val (.int (Int32.ofNat dn)), .val (.int (Int32.ofNat en)), .val (.long ((Int32.ofNat dn).toInt64)), .second, .unset, .unset]) rfl ?_
        show Steps p.tables e below (T126.setTop (mkF m 154 #[.val (.int p0), .val (.int p1), .val (.int p2), .val (.int p3), .val (.int p4), .val (.int p5), .val (.ref b1), .val (.int (2 : Int32)), .val (.int (0 : Int32)), .val (.int (Int32.ofNat dn)), .val (.int (Int32.ofNat en)), .val (.long ((Int32.ofNat dn).toInt64)), .second, .unset, .unset] [])) _
        refine XS.iload X126.here hx rfl (hb hby at_154) rfl ?_
        show Steps p.tables e below (T126.setTop (mkF m 156 #[.val (.int p0), .val (.int p1), .val (.int p2), .val (.int p3), .val (.int p4), .val (.int p5), .val (.ref b1), .val (.int (2 : Int32)), .val (.int (0 : Int32)), .val (.int (Int32.ofNat dn)), .val (.int (Int32.ofNat en)), .val (.long ((Int32.ofNat dn).toInt64)), .second, .unset, .unset] [(.int (2 : Int32))])) _
        refine XS.iconst X126.here hx rfl (hb hby at_156) ?_
        show Steps p.tables e below (T126.setTop (mkF m 157 #[.val (.int p0), .val (.int p1), .val (.int p2), .val (.int p3), .val (.int p4), .val (.int p5), .val (.ref b1), .val (.int (2 : Int32)), .val (.int (0 : Int32)), .val (.int (Int32.ofNat dn)), .val (.int (Int32.ofNat en)), .val (.long ((Int32.ofNat dn).toInt64)), .second, .unset, .unset] [(.int (1 : Int32)), (.int (2 : Int32))])) _
        refine XS.icmpYes X126.here hx rfl (pc0 := 157) (pc' := 166) rfl (hb hby at_157) rfl (feq (by decide : ¬ ((2 : Int32) = (1 : Int32)))).2 (by decide) (by decide) ?_
        show Steps p.tables e below (T126.setTop (mkF m 166 #[.val (.int p0), .val (.int p1), .val (.int p2), .val (.int p3), .val (.int p4), .val (.int p5), .val (.ref b1), .val (.int (2 : Int32)), .val (.int (0 : Int32)), .val (.int (Int32.ofNat dn)), .val (.int (Int32.ofNat en)), .val (.long ((Int32.ofNat dn).toInt64)), .second, .unset, .unset] [])) _
        refine XS.lload X126.here hx rfl (hb hby at_166) rfl ?_
        show Steps p.tables e below (T126.setTop (mkF m 168 #[.val (.int p0), .val (.int p1), .val (.int p2), .val (.int p3), .val (.int p4), .val (.int p5), .val (.ref b1), .val (.int (2 : Int32)), .val (.int (0 : Int32)), .val (.int (Int32.ofNat dn)), .val (.int (Int32.ofNat en)), .val (.long ((Int32.ofNat dn).toInt64)), .second, .unset, .unset] [(.long ((Int32.ofNat dn).toInt64))])) _
        refine XS.lstore X126.here hx rfl (hb hby at_168) rfl (l' := #[.val (.int p0), .val (.int p1), .val (.int p2), .val (.int p3), .val (.int p4), .val (.int p5), .val (.ref b1), .val (.int (2 : Int32)), .val (.int (0 : Int32)), .val (.int (Int32.ofNat dn)), .val (.int (Int32.ofNat en)), .val (.long ((Int32.ofNat dn).toInt64)), .second, .val (.long ((Int32.ofNat dn).toInt64)), .second]) rfl ?_
        show Steps p.tables e below (T126.setTop (mkF m 170 #[.val (.int p0), .val (.int p1), .val (.int p2), .val (.int p3), .val (.int p4), .val (.int p5), .val (.ref b1), .val (.int (2 : Int32)), .val (.int (0 : Int32)), .val (.int (Int32.ofNat dn)), .val (.int (Int32.ofNat en)), .val (.long ((Int32.ofNat dn).toInt64)), .second, .val (.long ((Int32.ofNat dn).toInt64)), .second] [])) _
        refine XS.aload X126.here hx rfl (hb hby at_170) rfl rfl ?_
        exact kt
      have f128 := (Nat.le_trans f124 Kq126.1)
      obtain ⟨cq129, kq129, q129a, q129b, q129c⟩ := isOf hZ rfl Eq126
      obtain ⟨_, _, ⟨T130, L130, k130, n130⟩, -, X130, ⟨Lc130, hQ130, l130, y130, z130⟩, st130⟩ := X126.virtualBack hx (y := (⟨"com/example/sequence_set/sequenceset/cli/DecimalParser", "value", "()J"⟩ : MethodName)) (z := (⟨"com/example/sequence_set/sequenceset/cli/DecimalParser", "value", "()J"⟩ : MethodName)) hown (mvT hZ (hw _ (List.mem_of_getElem? (i := 34) rfl))) (mvT hZ (hw _ (List.mem_of_getElem? (i := 35) rfl))) (notFace_of_selects (args := #[]) (mvT hZ (hw _ (List.mem_of_getElem? (i := 37) rfl)))) (mvT hZ (hw _ (List.mem_of_getElem? (i := 37) rfl))) (mvT hZ (hw _ (List.mem_of_getElem? (i := 36) rfl))) (by decide) (backOf (W := 0) (rm5_0 l Z a0 hw [] b1 (own_ng (0 : Int64) (own_d dn)) (((0 : Int32) + (1 : Int32)) + (1 : Int32)) ((0 : Int32) + (1 : Int32)) T126.heap n0 f128 Fq126_0 Fq126_1 Fq126_2 Fq126_3 Fq126_4 Fq126_5 Eq126 g_b1 (by decide) (own_v1 dn hdn).1) hZ (hw _ (List.mem_of_getElem? (i := 38) rfl)) (hw _ (List.mem_of_getElem? (i := 2) rfl)) (by decide) (by decide)) q129a q129c (g := (mkF m 172 #[.val (.int p0), .val (.int p1), .val (.int p2), .val (.int p3), .val (.int p4), .val (.int p5), .val (.ref b1), .val (.int (2 : Int32)), .val (.int (0 : Int32)), .val (.int (Int32.ofNat dn)), .val (.int (Int32.ofNat en)), .val (.long ((Int32.ofNat dn).toInt64)), .second, .val (.long ((Int32.ofNat dn).toInt64)), .second] [(.ref b1)])) rfl (by rw [hml]; rfl) (Steps.refl _) (argsL := []) (rest := []) (lenOf pd_2 rfl) rfl (by show 2 * 0 + _ ≤ _; exact Nat.le_of_eq rfl) (hb hby at_172) (fun _ _ => ⟨rfl, rfl, (by decide : 1 + 0 ≤ _), (by decide : 6 + 0 ≤ _)⟩)
      dsimp only [Pt.U, Pt.locs, Pt.cells, Pt.slots] at X130 l130 y130 z130 st130 hQ130
      subst l130 y130 z130
      obtain ⟨rfl, N130q, e130⟩ := hQ130
      have N130 := Fr.app N126 N130q
      have c132 : ∀ t, Steps p.tables e below (T130.setTop (mkF m 178 #[.val (.int p0), .val (.int p1), .val (.int p2), .val (.int p3), .val (.int p4), .val (.int p5), .val (.ref b1), .val (.int (2 : Int32)), .val (.int (0 : Int32)), .val (.int (Int32.ofNat dn)), .val (.int (Int32.ofNat en)), .val (.long ((Int32.ofNat dn).toInt64)), .second, .val (.long ((Int32.ofNat dn).toInt64)), .second] [(.int (lcmpW (-(own_ng (0 : Int64) (own_d dn))) ((Int32.ofNat dn).toInt64)))])) t → Steps p.tables e below (T130.setTop (mkF m 175 #[.val (.int p0), .val (.int p1), .val (.int p2), .val (.int p3), .val (.int p4), .val (.int p5), .val (.ref b1), .val (.int (2 : Int32)), .val (.int (0 : Int32)), .val (.int (Int32.ofNat dn)), .val (.int (Int32.ofNat en)), .val (.long ((Int32.ofNat dn).toInt64)), .second, .val (.long ((Int32.ofNat dn).toInt64)), .second] [(.long (-(own_ng (0 : Int64) (own_d dn))))])) t := by
        intro t kt
        show Steps p.tables e below (T130.setTop (mkF m 175 #[.val (.int p0), .val (.int p1), .val (.int p2), .val (.int p3), .val (.int p4), .val (.int p5), .val (.ref b1), .val (.int (2 : Int32)), .val (.int (0 : Int32)), .val (.int (Int32.ofNat dn)), .val (.int (Int32.ofNat en)), .val (.long ((Int32.ofNat dn).toInt64)), .second, .val (.long ((Int32.ofNat dn).toInt64)), .second] [(.long (-(own_ng (0 : Int64) (own_d dn))))])) _
        refine XS.lload X130.here hx rfl (hb hby at_175) rfl ?_
        show Steps p.tables e below (T130.setTop (mkF m 177 #[.val (.int p0), .val (.int p1), .val (.int p2), .val (.int p3), .val (.int p4), .val (.int p5), .val (.ref b1), .val (.int (2 : Int32)), .val (.int (0 : Int32)), .val (.int (Int32.ofNat dn)), .val (.int (Int32.ofNat en)), .val (.long ((Int32.ofNat dn).toInt64)), .second, .val (.long ((Int32.ofNat dn).toInt64)), .second] [(.long ((Int32.ofNat dn).toInt64)), (.long (-(own_ng (0 : Int64) (own_d dn))))])) _
        refine XS.lcmp X130.here hx rfl (hb hby at_177) rfl ?_
        exact kt
      have hd131 : (-(own_ng (0 : Int64) (own_d dn))) = ((Int32.ofNat dn).toInt64) := (own_v1 dn hdn).2.2
      have c133 : ∀ t, Steps p.tables e below (T130.setTop (mkF m 186 #[.val (.int p0), .val (.int p1), .val (.int p2), .val (.int p3), .val (.int p4), .val (.int p5), .val (.ref b1), .val (.int (2 : Int32)), .val (.int (0 : Int32)), .val (.int (Int32.ofNat dn)), .val (.int (Int32.ofNat en)), .val (.long ((Int32.ofNat dn).toInt64)), .second, .val (.long ((Int32.ofNat dn).toInt64)), .second] [(.int (1 : Int32))])) t → Steps p.tables e below (T130.setTop (mkF m 178 #[.val (.int p0), .val (.int p1), .val (.int p2), .val (.int p3), .val (.int p4), .val (.int p5), .val (.ref b1), .val (.int (2 : Int32)), .val (.int (0 : Int32)), .val (.int (Int32.ofNat dn)), .val (.int (Int32.ofNat en)), .val (.long ((Int32.ofNat dn).toInt64)), .second, .val (.long ((Int32.ofNat dn).toInt64)), .second] [(.int (lcmpW (-(own_ng (0 : Int64) (own_d dn))) ((Int32.ofNat dn).toInt64)))])) t := by
        intro t kt
        show Steps p.tables e below (T130.setTop (mkF m 178 #[.val (.int p0), .val (.int p1), .val (.int p2), .val (.int p3), .val (.int p4), .val (.int p5), .val (.ref b1), .val (.int (2 : Int32)), .val (.int (0 : Int32)), .val (.int (Int32.ofNat dn)), .val (.int (Int32.ofNat en)), .val (.long ((Int32.ofNat dn).toInt64)), .second, .val (.long ((Int32.ofNat dn).toInt64)), .second] [(.int (lcmpW (-(own_ng (0 : Int64) (own_d dn))) ((Int32.ofNat dn).toInt64)))])) _
        refine XS.ifNo X130.here hx rfl (hb hby at_178) rfl ((if0 _ _).trans (teq ((lw_eq _ _).mpr (hd131))).2) ?_
        show Steps p.tables e below (T130.setTop (mkF m 181 #[.val (.int p0), .val (.int p1), .val (.int p2), .val (.int p3), .val (.int p4), .val (.int p5), .val (.ref b1), .val (.int (2 : Int32)), .val (.int (0 : Int32)), .val (.int (Int32.ofNat dn)), .val (.int (Int32.ofNat en)), .val (.long ((Int32.ofNat dn).toInt64)), .second, .val (.long ((Int32.ofNat dn).toInt64)), .second] [])) _
        refine XS.iconst X130.here hx rfl (hb hby at_181) ?_
        show Steps p.tables e below (T130.setTop (mkF m 182 #[.val (.int p0), .val (.int p1), .val (.int p2), .val (.int p3), .val (.int p4), .val (.int p5), .val (.ref b1), .val (.int (2 : Int32)), .val (.int (0 : Int32)), .val (.int (Int32.ofNat dn)), .val (.int (Int32.ofNat en)), .val (.long ((Int32.ofNat dn).toInt64)), .second, .val (.long ((Int32.ofNat dn).toInt64)), .second] [(.int (1 : Int32))])) _
        refine XS.goto X130.here hx rfl (pc0 := 182) (pc' := 186) rfl (hb hby at_182) (by decide) (by decide) ?_
        exact kt
      obtain ⟨fs, hr, hrun, hended, hW, hsame⟩ := X130.leave (v := some (.int (1 : Int32))) (fun h => by rw [Bd.returns] at h; cases h)
      refine ⟨_, _, pre0 _ (st1 _ (c2 _ (st4.trans (c5 _ (st8.trans (c9 _ (st12.trans (c13 _ (st16.trans (c17 _ (st20.trans (c21 _ (c112 _ (c113 _ (c114 _ (c115 _ (c116 _ (c117 _ (c118 _ (st121.trans (c122 _ (c123 _ (st126.trans (c127 _ (st130.trans (c132 _ (c133 _ (?_)))))))))))))))))))))))))))), hrun, hended, _, _, rfl, ?_, ⟨_, rfl⟩, hW, hsame.mono (by decide) (by decide)⟩
      · show Steps p.tables e below (T130.setTop (mkF m 186 #[.val (.int p0), .val (.int p1), .val (.int p2), .val (.int p3), .val (.int p4), .val (.int p5), .val (.ref b1), .val (.int (2 : Int32)), .val (.int (0 : Int32)), .val (.int (Int32.ofNat dn)), .val (.int (Int32.ofNat en)), .val (.long ((Int32.ofNat dn).toInt64)), .second, .val (.long ((Int32.ofNat dn).toInt64)), .second] [(.int (1 : Int32))])) _
        exact retN X130 hx (t := .boolean) Bd.returns (by simp) (hb hby at_186) hr
      · show Q0 Z p0 p1 p2 p3 p4 p5 h0 n0 _ T130.heap _
        rw [e130]
        exact ⟨congrArg (fun z => some (Value.int z)) (show (1 : Int32) = (1 : Int32) from by rfl), N130⟩
    · -- it isn't
      have c135 : ∀ t, Steps p.tables e below (T20.setTop (mkF m 66 #[.val (.int p0), .val (.int p1), .val (.int p2), .val (.int p3), .val (.int p4), .val (.int p5), .val (.ref b1), .val (.int (2 : Int32)), .val (.int (1 : Int32)), .val (.int ((p4 &&& (2147483647 : Int32)) % (10 : Int32))), .unset, .unset, .unset, .unset, .unset] [])) t → Steps p.tables e below (T20.setTop (mkF m 46 #[.val (.int p0), .val (.int p1), .val (.int p2), .val (.int p3), .val (.int p4), .val (.int p5), .val (.ref b1), .val (.int (2 : Int32)), .unset, .unset, .unset, .unset, .unset, .unset, .unset] [(.int (((p3.toUInt32 >>> ((8 : Int32) &&& 31).toUInt32).toInt32) &&& (1 : Int32)))])) t := by
        intro t kt
        show Steps p.tables e below (T20.setTop (mkF m 46 #[.val (.int p0), .val (.int p1), .val (.int p2), .val (.int p3), .val (.int p4), .val (.int p5), .val (.ref b1), .val (.int (2 : Int32)), .unset, .unset, .unset, .unset, .unset, .unset, .unset] [(.int (((p3.toUInt32 >>> ((8 : Int32) &&& 31).toUInt32).toInt32) &&& (1 : Int32)))])) _
        refine XS.ifNo X20.here hx rfl (hb hby at_46) rfl ((if0 _ _).trans (feq hc46).1) ?_
        show Steps p.tables e below (T20.setTop (mkF m 49 #[.val (.int p0), .val (.int p1), .val (.int p2), .val (.int p3), .val (.int p4), .val (.int p5), .val (.ref b1), .val (.int (2 : Int32)), .unset, .unset, .unset, .unset, .unset, .unset, .unset] [])) _
        refine XS.iconst X20.here hx rfl (hb hby at_49) ?_
        show Steps p.tables e below (T20.setTop (mkF m 50 #[.val (.int p0), .val (.int p1), .val (.int p2), .val (.int p3), .val (.int p4), .val (.int p5), .val (.ref b1), .val (.int (2 : Int32)), .unset, .unset, .unset, .unset, .unset, .unset, .unset] [(.int (1 : Int32))])) _
        refine XS.goto X20.here hx rfl (pc0 := 50) (pc' := 54) rfl (hb hby at_50) (by decide) (by decide) ?_
        show Steps p.tables e below (T20.setTop (mkF m 54 #[.val (.int p0), .val (.int p1), .val (.int p2), .val (.int p3), .val (.int p4), .val (.int p5), .val (.ref b1), .val (.int (2 : Int32)), .unset, .unset, .unset, .unset, .unset, .unset, .unset] [(.int (1 : Int32))])) _
        refine XS.istore X20.here hx rfl (hb hby at_54) rfl (l' := #[.val (.int p0), .val (.int p1), .val (.int p2), .val (.int p3), .val (.int p4), .val (.int p5), .val (.ref b1), .val (.int (2 : Int32)), .val (.int (1 : Int32)), .unset, .unset, .unset, .unset, .unset, .unset]) rfl ?_
        show Steps p.tables e below (T20.setTop (mkF m 56 #[.val (.int p0), .val (.int p1), .val (.int p2), .val (.int p3), .val (.int p4), .val (.int p5), .val (.ref b1), .val (.int (2 : Int32)), .val (.int (1 : Int32)), .unset, .unset, .unset, .unset, .unset, .unset] [])) _
        refine XS.iload X20.here hx rfl (hb hby at_56) rfl ?_
        show Steps p.tables e below (T20.setTop (mkF m 58 #[.val (.int p0), .val (.int p1), .val (.int p2), .val (.int p3), .val (.int p4), .val (.int p5), .val (.ref b1), .val (.int (2 : Int32)), .val (.int (1 : Int32)), .unset, .unset, .unset, .unset, .unset, .unset] [(.int p4)])) _
        refine X20.ldcInt hx hown (mvT hZ (hw _ (List.mem_of_getElem? (i := 31) rfl))) (g := (mkF m 58 #[.val (.int p0), .val (.int p1), .val (.int p2), .val (.int p3), .val (.int p4), .val (.int p5), .val (.ref b1), .val (.int (2 : Int32)), .val (.int (1 : Int32)), .unset, .unset, .unset, .unset, .unset, .unset] [(.int p4)])) rfl (hb hby at_58) _ ?_
        show Steps p.tables e below (T20.setTop (mkF m 60 #[.val (.int p0), .val (.int p1), .val (.int p2), .val (.int p3), .val (.int p4), .val (.int p5), .val (.ref b1), .val (.int (2 : Int32)), .val (.int (1 : Int32)), .unset, .unset, .unset, .unset, .unset, .unset] [(.int (2147483647 : Int32)), (.int p4)])) _
        refine XS.iand X20.here hx rfl (hb hby at_60) rfl ?_
        show Steps p.tables e below (T20.setTop (mkF m 61 #[.val (.int p0), .val (.int p1), .val (.int p2), .val (.int p3), .val (.int p4), .val (.int p5), .val (.ref b1), .val (.int (2 : Int32)), .val (.int (1 : Int32)), .unset, .unset, .unset, .unset, .unset, .unset] [(.int (p4 &&& (2147483647 : Int32)))])) _
        refine XS.bipush X20.here hx rfl (hb hby at_61) ?_
        show Steps p.tables e below (T20.setTop (mkF m 63 #[.val (.int p0), .val (.int p1), .val (.int p2), .val (.int p3), .val (.int p4), .val (.int p5), .val (.ref b1), .val (.int (2 : Int32)), .val (.int (1 : Int32)), .unset, .unset, .unset, .unset, .unset, .unset] [(.int (10 : Int32)), (.int (p4 &&& (2147483647 : Int32)))])) _
        refine iremM X20 hx rfl (hb hby at_63) rfl (by decide) ?_
        show Steps p.tables e below (T20.setTop (mkF m 64 #[.val (.int p0), .val (.int p1), .val (.int p2), .val (.int p3), .val (.int p4), .val (.int p5), .val (.ref b1), .val (.int (2 : Int32)), .val (.int (1 : Int32)), .unset, .unset, .unset, .unset, .unset, .unset] [(.int ((p4 &&& (2147483647 : Int32)) % (10 : Int32)))])) _
        refine XS.istore X20.here hx rfl (hb hby at_64) rfl (l' := #[.val (.int p0), .val (.int p1), .val (.int p2), .val (.int p3), .val (.int p4), .val (.int p5), .val (.ref b1), .val (.int (2 : Int32)), .val (.int (1 : Int32)), .val (.int ((p4 &&& (2147483647 : Int32)) % (10 : Int32))), .unset, .unset, .unset, .unset, .unset]) rfl ?_
        exact kt
      obtain ⟨dn, hdn, hde⟩ := own_ten p4
      have c136 : ∀ t, Steps p.tables e below (T20.setTop (mkF m 66 #[.val (.int p0), .val (.int p1), .val (.int p2), .val (.int p3), .val (.int p4), .val (.int p5), .val (.ref b1), .val (.int (2 : Int32)), .val (.int (1 : Int32)), .val (.int (Int32.ofNat dn)), .unset, .unset, .unset, .unset, .unset] [])) t → Steps p.tables e below (T20.setTop (mkF m 66 #[.val (.int p0), .val (.int p1), .val (.int p2), .val (.int p3), .val (.int p4), .val (.int p5), .val (.ref b1), .val (.int (2 : Int32)), .val (.int (1 : Int32)), .val (.int ((p4 &&& (2147483647 : Int32)) % (10 : Int32))), .unset, .unset, .unset, .unset, .unset] [])) t := fun t kt => by rw [hde]; exact kt
      have c137 : ∀ t, Steps p.tables e below (T20.setTop (mkF m 76 #[.val (.int p0), .val (.int p1), .val (.int p2), .val (.int p3), .val (.int p4), .val (.int p5), .val (.ref b1), .val (.int (2 : Int32)), .val (.int (1 : Int32)), .val (.int (Int32.ofNat dn)), .val (.int ((p5 &&& (2147483647 : Int32)) % (10 : Int32))), .unset, .unset, .unset, .unset] [])) t → Steps p.tables e below (T20.setTop (mkF m 66 #[.val (.int p0), .val (.int p1), .val (.int p2), .val (.int p3), .val (.int p4), .val (.int p5), .val (.ref b1), .val (.int (2 : Int32)), .val (.int (1 : Int32)), .val (.int (Int32.ofNat dn)), .unset, .unset, .unset, .unset, .unset] [])) t := by
        intro t kt
        show Steps p.tables e below (T20.setTop (mkF m 66 #[.val (.int p0), .val (.int p1), .val (.int p2), .val (.int p3), .val (.int p4), .val (.int p5), .val (.ref b1), .val (.int (2 : Int32)), .val (.int (1 : Int32)), .val (.int (Int32.ofNat dn)), .unset, .unset, .unset, .unset, .unset] [])) _
        refine XS.iload X20.here hx rfl (hb hby at_66) rfl ?_
        show Steps p.tables e below (T20.setTop (mkF m 68 #[.val (.int p0), .val (.int p1), .val (.int p2), .val (.int p3), .val (.int p4), .val (.int p5), .val (.ref b1), .val (.int (2 : Int32)), .val (.int (1 : Int32)), .val (.int (Int32.ofNat dn)), .unset, .unset, .unset, .unset, .unset] [(.int p5)])) _
        refine X20.ldcInt hx hown (mvT hZ (hw _ (List.mem_of_getElem? (i := 31) rfl))) (g := (mkF m 68 #[.val (.int p0), .val (.int p1), .val (.int p2), .val (.int p3), .val (.int p4), .val (.int p5), .val (.ref b1), .val (.int (2 : Int32)), .val (.int (1 : Int32)), .val (.int (Int32.ofNat dn)), .unset, .unset, .unset, .unset, .unset] [(.int p5)])) rfl (hb hby at_68) _ ?_
        show Steps p.tables e below (T20.setTop (mkF m 70 #[.val (.int p0), .val (.int p1), .val (.int p2), .val (.int p3), .val (.int p4), .val (.int p5), .val (.ref b1), .val (.int (2 : Int32)), .val (.int (1 : Int32)), .val (.int (Int32.ofNat dn)), .unset, .unset, .unset, .unset, .unset] [(.int (2147483647 : Int32)), (.int p5)])) _
        refine XS.iand X20.here hx rfl (hb hby at_70) rfl ?_
        show Steps p.tables e below (T20.setTop (mkF m 71 #[.val (.int p0), .val (.int p1), .val (.int p2), .val (.int p3), .val (.int p4), .val (.int p5), .val (.ref b1), .val (.int (2 : Int32)), .val (.int (1 : Int32)), .val (.int (Int32.ofNat dn)), .unset, .unset, .unset, .unset, .unset] [(.int (p5 &&& (2147483647 : Int32)))])) _
        refine XS.bipush X20.here hx rfl (hb hby at_71) ?_
        show Steps p.tables e below (T20.setTop (mkF m 73 #[.val (.int p0), .val (.int p1), .val (.int p2), .val (.int p3), .val (.int p4), .val (.int p5), .val (.ref b1), .val (.int (2 : Int32)), .val (.int (1 : Int32)), .val (.int (Int32.ofNat dn)), .unset, .unset, .unset, .unset, .unset] [(.int (10 : Int32)), (.int (p5 &&& (2147483647 : Int32)))])) _
        refine iremM X20 hx rfl (hb hby at_73) rfl (by decide) ?_
        show Steps p.tables e below (T20.setTop (mkF m 74 #[.val (.int p0), .val (.int p1), .val (.int p2), .val (.int p3), .val (.int p4), .val (.int p5), .val (.ref b1), .val (.int (2 : Int32)), .val (.int (1 : Int32)), .val (.int (Int32.ofNat dn)), .unset, .unset, .unset, .unset, .unset] [(.int ((p5 &&& (2147483647 : Int32)) % (10 : Int32)))])) _
        refine XS.istore X20.here hx rfl (hb hby at_74) rfl (l' := #[.val (.int p0), .val (.int p1), .val (.int p2), .val (.int p3), .val (.int p4), .val (.int p5), .val (.ref b1), .val (.int (2 : Int32)), .val (.int (1 : Int32)), .val (.int (Int32.ofNat dn)), .val (.int ((p5 &&& (2147483647 : Int32)) % (10 : Int32))), .unset, .unset, .unset, .unset]) rfl ?_
        exact kt
      obtain ⟨en, hen, hee⟩ := own_ten p5
      have c138 : ∀ t, Steps p.tables e below (T20.setTop (mkF m 76 #[.val (.int p0), .val (.int p1), .val (.int p2), .val (.int p3), .val (.int p4), .val (.int p5), .val (.ref b1), .val (.int (2 : Int32)), .val (.int (1 : Int32)), .val (.int (Int32.ofNat dn)), .val (.int (Int32.ofNat en)), .unset, .unset, .unset, .unset] [])) t → Steps p.tables e below (T20.setTop (mkF m 76 #[.val (.int p0), .val (.int p1), .val (.int p2), .val (.int p3), .val (.int p4), .val (.int p5), .val (.ref b1), .val (.int (2 : Int32)), .val (.int (1 : Int32)), .val (.int (Int32.ofNat dn)), .val (.int ((p5 &&& (2147483647 : Int32)) % (10 : Int32))), .unset, .unset, .unset, .unset] [])) t := fun t kt => by rw [hee]; exact kt
      have c139 : ∀ t, Steps p.tables e below (T20.setTop (mkF m 102 #[.val (.int p0), .val (.int p1), .val (.int p2), .val (.int p3), .val (.int p4), .val (.int p5), .val (.ref b1), .val (.int (2 : Int32)), .val (.int (1 : Int32)), .val (.int (Int32.ofNat dn)), .val (.int (Int32.ofNat en)), .unset, .unset, .unset, .unset] [(.int (43 : Int32)), (.ref b1)])) t → Steps p.tables e below (T20.setTop (mkF m 76 #[.val (.int p0), .val (.int p1), .val (.int p2), .val (.int p3), .val (.int p4), .val (.int p5), .val (.ref b1), .val (.int (2 : Int32)), .val (.int (1 : Int32)), .val (.int (Int32.ofNat dn)), .val (.int (Int32.ofNat en)), .unset, .unset, .unset, .unset] [])) t := by
        intro t kt
        show Steps p.tables e below (T20.setTop (mkF m 76 #[.val (.int p0), .val (.int p1), .val (.int p2), .val (.int p3), .val (.int p4), .val (.int p5), .val (.ref b1), .val (.int (2 : Int32)), .val (.int (1 : Int32)), .val (.int (Int32.ofNat dn)), .val (.int (Int32.ofNat en)), .unset, .unset, .unset, .unset] [])) _
        refine XS.iload X20.here hx rfl (hb hby at_76) rfl ?_
        show Steps p.tables e below (T20.setTop (mkF m 78 #[.val (.int p0), .val (.int p1), .val (.int p2), .val (.int p3), .val (.int p4), .val (.int p5), .val (.ref b1), .val (.int (2 : Int32)), .val (.int (1 : Int32)), .val (.int (Int32.ofNat dn)), .val (.int (Int32.ofNat en)), .unset, .unset, .unset, .unset] [(.int (2 : Int32))])) _
        refine XS.iconst X20.here hx rfl (hb hby at_78) ?_
        show Steps p.tables e below (T20.setTop (mkF m 79 #[.val (.int p0), .val (.int p1), .val (.int p2), .val (.int p3), .val (.int p4), .val (.int p5), .val (.ref b1), .val (.int (2 : Int32)), .val (.int (1 : Int32)), .val (.int (Int32.ofNat dn)), .val (.int (Int32.ofNat en)), .unset, .unset, .unset, .unset] [(.int (1 : Int32)), (.int (2 : Int32))])) _
        refine XS.icmpYes X20.here hx rfl (pc0 := 79) (pc' := 92) rfl (hb hby at_79) rfl (feq (by decide : ¬ ((2 : Int32) = (1 : Int32)))).2 (by decide) (by decide) ?_
        show Steps p.tables e below (T20.setTop (mkF m 92 #[.val (.int p0), .val (.int p1), .val (.int p2), .val (.int p3), .val (.int p4), .val (.int p5), .val (.ref b1), .val (.int (2 : Int32)), .val (.int (1 : Int32)), .val (.int (Int32.ofNat dn)), .val (.int (Int32.ofNat en)), .unset, .unset, .unset, .unset] [])) _
        refine XS.iload X20.here hx rfl (hb hby at_92) rfl ?_
        show Steps p.tables e below (T20.setTop (mkF m 94 #[.val (.int p0), .val (.int p1), .val (.int p2), .val (.int p3), .val (.int p4), .val (.int p5), .val (.ref b1), .val (.int (2 : Int32)), .val (.int (1 : Int32)), .val (.int (Int32.ofNat dn)), .val (.int (Int32.ofNat en)), .unset, .unset, .unset, .unset] [(.int (2 : Int32))])) _
        refine XS.iconst X20.here hx rfl (hb hby at_94) ?_
        show Steps p.tables e below (T20.setTop (mkF m 95 #[.val (.int p0), .val (.int p1), .val (.int p2), .val (.int p3), .val (.int p4), .val (.int p5), .val (.ref b1), .val (.int (2 : Int32)), .val (.int (1 : Int32)), .val (.int (Int32.ofNat dn)), .val (.int (Int32.ofNat en)), .unset, .unset, .unset, .unset] [(.int (2 : Int32)), (.int (2 : Int32))])) _
        refine XS.icmpNo X20.here hx rfl (hb hby at_95) rfl (teq (by decide : (2 : Int32) = (2 : Int32))).2 ?_
        show Steps p.tables e below (T20.setTop (mkF m 98 #[.val (.int p0), .val (.int p1), .val (.int p2), .val (.int p3), .val (.int p4), .val (.int p5), .val (.ref b1), .val (.int (2 : Int32)), .val (.int (1 : Int32)), .val (.int (Int32.ofNat dn)), .val (.int (Int32.ofNat en)), .unset, .unset, .unset, .unset] [])) _
        refine XS.aload X20.here hx rfl (hb hby at_98) rfl rfl ?_
        show Steps p.tables e below (T20.setTop (mkF m 100 #[.val (.int p0), .val (.int p1), .val (.int p2), .val (.int p3), .val (.int p4), .val (.int p5), .val (.ref b1), .val (.int (2 : Int32)), .val (.int (1 : Int32)), .val (.int (Int32.ofNat dn)), .val (.int (Int32.ofNat en)), .unset, .unset, .unset, .unset] [(.ref b1)])) _
        refine XS.bipush X20.here hx rfl (hb hby at_100) ?_
        exact kt
      have f140 := (Nat.le_trans f18 Kq20.1)
      obtain ⟨cq141, kq141, q141a, q141b, q141c⟩ := isOf hZ rfl Eq20
      obtain ⟨_, _, ⟨T142, L142, k142, n142⟩, -, X142, ⟨Lc142, hQ142, l142, y142, z142⟩, st142⟩ := X20.virtualBack hx (y := (⟨"com/example/sequence_set/sequenceset/cli/DecimalParser", "accept", "(I)V"⟩ : MethodName)) (z := (⟨"com/example/sequence_set/sequenceset/cli/DecimalParser", "accept", "(I)V"⟩ : MethodName)) hown (mvT hZ (hw _ (List.mem_of_getElem? (i := 13) rfl))) (mvT hZ (hw _ (List.mem_of_getElem? (i := 14) rfl))) (notFace_of_selects (args := #[]) (mvT hZ (hw _ (List.mem_of_getElem? (i := 16) rfl)))) (mvT hZ (hw _ (List.mem_of_getElem? (i := 16) rfl))) (mvT hZ (hw _ (List.mem_of_getElem? (i := 15) rfl))) (by decide) (backOf (W := 0) (rm3s43 l Z a0 hw []  b1 T20.heap n0 f140 Fq20_0 Fq20_1 Fq20_2 Fq20_3 Fq20_4 Fq20_5 Eq20 g_b1) hZ (hw _ (List.mem_of_getElem? (i := 17) rfl)) (hw _ (List.mem_of_getElem? (i := 2) rfl)) (by decide) (by decide)) q141a q141c (g := (mkF m 102 #[.val (.int p0), .val (.int p1), .val (.int p2), .val (.int p3), .val (.int p4), .val (.int p5), .val (.ref b1), .val (.int (2 : Int32)), .val (.int (1 : Int32)), .val (.int (Int32.ofNat dn)), .val (.int (Int32.ofNat en)), .unset, .unset, .unset, .unset] [(.int (43 : Int32)), (.ref b1)])) rfl (by rw [hml]; rfl) (Steps.refl _) (argsL := [(.int (43 : Int32))]) (rest := []) (lenOf pd_1 rfl) rfl (by show 2 * 0 + _ ≤ _; exact Nat.le_of_eq rfl) (hb hby at_102) (fun _ _ => ⟨rfl, rfl, (by decide : 1 + 0 ≤ _), (by decide : 6 + 0 ≤ _)⟩)
      dsimp only [Pt.U, Pt.locs, Pt.cells, Pt.slots] at X142 l142 y142 z142 st142 hQ142
      subst l142 y142 z142
      obtain ⟨rfl, N142q, Kq142, Eq142, Fq142_0, Fq142_1, Fq142_2, Fq142_3, Fq142_4, Fq142_5⟩ := hQ142
      have N142 := Fr.app N20 N142q
      have c143 : ∀ t, Steps p.tables e below (T142.setTop (mkF m 112 #[.val (.int p0), .val (.int p1), .val (.int p2), .val (.int p3), .val (.int p4), .val (.int p5), .val (.ref b1), .val (.int (2 : Int32)), .val (.int (1 : Int32)), .val (.int (Int32.ofNat dn)), .val (.int (Int32.ofNat en)), .unset, .unset, .unset, .unset] [(.int ((48 : Int32) + (Int32.ofNat dn))), (.ref b1)])) t → Steps p.tables e below (T142.setTop (mkF m 105 #[.val (.int p0), .val (.int p1), .val (.int p2), .val (.int p3), .val (.int p4), .val (.int p5), .val (.ref b1), .val (.int (2 : Int32)), .val (.int (1 : Int32)), .val (.int (Int32.ofNat dn)), .val (.int (Int32.ofNat en)), .unset, .unset, .unset, .unset] [])) t := by
        intro t kt
        show Steps p.tables e below (T142.setTop (mkF m 105 #[.val (.int p0), .val (.int p1), .val (.int p2), .val (.int p3), .val (.int p4), .val (.int p5), .val (.ref b1), .val (.int (2 : Int32)), .val (.int (1 : Int32)), .val (.int (Int32.ofNat dn)), .val (.int (Int32.ofNat en)), .unset, .unset, .unset, .unset] [])) _
        refine XS.aload X142.here hx rfl (hb hby at_105) rfl rfl ?_
        show Steps p.tables e below (T142.setTop (mkF m 107 #[.val (.int p0), .val (.int p1), .val (.int p2), .val (.int p3), .val (.int p4), .val (.int p5), .val (.ref b1), .val (.int (2 : Int32)), .val (.int (1 : Int32)), .val (.int (Int32.ofNat dn)), .val (.int (Int32.ofNat en)), .unset, .unset, .unset, .unset] [(.ref b1)])) _
        refine XS.bipush X142.here hx rfl (hb hby at_107) ?_
        show Steps p.tables e below (T142.setTop (mkF m 109 #[.val (.int p0), .val (.int p1), .val (.int p2), .val (.int p3), .val (.int p4), .val (.int p5), .val (.ref b1), .val (.int (2 : Int32)), .val (.int (1 : Int32)), .val (.int (Int32.ofNat dn)), .val (.int (Int32.ofNat en)), .unset, .unset, .unset, .unset] [(.int (48 : Int32)), (.ref b1)])) _
        refine XS.iload X142.here hx rfl (hb hby at_109) rfl ?_
        show Steps p.tables e below (T142.setTop (mkF m 111 #[.val (.int p0), .val (.int p1), .val (.int p2), .val (.int p3), .val (.int p4), .val (.int p5), .val (.ref b1), .val (.int (2 : Int32)), .val (.int (1 : Int32)), .val (.int (Int32.ofNat dn)), .val (.int (Int32.ofNat en)), .unset, .unset, .unset, .unset] [(.int (Int32.ofNat dn)), (.int (48 : Int32)), (.ref b1)])) _
        refine XS.iadd X142.here hx rfl (hb hby at_111) rfl ?_
        exact kt
      have c144 : ∀ t, Steps p.tables e below (T142.setTop (mkF m 112 #[.val (.int p0), .val (.int p1), .val (.int p2), .val (.int p3), .val (.int p4), .val (.int p5), .val (.ref b1), .val (.int (2 : Int32)), .val (.int (1 : Int32)), .val (.int (Int32.ofNat dn)), .val (.int (Int32.ofNat en)), .unset, .unset, .unset, .unset] [(.int (own_d dn)), (.ref b1)])) t → Steps p.tables e below (T142.setTop (mkF m 112 #[.val (.int p0), .val (.int p1), .val (.int p2), .val (.int p3), .val (.int p4), .val (.int p5), .val (.ref b1), .val (.int (2 : Int32)), .val (.int (1 : Int32)), .val (.int (Int32.ofNat dn)), .val (.int (Int32.ofNat en)), .unset, .unset, .unset, .unset] [(.int ((48 : Int32) + (Int32.ofNat dn))), (.ref b1)])) t := fun t kt => by show Steps p.tables e below (T142.setTop (mkF m 112 #[.val (.int p0), .val (.int p1), .val (.int p2), .val (.int p3), .val (.int p4), .val (.int p5), .val (.ref b1), .val (.int (2 : Int32)), .val (.int (1 : Int32)), .val (.int (Int32.ofNat dn)), .val (.int (Int32.ofNat en)), .unset, .unset, .unset, .unset] [(.int (own_d dn)), (.ref b1)])) t; exact kt
      have f145 := (Nat.le_trans f140 Kq142.1)
      obtain ⟨cq146, kq146, q146a, q146b, q146c⟩ := isOf hZ rfl Eq142
      obtain ⟨_, _, ⟨T147, L147, k147, n147⟩, -, X147, ⟨Lc147, hQ147, l147, y147, z147⟩, st147⟩ := X142.virtualBack hx (y := (⟨"com/example/sequence_set/sequenceset/cli/DecimalParser", "accept", "(I)V"⟩ : MethodName)) (z := (⟨"com/example/sequence_set/sequenceset/cli/DecimalParser", "accept", "(I)V"⟩ : MethodName)) hown (mvT hZ (hw _ (List.mem_of_getElem? (i := 13) rfl))) (mvT hZ (hw _ (List.mem_of_getElem? (i := 14) rfl))) (notFace_of_selects (args := #[]) (mvT hZ (hw _ (List.mem_of_getElem? (i := 16) rfl)))) (mvT hZ (hw _ (List.mem_of_getElem? (i := 16) rfl))) (mvT hZ (hw _ (List.mem_of_getElem? (i := 15) rfl))) (by decide) (backOf (W := 0) (rm3d l Z a0 hw [] b1 (own_d dn) (0 : Int64) (0 : Int32) ((0 : Int32) + (1 : Int32)) (0 : Int32) T142.heap n0 f145 Fq142_0 Fq142_1 Fq142_2 Fq142_3 Fq142_4 Fq142_5 Eq142 g_b1 (own_dc dn hdn).1 (own_dc dn hdn).2.1 (own_dc dn hdn).2.2.1 (own_dc dn hdn).2.2.2 (own_k1 dn hdn)) hZ (hw _ (List.mem_of_getElem? (i := 17) rfl)) (hw _ (List.mem_of_getElem? (i := 2) rfl)) (by decide) (by decide)) q146a q146c (g := (mkF m 112 #[.val (.int p0), .val (.int p1), .val (.int p2), .val (.int p3), .val (.int p4), .val (.int p5), .val (.ref b1), .val (.int (2 : Int32)), .val (.int (1 : Int32)), .val (.int (Int32.ofNat dn)), .val (.int (Int32.ofNat en)), .unset, .unset, .unset, .unset] [(.int (own_d dn)), (.ref b1)])) rfl (by rw [hml]; rfl) (Steps.refl _) (argsL := [(.int (own_d dn))]) (rest := []) (lenOf pd_1 rfl) rfl (by show 2 * 0 + _ ≤ _; exact Nat.le_of_eq rfl) (hb hby at_112) (fun _ _ => ⟨rfl, rfl, (by decide : 1 + 0 ≤ _), (by decide : 6 + 0 ≤ _)⟩)
      dsimp only [Pt.U, Pt.locs, Pt.cells, Pt.slots] at X147 l147 y147 z147 st147 hQ147
      subst l147 y147 z147
      obtain ⟨rfl, N147q, Kq147, Eq147, Fq147_0, Fq147_1, Fq147_2, Fq147_3, Fq147_4, Fq147_5⟩ := hQ147
      have N147 := Fr.app N142 N147q
      have c148 : ∀ t, Steps p.tables e below (T147.setTop (mkF m 127 #[.val (.int p0), .val (.int p1), .val (.int p2), .val (.int p3), .val (.int p4), .val (.int p5), .val (.ref b1), .val (.int (2 : Int32)), .val (.int (1 : Int32)), .val (.int (Int32.ofNat dn)), .val (.int (Int32.ofNat en)), .unset, .unset, .unset, .unset] [(.int ((48 : Int32) + (Int32.ofNat en))), (.ref b1)])) t → Steps p.tables e below (T147.setTop (mkF m 115 #[.val (.int p0), .val (.int p1), .val (.int p2), .val (.int p3), .val (.int p4), .val (.int p5), .val (.ref b1), .val (.int (2 : Int32)), .val (.int (1 : Int32)), .val (.int (Int32.ofNat dn)), .val (.int (Int32.ofNat en)), .unset, .unset, .unset, .unset] [])) t := by
        intro t kt
        show Steps p.tables e below (T147.setTop (mkF m 115 #[.val (.int p0), .val (.int p1), .val (.int p2), .val (.int p3), .val (.int p4), .val (.int p5), .val (.ref b1), .val (.int (2 : Int32)), .val (.int (1 : Int32)), .val (.int (Int32.ofNat dn)), .val (.int (Int32.ofNat en)), .unset, .unset, .unset, .unset] [])) _
        refine XS.iload X147.here hx rfl (hb hby at_115) rfl ?_
        show Steps p.tables e below (T147.setTop (mkF m 117 #[.val (.int p0), .val (.int p1), .val (.int p2), .val (.int p3), .val (.int p4), .val (.int p5), .val (.ref b1), .val (.int (2 : Int32)), .val (.int (1 : Int32)), .val (.int (Int32.ofNat dn)), .val (.int (Int32.ofNat en)), .unset, .unset, .unset, .unset] [(.int (1 : Int32))])) _
        refine XS.ifNo X147.here hx rfl (hb hby at_117) rfl ((if0 _ _).trans (feq (by decide : ¬ ((1 : Int32) = (0 : Int32)))).1) ?_
        show Steps p.tables e below (T147.setTop (mkF m 120 #[.val (.int p0), .val (.int p1), .val (.int p2), .val (.int p3), .val (.int p4), .val (.int p5), .val (.ref b1), .val (.int (2 : Int32)), .val (.int (1 : Int32)), .val (.int (Int32.ofNat dn)), .val (.int (Int32.ofNat en)), .unset, .unset, .unset, .unset] [])) _
        refine XS.aload X147.here hx rfl (hb hby at_120) rfl rfl ?_
        show Steps p.tables e below (T147.setTop (mkF m 122 #[.val (.int p0), .val (.int p1), .val (.int p2), .val (.int p3), .val (.int p4), .val (.int p5), .val (.ref b1), .val (.int (2 : Int32)), .val (.int (1 : Int32)), .val (.int (Int32.ofNat dn)), .val (.int (Int32.ofNat en)), .unset, .unset, .unset, .unset] [(.ref b1)])) _
        refine XS.bipush X147.here hx rfl (hb hby at_122) ?_
        show Steps p.tables e below (T147.setTop (mkF m 124 #[.val (.int p0), .val (.int p1), .val (.int p2), .val (.int p3), .val (.int p4), .val (.int p5), .val (.ref b1), .val (.int (2 : Int32)), .val (.int (1 : Int32)), .val (.int (Int32.ofNat dn)), .val (.int (Int32.ofNat en)), .unset, .unset, .unset, .unset] [(.int (48 : Int32)), (.ref b1)])) _
        refine XS.iload X147.here hx rfl (hb hby at_124) rfl ?_
        show Steps p.tables e below (T147.setTop (mkF m 126 #[.val (.int p0), .val (.int p1), .val (.int p2), .val (.int p3), .val (.int p4), .val (.int p5), .val (.ref b1), .val (.int (2 : Int32)), .val (.int (1 : Int32)), .val (.int (Int32.ofNat dn)), .val (.int (Int32.ofNat en)), .unset, .unset, .unset, .unset] [(.int (Int32.ofNat en)), (.int (48 : Int32)), (.ref b1)])) _
        refine XS.iadd X147.here hx rfl (hb hby at_126) rfl ?_
        exact kt
      have c149 : ∀ t, Steps p.tables e below (T147.setTop (mkF m 127 #[.val (.int p0), .val (.int p1), .val (.int p2), .val (.int p3), .val (.int p4), .val (.int p5), .val (.ref b1), .val (.int (2 : Int32)), .val (.int (1 : Int32)), .val (.int (Int32.ofNat dn)), .val (.int (Int32.ofNat en)), .unset, .unset, .unset, .unset] [(.int (own_d en)), (.ref b1)])) t → Steps p.tables e below (T147.setTop (mkF m 127 #[.val (.int p0), .val (.int p1), .val (.int p2), .val (.int p3), .val (.int p4), .val (.int p5), .val (.ref b1), .val (.int (2 : Int32)), .val (.int (1 : Int32)), .val (.int (Int32.ofNat dn)), .val (.int (Int32.ofNat en)), .unset, .unset, .unset, .unset] [(.int ((48 : Int32) + (Int32.ofNat en))), (.ref b1)])) t := fun t kt => by show Steps p.tables e below (T147.setTop (mkF m 127 #[.val (.int p0), .val (.int p1), .val (.int p2), .val (.int p3), .val (.int p4), .val (.int p5), .val (.ref b1), .val (.int (2 : Int32)), .val (.int (1 : Int32)), .val (.int (Int32.ofNat dn)), .val (.int (Int32.ofNat en)), .unset, .unset, .unset, .unset] [(.int (own_d en)), (.ref b1)])) t; exact kt
      have f150 := (Nat.le_trans f145 Kq147.1)
      obtain ⟨cq151, kq151, q151a, q151b, q151c⟩ := isOf hZ rfl Eq147
      obtain ⟨_, _, ⟨T152, L152, k152, n152⟩, -, X152, ⟨Lc152, hQ152, l152, y152, z152⟩, st152⟩ := X147.virtualBack hx (y := (⟨"com/example/sequence_set/sequenceset/cli/DecimalParser", "accept", "(I)V"⟩ : MethodName)) (z := (⟨"com/example/sequence_set/sequenceset/cli/DecimalParser", "accept", "(I)V"⟩ : MethodName)) hown (mvT hZ (hw _ (List.mem_of_getElem? (i := 13) rfl))) (mvT hZ (hw _ (List.mem_of_getElem? (i := 14) rfl))) (notFace_of_selects (args := #[]) (mvT hZ (hw _ (List.mem_of_getElem? (i := 16) rfl)))) (mvT hZ (hw _ (List.mem_of_getElem? (i := 16) rfl))) (mvT hZ (hw _ (List.mem_of_getElem? (i := 15) rfl))) (by decide) (backOf (W := 0) (rm3d l Z a0 hw [] b1 (own_d en) (own_ng (0 : Int64) (own_d dn)) (0 : Int32) (((0 : Int32) + (1 : Int32)) + (1 : Int32)) ((0 : Int32) + (1 : Int32)) T147.heap n0 f150 Fq147_0 Fq147_1 Fq147_2 Fq147_3 Fq147_4 Fq147_5 Eq147 g_b1 (own_dc en hen).1 (own_dc en hen).2.1 (own_dc en hen).2.2.1 (own_dc en hen).2.2.2 (own_k2 dn hdn en hen)) hZ (hw _ (List.mem_of_getElem? (i := 17) rfl)) (hw _ (List.mem_of_getElem? (i := 2) rfl)) (by decide) (by decide)) q151a q151c (g := (mkF m 127 #[.val (.int p0), .val (.int p1), .val (.int p2), .val (.int p3), .val (.int p4), .val (.int p5), .val (.ref b1), .val (.int (2 : Int32)), .val (.int (1 : Int32)), .val (.int (Int32.ofNat dn)), .val (.int (Int32.ofNat en)), .unset, .unset, .unset, .unset] [(.int (own_d en)), (.ref b1)])) rfl (by rw [hml]; rfl) (Steps.refl _) (argsL := [(.int (own_d en))]) (rest := []) (lenOf pd_1 rfl) rfl (by show 2 * 0 + _ ≤ _; exact Nat.le_of_eq rfl) (hb hby at_127) (fun _ _ => ⟨rfl, rfl, (by decide : 1 + 0 ≤ _), (by decide : 6 + 0 ≤ _)⟩)
      dsimp only [Pt.U, Pt.locs, Pt.cells, Pt.slots] at X152 l152 y152 z152 st152 hQ152
      subst l152 y152 z152
      obtain ⟨rfl, N152q, Kq152, Eq152, Fq152_0, Fq152_1, Fq152_2, Fq152_3, Fq152_4, Fq152_5⟩ := hQ152
      have N152 := Fr.app N147 N152q
      have c153 : ∀ t, Steps p.tables e below (T152.setTop (mkF m 172 #[.val (.int p0), .val (.int p1), .val (.int p2), .val (.int p3), .val (.int p4), .val (.int p5), .val (.ref b1), .val (.int (2 : Int32)), .val (.int (1 : Int32)), .val (.int (Int32.ofNat dn)), .val (.int (Int32.ofNat en)), .val (.long ((((Int32.ofNat dn).toInt64) * (10 : Int64)) + ((Int32.ofNat en).toInt64))), .second, .val (.long ((((Int32.ofNat dn).toInt64) * (10 : Int64)) + ((Int32.ofNat en).toInt64))), .second] [(.ref b1)])) t → Steps p.tables e below (T152.setTop (mkF m 130 #[.val (.int p0), .val (.int p1), .val (.int p2), .val (.int p3), .val (.int p4), .val (.int p5), .val (.ref b1), .val (.int (2 : Int32)), .val (.int (1 : Int32)), .val (.int (Int32.ofNat dn)), .val (.int (Int32.ofNat en)), .unset, .unset, .unset, .unset] [])) t := by
        intro t kt
        show Steps p.tables e below (T152.setTop (mkF m 130 #[.val (.int p0), .val (.int p1), .val (.int p2), .val (.int p3), .val (.int p4), .val (.int p5), .val (.ref b1), .val (.int (2 : Int32)), .val (.int (1 : Int32)), .val (.int (Int32.ofNat dn)), .val (.int (Int32.ofNat en)), .unset, .unset, .unset, .unset] [])) _
        refine XS.iload X152.here hx rfl (hb hby at_130) rfl ?_
        show Steps p.tables e below (T152.setTop (mkF m 132 #[.val (.int p0), .val (.int p1), .val (.int p2), .val (.int p3), .val (.int p4), .val (.int p5), .val (.ref b1), .val (.int (2 : Int32)), .val (.int (1 : Int32)), .val (.int (Int32.ofNat dn)), .val (.int (Int32.ofNat en)), .unset, .unset, .unset, .unset] [(.int (1 : Int32))])) _
        refine XS.ifNo X152.here hx rfl (hb hby at_132) rfl ((if0 _ _).trans (feq (by decide : ¬ ((1 : Int32) = (0 : Int32)))).1) ?_
        show Steps p.tables e below (T152.setTop (mkF m 135 #[.val (.int p0), .val (.int p1), .val (.int p2), .val (.int p3), .val (.int p4), .val (.int p5), .val (.ref b1), .val (.int (2 : Int32)), .val (.int (1 : Int32)), .val (.int (Int32.ofNat dn)), .val (.int (Int32.ofNat en)), .unset, .unset, .unset, .unset] [])) _
        refine XS.iload X152.here hx rfl (hb hby at_135) rfl ?_
        show Steps p.tables e below (T152.setTop (mkF m 137 #[.val (.int p0), .val (.int p1), .val (.int p2), .val (.int p3), .val (.int p4), .val (.int p5), .val (.ref b1), .val (.int (2 : Int32)), .val (.int (1 : Int32)), .val (.int (Int32.ofNat dn)), .val (.int (Int32.ofNat en)), .unset, .unset, .unset, .unset] [(.int (Int32.ofNat dn))])) _
        refine XS.i2l X152.here hx rfl (hb hby at_137) rfl ?_
        show Steps p.tables e below (T152.setTop (mkF m 138 #[.val (.int p0), .val (.int p1), .val (.int p2), .val (.int p3), .val (.int p4), .val (.int p5), .val (.ref b1), .val (.int (2 : Int32)), .val (.int (1 : Int32)), .val (.int (Int32.ofNat dn)), .val (.int (Int32.ofNat en)), .unset, .unset, .unset, .unset] [(.long ((Int32.ofNat dn).toInt64))])) _
        refine X152.ldc2Long hx hown (mvT hZ (hw _ (List.mem_of_getElem? (i := 39) rfl))) (g := (mkF m 138 #[.val (.int p0), .val (.int p1), .val (.int p2), .val (.int p3), .val (.int p4), .val (.int p5), .val (.ref b1), .val (.int (2 : Int32)), .val (.int (1 : Int32)), .val (.int (Int32.ofNat dn)), .val (.int (Int32.ofNat en)), .unset, .unset, .unset, .unset] [(.long ((Int32.ofNat dn).toInt64))])) rfl (hb hby at_138) _ ?_
        show Steps p.tables e below (T152.setTop (mkF m 141 #[.val (.int p0), .val (.int p1), .val (.int p2), .val (.int p3), .val (.int p4), .val (.int p5), .val (.ref b1), .val (.int (2 : Int32)), .val (.int (1 : Int32)), .val (.int (Int32.ofNat dn)), .val (.int (Int32.ofNat en)), .unset, .unset, .unset, .unset] [(.long (10 : Int64)), (.long ((Int32.ofNat dn).toInt64))])) _
        refine XS.lmul X152.here hx rfl (hb hby at_141) rfl ?_
        show Steps p.tables e below (T152.setTop (mkF m 142 #[.val (.int p0), .val (.int p1), .val (.int p2), .val (.int p3), .val (.int p4), .val (.int p5), .val (.ref b1), .val (.int (2 : Int32)), .val (.int (1 : Int32)), .val (.int (Int32.ofNat dn)), .val (.int (Int32.ofNat en)), .unset, .unset, .unset, .unset] [(.long (((Int32.ofNat dn).toInt64) * (10 : Int64)))])) _
        refine XS.iload X152.here hx rfl (hb hby at_142) rfl ?_
        show Steps p.tables e below (T152.setTop (mkF m 144 #[.val (.int p0), .val (.int p1), .val (.int p2), .val (.int p3), .val (.int p4), .val (.int p5), .val (.ref b1), .val (.int (2 : Int32)), .val (.int (1 : Int32)), .val (.int (Int32.ofNat dn)), .val (.int (Int32.ofNat en)), .unset, .unset, .unset, .unset] [(.int (Int32.ofNat en)), (.long (((Int32.ofNat dn).toInt64) * (10 : Int64)))])) _
        refine XS.i2l X152.here hx rfl (hb hby at_144) rfl ?_
        show Steps p.tables e below (T152.setTop (mkF m 145 #[.val (.int p0), .val (.int p1), .val (.int p2), .val (.int p3), .val (.int p4), .val (.int p5), .val (.ref b1), .val (.int (2 : Int32)), .val (.int (1 : Int32)), .val (.int (Int32.ofNat dn)), .val (.int (Int32.ofNat en)), .unset, .unset, .unset, .unset] [(.long ((Int32.ofNat en).toInt64)), (.long (((Int32.ofNat dn).toInt64) * (10 : Int64)))])) _
        refine XS.ladd X152.here hx rfl (hb hby at_145) rfl ?_
        show Steps p.tables e below (T152.setTop (mkF m 146 #[.val (.int p0), .val (.int p1), .val (.int p2), .val (.int p3), .val (.int p4), .val (.int p5), .val (.ref b1), .val (.int (2 : Int32)), .val (.int (1 : Int32)), .val (.int (Int32.ofNat dn)), .val (.int (Int32.ofNat en)), .unset, .unset, .unset, .unset] [(.long ((((Int32.ofNat dn).toInt64) * (10 : Int64)) + ((Int32.ofNat en).toInt64)))])) _
        refine XS.goto X152.here hx rfl (pc0 := 146) (pc' := 152) rfl (hb hby at_146) (by decide) (by decide) ?_
        show Steps p.tables e below (T152.setTop (mkF m 152 #[.val (.int p0), .val (.int p1), .val (.int p2), .val (.int p3), .val (.int p4), .val (.int p5), .val (.ref b1), .val (.int (2 : Int32)), .val (.int (1 : Int32)), .val (.int (Int32.ofNat dn)), .val (.int (Int32.ofNat en)), .unset, .unset, .unset, .unset] [(.long ((((Int32.ofNat dn).toInt64) * (10 : Int64)) + ((Int32.ofNat en).toInt64)))])) _
        refine XS.lstore X152.here hx rfl (hb hby at_152) rfl (l' := #[.val (.int p0), .val (.int p1), .val (.int p2), .val (.int p3), .val (.int p4), .val (.int p5), .val (.ref b1), .val (.int (2 : Int32)), .val (.int (1 : Int32)), .val (.int (Int32.ofNat dn)), .val (.int (Int32.ofNat en)), .val (.long ((((Int32.ofNat dn).toInt64) * (10 : Int64)) + ((Int32.ofNat en).toInt64))), .second, .unset, .unset]) rfl ?_
        show Steps p.tables e below (T152.setTop (mkF m 154 #[.val (.int p0), .val (.int p1), .val (.int p2), .val (.int p3), .val (.int p4), .val (.int p5), .val (.ref b1), .val (.int (2 : Int32)), .val (.int (1 : Int32)), .val (.int (Int32.ofNat dn)), .val (.int (Int32.ofNat en)), .val (.long ((((Int32.ofNat dn).toInt64) * (10 : Int64)) + ((Int32.ofNat en).toInt64))), .second, .unset, .unset] [])) _
        refine XS.iload X152.here hx rfl (hb hby at_154) rfl ?_
        show Steps p.tables e below (T152.setTop (mkF m 156 #[.val (.int p0), .val (.int p1), .val (.int p2), .val (.int p3), .val (.int p4), .val (.int p5), .val (.ref b1), .val (.int (2 : Int32)), .val (.int (1 : Int32)), .val (.int (Int32.ofNat dn)), .val (.int (Int32.ofNat en)), .val (.long ((((Int32.ofNat dn).toInt64) * (10 : Int64)) + ((Int32.ofNat en).toInt64))), .second, .unset, .unset] [(.int (2 : Int32))])) _
        refine XS.iconst X152.here hx rfl (hb hby at_156) ?_
        show Steps p.tables e below (T152.setTop (mkF m 157 #[.val (.int p0), .val (.int p1), .val (.int p2), .val (.int p3), .val (.int p4), .val (.int p5), .val (.ref b1), .val (.int (2 : Int32)), .val (.int (1 : Int32)), .val (.int (Int32.ofNat dn)), .val (.int (Int32.ofNat en)), .val (.long ((((Int32.ofNat dn).toInt64) * (10 : Int64)) + ((Int32.ofNat en).toInt64))), .second, .unset, .unset] [(.int (1 : Int32)), (.int (2 : Int32))])) _
        refine XS.icmpYes X152.here hx rfl (pc0 := 157) (pc' := 166) rfl (hb hby at_157) rfl (feq (by decide : ¬ ((2 : Int32) = (1 : Int32)))).2 (by decide) (by decide) ?_
        show Steps p.tables e below (T152.setTop (mkF m 166 #[.val (.int p0), .val (.int p1), .val (.int p2), .val (.int p3), .val (.int p4), .val (.int p5), .val (.ref b1), .val (.int (2 : Int32)), .val (.int (1 : Int32)), .val (.int (Int32.ofNat dn)), .val (.int (Int32.ofNat en)), .val (.long ((((Int32.ofNat dn).toInt64) * (10 : Int64)) + ((Int32.ofNat en).toInt64))), .second, .unset, .unset] [])) _
        refine XS.lload X152.here hx rfl (hb hby at_166) rfl ?_
        show Steps p.tables e below (T152.setTop (mkF m 168 #[.val (.int p0), .val (.int p1), .val (.int p2), .val (.int p3), .val (.int p4), .val (.int p5), .val (.ref b1), .val (.int (2 : Int32)), .val (.int (1 : Int32)), .val (.int (Int32.ofNat dn)), .val (.int (Int32.ofNat en)), .val (.long ((((Int32.ofNat dn).toInt64) * (10 : Int64)) + ((Int32.ofNat en).toInt64))), .second, .unset, .unset] [(.long ((((Int32.ofNat dn).toInt64) * (10 : Int64)) + ((Int32.ofNat en).toInt64)))])) _
        refine XS.lstore X152.here hx rfl (hb hby at_168) rfl (l' := #[.val (.int p0), .val (.int p1), .val (.int p2), .val (.int p3), .val (.int p4), .val (.int p5), .val (.ref b1), .val (.int (2 : Int32)), .val (.int (1 : Int32)), .val (.int (Int32.ofNat dn)), .val (.int (Int32.ofNat en)), .val (.long ((((Int32.ofNat dn).toInt64) * (10 : Int64)) + ((Int32.ofNat en).toInt64))), .second, .val (.long ((((Int32.ofNat dn).toInt64) * (10 : Int64)) + ((Int32.ofNat en).toInt64))), .second]) rfl ?_
        show Steps p.tables e below (T152.setTop (mkF m 170 #[.val (.int p0), .val (.int p1), .val (.int p2), .val (.int p3), .val (.int p4), .val (.int p5), .val (.ref b1), .val (.int (2 : Int32)), .val (.int (1 : Int32)), .val (.int (Int32.ofNat dn)), .val (.int (Int32.ofNat en)), .val (.long ((((Int32.ofNat dn).toInt64) * (10 : Int64)) + ((Int32.ofNat en).toInt64))), .second, .val (.long ((((Int32.ofNat dn).toInt64) * (10 : Int64)) + ((Int32.ofNat en).toInt64))), .second] [])) _
        refine XS.aload X152.here hx rfl (hb hby at_170) rfl rfl ?_
        exact kt
      have f154 := (Nat.le_trans f150 Kq152.1)
      obtain ⟨cq155, kq155, q155a, q155b, q155c⟩ := isOf hZ rfl Eq152
      obtain ⟨_, _, ⟨T156, L156, k156, n156⟩, -, X156, ⟨Lc156, hQ156, l156, y156, z156⟩, st156⟩ := X152.virtualBack hx (y := (⟨"com/example/sequence_set/sequenceset/cli/DecimalParser", "value", "()J"⟩ : MethodName)) (z := (⟨"com/example/sequence_set/sequenceset/cli/DecimalParser", "value", "()J"⟩ : MethodName)) hown (mvT hZ (hw _ (List.mem_of_getElem? (i := 34) rfl))) (mvT hZ (hw _ (List.mem_of_getElem? (i := 35) rfl))) (notFace_of_selects (args := #[]) (mvT hZ (hw _ (List.mem_of_getElem? (i := 37) rfl)))) (mvT hZ (hw _ (List.mem_of_getElem? (i := 37) rfl))) (mvT hZ (hw _ (List.mem_of_getElem? (i := 36) rfl))) (by decide) (backOf (W := 0) (rm5_0 l Z a0 hw [] b1 (own_ng (own_ng (0 : Int64) (own_d dn)) (own_d en)) ((((0 : Int32) + (1 : Int32)) + (1 : Int32)) + (1 : Int32)) (((0 : Int32) + (1 : Int32)) + (1 : Int32)) T152.heap n0 f154 Fq152_0 Fq152_1 Fq152_2 Fq152_3 Fq152_4 Fq152_5 Eq152 g_b1 (by decide) (own_v2 dn hdn en hen).1) hZ (hw _ (List.mem_of_getElem? (i := 38) rfl)) (hw _ (List.mem_of_getElem? (i := 2) rfl)) (by decide) (by decide)) q155a q155c (g := (mkF m 172 #[.val (.int p0), .val (.int p1), .val (.int p2), .val (.int p3), .val (.int p4), .val (.int p5), .val (.ref b1), .val (.int (2 : Int32)), .val (.int (1 : Int32)), .val (.int (Int32.ofNat dn)), .val (.int (Int32.ofNat en)), .val (.long ((((Int32.ofNat dn).toInt64) * (10 : Int64)) + ((Int32.ofNat en).toInt64))), .second, .val (.long ((((Int32.ofNat dn).toInt64) * (10 : Int64)) + ((Int32.ofNat en).toInt64))), .second] [(.ref b1)])) rfl (by rw [hml]; rfl) (Steps.refl _) (argsL := []) (rest := []) (lenOf pd_2 rfl) rfl (by show 2 * 0 + _ ≤ _; exact Nat.le_of_eq rfl) (hb hby at_172) (fun _ _ => ⟨rfl, rfl, (by decide : 1 + 0 ≤ _), (by decide : 6 + 0 ≤ _)⟩)
      dsimp only [Pt.U, Pt.locs, Pt.cells, Pt.slots] at X156 l156 y156 z156 st156 hQ156
      subst l156 y156 z156
      obtain ⟨rfl, N156q, e156⟩ := hQ156
      have N156 := Fr.app N152 N156q
      have c158 : ∀ t, Steps p.tables e below (T156.setTop (mkF m 178 #[.val (.int p0), .val (.int p1), .val (.int p2), .val (.int p3), .val (.int p4), .val (.int p5), .val (.ref b1), .val (.int (2 : Int32)), .val (.int (1 : Int32)), .val (.int (Int32.ofNat dn)), .val (.int (Int32.ofNat en)), .val (.long ((((Int32.ofNat dn).toInt64) * (10 : Int64)) + ((Int32.ofNat en).toInt64))), .second, .val (.long ((((Int32.ofNat dn).toInt64) * (10 : Int64)) + ((Int32.ofNat en).toInt64))), .second] [(.int (lcmpW (-(own_ng (own_ng (0 : Int64) (own_d dn)) (own_d en))) ((((Int32.ofNat dn).toInt64) * (10 : Int64)) + ((Int32.ofNat en).toInt64))))])) t → Steps p.tables e below (T156.setTop (mkF m 175 #[.val (.int p0), .val (.int p1), .val (.int p2), .val (.int p3), .val (.int p4), .val (.int p5), .val (.ref b1), .val (.int (2 : Int32)), .val (.int (1 : Int32)), .val (.int (Int32.ofNat dn)), .val (.int (Int32.ofNat en)), .val (.long ((((Int32.ofNat dn).toInt64) * (10 : Int64)) + ((Int32.ofNat en).toInt64))), .second, .val (.long ((((Int32.ofNat dn).toInt64) * (10 : Int64)) + ((Int32.ofNat en).toInt64))), .second] [(.long (-(own_ng (own_ng (0 : Int64) (own_d dn)) (own_d en))))])) t := by
        intro t kt
        show Steps p.tables e below (T156.setTop (mkF m 175 #[.val (.int p0), .val (.int p1), .val (.int p2), .val (.int p3), .val (.int p4), .val (.int p5), .val (.ref b1), .val (.int (2 : Int32)), .val (.int (1 : Int32)), .val (.int (Int32.ofNat dn)), .val (.int (Int32.ofNat en)), .val (.long ((((Int32.ofNat dn).toInt64) * (10 : Int64)) + ((Int32.ofNat en).toInt64))), .second, .val (.long ((((Int32.ofNat dn).toInt64) * (10 : Int64)) + ((Int32.ofNat en).toInt64))), .second] [(.long (-(own_ng (own_ng (0 : Int64) (own_d dn)) (own_d en))))])) _
        refine XS.lload X156.here hx rfl (hb hby at_175) rfl ?_
        show Steps p.tables e below (T156.setTop (mkF m 177 #[.val (.int p0), .val (.int p1), .val (.int p2), .val (.int p3), .val (.int p4), .val (.int p5), .val (.ref b1), .val (.int (2 : Int32)), .val (.int (1 : Int32)), .val (.int (Int32.ofNat dn)), .val (.int (Int32.ofNat en)), .val (.long ((((Int32.ofNat dn).toInt64) * (10 : Int64)) + ((Int32.ofNat en).toInt64))), .second, .val (.long ((((Int32.ofNat dn).toInt64) * (10 : Int64)) + ((Int32.ofNat en).toInt64))), .second] [(.long ((((Int32.ofNat dn).toInt64) * (10 : Int64)) + ((Int32.ofNat en).toInt64))), (.long (-(own_ng (own_ng (0 : Int64) (own_d dn)) (own_d en))))])) _
        refine XS.lcmp X156.here hx rfl (hb hby at_177) rfl ?_
        exact kt
      have hd157 : (-(own_ng (own_ng (0 : Int64) (own_d dn)) (own_d en))) = ((((Int32.ofNat dn).toInt64) * (10 : Int64)) + ((Int32.ofNat en).toInt64)) := (own_v2 dn hdn en hen).2.2
      have c159 : ∀ t, Steps p.tables e below (T156.setTop (mkF m 186 #[.val (.int p0), .val (.int p1), .val (.int p2), .val (.int p3), .val (.int p4), .val (.int p5), .val (.ref b1), .val (.int (2 : Int32)), .val (.int (1 : Int32)), .val (.int (Int32.ofNat dn)), .val (.int (Int32.ofNat en)), .val (.long ((((Int32.ofNat dn).toInt64) * (10 : Int64)) + ((Int32.ofNat en).toInt64))), .second, .val (.long ((((Int32.ofNat dn).toInt64) * (10 : Int64)) + ((Int32.ofNat en).toInt64))), .second] [(.int (1 : Int32))])) t → Steps p.tables e below (T156.setTop (mkF m 178 #[.val (.int p0), .val (.int p1), .val (.int p2), .val (.int p3), .val (.int p4), .val (.int p5), .val (.ref b1), .val (.int (2 : Int32)), .val (.int (1 : Int32)), .val (.int (Int32.ofNat dn)), .val (.int (Int32.ofNat en)), .val (.long ((((Int32.ofNat dn).toInt64) * (10 : Int64)) + ((Int32.ofNat en).toInt64))), .second, .val (.long ((((Int32.ofNat dn).toInt64) * (10 : Int64)) + ((Int32.ofNat en).toInt64))), .second] [(.int (lcmpW (-(own_ng (own_ng (0 : Int64) (own_d dn)) (own_d en))) ((((Int32.ofNat dn).toInt64) * (10 : Int64)) + ((Int32.ofNat en).toInt64))))])) t := by
        intro t kt
        show Steps p.tables e below (T156.setTop (mkF m 178 #[.val (.int p0), .val (.int p1), .val (.int p2), .val (.int p3), .val (.int p4), .val (.int p5), .val (.ref b1), .val (.int (2 : Int32)), .val (.int (1 : Int32)), .val (.int (Int32.ofNat dn)), .val (.int (Int32.ofNat en)), .val (.long ((((Int32.ofNat dn).toInt64) * (10 : Int64)) + ((Int32.ofNat en).toInt64))), .second, .val (.long ((((Int32.ofNat dn).toInt64) * (10 : Int64)) + ((Int32.ofNat en).toInt64))), .second] [(.int (lcmpW (-(own_ng (own_ng (0 : Int64) (own_d dn)) (own_d en))) ((((Int32.ofNat dn).toInt64) * (10 : Int64)) + ((Int32.ofNat en).toInt64))))])) _
        refine XS.ifNo X156.here hx rfl (hb hby at_178) rfl ((if0 _ _).trans (teq ((lw_eq _ _).mpr (hd157))).2) ?_
        show Steps p.tables e below (T156.setTop (mkF m 181 #[.val (.int p0), .val (.int p1), .val (.int p2), .val (.int p3), .val (.int p4), .val (.int p5), .val (.ref b1), .val (.int (2 : Int32)), .val (.int (1 : Int32)), .val (.int (Int32.ofNat dn)), .val (.int (Int32.ofNat en)), .val (.long ((((Int32.ofNat dn).toInt64) * (10 : Int64)) + ((Int32.ofNat en).toInt64))), .second, .val (.long ((((Int32.ofNat dn).toInt64) * (10 : Int64)) + ((Int32.ofNat en).toInt64))), .second] [])) _
        refine XS.iconst X156.here hx rfl (hb hby at_181) ?_
        show Steps p.tables e below (T156.setTop (mkF m 182 #[.val (.int p0), .val (.int p1), .val (.int p2), .val (.int p3), .val (.int p4), .val (.int p5), .val (.ref b1), .val (.int (2 : Int32)), .val (.int (1 : Int32)), .val (.int (Int32.ofNat dn)), .val (.int (Int32.ofNat en)), .val (.long ((((Int32.ofNat dn).toInt64) * (10 : Int64)) + ((Int32.ofNat en).toInt64))), .second, .val (.long ((((Int32.ofNat dn).toInt64) * (10 : Int64)) + ((Int32.ofNat en).toInt64))), .second] [(.int (1 : Int32))])) _
        refine XS.goto X156.here hx rfl (pc0 := 182) (pc' := 186) rfl (hb hby at_182) (by decide) (by decide) ?_
        exact kt
      obtain ⟨fs, hr, hrun, hended, hW, hsame⟩ := X156.leave (v := some (.int (1 : Int32))) (fun h => by rw [Bd.returns] at h; cases h)
      refine ⟨_, _, pre0 _ (st1 _ (c2 _ (st4.trans (c5 _ (st8.trans (c9 _ (st12.trans (c13 _ (st16.trans (c17 _ (st20.trans (c21 _ (c112 _ (c113 _ (c135 _ (c136 _ (c137 _ (c138 _ (c139 _ (st142.trans (c143 _ (c144 _ (st147.trans (c148 _ (c149 _ (st152.trans (c153 _ (st156.trans (c158 _ (c159 _ (?_))))))))))))))))))))))))))))))), hrun, hended, _, _, rfl, ?_, ⟨_, rfl⟩, hW, hsame.mono (by decide) (by decide)⟩
      · show Steps p.tables e below (T156.setTop (mkF m 186 #[.val (.int p0), .val (.int p1), .val (.int p2), .val (.int p3), .val (.int p4), .val (.int p5), .val (.ref b1), .val (.int (2 : Int32)), .val (.int (1 : Int32)), .val (.int (Int32.ofNat dn)), .val (.int (Int32.ofNat en)), .val (.long ((((Int32.ofNat dn).toInt64) * (10 : Int64)) + ((Int32.ofNat en).toInt64))), .second, .val (.long ((((Int32.ofNat dn).toInt64) * (10 : Int64)) + ((Int32.ofNat en).toInt64))), .second] [(.int (1 : Int32))])) _
        exact retN X156 hx (t := .boolean) Bd.returns (by simp) (hb hby at_186) hr
      · show Q0 Z p0 p1 p2 p3 p4 p5 h0 n0 _ T156.heap _
        rw [e156]
        exact ⟨congrArg (fun z => some (Value.int z)) (show (1 : Int32) = (1 : Int32) from by rfl), N156⟩
set_option maxRecDepth 65536 in
set_option maxHeartbeats 40000000 in
theorem comes_1 {Post : Tables → Env → Array Value → State → Outcome → State → Prop} (hpost : ∀ tb e args s v u, (limb_1_1.after args s (.returned v) u = true ∧ limb_1_2.after args s (.returned v) u = true ∧ True) → FrameEnd s (.returned v) u (Jvm.fieldLocs frame_1_writes args s ++ Jvm.arrayLocs frame_1_arrays args s ++ Jvm.staticLocs frame_1_statics s) 16 128 → Post tb e args s (.returned v) u) :
    ArmFor flags0 classFile x code maxLocals ret World_1 tables_1 room_1 Calls_1 rest_1 Pre_1 Post := by
  intro l hfl _ _ p e ha hc hk s m args below hf hA hF happ hP
  obtain ⟨hcalls, hrest, hpre⟩ := hP
  obtain ⟨-, -, -, hnamed, -, -, -, hat⟩ := (Spec.applies_iff hf).mp happ
  obtain ⟨hg, hn⟩ := and_e (Cond.before_iff.mp (show (Jvm.Cond.and given_1 narrow_1).before args s = true from hpre))
  obtain ⟨g1, g2⟩ := and_e hg
  obtain ⟨g3, g4⟩ := and_e g2
  obtain ⟨g5, g6⟩ := and_e g4
  obtain ⟨g7, g8⟩ := and_e g6
  obtain ⟨g9, g10⟩ := and_e g8
  obtain ⟨g11, g12⟩ := and_e g10
  obtain ⟨w0, w1, w2, w3, w4, w5, rfl⟩ : ∃ w0 w1 w2 w3 w4 w5 : Value, args = #[w0, w1, w2, w3, w4, w5] := by
    have hs : args.size = 6 := by simpa [Cond.value, given_1] using g1
    obtain ⟨L⟩ := args
    match L, hs with
    | [w0, w1, w2, w3, w4, w5], _ => exact ⟨w0, w1, w2, w3, w4, w5, rfl⟩
  have hw := fun d (hd : d ∈ tables_1) => atoms_spec (ws := Jvm.Cond.code x code maxLocals ret :: tables_1) hat d (List.mem_cons_of_mem _ hd)
  have hfit : Fit s := fun {y c} hc i hi => by
    obtain ⟨ha, rfl⟩ := Array.getElem?_eq_some_iff.mp hc
    have q := List.all_eq_true.mp ((Array.all_eq_true_iff_forall_mem.mp hF) _ (Array.getElem_mem ha)) i (List.mem_range.mpr hi)
    simpa [Array.getElem?_eq_getElem hi] using q
  obtain ⟨i0, ei0⟩ := is_v g3
  obtain rfl : w0 = (.int i0) := Option.some.inj ei0
  obtain ⟨i1, ei1⟩ := is_v g5
  obtain rfl : w1 = (.int i1) := Option.some.inj ei1
  obtain ⟨i2, ei2⟩ := is_v g7
  obtain rfl : w2 = (.int i2) := Option.some.inj ei2
  obtain ⟨i3, ei3⟩ := is_v g9
  obtain rfl : w3 = (.int i3) := Option.some.inj ei3
  obtain ⟨i4, ei4⟩ := is_v g11
  obtain rfl : w4 = (.int i4) := Option.some.inj ei4
  obtain ⟨i5, ei5⟩ := is_v g12
  obtain rfl : w5 = (.int i5) := Option.some.inj ei5
  obtain ⟨n, o, h1, h2, h3, _, L, rfl, ⟨rfl, N⟩, hq⟩ := rm0 l s _ hw tables_1 i0 i1 i2 i3 i4 i5  s.heap s.heap.size (Nat.le_refl _)  p e ha hc hk s m _ below hf ((Spec.applies_iff_loose hf).mp happ).1 ⟨rfl, State.Warmed39.refl s, rfl⟩ trivial
  refine ⟨n, _, h1, h2, h3, hpost _ _ _ _ _ _ ⟨Cond.after_iff.mpr rfl, Cond.after_iff.mpr (eq_i res_at (Term.int_eval (1)) rfl), trivial⟩ ⟨hq.1, hq.2.1, (hq.2.2.sift fun y hy => Or.inr (N y hy)).mono (by decide) (by decide)⟩⟩
theorem main_1_1 : Claimed_1_1 := comes_1 fun _ _ _ _ _ _ h hF => ⟨h.1, hF⟩
theorem main_1_2 : Claimed_1_2 := comes_1 fun _ _ _ _ _ _ h hF => ⟨h.2.1, hF⟩
end Jvm.Pilot.@@N@@
namespace Jvm.Pilot.@@N@@
open Jvm Jvm.ClassFile Sem Op Lib Jvm.Free Jvm.Stand Jvm.Pilot.@@N@@.Jvm.D
/-! MADE BY PROGRAM (witnessworld.py) out of the Statement's table words and the real class files: 9 classes; the members and pool entries that the words name. The judged class is class 1, her method 1. -/
namespace start1
open Jvm.ClassFile
def u (s : String) : CpInfo := .utf8 (stringToUtf16 s)
/-- a pool by its gaps: so many unusable entries, then the entry; so many at the end -/
def gap : Nat → List CpInfo → List CpInfo
  | 0, r => r
  | n + 1, r => .unusable :: gap n r
def poolList (es : List (Nat × CpInfo)) (last : Nat) : List CpInfo := es.foldr (fun e r => gap e.1 (e.2 :: r)) (gap last [])
def pool (es : List (Nat × CpInfo)) (last : Nat) : Array CpInfo := ⟨poolList es last⟩
def fileOf (pool : Array CpInfo) (this : Nat) (attrs : Array Attribute := #[]) (ms : Array MethodInfo := #[]) (fl : Nat := 33) (sup : Nat := 0) (ifs : Array Nat := #[]) (fds : Array FieldInfo := #[]) : ClassFile where
  minorVersion := 0
  majorVersion := 65
  constantPool := pool
  accessFlags := fl
  thisClass := this
  superClass := sup
  interfaces := ifs
  fields := fds
  methods := ms
  attributes := attrs
def plain (name : String) (sup : Option ClassId) : Class where
  name := name
  kind := .ordinary
  loader := none
  accessFlags := 33
  super := sup
  interfaces := #[]
  cf := none
  fields := #[]
  methods := #[]
  instanceTypes := #[]
  staticTypes := #[]
  resolved := #[]
  callSites := []
  init := .initialized
  statics := none
  mirror := none

def pool0 : Array CpInfo := pool [(5, u "<init>"), (0, u "()V"), (1, .class_ 10), (1, u "java/lang/Object")] 113

def k0c0 : Code := { maxStack := 0, maxLocals := 1, code := object_method_1_code, exceptionTable := #[], attributes := #[] }
def k0m0 : Method := { name := "<init>", desc := "()V", sig := { parameters := [], returnType := none }, accessFlags := 1, code := some k0c0 }
/-- java/lang/Object -/
def k0 : Class := { plain "java/lang/Object" none with
  accessFlags := 33
  interfaces := #[]
  cf := some (fileOf pool0 8 #[] #[{ accessFlags := 1, nameIndex := 5, descriptorIndex := 6, attributes := #[] }] 33 0 #[] #[])
  fields := #[]
  methods := #[k0m0]
  instanceTypes := #[]
  staticTypes := #[]
  resolved := Array.replicate 124 none
  statics := none }

def pool1 : Array CpInfo := pool [(2, .class_ 4), (0, .nameAndType 5 6), (0, u "java/lang/Object"), (0, u "<init>"), (0, u "()V"), (0, .class_ 8), (0, u "com/example/sequence_set/sequenceset/cli/DecimalParser"), (0, .methodref 7 3), (0, .methodref 7 11), (0, .nameAndType 12 13), (0, u "accept"), (0, u "(I)V"), (0, .methodref 7 15), (0, .nameAndType 16 6), (0, u "reset"), (0, .integer 2147483647), (0, .long 10), (1, .methodref 7 21), (0, .nameAndType 22 23), (0, u "value"), (0, u "()J"), (0, .class_ 25), (0, u "com/example/sequence_set/sequenceset/cli/DecimalParserResetPinLaw"), (2, u "law"), (0, u "(IIIIII)Z")] 3

def k1m0 : Method := { name := "<init>", desc := "()V", sig := { parameters := [], returnType := none }, accessFlags := 1, code := none }
def k1c1 : Code := { maxStack := 4, maxLocals := 15, code := code, exceptionTable := #[], attributes := #[] }
def k1m1 : Method := { name := "law", desc := "(IIIIII)Z", sig := { parameters := [.int, .int, .int, .int, .int, .int], returnType := some .boolean }, accessFlags := 9, code := some k1c1 }
/-- com/example/sequence_set/sequenceset/cli/DecimalParserResetPinLaw -/
def k1 : Class := { plain "com/example/sequence_set/sequenceset/cli/DecimalParserResetPinLaw" (some 0) with
  accessFlags := 49
  interfaces := #[]
  cf := some (fileOf pool1 24 #[] #[{ accessFlags := 1, nameIndex := 5, descriptorIndex := 6, attributes := #[] }, { accessFlags := 9, nameIndex := 28, descriptorIndex := 29, attributes := #[] }] 49 2 #[] #[])
  fields := #[]
  methods := #[k1m0, k1m1]
  instanceTypes := #[]
  staticTypes := #[]
  resolved := Array.replicate 33 none
  statics := none }

def pool2 : Array CpInfo := pool [(1, .methodref 2 3), (0, .class_ 4), (0, .nameAndType 5 6), (0, u "java/lang/Object"), (0, u "<init>"), (0, u "()V"), (0, .fieldref 8 9), (0, .class_ 10), (0, .nameAndType 11 12), (0, u "com/example/sequence_set/sequenceset/cli/DecimalParser"), (0, u "wellFormed"), (0, u "Z"), (0, .fieldref 8 14), (0, .nameAndType 15 12), (0, u "inRange"), (13, u "accept"), (0, u "(I)V"), (2, u "value"), (0, u "()J"), (20, .fieldref 8 56), (0, .nameAndType 57 58), (0, u "negated"), (0, u "J"), (0, .fieldref 8 60), (0, .nameAndType 61 12), (0, u "negative"), (0, .fieldref 8 63), (0, .nameAndType 64 65), (0, u "characters"), (0, u "I"), (0, .fieldref 8 67), (0, .nameAndType 68 65), (0, u "digits"), (2, .long 9223372036854775808), (1, .long 10), (8, u "NOT_DECIMAL"), (0, u "Ljava/lang/String;"), (1, u "OUT_OF_RANGE"), (6, u "reset")] 17

def k2c0 : Code := { maxStack := 2, maxLocals := 1, code := prog_17_method_1_code, exceptionTable := #[], attributes := #[] }
def k2m0 : Method := { name := "<init>", desc := "()V", sig := { parameters := [], returnType := none }, accessFlags := 0, code := some k2c0 }
def k2c1 : Code := { maxStack := 3, maxLocals := 1, code := prog_17_method_4_code, exceptionTable := #[], attributes := #[] }
def k2m1 : Method := { name := "reset", desc := "()V", sig := { parameters := [], returnType := none }, accessFlags := 0, code := some k2c1 }
def k2c2 : Code := { maxStack := 6, maxLocals := 3, code := prog_17_method_5_code, exceptionTable := #[], attributes := #[] }
def k2m2 : Method := { name := "accept", desc := "(I)V", sig := { parameters := [.int], returnType := none }, accessFlags := 0, code := some k2c2 }
def k2c3 : Code := { maxStack := 4, maxLocals := 1, code := prog_17_method_6_code, exceptionTable := #[], attributes := #[] }
def k2m3 : Method := { name := "value", desc := "()J", sig := { parameters := [], returnType := some .long }, accessFlags := 0, code := some k2c3 }
/-- com/example/sequence_set/sequenceset/cli/DecimalParser -/
def k2 : Class := { plain "com/example/sequence_set/sequenceset/cli/DecimalParser" (some 0) with
  accessFlags := 48
  interfaces := #[]
  cf := some (fileOf pool2 8 #[] #[{ accessFlags := 0, nameIndex := 5, descriptorIndex := 6, attributes := #[] }, { accessFlags := 0, nameIndex := 92, descriptorIndex := 6, attributes := #[] }, { accessFlags := 0, nameIndex := 29, descriptorIndex := 30, attributes := #[] }, { accessFlags := 0, nameIndex := 33, descriptorIndex := 34, attributes := #[] }] 48 2 #[] #[{ accessFlags := 24, nameIndex := 82, descriptorIndex := 83, attributes := #[] }, { accessFlags := 24, nameIndex := 85, descriptorIndex := 83, attributes := #[] }, { accessFlags := 2, nameIndex := 57, descriptorIndex := 58, attributes := #[] }, { accessFlags := 2, nameIndex := 61, descriptorIndex := 12, attributes := #[] }, { accessFlags := 2, nameIndex := 64, descriptorIndex := 65, attributes := #[] }, { accessFlags := 2, nameIndex := 68, descriptorIndex := 65, attributes := #[] }, { accessFlags := 2, nameIndex := 11, descriptorIndex := 12, attributes := #[] }, { accessFlags := 2, nameIndex := 15, descriptorIndex := 12, attributes := #[] }])
  fields := #[{ name := "NOT_DECIMAL", type := (.object "java/lang/String"), accessFlags := 24, slot := 0, constantValue := 0 }, { name := "OUT_OF_RANGE", type := (.object "java/lang/String"), accessFlags := 24, slot := 1, constantValue := 0 }, { name := "negated", type := .long, accessFlags := 2, slot := 0, constantValue := 0 }, { name := "negative", type := .boolean, accessFlags := 2, slot := 1, constantValue := 0 }, { name := "characters", type := .int, accessFlags := 2, slot := 2, constantValue := 0 }, { name := "digits", type := .int, accessFlags := 2, slot := 3, constantValue := 0 }, { name := "wellFormed", type := .boolean, accessFlags := 2, slot := 4, constantValue := 0 }, { name := "inRange", type := .boolean, accessFlags := 2, slot := 5, constantValue := 0 }]
  methods := #[k2m0, k2m1, k2m2, k2m3]
  instanceTypes := #[.long, .boolean, .int, .int, .boolean, .boolean]
  staticTypes := #[(.object "java/lang/String"), (.object "java/lang/String")]
  resolved := Array.replicate 110 none
  statics := none }

def pool3 : Array CpInfo := pool [(1, u "java/lang/Cloneable"), (0, .class_ 1), (0, u "java/lang/Object"), (0, .class_ 3)] 3

/-- java/lang/Cloneable -/
def k3 : Class := { plain "java/lang/Cloneable" (some 0) with
  accessFlags := 1537
  interfaces := #[]
  cf := some (fileOf pool3 2 #[] #[] 1537 4 #[] #[])
  fields := #[]
  methods := #[]
  instanceTypes := #[]
  staticTypes := #[]
  resolved := Array.replicate 8 none
  statics := none }

def pool4 : Array CpInfo := pool [(1, u "java/io/Serializable"), (0, .class_ 1), (0, u "java/lang/Object"), (0, .class_ 3)] 3

/-- java/io/Serializable -/
def k4 : Class := { plain "java/io/Serializable" (some 0) with
  accessFlags := 1537
  interfaces := #[]
  cf := some (fileOf pool4 2 #[] #[] 1537 4 #[] #[])
  fields := #[]
  methods := #[]
  instanceTypes := #[]
  staticTypes := #[]
  resolved := Array.replicate 8 none
  statics := none }

/-- the primitive byte -/
def k5 : Class := { plain "byte" none with kind := .primitive 'B', accessFlags := 0x411 }
/-- [B -/
def k6 : Class := { plain "[B" (some 0) with kind := .array 5 .byte, interfaces := #[3, 4], accessFlags := 1041 }

/-- the primitive int -/
def k7 : Class := { plain "int" none with kind := .primitive 'I', accessFlags := 0x411 }
/-- [I -/
def k8 : Class := { plain "[I" (some 0) with kind := .array 7 .int, interfaces := #[3, 4], accessFlags := 1041 }

def heap : Heap := #[]
def classes : Array Class := #[k0, k1, k2, k3, k4, k5, k6, k7, k8]
def interned : List (Array UInt16 × Addr) := []
def slotsUsed : Nat := 0
def theMethod : MethodId := ⟨1, 1⟩
def args0 : Array Value := #[.int 5, .int 5, .int 5, .int 5, .int 5, .int 5]
def aboutOver (below : List Frame) : State where
  vm := { classes := classes, interned := interned.toArray }
  heap := heap
  slotsUsed := slotsUsed
  threads := #[{ frames := .invoking theMethod args0 :: below }]
def below0 : List Frame := [.native { method := ⟨0, 0⟩, args := #[] }]
def about1 : State := aboutOver below0
def p0 : Program := .bare "" "" ""
def e0 : Env := launch0.env 0 0 0
theorem w_frames : about1.frames = Frame.invoking theMethod args0 :: below0 := rfl
set_option maxRecDepth 65536 in
theorem w_args : argsFit about1.vm theMethod args0 = true := by decide +kernel
set_option maxRecDepth 65536 in
theorem w_heap : heapFits about1 = true := by decide +kernel
set_option maxRecDepth 65536 in
theorem w_runnable : about1.curStatus? = some .runnable := by decide +kernel
set_option maxRecDepth 65536 in
theorem w_alone : about1.alone = true := by decide +kernel
set_option maxRecDepth 65536 in
theorem w_named : about1.methodNamed? x = some theMethod := by decide +kernel
set_option maxRecDepth 65536 in
theorem w_hears : about1.hears theMethod below0 = true := by decide +kernel
set_option maxRecDepth 65536 in
theorem w_ripe : about1.ripe theMethod args0 below0 = true := by decide +kernel
theorem w_running : about1.status = .running := rfl
set_option maxRecDepth 65536 in
theorem w_room : about1.hasRoom e0.platform room_1 = true :=
  launch0.hasRoom_least _ room_1 (by decide +kernel) (by decide +kernel) (by decide +kernel) (by decide +kernel) (by decide +kernel) (by decide +kernel)
theorem allAtoms_all (ts : List Jvm.Cond) (a : Array Jvm.Value) (st : Jvm.State) : (allAtoms ts).before a st = ts.all (fun c => c.before a st) := by
  induction ts with
  | nil => rfl
  | cons c t ih =>
    show (Jvm.Cond.and c (allAtoms t)).before a st = _
    rw [Jvm.Cond.before_and, ih, List.all_cons]
def words1 : List Jvm.Cond := Jvm.Cond.code x code maxLocals ret :: tables_1
/-- a 'code' word, met by the world's own term for the bytes: nothing is compared byte by byte -/
theorem code_word {y : MethodName} {bytes : ByteArray} {mx : Nat} {rt : Option FieldType} {a : Array Value} {s : State} {m : MethodId} {meth : Method} {c : Code} (h1 : s.methodNamed? y = some m) (h2 : s.vm.method? m = some meth) (h3 : meth.code = some c) (h4 : c.code = bytes)
    (h5 : (c.maxLocals == mx && c.exceptionTable.isEmpty && decide (c.maxStack ≤ mostOperands) && decide (meth.sig.returnType = rt) && !meth.locks && decide (parseMethodDescriptor y.desc = some meth.sig)) = true) : (Jvm.Cond.code y bytes mx rt).before a s = true := by
  simp only [Bool.and_eq_true, beq_iff_eq, Bool.not_eq_true', decide_eq_true_eq] at h5
  obtain ⟨⟨⟨⟨⟨g1, g2⟩, g3⟩, g4⟩, g5⟩, g6⟩ := h5
  simp [Cond.before, Cond.holds, Cond.value, h1, h2, h3, h4, g1, g2, g3, g4, g5, g6]
def isCode : Jvm.Cond → Bool
  | .code _ _ _ _ => true
  | _ => false
theorem all_split {L : List Jvm.Cond} {P : Jvm.Cond → Bool} (h1 : L.all (fun c => isCode c || P c) = true) (h2 : ∀ c ∈ L.filter isCode, P c = true) : L.all P = true := by
  refine List.all_eq_true.mpr fun c hc => ?_
  have h := List.all_eq_true.mp h1 c hc
  rcases Bool.eq_false_or_eq_true (isCode c) with hi | hi
  · exact h2 c (List.mem_filter.mpr ⟨hc, hi⟩)
  · simpa [hi] using h
set_option maxRecDepth 65536 in
theorem w_c0 : (Jvm.Cond.code x code maxLocals ret).before args0 about1 = true := code_word (m := ⟨1, 1⟩) (meth := k1m1) (c := k1c1) (by decide +kernel) rfl rfl rfl (by decide +kernel)
set_option maxRecDepth 65536 in
theorem w_c1 : (Jvm.Cond.code ({ cls := "com/example/sequence_set/sequenceset/cli/DecimalParser", name := "<init>", desc := "()V" } : Jvm.MethodName) prog_17_method_1_code (1 : Nat) (Option.none : Option Jvm.ClassFile.FieldType)).before args0 about1 = true := code_word (m := ⟨2, 0⟩) (meth := k2m0) (c := k2c0) (by decide +kernel) rfl rfl rfl (by decide +kernel)
set_option maxRecDepth 65536 in
theorem w_c2 : (Jvm.Cond.code ({ cls := "java/lang/Object", name := "<init>", desc := "()V" } : Jvm.MethodName) object_method_1_code (1 : Nat) (Option.none : Option Jvm.ClassFile.FieldType)).before args0 about1 = true := code_word (m := ⟨0, 0⟩) (meth := k0m0) (c := k0c0) (by decide +kernel) rfl rfl rfl (by decide +kernel)
set_option maxRecDepth 65536 in
theorem w_c3 : (Jvm.Cond.code ({ cls := "com/example/sequence_set/sequenceset/cli/DecimalParser", name := "accept", desc := "(I)V" } : Jvm.MethodName) prog_17_method_5_code (3 : Nat) (Option.none : Option Jvm.ClassFile.FieldType)).before args0 about1 = true := code_word (m := ⟨2, 2⟩) (meth := k2m2) (c := k2c2) (by decide +kernel) rfl rfl rfl (by decide +kernel)
set_option maxRecDepth 65536 in
theorem w_c4 : (Jvm.Cond.code ({ cls := "com/example/sequence_set/sequenceset/cli/DecimalParser", name := "reset", desc := "()V" } : Jvm.MethodName) prog_17_method_4_code (1 : Nat) (Option.none : Option Jvm.ClassFile.FieldType)).before args0 about1 = true := code_word (m := ⟨2, 1⟩) (meth := k2m1) (c := k2c1) (by decide +kernel) rfl rfl rfl (by decide +kernel)
set_option maxRecDepth 65536 in
theorem w_c5 : (Jvm.Cond.code ({ cls := "com/example/sequence_set/sequenceset/cli/DecimalParser", name := "value", desc := "()J" } : Jvm.MethodName) prog_17_method_6_code (1 : Nat) (Option.some Jvm.ClassFile.FieldType.long)).before args0 about1 = true := code_word (m := ⟨2, 3⟩) (meth := k2m3) (c := k2c3) (by decide +kernel) rfl rfl rfl (by decide +kernel)
def codes1 : List Jvm.Cond := [Jvm.Cond.code x code maxLocals ret, Jvm.Cond.code ({ cls := "com/example/sequence_set/sequenceset/cli/DecimalParser", name := "<init>", desc := "()V" } : Jvm.MethodName) prog_17_method_1_code (1 : Nat) (Option.none : Option Jvm.ClassFile.FieldType), Jvm.Cond.code ({ cls := "java/lang/Object", name := "<init>", desc := "()V" } : Jvm.MethodName) object_method_1_code (1 : Nat) (Option.none : Option Jvm.ClassFile.FieldType), Jvm.Cond.code ({ cls := "com/example/sequence_set/sequenceset/cli/DecimalParser", name := "accept", desc := "(I)V" } : Jvm.MethodName) prog_17_method_5_code (3 : Nat) (Option.none : Option Jvm.ClassFile.FieldType), Jvm.Cond.code ({ cls := "com/example/sequence_set/sequenceset/cli/DecimalParser", name := "reset", desc := "()V" } : Jvm.MethodName) prog_17_method_4_code (1 : Nat) (Option.none : Option Jvm.ClassFile.FieldType), Jvm.Cond.code ({ cls := "com/example/sequence_set/sequenceset/cli/DecimalParser", name := "value", desc := "()J" } : Jvm.MethodName) prog_17_method_6_code (1 : Nat) (Option.some Jvm.ClassFile.FieldType.long)]
set_option maxRecDepth 65536 in
theorem codes_eq : words1.filter isCode = codes1 := rfl
theorem w_codes : ∀ c ∈ words1.filter isCode, c.before args0 about1 = true := by
  rw [codes_eq]
  intro c hc
  simp only [codes1, List.mem_cons, List.not_mem_nil, or_false] at hc
  rcases hc with rfl | rfl | rfl | rfl | rfl | rfl
  · exact w_c0
  · exact w_c1
  · exact w_c2
  · exact w_c3
  · exact w_c4
  · exact w_c5
set_option maxRecDepth 65536 in
theorem w_t1 : (words1.take 24).all (fun c => isCode c || c.before args0 about1) = true := by decide +kernel
set_option maxRecDepth 65536 in
theorem w_t2 : (words1.drop 24).all (fun c => isCode c || c.before args0 about1) = true := by decide +kernel
theorem w_tables : (allAtoms (Jvm.Cond.code x code maxLocals ret :: tables_1)).before args0 about1 = true := by
  rw [allAtoms_all]
  show words1.all (fun c => c.before args0 about1) = true
  refine all_split ?_ w_codes
  rw [← List.take_append_drop 24 words1, List.all_append, w_t1, w_t2]
  rfl
set_option maxRecDepth 65536 in
theorem w_case : (Jvm.Cond.and given_1 narrow_1).before args0 about1 = true := by decide +kernel
theorem w_applies : (headSpec (Jvm.Cond.code x code maxLocals ret :: tables_1) room_1).applies x e0.platform about1 = true :=
  (Spec.applies_iff w_frames).mpr ⟨w_running, w_runnable, w_alone, w_named, w_hears, w_ripe, w_room, w_tables⟩
theorem atStart : AtStart classFile x code maxLocals ret World_1 tables_1 room_1 Calls_1 rest_1 Pre_1 launch0 p0 e0 about1 theMethod args0 below0 :=
  ⟨lists_1, trivial, launch0.admits_env _ _ _, launch0.least_env, fairChoices_fair.cas, fairChoices_fair.clock, w_frames, w_args, w_heap, w_applies, trivial, trivial, w_case⟩
end start1
theorem witness_1 : WitnessClaimed_1 := ⟨start1.p0, start1.e0, start1.about1, start1.theMethod, start1.args0, start1.below0, start1.atStart⟩
end Jvm.Pilot.@@N@@
