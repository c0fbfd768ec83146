import JvmDerived
import JvmDerived.Pilot.@@N@@Statement
import JvmDerived.Pilot.@@N@@Code
set_option linter.unusedVariables false
set_option linter.unusedSimpArgs false

namespace Jvm.RoadKit
open Sem ClassFile Op Lib Jvm.Stand Jvm.Free Jvm.LawKit
section New
variable {p : Program} {l : Launch} {e : Env} {R : Room} {s : State} {m : MethodId} {args : Array Value} {below : List Frame} {meth : Method} {c : Code} {T : State} {locs : List Loc} {cells slots : Nat}
theorem retI (X : Stand p l e R s m args below meth c T locs cells slots) (hx : p.tables.exec = Jvm.exec) {pc : Nat} {Ls : Array Slot} {z : Int32} {rest : List Value} (hret : meth.sig.returnType = some .int) (hd : decode c.code pc = .ok (.ireturn, 1)) {fs : List Frame}
    (hl : ∀ (f : JFrame) (acts : List Action), f.method = m → f.locked = none → f.entered = [] → (doReturn e (T.setTop f) acts (some (.int z))).1 = T.setFrames fs) : Steps p.tables e below (T.setTop (mkF m pc Ls (.int z :: rest))) (T.setFrames fs) := by
  have hm' : T.vm.method? m = some meth := X.method'
  have hn : narrow .int (.int z) = .int z := rfl
  show Steps p.tables e below (T.setTop { method := m, pc := pc, locals := Ls, stack := _ :: rest, locked := none }) _
  jvm_step X.here [X.here.top, hx, hd, hm', hret, hn]
  first | (intro acts; rw [hl _ acts rfl rfl rfl]) | rw [hl _ _ rfl rfl rfl]
  exact Steps.refl _
theorem own_lrem {g : JFrame} {target : State} (X : Stand p l e R s m args below meth c T locs cells slots) (hx : p.tables.exec = Jvm.exec) (hg : g.method = m) {x y : Int64} {rest : List Value} (hd : decode c.code g.pc = .ok (.lrem, 1)) (hs : g.stack = .long y :: .long x :: rest) (hy : y ≠ 0)
    (hr : Steps p.tables e below (T.setTop { g with pc := g.pc + 1, stack := .long (x % y) :: rest }) target) : Steps p.tables e below (T.setTop g) target := by
  have q : x - x / y * y = x % y := lrem_mod x y
  exact XS.lrem X.here hx hg hd hs hy (by rw [q]; exact hr)
end New
end Jvm.RoadKit

namespace Jvm.Pilot.@@N@@
open Jvm Jvm.ClassFile Sem Op Lib Jvm.Free Jvm.Stand Jvm.LawKit Jvm.RoadKit Bundle Jvm.Pilot.@@N@@.Jvm.D
def own_pk (a b c : Addr) (x : Int32) : Addr := if ((x &&& (2147483647 : Int32)) % (3 : Int32)) = (0 : Int32) then a else if ((x &&& (2147483647 : Int32)) % (3 : Int32)) = (1 : Int32) then b else c
theorem own_pk3 (a b c : Addr) (x : Int32) : own_pk a b c x = a ∨ own_pk a b c x = b ∨ own_pk a b c x = c := by
  unfold own_pk; split
  · exact Or.inl rfl
  · split
    · exact Or.inr (Or.inl rfl)
    · exact Or.inr (Or.inr rfl)
def own_min (a b : Int32) : Int32 := if b < a then b else a
theorem own_int {s : State} {args : Array Value} {t : Term} {w : Int32} (h : (Cond.eq t (.int w)).value args s none s [] = some true) : t.eval args s none [] s = some (.int w) := by
  simp only [Cond.value, Term.int_eval] at h
  revert h
  cases hq : t.eval args s none [] s with
  | none => simp
  | some v => cases v <;> simp
theorem own_el {s : State} {args : Array Value} {t : Term} {a : Addr} {cl : Cell} {j w : Int32} (ev : t.eval args s none [] s = some (.ref a)) (hA : s.arrayAt? a = some cl) (hj : ¬ j < 0) (h : (Cond.eq (.elem t (.int j)) (.int w)).value args s none s [] = some true) : cl.slots[j.toNatClampNeg]? = some (.int w) := by
  rw [← elem_f (idx := []) (first := s) (o := none) ev (Term.int_eval j) hA hj]; exact own_int h
theorem own_ln {s : State} {args : Array Value} {t : Term} {a : Addr} {cl : Cell} {w : Int32} (ev : t.eval args s none [] s = some (.ref a)) (hA : s.arrayAt? a = some cl) (h : (Cond.eq (.length t) (.int w)).value args s none s [] = some true) : cl.slots.size < 2 ^ 31 ∧ cl.slots.size.toInt32 = w := by
  have h1 := own_int h
  obtain ⟨a', cl', ha', hA', hs, hv⟩ := Jvm.Lib.length_spec h1
  cases ev.symm.trans ha'
  cases hA.symm.trans hA'
  exact ⟨hs, (Value.int.inj hv).symm⟩
theorem pd_0 : parseMethodDescriptor "(I)Lcom/example/mapstone/mapstone/engine/Decision;" = some ⟨[.int], some (.object "com/example/mapstone/mapstone/engine/Decision")⟩ := by decide +kernel
theorem pd_1 : parseMethodDescriptor "(Lcom/example/mapstone/mapstone/engine/Decision;)Lcom/example/mapstone/mapstone/engine/Decision;" = some ⟨[(.object "com/example/mapstone/mapstone/engine/Decision")], some (.object "com/example/mapstone/mapstone/engine/Decision")⟩ := by decide +kernel
theorem pd_2 : parseMethodDescriptor "(Lcom/example/mapstone/mapstone/engine/Decision;)I" = some ⟨[(.object "com/example/mapstone/mapstone/engine/Decision")], some .int⟩ := by decide +kernel
theorem pd_3 : parseMethodDescriptor "(II)I" = some ⟨[.int, .int], some .int⟩ := by decide +kernel
theorem d1_0 : decode method_2_code 0 = .ok (.iload_n 0, 1) := by decide +kernel
theorem d1_1 : decode method_2_code 1 = .ok (.ldc 7, 2) := by decide +kernel
theorem d1_3 : decode method_2_code 3 = .ok (.iand, 1) := by decide +kernel
theorem d1_4 : decode method_2_code 4 = .ok (.iconst 3, 1) := by decide +kernel
theorem d1_5 : decode method_2_code 5 = .ok (.irem, 1) := by decide +kernel
theorem d1_6 : decode method_2_code 6 = .ok (.istore_n 1, 1) := by decide +kernel
theorem d1_7 : decode method_2_code 7 = .ok (.iload_n 1, 1) := by decide +kernel
theorem d1_8 : decode method_2_code 8 = .ok (.ifCond .ne 7, 3) := by decide +kernel
theorem d1_11 : decode method_2_code 11 = .ok (.getstatic 8, 3) := by decide +kernel
theorem d1_14 : decode method_2_code 14 = .ok (.areturn, 1) := by decide +kernel
theorem d1_15 : decode method_2_code 15 = .ok (.iload_n 1, 1) := by decide +kernel
theorem d1_16 : decode method_2_code 16 = .ok (.iconst 1, 1) := by decide +kernel
theorem d1_17 : decode method_2_code 17 = .ok (.if_icmp .ne 7, 3) := by decide +kernel
theorem d1_20 : decode method_2_code 20 = .ok (.getstatic 14, 3) := by decide +kernel
theorem d1_23 : decode method_2_code 23 = .ok (.areturn, 1) := by decide +kernel
theorem d1_24 : decode method_2_code 24 = .ok (.getstatic 17, 3) := by decide +kernel
theorem d1_27 : decode method_2_code 27 = .ok (.areturn, 1) := by decide +kernel
theorem pn_1 : plainName "com/example/mapstone/mapstone/engine/DecisionAndPinLaw" = true := by first | (simp [plainName, overriddenIn]; done) | decide +kernel
theorem ef_1 (m : MethodId) (x0 : Int32) : entryFrame m #[(.int x0)] 2 = mkF m 0 #[.val (.int x0), .unset] [] := by first | (simp [entryFrame, mkF, argsToLocals, Value.category]; done) | rfl
def Q1 (Z : State) (p0 : Int32) (dH dN dU : Addr) (h0 : Heap) (n0 : Nat) (v : Option Value) (h : Heap) (L : List Loc) : Prop := v = some (.ref (own_pk dH dN dU p0)) ∧ Fr n0 L ∧ h = h0
set_option maxRecDepth 65536 in
set_option maxHeartbeats 40000000 in
theorem rm1 (l : Launch) (Z : State) (a0 : Array Value) (hw : ∀ d ∈ tables_1, d.before a0 Z = true) (ws : List Jvm.Cond) (p0 : Int32) (dH dN dU : Addr) (h0 : Heap) (n0 : Nat) (Z0 : n0 ≤ h0.size) (SH : Sta Z h0 "com/example/mapstone/mapstone/engine/Decision" "HOLDS" "Lcom/example/mapstone/mapstone/engine/Decision;" (.ref dH)) (SN : Sta Z h0 "com/example/mapstone/mapstone/engine/Decision" "DOES_NOT_HOLD" "Lcom/example/mapstone/mapstone/engine/Decision;" (.ref dN)) (SU : Sta Z h0 "com/example/mapstone/mapstone/engine/Decision" "UNDECIDED" "Lcom/example/mapstone/mapstone/engine/Decision;" (.ref dU)) :
    MetFree l (⟨"com/example/mapstone/mapstone/engine/DecisionAndPinLaw", "pick", "(I)Lcom/example/mapstone/mapstone/engine/Decision;"⟩ : MethodName) (head1 (Jvm.Cond.code (⟨"com/example/mapstone/mapstone/engine/DecisionAndPinLaw", "pick", "(I)Lcom/example/mapstone/mapstone/engine/Decision;"⟩ : MethodName) method_2_code 2 (some (.object "com/example/mapstone/mapstone/engine/Decision")) :: ws) ({ frames := 0, cells := 0, slots := 0, locals := 0 } : Room)) (fun a U => a = #[(.int p0)] ∧ Z.Warmed39 U.vm ∧ U.heap = h0) (fun _ _ _ _ _ => True) (fun _ U o U' => ∃ v L, o = .returned v ∧ Q1 Z p0 dH dN dU h0 n0 v U'.heap L ∧ FrameEnd U o U' L ({ frames := 0, cells := 0, slots := 0, locals := 0 } : Room).cells ({ frames := 0, cells := 0, slots := 0, locals := 0 } : Room).slots) := by
  refine MetFree.of_bodySF (plainFor_of_name pn_1) hisR ?_
  intro p e s m args below meth c s₁ Bd hml0 hP hK
  obtain ⟨rfl, hZ, hh⟩ := hP
  have hx := Bd.exec
  have hby := Bd.bytes
  have hml : c.maxLocals = 2 := hml0
  have hown : s.vm.findClass "com/example/mapstone/mapstone/engine/DecisionAndPinLaw" = some m.cls := findClass_of_methodNamed Bd.named
  have hnm := (name_of_methodNamed Bd.named Bd.method).1
  have X0 : Stand p l e ({ frames := 0, cells := 0, slots := 0, locals := 0 } : Room) s m #[(.int p0)] below meth c s₁ [] 0 0 := Stand.of_body Bd
  have e0 : s₁.heap = h0 := by rw [← hh, Bd.state]; rfl
  have N0 := Fr.nil n0
  have pre0 : ∀ t, Steps p.tables e below (s₁.setTop (mkF m 0 #[.val (.int p0), .unset] [])) t → Steps p.tables e below (s₁.setTop (entryFrame m #[(.int p0)] 2)) t := fun t k => castTop (ef_1 m p0) k
  have c1 : ∀ t, Steps p.tables e below (s₁.setTop (mkF m 8 #[.val (.int p0), .val (.int ((p0 &&& (2147483647 : Int32)) % (3 : Int32)))] [(.int ((p0 &&& (2147483647 : Int32)) % (3 : Int32)))])) t → Steps p.tables e below (s₁.setTop (mkF m 0 #[.val (.int p0), .unset] [])) t := by
    intro t kt
    show Steps p.tables e below (s₁.setTop (mkF m 0 #[.val (.int p0), .unset] [])) _
    refine XS.iloadN X0.here hx rfl (hb hby d1_0) rfl ?_
    show Steps p.tables e below (s₁.setTop (mkF m 1 #[.val (.int p0), .unset] [(.int p0)])) _
    refine X0.ldcInt hx hown (mvT hZ (hw _ (List.mem_of_getElem? (i := 4) rfl))) (g := (mkF m 1 #[.val (.int p0), .unset] [(.int p0)])) rfl (hb hby d1_1) _ ?_
    show Steps p.tables e below (s₁.setTop (mkF m 3 #[.val (.int p0), .unset] [(.int (2147483647 : Int32)), (.int p0)])) _
    refine XS.iand X0.here hx rfl (hb hby d1_3) rfl ?_
    show Steps p.tables e below (s₁.setTop (mkF m 4 #[.val (.int p0), .unset] [(.int (p0 &&& (2147483647 : Int32)))])) _
    refine XS.iconst X0.here hx rfl (hb hby d1_4) ?_
    show Steps p.tables e below (s₁.setTop (mkF m 5 #[.val (.int p0), .unset] [(.int (3 : Int32)), (.int (p0 &&& (2147483647 : Int32)))])) _
    refine iremM X0 hx rfl (hb hby d1_5) rfl (by decide) ?_
    show Steps p.tables e below (s₁.setTop (mkF m 6 #[.val (.int p0), .unset] [(.int ((p0 &&& (2147483647 : Int32)) % (3 : Int32)))])) _
    refine XS.istoreN X0.here hx rfl (hb hby d1_6) rfl (l' := #[.val (.int p0), .val (.int ((p0 &&& (2147483647 : Int32)) % (3 : Int32)))]) rfl ?_
    show Steps p.tables e below (s₁.setTop (mkF m 7 #[.val (.int p0), .val (.int ((p0 &&& (2147483647 : Int32)) % (3 : Int32)))] [])) _
    refine XS.iloadN X0.here hx rfl (hb hby d1_7) rfl ?_
    exact kt
  by_cases hc8 : ((p0 &&& (2147483647 : Int32)) % (3 : Int32)) = (0 : Int32)
  · -- it is
    have c3 : ∀ t, Steps p.tables e below (s₁.setTop (mkF m 11 #[.val (.int p0), .val (.int ((p0 &&& (2147483647 : Int32)) % (3 : Int32)))] [])) t → Steps p.tables e below (s₁.setTop (mkF m 8 #[.val (.int p0), .val (.int ((p0 &&& (2147483647 : Int32)) % (3 : Int32)))] [(.int ((p0 &&& (2147483647 : Int32)) % (3 : Int32)))])) t := by
      intro t kt
      show Steps p.tables e below (s₁.setTop (mkF m 8 #[.val (.int p0), .val (.int ((p0 &&& (2147483647 : Int32)) % (3 : Int32)))] [(.int ((p0 &&& (2147483647 : Int32)) % (3 : Int32)))])) _
      refine XS.ifNo X0.here hx rfl (hb hby d1_8) rfl ((if0 _ _).trans (teq hc8).2) ?_
      exact kt
    obtain ⟨T2, X2, e2, st2⟩ := getS2 X0 hx hZ hown (host := "") (Or.inl (hw _ (List.mem_of_getElem? (i := 5) rfl))) Via.refl e0 SH (g := (mkF m 11 #[.val (.int p0), .val (.int ((p0 &&& (2147483647 : Int32)) % (3 : Int32)))] [])) rfl (hb hby d1_11)
    obtain ⟨fs, hr, hrun, hended, hW, hsame⟩ := X2.leave (v := some (.ref dH)) (fun h => by rw [Bd.returns] at h; cases h)
    refine ⟨_, _, pre0 _ (c1 _ (c3 _ (st2 _ (?_)))), hrun, hended, _, _, rfl, ?_, ⟨_, rfl⟩, hW, hsame.mono (by decide) (by decide)⟩
    · show Steps p.tables e below (T2.setTop (mkF m 14 #[.val (.int p0), .val (.int ((p0 &&& (2147483647 : Int32)) % (3 : Int32)))] [(.ref dH)])) _
      jvm_step X2.here [X2.here.top, hx, (hb hby d1_14), X2.method', Bd.returns, Value.isRef, FieldType.isReference]
      first | (intro acts; rw [hr _ acts rfl rfl rfl]) | rw [hr _ _ rfl rfl rfl]
      exact Steps.refl _
    · show Q1 Z p0 dH dN dU h0 n0 _ T2.heap _
      rw [e2]
      exact ⟨congrArg (fun z => some (Value.ref z)) (show dH = (own_pk dH dN dU p0) from by unfold own_pk; rw [if_pos hc8]), N0, rfl⟩
  · -- it isn't
    have c5 : ∀ t, Steps p.tables e below (s₁.setTop (mkF m 17 #[.val (.int p0), .val (.int ((p0 &&& (2147483647 : Int32)) % (3 : Int32)))] [(.int (1 : Int32)), (.int ((p0 &&& (2147483647 : Int32)) % (3 : Int32)))])) t → Steps p.tables e below (s₁.setTop (mkF m 8 #[.val (.int p0), .val (.int ((p0 &&& (2147483647 : Int32)) % (3 : Int32)))] [(.int ((p0 &&& (2147483647 : Int32)) % (3 : Int32)))])) t := by
      intro t kt
      show Steps p.tables e below (s₁.setTop (mkF m 8 #[.val (.int p0), .val (.int ((p0 &&& (2147483647 : Int32)) % (3 : Int32)))] [(.int ((p0 &&& (2147483647 : Int32)) % (3 : Int32)))])) _
      refine XS.ifYes X0.here hx rfl (pc0 := 8) (pc' := 15) rfl (hb hby d1_8) rfl ((if0 _ _).trans (feq hc8).2) (by decide) (by decide) ?_
      show Steps p.tables e below (s₁.setTop (mkF m 15 #[.val (.int p0), .val (.int ((p0 &&& (2147483647 : Int32)) % (3 : Int32)))] [])) _
      refine XS.iloadN X0.here hx rfl (hb hby d1_15) rfl ?_
      show Steps p.tables e below (s₁.setTop (mkF m 16 #[.val (.int p0), .val (.int ((p0 &&& (2147483647 : Int32)) % (3 : Int32)))] [(.int ((p0 &&& (2147483647 : Int32)) % (3 : Int32)))])) _
      refine XS.iconst X0.here hx rfl (hb hby d1_16) ?_
      exact kt
    by_cases hc17 : ((p0 &&& (2147483647 : Int32)) % (3 : Int32)) = (1 : Int32)
    · -- it is
      have c7 : ∀ t, Steps p.tables e below (s₁.setTop (mkF m 20 #[.val (.int p0), .val (.int ((p0 &&& (2147483647 : Int32)) % (3 : Int32)))] [])) t → Steps p.tables e below (s₁.setTop (mkF m 17 #[.val (.int p0), .val (.int ((p0 &&& (2147483647 : Int32)) % (3 : Int32)))] [(.int (1 : Int32)), (.int ((p0 &&& (2147483647 : Int32)) % (3 : Int32)))])) t := by
        intro t kt
        show Steps p.tables e below (s₁.setTop (mkF m 17 #[.val (.int p0), .val (.int ((p0 &&& (2147483647 : Int32)) % (3 : Int32)))] [(.int (1 : Int32)), (.int ((p0 &&& (2147483647 : Int32)) % (3 : Int32)))])) _
        refine XS.icmpNo X0.here hx rfl (hb hby d1_17) rfl (teq hc17).2 ?_
        exact kt
      obtain ⟨T6, X6, e6, st6⟩ := getS2 X0 hx hZ hown (host := "") (Or.inl (hw _ (List.mem_of_getElem? (i := 25) rfl))) Via.refl e0 SN (g := (mkF m 20 #[.val (.int p0), .val (.int ((p0 &&& (2147483647 : Int32)) % (3 : Int32)))] [])) rfl (hb hby d1_20)
      obtain ⟨fs, hr, hrun, hended, hW, hsame⟩ := X6.leave (v := some (.ref dN)) (fun h => by rw [Bd.returns] at h; cases h)
      refine ⟨_, _, pre0 _ (c1 _ (c5 _ (c7 _ (st6 _ (?_))))), hrun, hended, _, _, rfl, ?_, ⟨_, rfl⟩, hW, hsame.mono (by decide) (by decide)⟩
      · show Steps p.tables e below (T6.setTop (mkF m 23 #[.val (.int p0), .val (.int ((p0 &&& (2147483647 : Int32)) % (3 : Int32)))] [(.ref dN)])) _
        jvm_step X6.here [X6.here.top, hx, (hb hby d1_23), X6.method', Bd.returns, Value.isRef, FieldType.isReference]
        first | (intro acts; rw [hr _ acts rfl rfl rfl]) | rw [hr _ _ rfl rfl rfl]
        exact Steps.refl _
      · show Q1 Z p0 dH dN dU h0 n0 _ T6.heap _
        rw [e6]
        exact ⟨congrArg (fun z => some (Value.ref z)) (show dN = (own_pk dH dN dU p0) from by unfold own_pk; rw [if_neg hc8, if_pos hc17]), N0, rfl⟩
    · -- it isn't
      have c10 : ∀ t, Steps p.tables e below (s₁.setTop (mkF m 24 #[.val (.int p0), .val (.int ((p0 &&& (2147483647 : Int32)) % (3 : Int32)))] [])) t → Steps p.tables e below (s₁.setTop (mkF m 17 #[.val (.int p0), .val (.int ((p0 &&& (2147483647 : Int32)) % (3 : Int32)))] [(.int (1 : Int32)), (.int ((p0 &&& (2147483647 : Int32)) % (3 : Int32)))])) t := by
        intro t kt
        show Steps p.tables e below (s₁.setTop (mkF m 17 #[.val (.int p0), .val (.int ((p0 &&& (2147483647 : Int32)) % (3 : Int32)))] [(.int (1 : Int32)), (.int ((p0 &&& (2147483647 : Int32)) % (3 : Int32)))])) _
        refine XS.icmpYes X0.here hx rfl (pc0 := 17) (pc' := 24) rfl (hb hby d1_17) rfl (feq hc17).2 (by decide) (by decide) ?_
        exact kt
      obtain ⟨T9, X9, e9, st9⟩ := getS2 X0 hx hZ hown (host := "") (Or.inl (hw _ (List.mem_of_getElem? (i := 23) rfl))) Via.refl e0 SU (g := (mkF m 24 #[.val (.int p0), .val (.int ((p0 &&& (2147483647 : Int32)) % (3 : Int32)))] [])) rfl (hb hby d1_24)
      obtain ⟨fs, hr, hrun, hended, hW, hsame⟩ := X9.leave (v := some (.ref dU)) (fun h => by rw [Bd.returns] at h; cases h)
      refine ⟨_, _, pre0 _ (c1 _ (c5 _ (c10 _ (st9 _ (?_))))), hrun, hended, _, _, rfl, ?_, ⟨_, rfl⟩, hW, hsame.mono (by decide) (by decide)⟩
      · show Steps p.tables e below (T9.setTop (mkF m 27 #[.val (.int p0), .val (.int ((p0 &&& (2147483647 : Int32)) % (3 : Int32)))] [(.ref dU)])) _
        jvm_step X9.here [X9.here.top, hx, (hb hby d1_27), X9.method', Bd.returns, Value.isRef, FieldType.isReference]
        first | (intro acts; rw [hr _ acts rfl rfl rfl]) | rw [hr _ _ rfl rfl rfl]
        exact Steps.refl _
      · show Q1 Z p0 dH dN dU h0 n0 _ T9.heap _
        rw [e9]
        exact ⟨congrArg (fun z => some (Value.ref z)) (show dU = (own_pk dH dN dU p0) from by unfold own_pk; rw [if_neg hc8, if_neg hc17]), N0, rfl⟩
theorem d2_0 : decode prog_19_method_4_code 0 = .ok (.aload_n 0, 1) := by decide +kernel
theorem d2_1 : decode prog_19_method_4_code 1 = .ok (.getstatic 7, 3) := by decide +kernel
theorem d2_4 : decode prog_19_method_4_code 4 = .ok (.if_acmp .eq 10, 3) := by decide +kernel
theorem d2_7 : decode prog_19_method_4_code 7 = .ok (.aload_n 1, 1) := by decide +kernel
theorem d2_8 : decode prog_19_method_4_code 8 = .ok (.getstatic 7, 3) := by decide +kernel
theorem d2_11 : decode prog_19_method_4_code 11 = .ok (.if_acmp .ne 7, 3) := by decide +kernel
theorem d2_18 : decode prog_19_method_4_code 18 = .ok (.aload_n 0, 1) := by decide +kernel
theorem d2_19 : decode prog_19_method_4_code 19 = .ok (.getstatic 3, 3) := by decide +kernel
theorem d2_22 : decode prog_19_method_4_code 22 = .ok (.if_acmp .ne 16, 3) := by decide +kernel
theorem d2_25 : decode prog_19_method_4_code 25 = .ok (.aload_n 1, 1) := by decide +kernel
theorem d2_26 : decode prog_19_method_4_code 26 = .ok (.getstatic 3, 3) := by decide +kernel
theorem d2_29 : decode prog_19_method_4_code 29 = .ok (.if_acmp .ne 9, 3) := by decide +kernel
theorem d2_32 : decode prog_19_method_4_code 32 = .ok (.getstatic 3, 3) := by decide +kernel
theorem d2_35 : decode prog_19_method_4_code 35 = .ok (.goto 6, 3) := by decide +kernel
theorem d2_41 : decode prog_19_method_4_code 41 = .ok (.areturn, 1) := by decide +kernel
theorem pn_2 : plainName "com/example/mapstone/mapstone/engine/Decision" = true := by first | (simp [plainName, overriddenIn]; done) | decide +kernel
theorem ef_2 (m : MethodId) (x0 : Addr) (x1 : Addr) : entryFrame m #[(.ref x0), (.ref x1)] 2 = mkF m 0 #[.val (.ref x0), .val (.ref x1)] [] := by first | (simp [entryFrame, mkF, argsToLocals, Value.category]; done) | rfl
def Q2_HH (Z : State) (dH dN dU : Addr) (h0 : Heap) (n0 : Nat) (v : Option Value) (h : Heap) (L : List Loc) : Prop := v = some (.ref dH) ∧ Fr n0 L ∧ h = h0
set_option maxRecDepth 65536 in
set_option maxHeartbeats 40000000 in
theorem rm2_HH (l : Launch) (Z : State) (a0 : Array Value) (hw : ∀ d ∈ tables_1, d.before a0 Z = true) (ws : List Jvm.Cond)  (dH dN dU : Addr) (h0 : Heap) (n0 : Nat) (Z0 : n0 ≤ h0.size) (SH : Sta Z h0 "com/example/mapstone/mapstone/engine/Decision" "HOLDS" "Lcom/example/mapstone/mapstone/engine/Decision;" (.ref dH)) (SN : Sta Z h0 "com/example/mapstone/mapstone/engine/Decision" "DOES_NOT_HOLD" "Lcom/example/mapstone/mapstone/engine/Decision;" (.ref dN)) (SU : Sta Z h0 "com/example/mapstone/mapstone/engine/Decision" "UNDECIDED" "Lcom/example/mapstone/mapstone/engine/Decision;" (.ref dU)) (hHN : dH ≠ dN) (hHU : dH ≠ dU) (hNU : dN ≠ dU) :
    MetFree l (⟨"com/example/mapstone/mapstone/engine/Decision", "and", "(Lcom/example/mapstone/mapstone/engine/Decision;)Lcom/example/mapstone/mapstone/engine/Decision;"⟩ : MethodName) (head1 (Jvm.Cond.code (⟨"com/example/mapstone/mapstone/engine/Decision", "and", "(Lcom/example/mapstone/mapstone/engine/Decision;)Lcom/example/mapstone/mapstone/engine/Decision;"⟩ : MethodName) prog_19_method_4_code 2 (some (.object "com/example/mapstone/mapstone/engine/Decision")) :: ws) ({ frames := 0, cells := 0, slots := 0, locals := 0 } : Room)) (fun a U => a = #[(.ref dH), (.ref dH)] ∧ Z.Warmed39 U.vm ∧ U.heap = h0) (fun _ _ _ _ _ => True) (fun _ U o U' => ∃ v L, o = .returned v ∧ Q2_HH Z dH dN dU h0 n0 v U'.heap L ∧ FrameEnd U o U' L ({ frames := 0, cells := 0, slots := 0, locals := 0 } : Room).cells ({ frames := 0, cells := 0, slots := 0, locals := 0 } : Room).slots) := by
  refine MetFree.of_bodySF (plainFor_of_name pn_2) hisR ?_
  intro p e s m args below meth c s₁ Bd hml0 hP hK
  obtain ⟨rfl, hZ, hh⟩ := hP
  have hx := Bd.exec
  have hby := Bd.bytes
  have hml : c.maxLocals = 2 := hml0
  have hown : s.vm.findClass "com/example/mapstone/mapstone/engine/Decision" = some m.cls := findClass_of_methodNamed Bd.named
  have hnm := (name_of_methodNamed Bd.named Bd.method).1
  have X0 : Stand p l e ({ frames := 0, cells := 0, slots := 0, locals := 0 } : Room) s m #[(.ref dH), (.ref dH)] below meth c s₁ [] 0 0 := Stand.of_body Bd
  have e0 : s₁.heap = h0 := by rw [← hh, Bd.state]; rfl
  have N0 := Fr.nil n0
  have pre0 : ∀ t, Steps p.tables e below (s₁.setTop (mkF m 0 #[.val (.ref dH), .val (.ref dH)] [])) t → Steps p.tables e below (s₁.setTop (entryFrame m #[(.ref dH), (.ref dH)] 2)) t := fun t k => castTop (ef_2 m dH dH) k
  have c2 : ∀ t, Steps p.tables e below (s₁.setTop (mkF m 1 #[.val (.ref dH), .val (.ref dH)] [(.ref dH)])) t → Steps p.tables e below (s₁.setTop (mkF m 0 #[.val (.ref dH), .val (.ref dH)] [])) t := by
    intro t kt
    show Steps p.tables e below (s₁.setTop (mkF m 0 #[.val (.ref dH), .val (.ref dH)] [])) _
    refine XS.aloadN X0.here hx rfl (hb hby d2_0) rfl rfl ?_
    exact kt
  obtain ⟨T1, X1, e1, st1⟩ := getS2 X0 hx hZ hown (host := "") (Or.inl (hw _ (List.mem_of_getElem? (i := 13) rfl))) Via.refl e0 SN (g := (mkF m 1 #[.val (.ref dH), .val (.ref dH)] [(.ref dH)])) rfl (hb hby d2_1)
  have c4 : ∀ t, Steps p.tables e below (T1.setTop (mkF m 8 #[.val (.ref dH), .val (.ref dH)] [(.ref dH)])) t → Steps p.tables e below (T1.setTop (mkF m 4 #[.val (.ref dH), .val (.ref dH)] [(.ref dN), (.ref dH)])) t := by
    intro t kt
    show Steps p.tables e below (T1.setTop (mkF m 4 #[.val (.ref dH), .val (.ref dH)] [(.ref dN), (.ref dH)])) _
    refine Jvm.RoadKit.acmp (g := (mkF m 4 #[.val (.ref dH), .val (.ref dH)] [(.ref dN), (.ref dH)])) X1 hx rfl rfl rfl (pc0 := 4) (pc' := 7) (same := false) rfl (hb hby d2_4) rfl (decide_eq_false fun q => hHN (Value.ref.inj q)) (by decide) (by decide) ?_
    show Steps p.tables e below (T1.setTop (mkF m 7 #[.val (.ref dH), .val (.ref dH)] [])) _
    refine XS.aloadN X1.here hx rfl (hb hby d2_7) rfl rfl ?_
    exact kt
  obtain ⟨T3, X3, e3, st3⟩ := getS2 X1 hx hZ hown (host := "") (Or.inl (hw _ (List.mem_of_getElem? (i := 13) rfl))) Via.refl e1 SN (g := (mkF m 8 #[.val (.ref dH), .val (.ref dH)] [(.ref dH)])) rfl (hb hby d2_8)
  have c6 : ∀ t, Steps p.tables e below (T3.setTop (mkF m 19 #[.val (.ref dH), .val (.ref dH)] [(.ref dH)])) t → Steps p.tables e below (T3.setTop (mkF m 11 #[.val (.ref dH), .val (.ref dH)] [(.ref dN), (.ref dH)])) t := by
    intro t kt
    show Steps p.tables e below (T3.setTop (mkF m 11 #[.val (.ref dH), .val (.ref dH)] [(.ref dN), (.ref dH)])) _
    refine Jvm.RoadKit.acmp (g := (mkF m 11 #[.val (.ref dH), .val (.ref dH)] [(.ref dN), (.ref dH)])) X3 hx rfl rfl rfl (pc0 := 11) (pc' := 18) (same := false) rfl (hb hby d2_11) rfl (decide_eq_false fun q => hHN (Value.ref.inj q)) (by decide) (by decide) ?_
    show Steps p.tables e below (T3.setTop (mkF m 18 #[.val (.ref dH), .val (.ref dH)] [])) _
    refine XS.aloadN X3.here hx rfl (hb hby d2_18) rfl rfl ?_
    exact kt
  obtain ⟨T5, X5, e5, st5⟩ := getS2 X3 hx hZ hown (host := "") (Or.inl (hw _ (List.mem_of_getElem? (i := 15) rfl))) Via.refl e3 SH (g := (mkF m 19 #[.val (.ref dH), .val (.ref dH)] [(.ref dH)])) rfl (hb hby d2_19)
  have c8 : ∀ t, Steps p.tables e below (T5.setTop (mkF m 26 #[.val (.ref dH), .val (.ref dH)] [(.ref dH)])) t → Steps p.tables e below (T5.setTop (mkF m 22 #[.val (.ref dH), .val (.ref dH)] [(.ref dH), (.ref dH)])) t := by
    intro t kt
    show Steps p.tables e below (T5.setTop (mkF m 22 #[.val (.ref dH), .val (.ref dH)] [(.ref dH), (.ref dH)])) _
    refine Jvm.RoadKit.acmp (g := (mkF m 22 #[.val (.ref dH), .val (.ref dH)] [(.ref dH), (.ref dH)])) X5 hx rfl rfl rfl (pc0 := 22) (pc' := 25) (same := true) rfl (hb hby d2_22) rfl (decide_eq_true rfl) (by decide) (by decide) ?_
    show Steps p.tables e below (T5.setTop (mkF m 25 #[.val (.ref dH), .val (.ref dH)] [])) _
    refine XS.aloadN X5.here hx rfl (hb hby d2_25) rfl rfl ?_
    exact kt
  obtain ⟨T7, X7, e7, st7⟩ := getS2 X5 hx hZ hown (host := "") (Or.inl (hw _ (List.mem_of_getElem? (i := 15) rfl))) Via.refl e5 SH (g := (mkF m 26 #[.val (.ref dH), .val (.ref dH)] [(.ref dH)])) rfl (hb hby d2_26)
  have c10 : ∀ t, Steps p.tables e below (T7.setTop (mkF m 32 #[.val (.ref dH), .val (.ref dH)] [])) t → Steps p.tables e below (T7.setTop (mkF m 29 #[.val (.ref dH), .val (.ref dH)] [(.ref dH), (.ref dH)])) t := by
    intro t kt
    show Steps p.tables e below (T7.setTop (mkF m 29 #[.val (.ref dH), .val (.ref dH)] [(.ref dH), (.ref dH)])) _
    refine Jvm.RoadKit.acmp (g := (mkF m 29 #[.val (.ref dH), .val (.ref dH)] [(.ref dH), (.ref dH)])) X7 hx rfl rfl rfl (pc0 := 29) (pc' := 32) (same := true) rfl (hb hby d2_29) rfl (decide_eq_true rfl) (by decide) (by decide) ?_
    exact kt
  obtain ⟨T9, X9, e9, st9⟩ := getS2 X7 hx hZ hown (host := "") (Or.inl (hw _ (List.mem_of_getElem? (i := 15) rfl))) Via.refl e7 SH (g := (mkF m 32 #[.val (.ref dH), .val (.ref dH)] [])) rfl (hb hby d2_32)
  have c11 : ∀ t, Steps p.tables e below (T9.setTop (mkF m 41 #[.val (.ref dH), .val (.ref dH)] [(.ref dH)])) t → Steps p.tables e below (T9.setTop (mkF m 35 #[.val (.ref dH), .val (.ref dH)] [(.ref dH)])) t := by
    intro t kt
    show Steps p.tables e below (T9.setTop (mkF m 35 #[.val (.ref dH), .val (.ref dH)] [(.ref dH)])) _
    refine XS.goto X9.here hx rfl (pc0 := 35) (pc' := 41) rfl (hb hby d2_35) (by decide) (by decide) ?_
    exact kt
  obtain ⟨fs, hr, hrun, hended, hW, hsame⟩ := X9.leave (v := some (.ref dH)) (fun h => by rw [Bd.returns] at h; cases h)
  refine ⟨_, _, pre0 _ (c2 _ (st1 _ (c4 _ (st3 _ (c6 _ (st5 _ (c8 _ (st7 _ (c10 _ (st9 _ (c11 _ (?_)))))))))))), hrun, hended, _, _, rfl, ?_, ⟨_, rfl⟩, hW, hsame.mono (by decide) (by decide)⟩
  · show Steps p.tables e below (T9.setTop (mkF m 41 #[.val (.ref dH), .val (.ref dH)] [(.ref dH)])) _
    jvm_step X9.here [X9.here.top, hx, (hb hby d2_41), X9.method', Bd.returns, Value.isRef, FieldType.isReference]
    first | (intro acts; rw [hr _ acts rfl rfl rfl]) | rw [hr _ _ rfl rfl rfl]
    exact Steps.refl _
  · show Q2_HH Z dH dN dU h0 n0 _ T9.heap _
    rw [e9]
    exact ⟨congrArg (fun z => some (Value.ref z)) (show dH = dH from by rfl), N0, rfl⟩
theorem d2_14 : decode prog_19_method_4_code 14 = .ok (.getstatic 7, 3) := by decide +kernel
theorem d2_17 : decode prog_19_method_4_code 17 = .ok (.areturn, 1) := by decide +kernel
def Q2_HN (Z : State) (dH dN dU : Addr) (h0 : Heap) (n0 : Nat) (v : Option Value) (h : Heap) (L : List Loc) : Prop := v = some (.ref dN) ∧ Fr n0 L ∧ h = h0
set_option maxRecDepth 65536 in
set_option maxHeartbeats 40000000 in
theorem rm2_HN (l : Launch) (Z : State) (a0 : Array Value) (hw : ∀ d ∈ tables_1, d.before a0 Z = true) (ws : List Jvm.Cond)  (dH dN dU : Addr) (h0 : Heap) (n0 : Nat) (Z0 : n0 ≤ h0.size) (SH : Sta Z h0 "com/example/mapstone/mapstone/engine/Decision" "HOLDS" "Lcom/example/mapstone/mapstone/engine/Decision;" (.ref dH)) (SN : Sta Z h0 "com/example/mapstone/mapstone/engine/Decision" "DOES_NOT_HOLD" "Lcom/example/mapstone/mapstone/engine/Decision;" (.ref dN)) (SU : Sta Z h0 "com/example/mapstone/mapstone/engine/Decision" "UNDECIDED" "Lcom/example/mapstone/mapstone/engine/Decision;" (.ref dU)) (hHN : dH ≠ dN) (hHU : dH ≠ dU) (hNU : dN ≠ dU) :
    MetFree l (⟨"com/example/mapstone/mapstone/engine/Decision", "and", "(Lcom/example/mapstone/mapstone/engine/Decision;)Lcom/example/mapstone/mapstone/engine/Decision;"⟩ : MethodName) (head1 (Jvm.Cond.code (⟨"com/example/mapstone/mapstone/engine/Decision", "and", "(Lcom/example/mapstone/mapstone/engine/Decision;)Lcom/example/mapstone/mapstone/engine/Decision;"⟩ : MethodName) prog_19_method_4_code 2 (some (.object "com/example/mapstone/mapstone/engine/Decision")) :: ws) ({ frames := 0, cells := 0, slots := 0, locals := 0 } : Room)) (fun a U => a = #[(.ref dH), (.ref dN)] ∧ Z.Warmed39 U.vm ∧ U.heap = h0) (fun _ _ _ _ _ => True) (fun _ U o U' => ∃ v L, o = .returned v ∧ Q2_HN Z dH dN dU h0 n0 v U'.heap L ∧ FrameEnd U o U' L ({ frames := 0, cells := 0, slots := 0, locals := 0 } : Room).cells ({ frames := 0, cells := 0, slots := 0, locals := 0 } : Room).slots) := by
  refine MetFree.of_bodySF (plainFor_of_name pn_2) hisR ?_
  intro p e s m args below meth c s₁ Bd hml0 hP hK
  obtain ⟨rfl, hZ, hh⟩ := hP
  have hx := Bd.exec
  have hby := Bd.bytes
  have hml : c.maxLocals = 2 := hml0
  have hown : s.vm.findClass "com/example/mapstone/mapstone/engine/Decision" = some m.cls := findClass_of_methodNamed Bd.named
  have hnm := (name_of_methodNamed Bd.named Bd.method).1
  have X0 : Stand p l e ({ frames := 0, cells := 0, slots := 0, locals := 0 } : Room) s m #[(.ref dH), (.ref dN)] below meth c s₁ [] 0 0 := Stand.of_body Bd
  have e0 : s₁.heap = h0 := by rw [← hh, Bd.state]; rfl
  have N0 := Fr.nil n0
  have pre0 : ∀ t, Steps p.tables e below (s₁.setTop (mkF m 0 #[.val (.ref dH), .val (.ref dN)] [])) t → Steps p.tables e below (s₁.setTop (entryFrame m #[(.ref dH), (.ref dN)] 2)) t := fun t k => castTop (ef_2 m dH dN) k
  have c2 : ∀ t, Steps p.tables e below (s₁.setTop (mkF m 1 #[.val (.ref dH), .val (.ref dN)] [(.ref dH)])) t → Steps p.tables e below (s₁.setTop (mkF m 0 #[.val (.ref dH), .val (.ref dN)] [])) t := by
    intro t kt
    show Steps p.tables e below (s₁.setTop (mkF m 0 #[.val (.ref dH), .val (.ref dN)] [])) _
    refine XS.aloadN X0.here hx rfl (hb hby d2_0) rfl rfl ?_
    exact kt
  obtain ⟨T1, X1, e1, st1⟩ := getS2 X0 hx hZ hown (host := "") (Or.inl (hw _ (List.mem_of_getElem? (i := 13) rfl))) Via.refl e0 SN (g := (mkF m 1 #[.val (.ref dH), .val (.ref dN)] [(.ref dH)])) rfl (hb hby d2_1)
  have c4 : ∀ t, Steps p.tables e below (T1.setTop (mkF m 8 #[.val (.ref dH), .val (.ref dN)] [(.ref dN)])) t → Steps p.tables e below (T1.setTop (mkF m 4 #[.val (.ref dH), .val (.ref dN)] [(.ref dN), (.ref dH)])) t := by
    intro t kt
    show Steps p.tables e below (T1.setTop (mkF m 4 #[.val (.ref dH), .val (.ref dN)] [(.ref dN), (.ref dH)])) _
    refine Jvm.RoadKit.acmp (g := (mkF m 4 #[.val (.ref dH), .val (.ref dN)] [(.ref dN), (.ref dH)])) X1 hx rfl rfl rfl (pc0 := 4) (pc' := 7) (same := false) rfl (hb hby d2_4) rfl (decide_eq_false fun q => hHN (Value.ref.inj q)) (by decide) (by decide) ?_
    show Steps p.tables e below (T1.setTop (mkF m 7 #[.val (.ref dH), .val (.ref dN)] [])) _
    refine XS.aloadN X1.here hx rfl (hb hby d2_7) rfl rfl ?_
    exact kt
  obtain ⟨T3, X3, e3, st3⟩ := getS2 X1 hx hZ hown (host := "") (Or.inl (hw _ (List.mem_of_getElem? (i := 13) rfl))) Via.refl e1 SN (g := (mkF m 8 #[.val (.ref dH), .val (.ref dN)] [(.ref dN)])) rfl (hb hby d2_8)
  have c6 : ∀ t, Steps p.tables e below (T3.setTop (mkF m 14 #[.val (.ref dH), .val (.ref dN)] [])) t → Steps p.tables e below (T3.setTop (mkF m 11 #[.val (.ref dH), .val (.ref dN)] [(.ref dN), (.ref dN)])) t := by
    intro t kt
    show Steps p.tables e below (T3.setTop (mkF m 11 #[.val (.ref dH), .val (.ref dN)] [(.ref dN), (.ref dN)])) _
    refine Jvm.RoadKit.acmp (g := (mkF m 11 #[.val (.ref dH), .val (.ref dN)] [(.ref dN), (.ref dN)])) X3 hx rfl rfl rfl (pc0 := 11) (pc' := 14) (same := true) rfl (hb hby d2_11) rfl (decide_eq_true rfl) (by decide) (by decide) ?_
    exact kt
  obtain ⟨T5, X5, e5, st5⟩ := getS2 X3 hx hZ hown (host := "") (Or.inl (hw _ (List.mem_of_getElem? (i := 13) rfl))) Via.refl e3 SN (g := (mkF m 14 #[.val (.ref dH), .val (.ref dN)] [])) rfl (hb hby d2_14)
  obtain ⟨fs, hr, hrun, hended, hW, hsame⟩ := X5.leave (v := some (.ref dN)) (fun h => by rw [Bd.returns] at h; cases h)
  refine ⟨_, _, pre0 _ (c2 _ (st1 _ (c4 _ (st3 _ (c6 _ (st5 _ (?_))))))), hrun, hended, _, _, rfl, ?_, ⟨_, rfl⟩, hW, hsame.mono (by decide) (by decide)⟩
  · show Steps p.tables e below (T5.setTop (mkF m 17 #[.val (.ref dH), .val (.ref dN)] [(.ref dN)])) _
    jvm_step X5.here [X5.here.top, hx, (hb hby d2_17), X5.method', Bd.returns, Value.isRef, FieldType.isReference]
    first | (intro acts; rw [hr _ acts rfl rfl rfl]) | rw [hr _ _ rfl rfl rfl]
    exact Steps.refl _
  · show Q2_HN Z dH dN dU h0 n0 _ T5.heap _
    rw [e5]
    exact ⟨congrArg (fun z => some (Value.ref z)) (show dN = dN from by rfl), N0, rfl⟩
theorem d2_38 : decode prog_19_method_4_code 38 = .ok (.getstatic 10, 3) := by decide +kernel
def Q2_HU (Z : State) (dH dN dU : Addr) (h0 : Heap) (n0 : Nat) (v : Option Value) (h : Heap) (L : List Loc) : Prop := v = some (.ref dU) ∧ Fr n0 L ∧ h = h0
set_option maxRecDepth 65536 in
set_option maxHeartbeats 40000000 in
theorem rm2_HU (l : Launch) (Z : State) (a0 : Array Value) (hw : ∀ d ∈ tables_1, d.before a0 Z = true) (ws : List Jvm.Cond)  (dH dN dU : Addr) (h0 : Heap) (n0 : Nat) (Z0 : n0 ≤ h0.size) (SH : Sta Z h0 "com/example/mapstone/mapstone/engine/Decision" "HOLDS" "Lcom/example/mapstone/mapstone/engine/Decision;" (.ref dH)) (SN : Sta Z h0 "com/example/mapstone/mapstone/engine/Decision" "DOES_NOT_HOLD" "Lcom/example/mapstone/mapstone/engine/Decision;" (.ref dN)) (SU : Sta Z h0 "com/example/mapstone/mapstone/engine/Decision" "UNDECIDED" "Lcom/example/mapstone/mapstone/engine/Decision;" (.ref dU)) (hHN : dH ≠ dN) (hHU : dH ≠ dU) (hNU : dN ≠ dU) :
    MetFree l (⟨"com/example/mapstone/mapstone/engine/Decision", "and", "(Lcom/example/mapstone/mapstone/engine/Decision;)Lcom/example/mapstone/mapstone/engine/Decision;"⟩ : MethodName) (head1 (Jvm.Cond.code (⟨"com/example/mapstone/mapstone/engine/Decision", "and", "(Lcom/example/mapstone/mapstone/engine/Decision;)Lcom/example/mapstone/mapstone/engine/Decision;"⟩ : MethodName) prog_19_method_4_code 2 (some (.object "com/example/mapstone/mapstone/engine/Decision")) :: ws) ({ frames := 0, cells := 0, slots := 0, locals := 0 } : Room)) (fun a U => a = #[(.ref dH), (.ref dU)] ∧ Z.Warmed39 U.vm ∧ U.heap = h0) (fun _ _ _ _ _ => True) (fun _ U o U' => ∃ v L, o = .returned v ∧ Q2_HU Z dH dN dU h0 n0 v U'.heap L ∧ FrameEnd U o U' L ({ frames := 0, cells := 0, slots := 0, locals := 0 } : Room).cells ({ frames := 0, cells := 0, slots := 0, locals := 0 } : Room).slots) := by
  refine MetFree.of_bodySF (plainFor_of_name pn_2) hisR ?_
  intro p e s m args below meth c s₁ Bd hml0 hP hK
  obtain ⟨rfl, hZ, hh⟩ := hP
  have hx := Bd.exec
  have hby := Bd.bytes
  have hml : c.maxLocals = 2 := hml0
  have hown : s.vm.findClass "com/example/mapstone/mapstone/engine/Decision" = some m.cls := findClass_of_methodNamed Bd.named
  have hnm := (name_of_methodNamed Bd.named Bd.method).1
  have X0 : Stand p l e ({ frames := 0, cells := 0, slots := 0, locals := 0 } : Room) s m #[(.ref dH), (.ref dU)] below meth c s₁ [] 0 0 := Stand.of_body Bd
  have e0 : s₁.heap = h0 := by rw [← hh, Bd.state]; rfl
  have N0 := Fr.nil n0
  have pre0 : ∀ t, Steps p.tables e below (s₁.setTop (mkF m 0 #[.val (.ref dH), .val (.ref dU)] [])) t → Steps p.tables e below (s₁.setTop (entryFrame m #[(.ref dH), (.ref dU)] 2)) t := fun t k => castTop (ef_2 m dH dU) k
  have c2 : ∀ t, Steps p.tables e below (s₁.setTop (mkF m 1 #[.val (.ref dH), .val (.ref dU)] [(.ref dH)])) t → Steps p.tables e below (s₁.setTop (mkF m 0 #[.val (.ref dH), .val (.ref dU)] [])) t := by
    intro t kt
    show Steps p.tables e below (s₁.setTop (mkF m 0 #[.val (.ref dH), .val (.ref dU)] [])) _
    refine XS.aloadN X0.here hx rfl (hb hby d2_0) rfl rfl ?_
    exact kt
  obtain ⟨T1, X1, e1, st1⟩ := getS2 X0 hx hZ hown (host := "") (Or.inl (hw _ (List.mem_of_getElem? (i := 13) rfl))) Via.refl e0 SN (g := (mkF m 1 #[.val (.ref dH), .val (.ref dU)] [(.ref dH)])) rfl (hb hby d2_1)
  have c4 : ∀ t, Steps p.tables e below (T1.setTop (mkF m 8 #[.val (.ref dH), .val (.ref dU)] [(.ref dU)])) t → Steps p.tables e below (T1.setTop (mkF m 4 #[.val (.ref dH), .val (.ref dU)] [(.ref dN), (.ref dH)])) t := by
    intro t kt
    show Steps p.tables e below (T1.setTop (mkF m 4 #[.val (.ref dH), .val (.ref dU)] [(.ref dN), (.ref dH)])) _
    refine Jvm.RoadKit.acmp (g := (mkF m 4 #[.val (.ref dH), .val (.ref dU)] [(.ref dN), (.ref dH)])) X1 hx rfl rfl rfl (pc0 := 4) (pc' := 7) (same := false) rfl (hb hby d2_4) rfl (decide_eq_false fun q => hHN (Value.ref.inj q)) (by decide) (by decide) ?_
    show Steps p.tables e below (T1.setTop (mkF m 7 #[.val (.ref dH), .val (.ref dU)] [])) _
    refine XS.aloadN X1.here hx rfl (hb hby d2_7) rfl rfl ?_
    exact kt
  obtain ⟨T3, X3, e3, st3⟩ := getS2 X1 hx hZ hown (host := "") (Or.inl (hw _ (List.mem_of_getElem? (i := 13) rfl))) Via.refl e1 SN (g := (mkF m 8 #[.val (.ref dH), .val (.ref dU)] [(.ref dU)])) rfl (hb hby d2_8)
  have c6 : ∀ t, Steps p.tables e below (T3.setTop (mkF m 19 #[.val (.ref dH), .val (.ref dU)] [(.ref dH)])) t → Steps p.tables e below (T3.setTop (mkF m 11 #[.val (.ref dH), .val (.ref dU)] [(.ref dN), (.ref dU)])) t := by
    intro t kt
    show Steps p.tables e below (T3.setTop (mkF m 11 #[.val (.ref dH), .val (.ref dU)] [(.ref dN), (.ref dU)])) _
    refine Jvm.RoadKit.acmp (g := (mkF m 11 #[.val (.ref dH), .val (.ref dU)] [(.ref dN), (.ref dU)])) X3 hx rfl rfl rfl (pc0 := 11) (pc' := 18) (same := false) rfl (hb hby d2_11) rfl (decide_eq_false fun q => (Ne.symm hNU) (Value.ref.inj q)) (by decide) (by decide) ?_
    show Steps p.tables e below (T3.setTop (mkF m 18 #[.val (.ref dH), .val (.ref dU)] [])) _
    refine XS.aloadN X3.here hx rfl (hb hby d2_18) rfl rfl ?_
    exact kt
  obtain ⟨T5, X5, e5, st5⟩ := getS2 X3 hx hZ hown (host := "") (Or.inl (hw _ (List.mem_of_getElem? (i := 15) rfl))) Via.refl e3 SH (g := (mkF m 19 #[.val (.ref dH), .val (.ref dU)] [(.ref dH)])) rfl (hb hby d2_19)
  have c8 : ∀ t, Steps p.tables e below (T5.setTop (mkF m 26 #[.val (.ref dH), .val (.ref dU)] [(.ref dU)])) t → Steps p.tables e below (T5.setTop (mkF m 22 #[.val (.ref dH), .val (.ref dU)] [(.ref dH), (.ref dH)])) t := by
    intro t kt
    show Steps p.tables e below (T5.setTop (mkF m 22 #[.val (.ref dH), .val (.ref dU)] [(.ref dH), (.ref dH)])) _
    refine Jvm.RoadKit.acmp (g := (mkF m 22 #[.val (.ref dH), .val (.ref dU)] [(.ref dH), (.ref dH)])) X5 hx rfl rfl rfl (pc0 := 22) (pc' := 25) (same := true) rfl (hb hby d2_22) rfl (decide_eq_true rfl) (by decide) (by decide) ?_
    show Steps p.tables e below (T5.setTop (mkF m 25 #[.val (.ref dH), .val (.ref dU)] [])) _
    refine XS.aloadN X5.here hx rfl (hb hby d2_25) rfl rfl ?_
    exact kt
  obtain ⟨T7, X7, e7, st7⟩ := getS2 X5 hx hZ hown (host := "") (Or.inl (hw _ (List.mem_of_getElem? (i := 15) rfl))) Via.refl e5 SH (g := (mkF m 26 #[.val (.ref dH), .val (.ref dU)] [(.ref dU)])) rfl (hb hby d2_26)
  have c10 : ∀ t, Steps p.tables e below (T7.setTop (mkF m 38 #[.val (.ref dH), .val (.ref dU)] [])) t → Steps p.tables e below (T7.setTop (mkF m 29 #[.val (.ref dH), .val (.ref dU)] [(.ref dH), (.ref dU)])) t := by
    intro t kt
    show Steps p.tables e below (T7.setTop (mkF m 29 #[.val (.ref dH), .val (.ref dU)] [(.ref dH), (.ref dU)])) _
    refine Jvm.RoadKit.acmp (g := (mkF m 29 #[.val (.ref dH), .val (.ref dU)] [(.ref dH), (.ref dU)])) X7 hx rfl rfl rfl (pc0 := 29) (pc' := 38) (same := false) rfl (hb hby d2_29) rfl (decide_eq_false fun q => (Ne.symm hHU) (Value.ref.inj q)) (by decide) (by decide) ?_
    exact kt
  obtain ⟨T9, X9, e9, st9⟩ := getS2 X7 hx hZ hown (host := "") (Or.inl (hw _ (List.mem_of_getElem? (i := 26) rfl))) Via.refl e7 SU (g := (mkF m 38 #[.val (.ref dH), .val (.ref dU)] [])) rfl (hb hby d2_38)
  obtain ⟨fs, hr, hrun, hended, hW, hsame⟩ := X9.leave (v := some (.ref dU)) (fun h => by rw [Bd.returns] at h; cases h)
  refine ⟨_, _, pre0 _ (c2 _ (st1 _ (c4 _ (st3 _ (c6 _ (st5 _ (c8 _ (st7 _ (c10 _ (st9 _ (?_))))))))))), hrun, hended, _, _, rfl, ?_, ⟨_, rfl⟩, hW, hsame.mono (by decide) (by decide)⟩
  · show Steps p.tables e below (T9.setTop (mkF m 41 #[.val (.ref dH), .val (.ref dU)] [(.ref dU)])) _
    jvm_step X9.here [X9.here.top, hx, (hb hby d2_41), X9.method', Bd.returns, Value.isRef, FieldType.isReference]
    first | (intro acts; rw [hr _ acts rfl rfl rfl]) | rw [hr _ _ rfl rfl rfl]
    exact Steps.refl _
  · show Q2_HU Z dH dN dU h0 n0 _ T9.heap _
    rw [e9]
    exact ⟨congrArg (fun z => some (Value.ref z)) (show dU = dU from by rfl), N0, rfl⟩
def Q2_NH (Z : State) (dH dN dU : Addr) (h0 : Heap) (n0 : Nat) (v : Option Value) (h : Heap) (L : List Loc) : Prop := v = some (.ref dN) ∧ Fr n0 L ∧ h = h0
set_option maxRecDepth 65536 in
set_option maxHeartbeats 40000000 in
theorem rm2_NH (l : Launch) (Z : State) (a0 : Array Value) (hw : ∀ d ∈ tables_1, d.before a0 Z = true) (ws : List Jvm.Cond)  (dH dN dU : Addr) (h0 : Heap) (n0 : Nat) (Z0 : n0 ≤ h0.size) (SH : Sta Z h0 "com/example/mapstone/mapstone/engine/Decision" "HOLDS" "Lcom/example/mapstone/mapstone/engine/Decision;" (.ref dH)) (SN : Sta Z h0 "com/example/mapstone/mapstone/engine/Decision" "DOES_NOT_HOLD" "Lcom/example/mapstone/mapstone/engine/Decision;" (.ref dN)) (SU : Sta Z h0 "com/example/mapstone/mapstone/engine/Decision" "UNDECIDED" "Lcom/example/mapstone/mapstone/engine/Decision;" (.ref dU)) (hHN : dH ≠ dN) (hHU : dH ≠ dU) (hNU : dN ≠ dU) :
    MetFree l (⟨"com/example/mapstone/mapstone/engine/Decision", "and", "(Lcom/example/mapstone/mapstone/engine/Decision;)Lcom/example/mapstone/mapstone/engine/Decision;"⟩ : MethodName) (head1 (Jvm.Cond.code (⟨"com/example/mapstone/mapstone/engine/Decision", "and", "(Lcom/example/mapstone/mapstone/engine/Decision;)Lcom/example/mapstone/mapstone/engine/Decision;"⟩ : MethodName) prog_19_method_4_code 2 (some (.object "com/example/mapstone/mapstone/engine/Decision")) :: ws) ({ frames := 0, cells := 0, slots := 0, locals := 0 } : Room)) (fun a U => a = #[(.ref dN), (.ref dH)] ∧ Z.Warmed39 U.vm ∧ U.heap = h0) (fun _ _ _ _ _ => True) (fun _ U o U' => ∃ v L, o = .returned v ∧ Q2_NH Z dH dN dU h0 n0 v U'.heap L ∧ FrameEnd U o U' L ({ frames := 0, cells := 0, slots := 0, locals := 0 } : Room).cells ({ frames := 0, cells := 0, slots := 0, locals := 0 } : Room).slots) := by
  refine MetFree.of_bodySF (plainFor_of_name pn_2) hisR ?_
  intro p e s m args below meth c s₁ Bd hml0 hP hK
  obtain ⟨rfl, hZ, hh⟩ := hP
  have hx := Bd.exec
  have hby := Bd.bytes
  have hml : c.maxLocals = 2 := hml0
  have hown : s.vm.findClass "com/example/mapstone/mapstone/engine/Decision" = some m.cls := findClass_of_methodNamed Bd.named
  have hnm := (name_of_methodNamed Bd.named Bd.method).1
  have X0 : Stand p l e ({ frames := 0, cells := 0, slots := 0, locals := 0 } : Room) s m #[(.ref dN), (.ref dH)] below meth c s₁ [] 0 0 := Stand.of_body Bd
  have e0 : s₁.heap = h0 := by rw [← hh, Bd.state]; rfl
  have N0 := Fr.nil n0
  have pre0 : ∀ t, Steps p.tables e below (s₁.setTop (mkF m 0 #[.val (.ref dN), .val (.ref dH)] [])) t → Steps p.tables e below (s₁.setTop (entryFrame m #[(.ref dN), (.ref dH)] 2)) t := fun t k => castTop (ef_2 m dN dH) k
  have c2 : ∀ t, Steps p.tables e below (s₁.setTop (mkF m 1 #[.val (.ref dN), .val (.ref dH)] [(.ref dN)])) t → Steps p.tables e below (s₁.setTop (mkF m 0 #[.val (.ref dN), .val (.ref dH)] [])) t := by
    intro t kt
    show Steps p.tables e below (s₁.setTop (mkF m 0 #[.val (.ref dN), .val (.ref dH)] [])) _
    refine XS.aloadN X0.here hx rfl (hb hby d2_0) rfl rfl ?_
    exact kt
  obtain ⟨T1, X1, e1, st1⟩ := getS2 X0 hx hZ hown (host := "") (Or.inl (hw _ (List.mem_of_getElem? (i := 13) rfl))) Via.refl e0 SN (g := (mkF m 1 #[.val (.ref dN), .val (.ref dH)] [(.ref dN)])) rfl (hb hby d2_1)
  have c4 : ∀ t, Steps p.tables e below (T1.setTop (mkF m 14 #[.val (.ref dN), .val (.ref dH)] [])) t → Steps p.tables e below (T1.setTop (mkF m 4 #[.val (.ref dN), .val (.ref dH)] [(.ref dN), (.ref dN)])) t := by
    intro t kt
    show Steps p.tables e below (T1.setTop (mkF m 4 #[.val (.ref dN), .val (.ref dH)] [(.ref dN), (.ref dN)])) _
    refine Jvm.RoadKit.acmp (g := (mkF m 4 #[.val (.ref dN), .val (.ref dH)] [(.ref dN), (.ref dN)])) X1 hx rfl rfl rfl (pc0 := 4) (pc' := 14) (same := true) rfl (hb hby d2_4) rfl (decide_eq_true rfl) (by decide) (by decide) ?_
    exact kt
  obtain ⟨T3, X3, e3, st3⟩ := getS2 X1 hx hZ hown (host := "") (Or.inl (hw _ (List.mem_of_getElem? (i := 13) rfl))) Via.refl e1 SN (g := (mkF m 14 #[.val (.ref dN), .val (.ref dH)] [])) rfl (hb hby d2_14)
  obtain ⟨fs, hr, hrun, hended, hW, hsame⟩ := X3.leave (v := some (.ref dN)) (fun h => by rw [Bd.returns] at h; cases h)
  refine ⟨_, _, pre0 _ (c2 _ (st1 _ (c4 _ (st3 _ (?_))))), hrun, hended, _, _, rfl, ?_, ⟨_, rfl⟩, hW, hsame.mono (by decide) (by decide)⟩
  · show Steps p.tables e below (T3.setTop (mkF m 17 #[.val (.ref dN), .val (.ref dH)] [(.ref dN)])) _
    jvm_step X3.here [X3.here.top, hx, (hb hby d2_17), X3.method', Bd.returns, Value.isRef, FieldType.isReference]
    first | (intro acts; rw [hr _ acts rfl rfl rfl]) | rw [hr _ _ rfl rfl rfl]
    exact Steps.refl _
  · show Q2_NH Z dH dN dU h0 n0 _ T3.heap _
    rw [e3]
    exact ⟨congrArg (fun z => some (Value.ref z)) (show dN = dN from by rfl), N0, rfl⟩
def Q2_NN (Z : State) (dH dN dU : Addr) (h0 : Heap) (n0 : Nat) (v : Option Value) (h : Heap) (L : List Loc) : Prop := v = some (.ref dN) ∧ Fr n0 L ∧ h = h0
set_option maxRecDepth 65536 in
set_option maxHeartbeats 40000000 in
theorem rm2_NN (l : Launch) (Z : State) (a0 : Array Value) (hw : ∀ d ∈ tables_1, d.before a0 Z = true) (ws : List Jvm.Cond)  (dH dN dU : Addr) (h0 : Heap) (n0 : Nat) (Z0 : n0 ≤ h0.size) (SH : Sta Z h0 "com/example/mapstone/mapstone/engine/Decision" "HOLDS" "Lcom/example/mapstone/mapstone/engine/Decision;" (.ref dH)) (SN : Sta Z h0 "com/example/mapstone/mapstone/engine/Decision" "DOES_NOT_HOLD" "Lcom/example/mapstone/mapstone/engine/Decision;" (.ref dN)) (SU : Sta Z h0 "com/example/mapstone/mapstone/engine/Decision" "UNDECIDED" "Lcom/example/mapstone/mapstone/engine/Decision;" (.ref dU)) (hHN : dH ≠ dN) (hHU : dH ≠ dU) (hNU : dN ≠ dU) :
    MetFree l (⟨"com/example/mapstone/mapstone/engine/Decision", "and", "(Lcom/example/mapstone/mapstone/engine/Decision;)Lcom/example/mapstone/mapstone/engine/Decision;"⟩ : MethodName) (head1 (Jvm.Cond.code (⟨"com/example/mapstone/mapstone/engine/Decision", "and", "(Lcom/example/mapstone/mapstone/engine/Decision;)Lcom/example/mapstone/mapstone/engine/Decision;"⟩ : MethodName) prog_19_method_4_code 2 (some (.object "com/example/mapstone/mapstone/engine/Decision")) :: ws) ({ frames := 0, cells := 0, slots := 0, locals := 0 } : Room)) (fun a U => a = #[(.ref dN), (.ref dN)] ∧ Z.Warmed39 U.vm ∧ U.heap = h0) (fun _ _ _ _ _ => True) (fun _ U o U' => ∃ v L, o = .returned v ∧ Q2_NN Z dH dN dU h0 n0 v U'.heap L ∧ FrameEnd U o U' L ({ frames := 0, cells := 0, slots := 0, locals := 0 } : Room).cells ({ frames := 0, cells := 0, slots := 0, locals := 0 } : Room).slots) := by
  refine MetFree.of_bodySF (plainFor_of_name pn_2) hisR ?_
  intro p e s m args below meth c s₁ Bd hml0 hP hK
  obtain ⟨rfl, hZ, hh⟩ := hP
  have hx := Bd.exec
  have hby := Bd.bytes
  have hml : c.maxLocals = 2 := hml0
  have hown : s.vm.findClass "com/example/mapstone/mapstone/engine/Decision" = some m.cls := findClass_of_methodNamed Bd.named
  have hnm := (name_of_methodNamed Bd.named Bd.method).1
  have X0 : Stand p l e ({ frames := 0, cells := 0, slots := 0, locals := 0 } : Room) s m #[(.ref dN), (.ref dN)] below meth c s₁ [] 0 0 := Stand.of_body Bd
  have e0 : s₁.heap = h0 := by rw [← hh, Bd.state]; rfl
  have N0 := Fr.nil n0
  have pre0 : ∀ t, Steps p.tables e below (s₁.setTop (mkF m 0 #[.val (.ref dN), .val (.ref dN)] [])) t → Steps p.tables e below (s₁.setTop (entryFrame m #[(.ref dN), (.ref dN)] 2)) t := fun t k => castTop (ef_2 m dN dN) k
  have c2 : ∀ t, Steps p.tables e below (s₁.setTop (mkF m 1 #[.val (.ref dN), .val (.ref dN)] [(.ref dN)])) t → Steps p.tables e below (s₁.setTop (mkF m 0 #[.val (.ref dN), .val (.ref dN)] [])) t := by
    intro t kt
    show Steps p.tables e below (s₁.setTop (mkF m 0 #[.val (.ref dN), .val (.ref dN)] [])) _
    refine XS.aloadN X0.here hx rfl (hb hby d2_0) rfl rfl ?_
    exact kt
  obtain ⟨T1, X1, e1, st1⟩ := getS2 X0 hx hZ hown (host := "") (Or.inl (hw _ (List.mem_of_getElem? (i := 13) rfl))) Via.refl e0 SN (g := (mkF m 1 #[.val (.ref dN), .val (.ref dN)] [(.ref dN)])) rfl (hb hby d2_1)
  have c4 : ∀ t, Steps p.tables e below (T1.setTop (mkF m 14 #[.val (.ref dN), .val (.ref dN)] [])) t → Steps p.tables e below (T1.setTop (mkF m 4 #[.val (.ref dN), .val (.ref dN)] [(.ref dN), (.ref dN)])) t := by
    intro t kt
    show Steps p.tables e below (T1.setTop (mkF m 4 #[.val (.ref dN), .val (.ref dN)] [(.ref dN), (.ref dN)])) _
    refine Jvm.RoadKit.acmp (g := (mkF m 4 #[.val (.ref dN), .val (.ref dN)] [(.ref dN), (.ref dN)])) X1 hx rfl rfl rfl (pc0 := 4) (pc' := 14) (same := true) rfl (hb hby d2_4) rfl (decide_eq_true rfl) (by decide) (by decide) ?_
    exact kt
  obtain ⟨T3, X3, e3, st3⟩ := getS2 X1 hx hZ hown (host := "") (Or.inl (hw _ (List.mem_of_getElem? (i := 13) rfl))) Via.refl e1 SN (g := (mkF m 14 #[.val (.ref dN), .val (.ref dN)] [])) rfl (hb hby d2_14)
  obtain ⟨fs, hr, hrun, hended, hW, hsame⟩ := X3.leave (v := some (.ref dN)) (fun h => by rw [Bd.returns] at h; cases h)
  refine ⟨_, _, pre0 _ (c2 _ (st1 _ (c4 _ (st3 _ (?_))))), hrun, hended, _, _, rfl, ?_, ⟨_, rfl⟩, hW, hsame.mono (by decide) (by decide)⟩
  · show Steps p.tables e below (T3.setTop (mkF m 17 #[.val (.ref dN), .val (.ref dN)] [(.ref dN)])) _
    jvm_step X3.here [X3.here.top, hx, (hb hby d2_17), X3.method', Bd.returns, Value.isRef, FieldType.isReference]
    first | (intro acts; rw [hr _ acts rfl rfl rfl]) | rw [hr _ _ rfl rfl rfl]
    exact Steps.refl _
  · show Q2_NN Z dH dN dU h0 n0 _ T3.heap _
    rw [e3]
    exact ⟨congrArg (fun z => some (Value.ref z)) (show dN = dN from by rfl), N0, rfl⟩
def Q2_NU (Z : State) (dH dN dU : Addr) (h0 : Heap) (n0 : Nat) (v : Option Value) (h : Heap) (L : List Loc) : Prop := v = some (.ref dN) ∧ Fr n0 L ∧ h = h0
set_option maxRecDepth 65536 in
set_option maxHeartbeats 40000000 in
theorem rm2_NU (l : Launch) (Z : State) (a0 : Array Value) (hw : ∀ d ∈ tables_1, d.before a0 Z = true) (ws : List Jvm.Cond)  (dH dN dU : Addr) (h0 : Heap) (n0 : Nat) (Z0 : n0 ≤ h0.size) (SH : Sta Z h0 "com/example/mapstone/mapstone/engine/Decision" "HOLDS" "Lcom/example/mapstone/mapstone/engine/Decision;" (.ref dH)) (SN : Sta Z h0 "com/example/mapstone/mapstone/engine/Decision" "DOES_NOT_HOLD" "Lcom/example/mapstone/mapstone/engine/Decision;" (.ref dN)) (SU : Sta Z h0 "com/example/mapstone/mapstone/engine/Decision" "UNDECIDED" "Lcom/example/mapstone/mapstone/engine/Decision;" (.ref dU)) (hHN : dH ≠ dN) (hHU : dH ≠ dU) (hNU : dN ≠ dU) :
    MetFree l (⟨"com/example/mapstone/mapstone/engine/Decision", "and", "(Lcom/example/mapstone/mapstone/engine/Decision;)Lcom/example/mapstone/mapstone/engine/Decision;"⟩ : MethodName) (head1 (Jvm.Cond.code (⟨"com/example/mapstone/mapstone/engine/Decision", "and", "(Lcom/example/mapstone/mapstone/engine/Decision;)Lcom/example/mapstone/mapstone/engine/Decision;"⟩ : MethodName) prog_19_method_4_code 2 (some (.object "com/example/mapstone/mapstone/engine/Decision")) :: ws) ({ frames := 0, cells := 0, slots := 0, locals := 0 } : Room)) (fun a U => a = #[(.ref dN), (.ref dU)] ∧ Z.Warmed39 U.vm ∧ U.heap = h0) (fun _ _ _ _ _ => True) (fun _ U o U' => ∃ v L, o = .returned v ∧ Q2_NU Z dH dN dU h0 n0 v U'.heap L ∧ FrameEnd U o U' L ({ frames := 0, cells := 0, slots := 0, locals := 0 } : Room).cells ({ frames := 0, cells := 0, slots := 0, locals := 0 } : Room).slots) := by
  refine MetFree.of_bodySF (plainFor_of_name pn_2) hisR ?_
  intro p e s m args below meth c s₁ Bd hml0 hP hK
  obtain ⟨rfl, hZ, hh⟩ := hP
  have hx := Bd.exec
  have hby := Bd.bytes
  have hml : c.maxLocals = 2 := hml0
  have hown : s.vm.findClass "com/example/mapstone/mapstone/engine/Decision" = some m.cls := findClass_of_methodNamed Bd.named
  have hnm := (name_of_methodNamed Bd.named Bd.method).1
  have X0 : Stand p l e ({ frames := 0, cells := 0, slots := 0, locals := 0 } : Room) s m #[(.ref dN), (.ref dU)] below meth c s₁ [] 0 0 := Stand.of_body Bd
  have e0 : s₁.heap = h0 := by rw [← hh, Bd.state]; rfl
  have N0 := Fr.nil n0
  have pre0 : ∀ t, Steps p.tables e below (s₁.setTop (mkF m 0 #[.val (.ref dN), .val (.ref dU)] [])) t → Steps p.tables e below (s₁.setTop (entryFrame m #[(.ref dN), (.ref dU)] 2)) t := fun t k => castTop (ef_2 m dN dU) k
  have c2 : ∀ t, Steps p.tables e below (s₁.setTop (mkF m 1 #[.val (.ref dN), .val (.ref dU)] [(.ref dN)])) t → Steps p.tables e below (s₁.setTop (mkF m 0 #[.val (.ref dN), .val (.ref dU)] [])) t := by
    intro t kt
    show Steps p.tables e below (s₁.setTop (mkF m 0 #[.val (.ref dN), .val (.ref dU)] [])) _
    refine XS.aloadN X0.here hx rfl (hb hby d2_0) rfl rfl ?_
    exact kt
  obtain ⟨T1, X1, e1, st1⟩ := getS2 X0 hx hZ hown (host := "") (Or.inl (hw _ (List.mem_of_getElem? (i := 13) rfl))) Via.refl e0 SN (g := (mkF m 1 #[.val (.ref dN), .val (.ref dU)] [(.ref dN)])) rfl (hb hby d2_1)
  have c4 : ∀ t, Steps p.tables e below (T1.setTop (mkF m 14 #[.val (.ref dN), .val (.ref dU)] [])) t → Steps p.tables e below (T1.setTop (mkF m 4 #[.val (.ref dN), .val (.ref dU)] [(.ref dN), (.ref dN)])) t := by
    intro t kt
    show Steps p.tables e below (T1.setTop (mkF m 4 #[.val (.ref dN), .val (.ref dU)] [(.ref dN), (.ref dN)])) _
    refine Jvm.RoadKit.acmp (g := (mkF m 4 #[.val (.ref dN), .val (.ref dU)] [(.ref dN), (.ref dN)])) X1 hx rfl rfl rfl (pc0 := 4) (pc' := 14) (same := true) rfl (hb hby d2_4) rfl (decide_eq_true rfl) (by decide) (by decide) ?_
    exact kt
  obtain ⟨T3, X3, e3, st3⟩ := getS2 X1 hx hZ hown (host := "") (Or.inl (hw _ (List.mem_of_getElem? (i := 13) rfl))) Via.refl e1 SN (g := (mkF m 14 #[.val (.ref dN), .val (.ref dU)] [])) rfl (hb hby d2_14)
  obtain ⟨fs, hr, hrun, hended, hW, hsame⟩ := X3.leave (v := some (.ref dN)) (fun h => by rw [Bd.returns] at h; cases h)
  refine ⟨_, _, pre0 _ (c2 _ (st1 _ (c4 _ (st3 _ (?_))))), hrun, hended, _, _, rfl, ?_, ⟨_, rfl⟩, hW, hsame.mono (by decide) (by decide)⟩
  · show Steps p.tables e below (T3.setTop (mkF m 17 #[.val (.ref dN), .val (.ref dU)] [(.ref dN)])) _
    jvm_step X3.here [X3.here.top, hx, (hb hby d2_17), X3.method', Bd.returns, Value.isRef, FieldType.isReference]
    first | (intro acts; rw [hr _ acts rfl rfl rfl]) | rw [hr _ _ rfl rfl rfl]
    exact Steps.refl _
  · show Q2_NU Z dH dN dU h0 n0 _ T3.heap _
    rw [e3]
    exact ⟨congrArg (fun z => some (Value.ref z)) (show dN = dN from by rfl), N0, rfl⟩
def Q2_UH (Z : State) (dH dN dU : Addr) (h0 : Heap) (n0 : Nat) (v : Option Value) (h : Heap) (L : List Loc) : Prop := v = some (.ref dU) ∧ Fr n0 L ∧ h = h0
set_option maxRecDepth 65536 in
set_option maxHeartbeats 40000000 in
theorem rm2_UH (l : Launch) (Z : State) (a0 : Array Value) (hw : ∀ d ∈ tables_1, d.before a0 Z = true) (ws : List Jvm.Cond)  (dH dN dU : Addr) (h0 : Heap) (n0 : Nat) (Z0 : n0 ≤ h0.size) (SH : Sta Z h0 "com/example/mapstone/mapstone/engine/Decision" "HOLDS" "Lcom/example/mapstone/mapstone/engine/Decision;" (.ref dH)) (SN : Sta Z h0 "com/example/mapstone/mapstone/engine/Decision" "DOES_NOT_HOLD" "Lcom/example/mapstone/mapstone/engine/Decision;" (.ref dN)) (SU : Sta Z h0 "com/example/mapstone/mapstone/engine/Decision" "UNDECIDED" "Lcom/example/mapstone/mapstone/engine/Decision;" (.ref dU)) (hHN : dH ≠ dN) (hHU : dH ≠ dU) (hNU : dN ≠ dU) :
    MetFree l (⟨"com/example/mapstone/mapstone/engine/Decision", "and", "(Lcom/example/mapstone/mapstone/engine/Decision;)Lcom/example/mapstone/mapstone/engine/Decision;"⟩ : MethodName) (head1 (Jvm.Cond.code (⟨"com/example/mapstone/mapstone/engine/Decision", "and", "(Lcom/example/mapstone/mapstone/engine/Decision;)Lcom/example/mapstone/mapstone/engine/Decision;"⟩ : MethodName) prog_19_method_4_code 2 (some (.object "com/example/mapstone/mapstone/engine/Decision")) :: ws) ({ frames := 0, cells := 0, slots := 0, locals := 0 } : Room)) (fun a U => a = #[(.ref dU), (.ref dH)] ∧ Z.Warmed39 U.vm ∧ U.heap = h0) (fun _ _ _ _ _ => True) (fun _ U o U' => ∃ v L, o = .returned v ∧ Q2_UH Z dH dN dU h0 n0 v U'.heap L ∧ FrameEnd U o U' L ({ frames := 0, cells := 0, slots := 0, locals := 0 } : Room).cells ({ frames := 0, cells := 0, slots := 0, locals := 0 } : Room).slots) := by
  refine MetFree.of_bodySF (plainFor_of_name pn_2) hisR ?_
  intro p e s m args below meth c s₁ Bd hml0 hP hK
  obtain ⟨rfl, hZ, hh⟩ := hP
  have hx := Bd.exec
  have hby := Bd.bytes
  have hml : c.maxLocals = 2 := hml0
  have hown : s.vm.findClass "com/example/mapstone/mapstone/engine/Decision" = some m.cls := findClass_of_methodNamed Bd.named
  have hnm := (name_of_methodNamed Bd.named Bd.method).1
  have X0 : Stand p l e ({ frames := 0, cells := 0, slots := 0, locals := 0 } : Room) s m #[(.ref dU), (.ref dH)] below meth c s₁ [] 0 0 := Stand.of_body Bd
  have e0 : s₁.heap = h0 := by rw [← hh, Bd.state]; rfl
  have N0 := Fr.nil n0
  have pre0 : ∀ t, Steps p.tables e below (s₁.setTop (mkF m 0 #[.val (.ref dU), .val (.ref dH)] [])) t → Steps p.tables e below (s₁.setTop (entryFrame m #[(.ref dU), (.ref dH)] 2)) t := fun t k => castTop (ef_2 m dU dH) k
  have c2 : ∀ t, Steps p.tables e below (s₁.setTop (mkF m 1 #[.val (.ref dU), .val (.ref dH)] [(.ref dU)])) t → Steps p.tables e below (s₁.setTop (mkF m 0 #[.val (.ref dU), .val (.ref dH)] [])) t := by
    intro t kt
    show Steps p.tables e below (s₁.setTop (mkF m 0 #[.val (.ref dU), .val (.ref dH)] [])) _
    refine XS.aloadN X0.here hx rfl (hb hby d2_0) rfl rfl ?_
    exact kt
  obtain ⟨T1, X1, e1, st1⟩ := getS2 X0 hx hZ hown (host := "") (Or.inl (hw _ (List.mem_of_getElem? (i := 13) rfl))) Via.refl e0 SN (g := (mkF m 1 #[.val (.ref dU), .val (.ref dH)] [(.ref dU)])) rfl (hb hby d2_1)
  have c4 : ∀ t, Steps p.tables e below (T1.setTop (mkF m 8 #[.val (.ref dU), .val (.ref dH)] [(.ref dH)])) t → Steps p.tables e below (T1.setTop (mkF m 4 #[.val (.ref dU), .val (.ref dH)] [(.ref dN), (.ref dU)])) t := by
    intro t kt
    show Steps p.tables e below (T1.setTop (mkF m 4 #[.val (.ref dU), .val (.ref dH)] [(.ref dN), (.ref dU)])) _
    refine Jvm.RoadKit.acmp (g := (mkF m 4 #[.val (.ref dU), .val (.ref dH)] [(.ref dN), (.ref dU)])) X1 hx rfl rfl rfl (pc0 := 4) (pc' := 7) (same := false) rfl (hb hby d2_4) rfl (decide_eq_false fun q => (Ne.symm hNU) (Value.ref.inj q)) (by decide) (by decide) ?_
    show Steps p.tables e below (T1.setTop (mkF m 7 #[.val (.ref dU), .val (.ref dH)] [])) _
    refine XS.aloadN X1.here hx rfl (hb hby d2_7) rfl rfl ?_
    exact kt
  obtain ⟨T3, X3, e3, st3⟩ := getS2 X1 hx hZ hown (host := "") (Or.inl (hw _ (List.mem_of_getElem? (i := 13) rfl))) Via.refl e1 SN (g := (mkF m 8 #[.val (.ref dU), .val (.ref dH)] [(.ref dH)])) rfl (hb hby d2_8)
  have c6 : ∀ t, Steps p.tables e below (T3.setTop (mkF m 19 #[.val (.ref dU), .val (.ref dH)] [(.ref dU)])) t → Steps p.tables e below (T3.setTop (mkF m 11 #[.val (.ref dU), .val (.ref dH)] [(.ref dN), (.ref dH)])) t := by
    intro t kt
    show Steps p.tables e below (T3.setTop (mkF m 11 #[.val (.ref dU), .val (.ref dH)] [(.ref dN), (.ref dH)])) _
    refine Jvm.RoadKit.acmp (g := (mkF m 11 #[.val (.ref dU), .val (.ref dH)] [(.ref dN), (.ref dH)])) X3 hx rfl rfl rfl (pc0 := 11) (pc' := 18) (same := false) rfl (hb hby d2_11) rfl (decide_eq_false fun q => hHN (Value.ref.inj q)) (by decide) (by decide) ?_
    show Steps p.tables e below (T3.setTop (mkF m 18 #[.val (.ref dU), .val (.ref dH)] [])) _
    refine XS.aloadN X3.here hx rfl (hb hby d2_18) rfl rfl ?_
    exact kt
  obtain ⟨T5, X5, e5, st5⟩ := getS2 X3 hx hZ hown (host := "") (Or.inl (hw _ (List.mem_of_getElem? (i := 15) rfl))) Via.refl e3 SH (g := (mkF m 19 #[.val (.ref dU), .val (.ref dH)] [(.ref dU)])) rfl (hb hby d2_19)
  have c8 : ∀ t, Steps p.tables e below (T5.setTop (mkF m 38 #[.val (.ref dU), .val (.ref dH)] [])) t → Steps p.tables e below (T5.setTop (mkF m 22 #[.val (.ref dU), .val (.ref dH)] [(.ref dH), (.ref dU)])) t := by
    intro t kt
    show Steps p.tables e below (T5.setTop (mkF m 22 #[.val (.ref dU), .val (.ref dH)] [(.ref dH), (.ref dU)])) _
    refine Jvm.RoadKit.acmp (g := (mkF m 22 #[.val (.ref dU), .val (.ref dH)] [(.ref dH), (.ref dU)])) X5 hx rfl rfl rfl (pc0 := 22) (pc' := 38) (same := false) rfl (hb hby d2_22) rfl (decide_eq_false fun q => (Ne.symm hHU) (Value.ref.inj q)) (by decide) (by decide) ?_
    exact kt
  obtain ⟨T7, X7, e7, st7⟩ := getS2 X5 hx hZ hown (host := "") (Or.inl (hw _ (List.mem_of_getElem? (i := 26) rfl))) Via.refl e5 SU (g := (mkF m 38 #[.val (.ref dU), .val (.ref dH)] [])) rfl (hb hby d2_38)
  obtain ⟨fs, hr, hrun, hended, hW, hsame⟩ := X7.leave (v := some (.ref dU)) (fun h => by rw [Bd.returns] at h; cases h)
  refine ⟨_, _, pre0 _ (c2 _ (st1 _ (c4 _ (st3 _ (c6 _ (st5 _ (c8 _ (st7 _ (?_))))))))), hrun, hended, _, _, rfl, ?_, ⟨_, rfl⟩, hW, hsame.mono (by decide) (by decide)⟩
  · show Steps p.tables e below (T7.setTop (mkF m 41 #[.val (.ref dU), .val (.ref dH)] [(.ref dU)])) _
    jvm_step X7.here [X7.here.top, hx, (hb hby d2_41), X7.method', Bd.returns, Value.isRef, FieldType.isReference]
    first | (intro acts; rw [hr _ acts rfl rfl rfl]) | rw [hr _ _ rfl rfl rfl]
    exact Steps.refl _
  · show Q2_UH Z dH dN dU h0 n0 _ T7.heap _
    rw [e7]
    exact ⟨congrArg (fun z => some (Value.ref z)) (show dU = dU from by rfl), N0, rfl⟩
def Q2_UN (Z : State) (dH dN dU : Addr) (h0 : Heap) (n0 : Nat) (v : Option Value) (h : Heap) (L : List Loc) : Prop := v = some (.ref dN) ∧ Fr n0 L ∧ h = h0
set_option maxRecDepth 65536 in
set_option maxHeartbeats 40000000 in
theorem rm2_UN (l : Launch) (Z : State) (a0 : Array Value) (hw : ∀ d ∈ tables_1, d.before a0 Z = true) (ws : List Jvm.Cond)  (dH dN dU : Addr) (h0 : Heap) (n0 : Nat) (Z0 : n0 ≤ h0.size) (SH : Sta Z h0 "com/example/mapstone/mapstone/engine/Decision" "HOLDS" "Lcom/example/mapstone/mapstone/engine/Decision;" (.ref dH)) (SN : Sta Z h0 "com/example/mapstone/mapstone/engine/Decision" "DOES_NOT_HOLD" "Lcom/example/mapstone/mapstone/engine/Decision;" (.ref dN)) (SU : Sta Z h0 "com/example/mapstone/mapstone/engine/Decision" "UNDECIDED" "Lcom/example/mapstone/mapstone/engine/Decision;" (.ref dU)) (hHN : dH ≠ dN) (hHU : dH ≠ dU) (hNU : dN ≠ dU) :
    MetFree l (⟨"com/example/mapstone/mapstone/engine/Decision", "and", "(Lcom/example/mapstone/mapstone/engine/Decision;)Lcom/example/mapstone/mapstone/engine/Decision;"⟩ : MethodName) (head1 (Jvm.Cond.code (⟨"com/example/mapstone/mapstone/engine/Decision", "and", "(Lcom/example/mapstone/mapstone/engine/Decision;)Lcom/example/mapstone/mapstone/engine/Decision;"⟩ : MethodName) prog_19_method_4_code 2 (some (.object "com/example/mapstone/mapstone/engine/Decision")) :: ws) ({ frames := 0, cells := 0, slots := 0, locals := 0 } : Room)) (fun a U => a = #[(.ref dU), (.ref dN)] ∧ Z.Warmed39 U.vm ∧ U.heap = h0) (fun _ _ _ _ _ => True) (fun _ U o U' => ∃ v L, o = .returned v ∧ Q2_UN Z dH dN dU h0 n0 v U'.heap L ∧ FrameEnd U o U' L ({ frames := 0, cells := 0, slots := 0, locals := 0 } : Room).cells ({ frames := 0, cells := 0, slots := 0, locals := 0 } : Room).slots) := by
  refine MetFree.of_bodySF (plainFor_of_name pn_2) hisR ?_
  intro p e s m args below meth c s₁ Bd hml0 hP hK
  obtain ⟨rfl, hZ, hh⟩ := hP
  have hx := Bd.exec
  have hby := Bd.bytes
  have hml : c.maxLocals = 2 := hml0
  have hown : s.vm.findClass "com/example/mapstone/mapstone/engine/Decision" = some m.cls := findClass_of_methodNamed Bd.named
  have hnm := (name_of_methodNamed Bd.named Bd.method).1
  have X0 : Stand p l e ({ frames := 0, cells := 0, slots := 0, locals := 0 } : Room) s m #[(.ref dU), (.ref dN)] below meth c s₁ [] 0 0 := Stand.of_body Bd
  have e0 : s₁.heap = h0 := by rw [← hh, Bd.state]; rfl
  have N0 := Fr.nil n0
  have pre0 : ∀ t, Steps p.tables e below (s₁.setTop (mkF m 0 #[.val (.ref dU), .val (.ref dN)] [])) t → Steps p.tables e below (s₁.setTop (entryFrame m #[(.ref dU), (.ref dN)] 2)) t := fun t k => castTop (ef_2 m dU dN) k
  have c2 : ∀ t, Steps p.tables e below (s₁.setTop (mkF m 1 #[.val (.ref dU), .val (.ref dN)] [(.ref dU)])) t → Steps p.tables e below (s₁.setTop (mkF m 0 #[.val (.ref dU), .val (.ref dN)] [])) t := by
    intro t kt
    show Steps p.tables e below (s₁.setTop (mkF m 0 #[.val (.ref dU), .val (.ref dN)] [])) _
    refine XS.aloadN X0.here hx rfl (hb hby d2_0) rfl rfl ?_
    exact kt
  obtain ⟨T1, X1, e1, st1⟩ := getS2 X0 hx hZ hown (host := "") (Or.inl (hw _ (List.mem_of_getElem? (i := 13) rfl))) Via.refl e0 SN (g := (mkF m 1 #[.val (.ref dU), .val (.ref dN)] [(.ref dU)])) rfl (hb hby d2_1)
  have c4 : ∀ t, Steps p.tables e below (T1.setTop (mkF m 8 #[.val (.ref dU), .val (.ref dN)] [(.ref dN)])) t → Steps p.tables e below (T1.setTop (mkF m 4 #[.val (.ref dU), .val (.ref dN)] [(.ref dN), (.ref dU)])) t := by
    intro t kt
    show Steps p.tables e below (T1.setTop (mkF m 4 #[.val (.ref dU), .val (.ref dN)] [(.ref dN), (.ref dU)])) _
    refine Jvm.RoadKit.acmp (g := (mkF m 4 #[.val (.ref dU), .val (.ref dN)] [(.ref dN), (.ref dU)])) X1 hx rfl rfl rfl (pc0 := 4) (pc' := 7) (same := false) rfl (hb hby d2_4) rfl (decide_eq_false fun q => (Ne.symm hNU) (Value.ref.inj q)) (by decide) (by decide) ?_
    show Steps p.tables e below (T1.setTop (mkF m 7 #[.val (.ref dU), .val (.ref dN)] [])) _
    refine XS.aloadN X1.here hx rfl (hb hby d2_7) rfl rfl ?_
    exact kt
  obtain ⟨T3, X3, e3, st3⟩ := getS2 X1 hx hZ hown (host := "") (Or.inl (hw _ (List.mem_of_getElem? (i := 13) rfl))) Via.refl e1 SN (g := (mkF m 8 #[.val (.ref dU), .val (.ref dN)] [(.ref dN)])) rfl (hb hby d2_8)
  have c6 : ∀ t, Steps p.tables e below (T3.setTop (mkF m 14 #[.val (.ref dU), .val (.ref dN)] [])) t → Steps p.tables e below (T3.setTop (mkF m 11 #[.val (.ref dU), .val (.ref dN)] [(.ref dN), (.ref dN)])) t := by
    intro t kt
    show Steps p.tables e below (T3.setTop (mkF m 11 #[.val (.ref dU), .val (.ref dN)] [(.ref dN), (.ref dN)])) _
    refine Jvm.RoadKit.acmp (g := (mkF m 11 #[.val (.ref dU), .val (.ref dN)] [(.ref dN), (.ref dN)])) X3 hx rfl rfl rfl (pc0 := 11) (pc' := 14) (same := true) rfl (hb hby d2_11) rfl (decide_eq_true rfl) (by decide) (by decide) ?_
    exact kt
  obtain ⟨T5, X5, e5, st5⟩ := getS2 X3 hx hZ hown (host := "") (Or.inl (hw _ (List.mem_of_getElem? (i := 13) rfl))) Via.refl e3 SN (g := (mkF m 14 #[.val (.ref dU), .val (.ref dN)] [])) rfl (hb hby d2_14)
  obtain ⟨fs, hr, hrun, hended, hW, hsame⟩ := X5.leave (v := some (.ref dN)) (fun h => by rw [Bd.returns] at h; cases h)
  refine ⟨_, _, pre0 _ (c2 _ (st1 _ (c4 _ (st3 _ (c6 _ (st5 _ (?_))))))), hrun, hended, _, _, rfl, ?_, ⟨_, rfl⟩, hW, hsame.mono (by decide) (by decide)⟩
  · show Steps p.tables e below (T5.setTop (mkF m 17 #[.val (.ref dU), .val (.ref dN)] [(.ref dN)])) _
    jvm_step X5.here [X5.here.top, hx, (hb hby d2_17), X5.method', Bd.returns, Value.isRef, FieldType.isReference]
    first | (intro acts; rw [hr _ acts rfl rfl rfl]) | rw [hr _ _ rfl rfl rfl]
    exact Steps.refl _
  · show Q2_UN Z dH dN dU h0 n0 _ T5.heap _
    rw [e5]
    exact ⟨congrArg (fun z => some (Value.ref z)) (show dN = dN from by rfl), N0, rfl⟩
def Q2_UU (Z : State) (dH dN dU : Addr) (h0 : Heap) (n0 : Nat) (v : Option Value) (h : Heap) (L : List Loc) : Prop := v = some (.ref dU) ∧ Fr n0 L ∧ h = h0
set_option maxRecDepth 65536 in
set_option maxHeartbeats 40000000 in
theorem rm2_UU (l : Launch) (Z : State) (a0 : Array Value) (hw : ∀ d ∈ tables_1, d.before a0 Z = true) (ws : List Jvm.Cond)  (dH dN dU : Addr) (h0 : Heap) (n0 : Nat) (Z0 : n0 ≤ h0.size) (SH : Sta Z h0 "com/example/mapstone/mapstone/engine/Decision" "HOLDS" "Lcom/example/mapstone/mapstone/engine/Decision;" (.ref dH)) (SN : Sta Z h0 "com/example/mapstone/mapstone/engine/Decision" "DOES_NOT_HOLD" "Lcom/example/mapstone/mapstone/engine/Decision;" (.ref dN)) (SU : Sta Z h0 "com/example/mapstone/mapstone/engine/Decision" "UNDECIDED" "Lcom/example/mapstone/mapstone/engine/Decision;" (.ref dU)) (hHN : dH ≠ dN) (hHU : dH ≠ dU) (hNU : dN ≠ dU) :
    MetFree l (⟨"com/example/mapstone/mapstone/engine/Decision", "and", "(Lcom/example/mapstone/mapstone/engine/Decision;)Lcom/example/mapstone/mapstone/engine/Decision;"⟩ : MethodName) (head1 (Jvm.Cond.code (⟨"com/example/mapstone/mapstone/engine/Decision", "and", "(Lcom/example/mapstone/mapstone/engine/Decision;)Lcom/example/mapstone/mapstone/engine/Decision;"⟩ : MethodName) prog_19_method_4_code 2 (some (.object "com/example/mapstone/mapstone/engine/Decision")) :: ws) ({ frames := 0, cells := 0, slots := 0, locals := 0 } : Room)) (fun a U => a = #[(.ref dU), (.ref dU)] ∧ Z.Warmed39 U.vm ∧ U.heap = h0) (fun _ _ _ _ _ => True) (fun _ U o U' => ∃ v L, o = .returned v ∧ Q2_UU Z dH dN dU h0 n0 v U'.heap L ∧ FrameEnd U o U' L ({ frames := 0, cells := 0, slots := 0, locals := 0 } : Room).cells ({ frames := 0, cells := 0, slots := 0, locals := 0 } : Room).slots) := by
  refine MetFree.of_bodySF (plainFor_of_name pn_2) hisR ?_
  intro p e s m args below meth c s₁ Bd hml0 hP hK
  obtain ⟨rfl, hZ, hh⟩ := hP
  have hx := Bd.exec
  have hby := Bd.bytes
  have hml : c.maxLocals = 2 := hml0
  have hown : s.vm.findClass "com/example/mapstone/mapstone/engine/Decision" = some m.cls := findClass_of_methodNamed Bd.named
  have hnm := (name_of_methodNamed Bd.named Bd.method).1
  have X0 : Stand p l e ({ frames := 0, cells := 0, slots := 0, locals := 0 } : Room) s m #[(.ref dU), (.ref dU)] below meth c s₁ [] 0 0 := Stand.of_body Bd
  have e0 : s₁.heap = h0 := by rw [← hh, Bd.state]; rfl
  have N0 := Fr.nil n0
  have pre0 : ∀ t, Steps p.tables e below (s₁.setTop (mkF m 0 #[.val (.ref dU), .val (.ref dU)] [])) t → Steps p.tables e below (s₁.setTop (entryFrame m #[(.ref dU), (.ref dU)] 2)) t := fun t k => castTop (ef_2 m dU dU) k
  have c2 : ∀ t, Steps p.tables e below (s₁.setTop (mkF m 1 #[.val (.ref dU), .val (.ref dU)] [(.ref dU)])) t → Steps p.tables e below (s₁.setTop (mkF m 0 #[.val (.ref dU), .val (.ref dU)] [])) t := by
    intro t kt
    show Steps p.tables e below (s₁.setTop (mkF m 0 #[.val (.ref dU), .val (.ref dU)] [])) _
    refine XS.aloadN X0.here hx rfl (hb hby d2_0) rfl rfl ?_
    exact kt
  obtain ⟨T1, X1, e1, st1⟩ := getS2 X0 hx hZ hown (host := "") (Or.inl (hw _ (List.mem_of_getElem? (i := 13) rfl))) Via.refl e0 SN (g := (mkF m 1 #[.val (.ref dU), .val (.ref dU)] [(.ref dU)])) rfl (hb hby d2_1)
  have c4 : ∀ t, Steps p.tables e below (T1.setTop (mkF m 8 #[.val (.ref dU), .val (.ref dU)] [(.ref dU)])) t → Steps p.tables e below (T1.setTop (mkF m 4 #[.val (.ref dU), .val (.ref dU)] [(.ref dN), (.ref dU)])) t := by
    intro t kt
    show Steps p.tables e below (T1.setTop (mkF m 4 #[.val (.ref dU), .val (.ref dU)] [(.ref dN), (.ref dU)])) _
    refine Jvm.RoadKit.acmp (g := (mkF m 4 #[.val (.ref dU), .val (.ref dU)] [(.ref dN), (.ref dU)])) X1 hx rfl rfl rfl (pc0 := 4) (pc' := 7) (same := false) rfl (hb hby d2_4) rfl (decide_eq_false fun q => (Ne.symm hNU) (Value.ref.inj q)) (by decide) (by decide) ?_
    show Steps p.tables e below (T1.setTop (mkF m 7 #[.val (.ref dU), .val (.ref dU)] [])) _
    refine XS.aloadN X1.here hx rfl (hb hby d2_7) rfl rfl ?_
    exact kt
  obtain ⟨T3, X3, e3, st3⟩ := getS2 X1 hx hZ hown (host := "") (Or.inl (hw _ (List.mem_of_getElem? (i := 13) rfl))) Via.refl e1 SN (g := (mkF m 8 #[.val (.ref dU), .val (.ref dU)] [(.ref dU)])) rfl (hb hby d2_8)
  have c6 : ∀ t, Steps p.tables e below (T3.setTop (mkF m 19 #[.val (.ref dU), .val (.ref dU)] [(.ref dU)])) t → Steps p.tables e below (T3.setTop (mkF m 11 #[.val (.ref dU), .val (.ref dU)] [(.ref dN), (.ref dU)])) t := by
    intro t kt
    show Steps p.tables e below (T3.setTop (mkF m 11 #[.val (.ref dU), .val (.ref dU)] [(.ref dN), (.ref dU)])) _
    refine Jvm.RoadKit.acmp (g := (mkF m 11 #[.val (.ref dU), .val (.ref dU)] [(.ref dN), (.ref dU)])) X3 hx rfl rfl rfl (pc0 := 11) (pc' := 18) (same := false) rfl (hb hby d2_11) rfl (decide_eq_false fun q => (Ne.symm hNU) (Value.ref.inj q)) (by decide) (by decide) ?_
    show Steps p.tables e below (T3.setTop (mkF m 18 #[.val (.ref dU), .val (.ref dU)] [])) _
    refine XS.aloadN X3.here hx rfl (hb hby d2_18) rfl rfl ?_
    exact kt
  obtain ⟨T5, X5, e5, st5⟩ := getS2 X3 hx hZ hown (host := "") (Or.inl (hw _ (List.mem_of_getElem? (i := 15) rfl))) Via.refl e3 SH (g := (mkF m 19 #[.val (.ref dU), .val (.ref dU)] [(.ref dU)])) rfl (hb hby d2_19)
  have c8 : ∀ t, Steps p.tables e below (T5.setTop (mkF m 38 #[.val (.ref dU), .val (.ref dU)] [])) t → Steps p.tables e below (T5.setTop (mkF m 22 #[.val (.ref dU), .val (.ref dU)] [(.ref dH), (.ref dU)])) t := by
    intro t kt
    show Steps p.tables e below (T5.setTop (mkF m 22 #[.val (.ref dU), .val (.ref dU)] [(.ref dH), (.ref dU)])) _
    refine Jvm.RoadKit.acmp (g := (mkF m 22 #[.val (.ref dU), .val (.ref dU)] [(.ref dH), (.ref dU)])) X5 hx rfl rfl rfl (pc0 := 22) (pc' := 38) (same := false) rfl (hb hby d2_22) rfl (decide_eq_false fun q => (Ne.symm hHU) (Value.ref.inj q)) (by decide) (by decide) ?_
    exact kt
  obtain ⟨T7, X7, e7, st7⟩ := getS2 X5 hx hZ hown (host := "") (Or.inl (hw _ (List.mem_of_getElem? (i := 26) rfl))) Via.refl e5 SU (g := (mkF m 38 #[.val (.ref dU), .val (.ref dU)] [])) rfl (hb hby d2_38)
  obtain ⟨fs, hr, hrun, hended, hW, hsame⟩ := X7.leave (v := some (.ref dU)) (fun h => by rw [Bd.returns] at h; cases h)
  refine ⟨_, _, pre0 _ (c2 _ (st1 _ (c4 _ (st3 _ (c6 _ (st5 _ (c8 _ (st7 _ (?_))))))))), hrun, hended, _, _, rfl, ?_, ⟨_, rfl⟩, hW, hsame.mono (by decide) (by decide)⟩
  · show Steps p.tables e below (T7.setTop (mkF m 41 #[.val (.ref dU), .val (.ref dU)] [(.ref dU)])) _
    jvm_step X7.here [X7.here.top, hx, (hb hby d2_41), X7.method', Bd.returns, Value.isRef, FieldType.isReference]
    first | (intro acts; rw [hr _ acts rfl rfl rfl]) | rw [hr _ _ rfl rfl rfl]
    exact Steps.refl _
  · show Q2_UU Z dH dN dU h0 n0 _ T7.heap _
    rw [e7]
    exact ⟨congrArg (fun z => some (Value.ref z)) (show dU = dU from by rfl), N0, rfl⟩
theorem d3_0 : decode method_3_code 0 = .ok (.aload_n 0, 1) := by decide +kernel
theorem d3_1 : decode method_3_code 1 = .ok (.getstatic 8, 3) := by decide +kernel
theorem d3_4 : decode method_3_code 4 = .ok (.if_acmp .ne 5, 3) := by decide +kernel
theorem d3_7 : decode method_3_code 7 = .ok (.iconst 2, 1) := by decide +kernel
theorem d3_8 : decode method_3_code 8 = .ok (.ireturn, 1) := by decide +kernel
theorem pn_3 : plainName "com/example/mapstone/mapstone/engine/DecisionAndPinLaw" = true := by first | (simp [plainName, overriddenIn]; done) | decide +kernel
theorem ef_3 (m : MethodId) (x0 : Addr) : entryFrame m #[(.ref x0)] 1 = mkF m 0 #[.val (.ref x0)] [] := by first | (simp [entryFrame, mkF, argsToLocals, Value.category]; done) | rfl
def Q3_H (Z : State) (dH dN dU : Addr) (h0 : Heap) (n0 : Nat) (v : Option Value) (h : Heap) (L : List Loc) : Prop := v = some (.int (2 : Int32)) ∧ Fr n0 L ∧ h = h0
set_option maxRecDepth 65536 in
set_option maxHeartbeats 40000000 in
theorem rm3_H (l : Launch) (Z : State) (a0 : Array Value) (hw : ∀ d ∈ tables_1, d.before a0 Z = true) (ws : List Jvm.Cond)  (dH dN dU : Addr) (h0 : Heap) (n0 : Nat) (Z0 : n0 ≤ h0.size) (SH : Sta Z h0 "com/example/mapstone/mapstone/engine/Decision" "HOLDS" "Lcom/example/mapstone/mapstone/engine/Decision;" (.ref dH)) (SN : Sta Z h0 "com/example/mapstone/mapstone/engine/Decision" "DOES_NOT_HOLD" "Lcom/example/mapstone/mapstone/engine/Decision;" (.ref dN)) (SU : Sta Z h0 "com/example/mapstone/mapstone/engine/Decision" "UNDECIDED" "Lcom/example/mapstone/mapstone/engine/Decision;" (.ref dU)) (hHN : dH ≠ dN) (hHU : dH ≠ dU) (hNU : dN ≠ dU) :
    MetFree l (⟨"com/example/mapstone/mapstone/engine/DecisionAndPinLaw", "rank", "(Lcom/example/mapstone/mapstone/engine/Decision;)I"⟩ : MethodName) (head1 (Jvm.Cond.code (⟨"com/example/mapstone/mapstone/engine/DecisionAndPinLaw", "rank", "(Lcom/example/mapstone/mapstone/engine/Decision;)I"⟩ : MethodName) method_3_code 1 (some .int) :: ws) ({ frames := 0, cells := 0, slots := 0, locals := 0 } : Room)) (fun a U => a = #[(.ref dH)] ∧ Z.Warmed39 U.vm ∧ U.heap = h0) (fun _ _ _ _ _ => True) (fun _ U o U' => ∃ v L, o = .returned v ∧ Q3_H Z dH dN dU h0 n0 v U'.heap L ∧ FrameEnd U o U' L ({ frames := 0, cells := 0, slots := 0, locals := 0 } : Room).cells ({ frames := 0, cells := 0, slots := 0, locals := 0 } : Room).slots) := by
  refine MetFree.of_bodySF (plainFor_of_name pn_3) hisR ?_
  intro p e s m args below meth c s₁ Bd hml0 hP hK
  obtain ⟨rfl, hZ, hh⟩ := hP
  have hx := Bd.exec
  have hby := Bd.bytes
  have hml : c.maxLocals = 1 := hml0
  have hown : s.vm.findClass "com/example/mapstone/mapstone/engine/DecisionAndPinLaw" = some m.cls := findClass_of_methodNamed Bd.named
  have hnm := (name_of_methodNamed Bd.named Bd.method).1
  have X0 : Stand p l e ({ frames := 0, cells := 0, slots := 0, locals := 0 } : Room) s m #[(.ref dH)] below meth c s₁ [] 0 0 := Stand.of_body Bd
  have e0 : s₁.heap = h0 := by rw [← hh, Bd.state]; rfl
  have N0 := Fr.nil n0
  have pre0 : ∀ t, Steps p.tables e below (s₁.setTop (mkF m 0 #[.val (.ref dH)] [])) t → Steps p.tables e below (s₁.setTop (entryFrame m #[(.ref dH)] 1)) t := fun t k => castTop (ef_3 m dH) k
  have c2 : ∀ t, Steps p.tables e below (s₁.setTop (mkF m 1 #[.val (.ref dH)] [(.ref dH)])) t → Steps p.tables e below (s₁.setTop (mkF m 0 #[.val (.ref dH)] [])) t := by
    intro t kt
    show Steps p.tables e below (s₁.setTop (mkF m 0 #[.val (.ref dH)] [])) _
    refine XS.aloadN X0.here hx rfl (hb hby d3_0) rfl rfl ?_
    exact kt
  obtain ⟨T1, X1, e1, st1⟩ := getS2 X0 hx hZ hown (host := "") (Or.inl (hw _ (List.mem_of_getElem? (i := 5) rfl))) Via.refl e0 SH (g := (mkF m 1 #[.val (.ref dH)] [(.ref dH)])) rfl (hb hby d3_1)
  have c3 : ∀ t, Steps p.tables e below (T1.setTop (mkF m 8 #[.val (.ref dH)] [(.int (2 : Int32))])) t → Steps p.tables e below (T1.setTop (mkF m 4 #[.val (.ref dH)] [(.ref dH), (.ref dH)])) t := by
    intro t kt
    show Steps p.tables e below (T1.setTop (mkF m 4 #[.val (.ref dH)] [(.ref dH), (.ref dH)])) _
    refine Jvm.RoadKit.acmp (g := (mkF m 4 #[.val (.ref dH)] [(.ref dH), (.ref dH)])) X1 hx rfl rfl rfl (pc0 := 4) (pc' := 7) (same := true) rfl (hb hby d3_4) rfl (decide_eq_true rfl) (by decide) (by decide) ?_
    show Steps p.tables e below (T1.setTop (mkF m 7 #[.val (.ref dH)] [])) _
    refine XS.iconst X1.here hx rfl (hb hby d3_7) ?_
    exact kt
  obtain ⟨fs, hr, hrun, hended, hW, hsame⟩ := X1.leave (v := some (.int (2 : Int32))) (fun h => by rw [Bd.returns] at h; cases h)
  refine ⟨_, _, pre0 _ (c2 _ (st1 _ (c3 _ (?_)))), hrun, hended, _, _, rfl, ?_, ⟨_, rfl⟩, hW, hsame.mono (by decide) (by decide)⟩
  · show Steps p.tables e below (T1.setTop (mkF m 8 #[.val (.ref dH)] [(.int (2 : Int32))])) _
    exact retI X1 hx Bd.returns (hb hby d3_8) hr
  · show Q3_H Z dH dN dU h0 n0 _ T1.heap _
    rw [e1]
    exact ⟨congrArg (fun z => some (Value.int z)) (show (2 : Int32) = (2 : Int32) from by rfl), N0, rfl⟩
theorem d3_9 : decode method_3_code 9 = .ok (.aload_n 0, 1) := by decide +kernel
theorem d3_10 : decode method_3_code 10 = .ok (.getstatic 17, 3) := by decide +kernel
theorem d3_13 : decode method_3_code 13 = .ok (.if_acmp .ne 5, 3) := by decide +kernel
theorem d3_18 : decode method_3_code 18 = .ok (.aload_n 0, 1) := by decide +kernel
theorem d3_19 : decode method_3_code 19 = .ok (.getstatic 14, 3) := by decide +kernel
theorem d3_22 : decode method_3_code 22 = .ok (.if_acmp .ne 5, 3) := by decide +kernel
theorem d3_25 : decode method_3_code 25 = .ok (.iconst 0, 1) := by decide +kernel
theorem d3_26 : decode method_3_code 26 = .ok (.ireturn, 1) := by decide +kernel
def Q3_N (Z : State) (dH dN dU : Addr) (h0 : Heap) (n0 : Nat) (v : Option Value) (h : Heap) (L : List Loc) : Prop := v = some (.int (0 : Int32)) ∧ Fr n0 L ∧ h = h0
set_option maxRecDepth 65536 in
set_option maxHeartbeats 40000000 in
theorem rm3_N (l : Launch) (Z : State) (a0 : Array Value) (hw : ∀ d ∈ tables_1, d.before a0 Z = true) (ws : List Jvm.Cond)  (dH dN dU : Addr) (h0 : Heap) (n0 : Nat) (Z0 : n0 ≤ h0.size) (SH : Sta Z h0 "com/example/mapstone/mapstone/engine/Decision" "HOLDS" "Lcom/example/mapstone/mapstone/engine/Decision;" (.ref dH)) (SN : Sta Z h0 "com/example/mapstone/mapstone/engine/Decision" "DOES_NOT_HOLD" "Lcom/example/mapstone/mapstone/engine/Decision;" (.ref dN)) (SU : Sta Z h0 "com/example/mapstone/mapstone/engine/Decision" "UNDECIDED" "Lcom/example/mapstone/mapstone/engine/Decision;" (.ref dU)) (hHN : dH ≠ dN) (hHU : dH ≠ dU) (hNU : dN ≠ dU) :
    MetFree l (⟨"com/example/mapstone/mapstone/engine/DecisionAndPinLaw", "rank", "(Lcom/example/mapstone/mapstone/engine/Decision;)I"⟩ : MethodName) (head1 (Jvm.Cond.code (⟨"com/example/mapstone/mapstone/engine/DecisionAndPinLaw", "rank", "(Lcom/example/mapstone/mapstone/engine/Decision;)I"⟩ : MethodName) method_3_code 1 (some .int) :: ws) ({ frames := 0, cells := 0, slots := 0, locals := 0 } : Room)) (fun a U => a = #[(.ref dN)] ∧ Z.Warmed39 U.vm ∧ U.heap = h0) (fun _ _ _ _ _ => True) (fun _ U o U' => ∃ v L, o = .returned v ∧ Q3_N Z dH dN dU h0 n0 v U'.heap L ∧ FrameEnd U o U' L ({ frames := 0, cells := 0, slots := 0, locals := 0 } : Room).cells ({ frames := 0, cells := 0, slots := 0, locals := 0 } : Room).slots) := by
  refine MetFree.of_bodySF (plainFor_of_name pn_3) hisR ?_
  intro p e s m args below meth c s₁ Bd hml0 hP hK
  obtain ⟨rfl, hZ, hh⟩ := hP
  have hx := Bd.exec
  have hby := Bd.bytes
  have hml : c.maxLocals = 1 := hml0
  have hown : s.vm.findClass "com/example/mapstone/mapstone/engine/DecisionAndPinLaw" = some m.cls := findClass_of_methodNamed Bd.named
  have hnm := (name_of_methodNamed Bd.named Bd.method).1
  have X0 : Stand p l e ({ frames := 0, cells := 0, slots := 0, locals := 0 } : Room) s m #[(.ref dN)] below meth c s₁ [] 0 0 := Stand.of_body Bd
  have e0 : s₁.heap = h0 := by rw [← hh, Bd.state]; rfl
  have N0 := Fr.nil n0
  have pre0 : ∀ t, Steps p.tables e below (s₁.setTop (mkF m 0 #[.val (.ref dN)] [])) t → Steps p.tables e below (s₁.setTop (entryFrame m #[(.ref dN)] 1)) t := fun t k => castTop (ef_3 m dN) k
  have c2 : ∀ t, Steps p.tables e below (s₁.setTop (mkF m 1 #[.val (.ref dN)] [(.ref dN)])) t → Steps p.tables e below (s₁.setTop (mkF m 0 #[.val (.ref dN)] [])) t := by
    intro t kt
    show Steps p.tables e below (s₁.setTop (mkF m 0 #[.val (.ref dN)] [])) _
    refine XS.aloadN X0.here hx rfl (hb hby d3_0) rfl rfl ?_
    exact kt
  obtain ⟨T1, X1, e1, st1⟩ := getS2 X0 hx hZ hown (host := "") (Or.inl (hw _ (List.mem_of_getElem? (i := 5) rfl))) Via.refl e0 SH (g := (mkF m 1 #[.val (.ref dN)] [(.ref dN)])) rfl (hb hby d3_1)
  have c4 : ∀ t, Steps p.tables e below (T1.setTop (mkF m 10 #[.val (.ref dN)] [(.ref dN)])) t → Steps p.tables e below (T1.setTop (mkF m 4 #[.val (.ref dN)] [(.ref dH), (.ref dN)])) t := by
    intro t kt
    show Steps p.tables e below (T1.setTop (mkF m 4 #[.val (.ref dN)] [(.ref dH), (.ref dN)])) _
    refine Jvm.RoadKit.acmp (g := (mkF m 4 #[.val (.ref dN)] [(.ref dH), (.ref dN)])) X1 hx rfl rfl rfl (pc0 := 4) (pc' := 9) (same := false) rfl (hb hby d3_4) rfl (decide_eq_false fun q => (Ne.symm hHN) (Value.ref.inj q)) (by decide) (by decide) ?_
    show Steps p.tables e below (T1.setTop (mkF m 9 #[.val (.ref dN)] [])) _
    refine XS.aloadN X1.here hx rfl (hb hby d3_9) rfl rfl ?_
    exact kt
  obtain ⟨T3, X3, e3, st3⟩ := getS2 X1 hx hZ hown (host := "") (Or.inl (hw _ (List.mem_of_getElem? (i := 23) rfl))) Via.refl e1 SU (g := (mkF m 10 #[.val (.ref dN)] [(.ref dN)])) rfl (hb hby d3_10)
  have c6 : ∀ t, Steps p.tables e below (T3.setTop (mkF m 19 #[.val (.ref dN)] [(.ref dN)])) t → Steps p.tables e below (T3.setTop (mkF m 13 #[.val (.ref dN)] [(.ref dU), (.ref dN)])) t := by
    intro t kt
    show Steps p.tables e below (T3.setTop (mkF m 13 #[.val (.ref dN)] [(.ref dU), (.ref dN)])) _
    refine Jvm.RoadKit.acmp (g := (mkF m 13 #[.val (.ref dN)] [(.ref dU), (.ref dN)])) X3 hx rfl rfl rfl (pc0 := 13) (pc' := 18) (same := false) rfl (hb hby d3_13) rfl (decide_eq_false fun q => hNU (Value.ref.inj q)) (by decide) (by decide) ?_
    show Steps p.tables e below (T3.setTop (mkF m 18 #[.val (.ref dN)] [])) _
    refine XS.aloadN X3.here hx rfl (hb hby d3_18) rfl rfl ?_
    exact kt
  obtain ⟨T5, X5, e5, st5⟩ := getS2 X3 hx hZ hown (host := "") (Or.inl (hw _ (List.mem_of_getElem? (i := 25) rfl))) Via.refl e3 SN (g := (mkF m 19 #[.val (.ref dN)] [(.ref dN)])) rfl (hb hby d3_19)
  have c7 : ∀ t, Steps p.tables e below (T5.setTop (mkF m 26 #[.val (.ref dN)] [(.int (0 : Int32))])) t → Steps p.tables e below (T5.setTop (mkF m 22 #[.val (.ref dN)] [(.ref dN), (.ref dN)])) t := by
    intro t kt
    show Steps p.tables e below (T5.setTop (mkF m 22 #[.val (.ref dN)] [(.ref dN), (.ref dN)])) _
    refine Jvm.RoadKit.acmp (g := (mkF m 22 #[.val (.ref dN)] [(.ref dN), (.ref dN)])) X5 hx rfl rfl rfl (pc0 := 22) (pc' := 25) (same := true) rfl (hb hby d3_22) rfl (decide_eq_true rfl) (by decide) (by decide) ?_
    show Steps p.tables e below (T5.setTop (mkF m 25 #[.val (.ref dN)] [])) _
    refine XS.iconst X5.here hx rfl (hb hby d3_25) ?_
    exact kt
  obtain ⟨fs, hr, hrun, hended, hW, hsame⟩ := X5.leave (v := some (.int (0 : Int32))) (fun h => by rw [Bd.returns] at h; cases h)
  refine ⟨_, _, pre0 _ (c2 _ (st1 _ (c4 _ (st3 _ (c6 _ (st5 _ (c7 _ (?_)))))))), hrun, hended, _, _, rfl, ?_, ⟨_, rfl⟩, hW, hsame.mono (by decide) (by decide)⟩
  · show Steps p.tables e below (T5.setTop (mkF m 26 #[.val (.ref dN)] [(.int (0 : Int32))])) _
    exact retI X5 hx Bd.returns (hb hby d3_26) hr
  · show Q3_N Z dH dN dU h0 n0 _ T5.heap _
    rw [e5]
    exact ⟨congrArg (fun z => some (Value.int z)) (show (0 : Int32) = (0 : Int32) from by rfl), N0, rfl⟩
theorem d3_16 : decode method_3_code 16 = .ok (.iconst 1, 1) := by decide +kernel
theorem d3_17 : decode method_3_code 17 = .ok (.ireturn, 1) := by decide +kernel
def Q3_U (Z : State) (dH dN dU : Addr) (h0 : Heap) (n0 : Nat) (v : Option Value) (h : Heap) (L : List Loc) : Prop := v = some (.int (1 : Int32)) ∧ Fr n0 L ∧ h = h0
set_option maxRecDepth 65536 in
set_option maxHeartbeats 40000000 in
theorem rm3_U (l : Launch) (Z : State) (a0 : Array Value) (hw : ∀ d ∈ tables_1, d.before a0 Z = true) (ws : List Jvm.Cond)  (dH dN dU : Addr) (h0 : Heap) (n0 : Nat) (Z0 : n0 ≤ h0.size) (SH : Sta Z h0 "com/example/mapstone/mapstone/engine/Decision" "HOLDS" "Lcom/example/mapstone/mapstone/engine/Decision;" (.ref dH)) (SN : Sta Z h0 "com/example/mapstone/mapstone/engine/Decision" "DOES_NOT_HOLD" "Lcom/example/mapstone/mapstone/engine/Decision;" (.ref dN)) (SU : Sta Z h0 "com/example/mapstone/mapstone/engine/Decision" "UNDECIDED" "Lcom/example/mapstone/mapstone/engine/Decision;" (.ref dU)) (hHN : dH ≠ dN) (hHU : dH ≠ dU) (hNU : dN ≠ dU) :
    MetFree l (⟨"com/example/mapstone/mapstone/engine/DecisionAndPinLaw", "rank", "(Lcom/example/mapstone/mapstone/engine/Decision;)I"⟩ : MethodName) (head1 (Jvm.Cond.code (⟨"com/example/mapstone/mapstone/engine/DecisionAndPinLaw", "rank", "(Lcom/example/mapstone/mapstone/engine/Decision;)I"⟩ : MethodName) method_3_code 1 (some .int) :: ws) ({ frames := 0, cells := 0, slots := 0, locals := 0 } : Room)) (fun a U => a = #[(.ref dU)] ∧ Z.Warmed39 U.vm ∧ U.heap = h0) (fun _ _ _ _ _ => True) (fun _ U o U' => ∃ v L, o = .returned v ∧ Q3_U Z dH dN dU h0 n0 v U'.heap L ∧ FrameEnd U o U' L ({ frames := 0, cells := 0, slots := 0, locals := 0 } : Room).cells ({ frames := 0, cells := 0, slots := 0, locals := 0 } : Room).slots) := by
  refine MetFree.of_bodySF (plainFor_of_name pn_3) hisR ?_
  intro p e s m args below meth c s₁ Bd hml0 hP hK
  obtain ⟨rfl, hZ, hh⟩ := hP
  have hx := Bd.exec
  have hby := Bd.bytes
  have hml : c.maxLocals = 1 := hml0
  have hown : s.vm.findClass "com/example/mapstone/mapstone/engine/DecisionAndPinLaw" = some m.cls := findClass_of_methodNamed Bd.named
  have hnm := (name_of_methodNamed Bd.named Bd.method).1
  have X0 : Stand p l e ({ frames := 0, cells := 0, slots := 0, locals := 0 } : Room) s m #[(.ref dU)] below meth c s₁ [] 0 0 := Stand.of_body Bd
  have e0 : s₁.heap = h0 := by rw [← hh, Bd.state]; rfl
  have N0 := Fr.nil n0
  have pre0 : ∀ t, Steps p.tables e below (s₁.setTop (mkF m 0 #[.val (.ref dU)] [])) t → Steps p.tables e below (s₁.setTop (entryFrame m #[(.ref dU)] 1)) t := fun t k => castTop (ef_3 m dU) k
  have c2 : ∀ t, Steps p.tables e below (s₁.setTop (mkF m 1 #[.val (.ref dU)] [(.ref dU)])) t → Steps p.tables e below (s₁.setTop (mkF m 0 #[.val (.ref dU)] [])) t := by
    intro t kt
    show Steps p.tables e below (s₁.setTop (mkF m 0 #[.val (.ref dU)] [])) _
    refine XS.aloadN X0.here hx rfl (hb hby d3_0) rfl rfl ?_
    exact kt
  obtain ⟨T1, X1, e1, st1⟩ := getS2 X0 hx hZ hown (host := "") (Or.inl (hw _ (List.mem_of_getElem? (i := 5) rfl))) Via.refl e0 SH (g := (mkF m 1 #[.val (.ref dU)] [(.ref dU)])) rfl (hb hby d3_1)
  have c4 : ∀ t, Steps p.tables e below (T1.setTop (mkF m 10 #[.val (.ref dU)] [(.ref dU)])) t → Steps p.tables e below (T1.setTop (mkF m 4 #[.val (.ref dU)] [(.ref dH), (.ref dU)])) t := by
    intro t kt
    show Steps p.tables e below (T1.setTop (mkF m 4 #[.val (.ref dU)] [(.ref dH), (.ref dU)])) _
    refine Jvm.RoadKit.acmp (g := (mkF m 4 #[.val (.ref dU)] [(.ref dH), (.ref dU)])) X1 hx rfl rfl rfl (pc0 := 4) (pc' := 9) (same := false) rfl (hb hby d3_4) rfl (decide_eq_false fun q => (Ne.symm hHU) (Value.ref.inj q)) (by decide) (by decide) ?_
    show Steps p.tables e below (T1.setTop (mkF m 9 #[.val (.ref dU)] [])) _
    refine XS.aloadN X1.here hx rfl (hb hby d3_9) rfl rfl ?_
    exact kt
  obtain ⟨T3, X3, e3, st3⟩ := getS2 X1 hx hZ hown (host := "") (Or.inl (hw _ (List.mem_of_getElem? (i := 23) rfl))) Via.refl e1 SU (g := (mkF m 10 #[.val (.ref dU)] [(.ref dU)])) rfl (hb hby d3_10)
  have c5 : ∀ t, Steps p.tables e below (T3.setTop (mkF m 17 #[.val (.ref dU)] [(.int (1 : Int32))])) t → Steps p.tables e below (T3.setTop (mkF m 13 #[.val (.ref dU)] [(.ref dU), (.ref dU)])) t := by
    intro t kt
    show Steps p.tables e below (T3.setTop (mkF m 13 #[.val (.ref dU)] [(.ref dU), (.ref dU)])) _
    refine Jvm.RoadKit.acmp (g := (mkF m 13 #[.val (.ref dU)] [(.ref dU), (.ref dU)])) X3 hx rfl rfl rfl (pc0 := 13) (pc' := 16) (same := true) rfl (hb hby d3_13) rfl (decide_eq_true rfl) (by decide) (by decide) ?_
    show Steps p.tables e below (T3.setTop (mkF m 16 #[.val (.ref dU)] [])) _
    refine XS.iconst X3.here hx rfl (hb hby d3_16) ?_
    exact kt
  obtain ⟨fs, hr, hrun, hended, hW, hsame⟩ := X3.leave (v := some (.int (1 : Int32))) (fun h => by rw [Bd.returns] at h; cases h)
  refine ⟨_, _, pre0 _ (c2 _ (st1 _ (c4 _ (st3 _ (c5 _ (?_)))))), hrun, hended, _, _, rfl, ?_, ⟨_, rfl⟩, hW, hsame.mono (by decide) (by decide)⟩
  · show Steps p.tables e below (T3.setTop (mkF m 17 #[.val (.ref dU)] [(.int (1 : Int32))])) _
    exact retI X3 hx Bd.returns (hb hby d3_17) hr
  · show Q3_U Z dH dN dU h0 n0 _ T3.heap _
    rw [e3]
    exact ⟨congrArg (fun z => some (Value.int z)) (show (1 : Int32) = (1 : Int32) from by rfl), N0, rfl⟩
theorem d4_0 : decode jdk_29_method_69_code 0 = .ok (.iload_n 0, 1) := by decide +kernel
theorem d4_1 : decode jdk_29_method_69_code 1 = .ok (.iload_n 1, 1) := by decide +kernel
theorem d4_2 : decode jdk_29_method_69_code 2 = .ok (.if_icmp .gt 7, 3) := by decide +kernel
theorem d4_5 : decode jdk_29_method_69_code 5 = .ok (.iload_n 0, 1) := by decide +kernel
theorem d4_6 : decode jdk_29_method_69_code 6 = .ok (.goto 4, 3) := by decide +kernel
theorem d4_9 : decode jdk_29_method_69_code 9 = .ok (.iload_n 1, 1) := by decide +kernel
theorem d4_10 : decode jdk_29_method_69_code 10 = .ok (.ireturn, 1) := by decide +kernel
theorem ef_4 (m : MethodId) (x0 : Int32) (x1 : Int32) : entryFrame m #[(.int x0), (.int x1)] 2 = mkF m 0 #[.val (.int x0), .val (.int x1)] [] := by first | (simp [entryFrame, mkF, argsToLocals, Value.category]; done) | rfl
def Q4 (Z : State) (p0 : Int32) (p1 : Int32) (h0 : Heap) (n0 : Nat) (v : Option Value) (h : Heap) (L : List Loc) : Prop := v = some (.int (own_min p0 p1)) ∧ Fr n0 L ∧ h = h0
set_option maxRecDepth 65536 in
set_option maxHeartbeats 40000000 in
theorem rm4 (l : Launch) (Z : State) (a0 : Array Value) (hw : ∀ d ∈ tables_1, d.before a0 Z = true) (ws : List Jvm.Cond) (p0 : Int32) (p1 : Int32)  (h0 : Heap) (n0 : Nat) (Z0 : n0 ≤ h0.size) :
    MetFree l (⟨"java/lang/Math", "min", "(II)I"⟩ : MethodName) (head1 (Jvm.Cond.code (⟨"java/lang/Math", "min", "(II)I"⟩ : MethodName) jdk_29_method_69_code 2 (some .int) :: ws) ({ frames := 0, cells := 0, slots := 0, locals := 0 } : Room)) (fun a U => a = #[(.int p0), (.int p1)] ∧ Z.Warmed39 U.vm ∧ U.heap = h0) (fun _ _ _ _ _ => True) (fun _ U o U' => ∃ v L, o = .returned v ∧ Q4 Z p0 p1 h0 n0 v U'.heap L ∧ FrameEnd U o U' L ({ frames := 0, cells := 0, slots := 0, locals := 0 } : Room).cells ({ frames := 0, cells := 0, slots := 0, locals := 0 } : Room).slots) := by
  refine MetFree.of_bodySF (Jvm.Free.JP.mathPlain rfl (by decide +kernel)) hisR ?_
  intro p e s m args below meth c s₁ Bd hml0 hP hK
  obtain ⟨rfl, hZ, hh⟩ := hP
  have hx := Bd.exec
  have hby := Bd.bytes
  have hml : c.maxLocals = 2 := hml0
  have hown : s.vm.findClass "java/lang/Math" = some m.cls := findClass_of_methodNamed Bd.named
  have hnm := (name_of_methodNamed Bd.named Bd.method).1
  have X0 : Stand p l e ({ frames := 0, cells := 0, slots := 0, locals := 0 } : Room) s m #[(.int p0), (.int p1)] below meth c s₁ [] 0 0 := Stand.of_body Bd
  have e0 : s₁.heap = h0 := by rw [← hh, Bd.state]; rfl
  have N0 := Fr.nil n0
  have pre0 : ∀ t, Steps p.tables e below (s₁.setTop (mkF m 0 #[.val (.int p0), .val (.int p1)] [])) t → Steps p.tables e below (s₁.setTop (entryFrame m #[(.int p0), (.int p1)] 2)) t := fun t k => castTop (ef_4 m p0 p1) k
  have c1 : ∀ t, Steps p.tables e below (s₁.setTop (mkF m 2 #[.val (.int p0), .val (.int p1)] [(.int p1), (.int p0)])) t → Steps p.tables e below (s₁.setTop (mkF m 0 #[.val (.int p0), .val (.int p1)] [])) t := by
    intro t kt
    show Steps p.tables e below (s₁.setTop (mkF m 0 #[.val (.int p0), .val (.int p1)] [])) _
    refine XS.iloadN X0.here hx rfl (hb hby d4_0) rfl ?_
    show Steps p.tables e below (s₁.setTop (mkF m 1 #[.val (.int p0), .val (.int p1)] [(.int p0)])) _
    refine XS.iloadN X0.here hx rfl (hb hby d4_1) rfl ?_
    exact kt
  by_cases hc2 : p1 < p0
  · -- it is
    have c2 : ∀ t, Steps p.tables e below (s₁.setTop (mkF m 10 #[.val (.int p0), .val (.int p1)] [(.int p1)])) t → Steps p.tables e below (s₁.setTop (mkF m 2 #[.val (.int p0), .val (.int p1)] [(.int p1), (.int p0)])) t := by
      intro t kt
      show Steps p.tables e below (s₁.setTop (mkF m 2 #[.val (.int p0), .val (.int p1)] [(.int p1), (.int p0)])) _
      refine XS.icmpYes X0.here hx rfl (pc0 := 2) (pc' := 9) rfl (hb hby d4_2) rfl (tlt hc2).2.2.1 (by decide) (by decide) ?_
      show Steps p.tables e below (s₁.setTop (mkF m 9 #[.val (.int p0), .val (.int p1)] [])) _
      refine XS.iloadN X0.here hx rfl (hb hby d4_9) rfl ?_
      exact kt
    obtain ⟨fs, hr, hrun, hended, hW, hsame⟩ := X0.leave (v := some (.int p1)) (fun h => by rw [Bd.returns] at h; cases h)
    refine ⟨_, _, pre0 _ (c1 _ (c2 _ (?_))), hrun, hended, _, _, rfl, ?_, ⟨_, rfl⟩, hW, hsame.mono (by decide) (by decide)⟩
    · show Steps p.tables e below (s₁.setTop (mkF m 10 #[.val (.int p0), .val (.int p1)] [(.int p1)])) _
      exact retI X0 hx Bd.returns (hb hby d4_10) hr
    · show Q4 Z p0 p1 h0 n0 _ s₁.heap _
      rw [e0]
      exact ⟨congrArg (fun z => some (Value.int z)) (show p1 = (own_min p0 p1) from by unfold own_min; simp only [hc2, if_true, if_false]), N0, rfl⟩
  · -- it isn't
    have c4 : ∀ t, Steps p.tables e below (s₁.setTop (mkF m 10 #[.val (.int p0), .val (.int p1)] [(.int p0)])) t → Steps p.tables e below (s₁.setTop (mkF m 2 #[.val (.int p0), .val (.int p1)] [(.int p1), (.int p0)])) t := by
      intro t kt
      show Steps p.tables e below (s₁.setTop (mkF m 2 #[.val (.int p0), .val (.int p1)] [(.int p1), (.int p0)])) _
      refine XS.icmpNo X0.here hx rfl (hb hby d4_2) rfl (flt hc2).2.2.1 ?_
      show Steps p.tables e below (s₁.setTop (mkF m 5 #[.val (.int p0), .val (.int p1)] [])) _
      refine XS.iloadN X0.here hx rfl (hb hby d4_5) rfl ?_
      show Steps p.tables e below (s₁.setTop (mkF m 6 #[.val (.int p0), .val (.int p1)] [(.int p0)])) _
      refine XS.goto X0.here hx rfl (pc0 := 6) (pc' := 10) rfl (hb hby d4_6) (by decide) (by decide) ?_
      exact kt
    obtain ⟨fs, hr, hrun, hended, hW, hsame⟩ := X0.leave (v := some (.int p0)) (fun h => by rw [Bd.returns] at h; cases h)
    refine ⟨_, _, pre0 _ (c1 _ (c4 _ (?_))), hrun, hended, _, _, rfl, ?_, ⟨_, rfl⟩, hW, hsame.mono (by decide) (by decide)⟩
    · show Steps p.tables e below (s₁.setTop (mkF m 10 #[.val (.int p0), .val (.int p1)] [(.int p0)])) _
      exact retI X0 hx Bd.returns (hb hby d4_10) hr
    · show Q4 Z p0 p1 h0 n0 _ s₁.heap _
      rw [e0]
      exact ⟨congrArg (fun z => some (Value.int z)) (show p0 = (own_min p0 p1) from by unfold own_min; simp only [hc2, if_true, if_false]), N0, rfl⟩
theorem pn_0 : plainName "com/example/mapstone/mapstone/engine/DecisionAndPinLaw" = true := by first | (simp [plainName, overriddenIn]; done) | decide +kernel
theorem ef_0 (m : MethodId) (x0 : Int32) (x1 : Int32) : entryFrame m #[(.int x0), (.int x1)] maxLocals = mkF m 0 #[.val (.int x0), .val (.int x1), .unset, .unset, .unset, .unset] [] := by first | (simp [entryFrame, mkF, argsToLocals, Value.category, maxLocals]; done) | rfl
def Q0 (Z : State) (p0 : Int32) (p1 : Int32) (dH dN dU : Addr) (h0 : Heap) (n0 : Nat) (v : Option Value) (h : Heap) (L : List Loc) : Prop := v = some (.int 1) ∧ Fr n0 L
set_option maxRecDepth 65536 in
set_option maxHeartbeats 40000000 in
theorem rm0 (l : Launch) (Z : State) (a0 : Array Value) (hw : ∀ d ∈ tables_1, d.before a0 Z = true) (ws : List Jvm.Cond) (p0 : Int32) (p1 : Int32) (dH dN dU : Addr) (h0 : Heap) (n0 : Nat) (Z0 : n0 ≤ h0.size) (SH : Sta Z h0 "com/example/mapstone/mapstone/engine/Decision" "HOLDS" "Lcom/example/mapstone/mapstone/engine/Decision;" (.ref dH)) (SN : Sta Z h0 "com/example/mapstone/mapstone/engine/Decision" "DOES_NOT_HOLD" "Lcom/example/mapstone/mapstone/engine/Decision;" (.ref dN)) (SU : Sta Z h0 "com/example/mapstone/mapstone/engine/Decision" "UNDECIDED" "Lcom/example/mapstone/mapstone/engine/Decision;" (.ref dU)) (hHN : dH ≠ dN) (hHU : dH ≠ dU) (hNU : dN ≠ dU) (EH : Exa Z h0 dH "com/example/mapstone/mapstone/engine/Decision") (EN : Exa Z h0 dN "com/example/mapstone/mapstone/engine/Decision") (EU : Exa Z h0 dU "com/example/mapstone/mapstone/engine/Decision") :
    MetFree l x (head1 (Jvm.Cond.code x code maxLocals ret :: ws) room_1) (fun a U => a = #[(.int p0), (.int p1)] ∧ Z.Warmed39 U.vm ∧ U.heap = h0) (fun _ _ _ _ _ => True) (fun _ U o U' => ∃ v L, o = .returned v ∧ Q0 Z p0 p1 dH dN dU h0 n0 v U'.heap L ∧ FrameEnd U o U' L room_1.cells room_1.slots) := by
  refine MetFree.of_bodySF (plainFor_of_name pn_0) hisR ?_
  intro p e s m args below meth c s₁ Bd hml0 hP hK
  obtain ⟨rfl, hZ, hh⟩ := hP
  have hx := Bd.exec
  have hby := Bd.bytes
  have hml : c.maxLocals = 6 := hml0
  have hown : s.vm.findClass "com/example/mapstone/mapstone/engine/DecisionAndPinLaw" = some m.cls := findClass_of_methodNamed Bd.named
  have hnm := (name_of_methodNamed Bd.named Bd.method).1
  have X0 : Stand p l e room_1 s m #[(.int p0), (.int p1)] below meth c s₁ [] 0 0 := Stand.of_body Bd
  have e0 : s₁.heap = h0 := by rw [← hh, Bd.state]; rfl
  have N0 := Fr.nil n0
  have pre0 : ∀ t, Steps p.tables e below (s₁.setTop (mkF m 0 #[.val (.int p0), .val (.int p1), .unset, .unset, .unset, .unset] [])) t → Steps p.tables e below (s₁.setTop (entryFrame m #[(.int p0), (.int p1)] maxLocals)) t := fun t k => castTop (ef_0 m p0 p1) k
  have c1 : ∀ t, Steps p.tables e below (s₁.setTop (mkF m 1 #[.val (.int p0), .val (.int p1), .unset, .unset, .unset, .unset] [(.int p0)])) t → Steps p.tables e below (s₁.setTop (mkF m 0 #[.val (.int p0), .val (.int p1), .unset, .unset, .unset, .unset] [])) t := by
    intro t kt
    show Steps p.tables e below (s₁.setTop (mkF m 0 #[.val (.int p0), .val (.int p1), .unset, .unset, .unset, .unset] [])) _
    refine XS.iloadN X0.here hx rfl (hb hby at_0) rfl ?_
    exact kt
  obtain ⟨_, _, ⟨T2, L2, k2, n2⟩, -, X2, ⟨Lc2, hQ2, l2, y2, z2⟩, st2⟩ := Jvm.LawKit.callS X0 hx (y := (⟨"com/example/mapstone/mapstone/engine/DecisionAndPinLaw", "pick", "(I)Lcom/example/mapstone/mapstone/engine/Decision;"⟩ : MethodName)) hown (mvT hZ (hw _ (List.mem_of_getElem? (i := 0) rfl))) (mvT hZ (hw _ (List.mem_of_getElem? (i := 1) rfl))) (mvT hZ (hw _ (List.mem_of_getElem? (i := 2) rfl))) (mvT hZ (hw _ (List.mem_of_getElem? (i := 3) rfl))) (by decide) (backOf (W := 0) (rm1 l Z a0 hw [] p0 dH dN dU h0 n0 Z0 SH SN SU) hZ (hw _ (List.mem_of_getElem? (i := 3) rfl)) (hw _ (List.mem_of_getElem? (i := 2) rfl)) (by decide) (by decide)) (g := (mkF m 1 #[.val (.int p0), .val (.int p1), .unset, .unset, .unset, .unset] [(.int p0)])) rfl (by rw [hml]; rfl) (argsL := [(.int p0)]) (rest := []) (lenOf pd_0 rfl) rfl (by show 2 * 0 + _ ≤ _; exact Nat.le_of_eq rfl) (hb hby at_1) (fun _ _ => ⟨rfl, e0, (by decide : 0 + 0 ≤ _), (by decide : 0 + 0 ≤ _)⟩)
  dsimp only [Pt.U, Pt.locs, Pt.cells, Pt.slots] at X2 l2 y2 z2 st2 hQ2
  subst l2 y2 z2
  obtain ⟨rfl, N2q, e2⟩ := hQ2
  have N2 := Fr.app N0 N2q
  have c3 : ∀ t, Steps p.tables e below (T2.setTop (mkF m 5 #[.val (.int p0), .val (.int p1), .val (.ref (own_pk dH dN dU p0)), .unset, .unset, .unset] [])) t → Steps p.tables e below (T2.setTop (mkF m 4 #[.val (.int p0), .val (.int p1), .unset, .unset, .unset, .unset] [(.ref (own_pk dH dN dU p0))])) t := by
    intro t kt
    show Steps p.tables e below (T2.setTop (mkF m 4 #[.val (.int p0), .val (.int p1), .unset, .unset, .unset, .unset] [(.ref (own_pk dH dN dU p0))])) _
    refine XS.astoreN X2.here hx rfl (hb hby at_4) rfl rfl (l' := #[.val (.int p0), .val (.int p1), .val (.ref (own_pk dH dN dU p0)), .unset, .unset, .unset]) rfl ?_
    exact kt
  rcases own_pk3 dH dN dU p0 with hkp0 | hkp0 | hkp0
  · skip
    have c4 : ∀ t, Steps p.tables e below (T2.setTop (mkF m 5 #[.val (.int p0), .val (.int p1), .val (.ref dH), .unset, .unset, .unset] [])) t → Steps p.tables e below (T2.setTop (mkF m 5 #[.val (.int p0), .val (.int p1), .val (.ref (own_pk dH dN dU p0)), .unset, .unset, .unset] [])) t := fun t kt => by rw [hkp0]; exact kt
    have c5 : ∀ t, Steps p.tables e below (T2.setTop (mkF m 6 #[.val (.int p0), .val (.int p1), .val (.ref dH), .unset, .unset, .unset] [(.int p1)])) t → Steps p.tables e below (T2.setTop (mkF m 5 #[.val (.int p0), .val (.int p1), .val (.ref dH), .unset, .unset, .unset] [])) t := by
      intro t kt
      show Steps p.tables e below (T2.setTop (mkF m 5 #[.val (.int p0), .val (.int p1), .val (.ref dH), .unset, .unset, .unset] [])) _
      refine XS.iloadN X2.here hx rfl (hb hby at_5) rfl ?_
      exact kt
    obtain ⟨_, _, ⟨T6, L6, k6, n6⟩, -, X6, ⟨Lc6, hQ6, l6, y6, z6⟩, st6⟩ := Jvm.LawKit.callS X2 hx (y := (⟨"com/example/mapstone/mapstone/engine/DecisionAndPinLaw", "pick", "(I)Lcom/example/mapstone/mapstone/engine/Decision;"⟩ : MethodName)) hown (mvT hZ (hw _ (List.mem_of_getElem? (i := 0) rfl))) (mvT hZ (hw _ (List.mem_of_getElem? (i := 1) rfl))) (mvT hZ (hw _ (List.mem_of_getElem? (i := 2) rfl))) (mvT hZ (hw _ (List.mem_of_getElem? (i := 3) rfl))) (by decide) (backOf (W := 0) (rm1 l Z a0 hw [] p1 dH dN dU h0 n0 Z0 SH SN SU) hZ (hw _ (List.mem_of_getElem? (i := 3) rfl)) (hw _ (List.mem_of_getElem? (i := 2) rfl)) (by decide) (by decide)) (g := (mkF m 6 #[.val (.int p0), .val (.int p1), .val (.ref dH), .unset, .unset, .unset] [(.int p1)])) rfl (by rw [hml]; rfl) (argsL := [(.int p1)]) (rest := []) (lenOf pd_0 rfl) rfl (by show 2 * 0 + _ ≤ _; exact Nat.le_of_eq rfl) (hb hby at_6) (fun _ _ => ⟨rfl, e2, (by decide : 0 + 0 ≤ _), (by decide : 0 + 0 ≤ _)⟩)
    dsimp only [Pt.U, Pt.locs, Pt.cells, Pt.slots] at X6 l6 y6 z6 st6 hQ6
    subst l6 y6 z6
    obtain ⟨rfl, N6q, e6⟩ := hQ6
    have N6 := Fr.app N2 N6q
    have c7 : ∀ t, Steps p.tables e below (T6.setTop (mkF m 10 #[.val (.int p0), .val (.int p1), .val (.ref dH), .val (.ref (own_pk dH dN dU p1)), .unset, .unset] [])) t → Steps p.tables e below (T6.setTop (mkF m 9 #[.val (.int p0), .val (.int p1), .val (.ref dH), .unset, .unset, .unset] [(.ref (own_pk dH dN dU p1))])) t := by
      intro t kt
      show Steps p.tables e below (T6.setTop (mkF m 9 #[.val (.int p0), .val (.int p1), .val (.ref dH), .unset, .unset, .unset] [(.ref (own_pk dH dN dU p1))])) _
      refine XS.astoreN X6.here hx rfl (hb hby at_9) rfl rfl (l' := #[.val (.int p0), .val (.int p1), .val (.ref dH), .val (.ref (own_pk dH dN dU p1)), .unset, .unset]) rfl ?_
      exact kt
    rcases own_pk3 dH dN dU p1 with hkp1 | hkp1 | hkp1
    · skip
      have c8 : ∀ t, Steps p.tables e below (T6.setTop (mkF m 10 #[.val (.int p0), .val (.int p1), .val (.ref dH), .val (.ref dH), .unset, .unset] [])) t → Steps p.tables e below (T6.setTop (mkF m 10 #[.val (.int p0), .val (.int p1), .val (.ref dH), .val (.ref (own_pk dH dN dU p1)), .unset, .unset] [])) t := fun t kt => by rw [hkp1]; exact kt
      have c9 : ∀ t, Steps p.tables e below (T6.setTop (mkF m 12 #[.val (.int p0), .val (.int p1), .val (.ref dH), .val (.ref dH), .unset, .unset] [(.ref dH), (.ref dH)])) t → Steps p.tables e below (T6.setTop (mkF m 10 #[.val (.int p0), .val (.int p1), .val (.ref dH), .val (.ref dH), .unset, .unset] [])) t := by
        intro t kt
        show Steps p.tables e below (T6.setTop (mkF m 10 #[.val (.int p0), .val (.int p1), .val (.ref dH), .val (.ref dH), .unset, .unset] [])) _
        refine XS.aloadN X6.here hx rfl (hb hby at_10) rfl rfl ?_
        show Steps p.tables e below (T6.setTop (mkF m 11 #[.val (.int p0), .val (.int p1), .val (.ref dH), .val (.ref dH), .unset, .unset] [(.ref dH)])) _
        refine XS.aloadN X6.here hx rfl (hb hby at_11) rfl rfl ?_
        exact kt
      obtain ⟨cq10, kq10, q10a, q10b, q10c⟩ := isOf hZ e6 EH
      obtain ⟨_, _, ⟨T11, L11, k11, n11⟩, -, X11, ⟨Lc11, hQ11, l11, y11, z11⟩, st11⟩ := X6.virtualBack hx (y := (⟨"com/example/mapstone/mapstone/engine/Decision", "and", "(Lcom/example/mapstone/mapstone/engine/Decision;)Lcom/example/mapstone/mapstone/engine/Decision;"⟩ : MethodName)) (z := (⟨"com/example/mapstone/mapstone/engine/Decision", "and", "(Lcom/example/mapstone/mapstone/engine/Decision;)Lcom/example/mapstone/mapstone/engine/Decision;"⟩ : MethodName)) hown (mvT hZ (hw _ (List.mem_of_getElem? (i := 8) rfl))) (mvT hZ (hw _ (List.mem_of_getElem? (i := 9) rfl))) (notFace_of_selects (args := #[]) (mvT hZ (hw _ (List.mem_of_getElem? (i := 11) rfl)))) (mvT hZ (hw _ (List.mem_of_getElem? (i := 11) rfl))) (mvT hZ (hw _ (List.mem_of_getElem? (i := 10) rfl))) (by decide) (backOf (W := 0) (rm2_HH l Z a0 hw []  dH dN dU h0 n0 Z0 SH SN SU hHN hHU hNU) hZ (hw _ (List.mem_of_getElem? (i := 12) rfl)) (hw _ (List.mem_of_getElem? (i := 6) rfl)) (by decide) (by decide)) q10a q10c (g := (mkF m 12 #[.val (.int p0), .val (.int p1), .val (.ref dH), .val (.ref dH), .unset, .unset] [(.ref dH), (.ref dH)])) rfl (by rw [hml]; rfl) (Steps.refl _) (argsL := [(.ref dH)]) (rest := []) (lenOf pd_1 rfl) rfl (by show 2 * 0 + _ ≤ _; exact Nat.le_of_eq rfl) (hb hby at_12) (fun _ _ => ⟨rfl, e6, (by decide : 0 + 0 ≤ _), (by decide : 0 + 0 ≤ _)⟩)
      dsimp only [Pt.U, Pt.locs, Pt.cells, Pt.slots] at X11 l11 y11 z11 st11 hQ11
      subst l11 y11 z11
      obtain ⟨rfl, N11q, e11⟩ := hQ11
      have N11 := Fr.app N6 N11q
      have c12 : ∀ t, Steps p.tables e below (T11.setTop (mkF m 18 #[.val (.int p0), .val (.int p1), .val (.ref dH), .val (.ref dH), .val (.ref dH), .unset] [(.ref dH)])) t → Steps p.tables e below (T11.setTop (mkF m 15 #[.val (.int p0), .val (.int p1), .val (.ref dH), .val (.ref dH), .unset, .unset] [(.ref dH)])) t := by
        intro t kt
        show Steps p.tables e below (T11.setTop (mkF m 15 #[.val (.int p0), .val (.int p1), .val (.ref dH), .val (.ref dH), .unset, .unset] [(.ref dH)])) _
        refine XS.astore X11.here hx rfl (hb hby at_15) rfl rfl (l' := #[.val (.int p0), .val (.int p1), .val (.ref dH), .val (.ref dH), .val (.ref dH), .unset]) rfl ?_
        show Steps p.tables e below (T11.setTop (mkF m 17 #[.val (.int p0), .val (.int p1), .val (.ref dH), .val (.ref dH), .val (.ref dH), .unset] [])) _
        refine XS.aloadN X11.here hx rfl (hb hby at_17) rfl rfl ?_
        exact kt
      obtain ⟨_, _, ⟨T13, L13, k13, n13⟩, -, X13, ⟨Lc13, hQ13, l13, y13, z13⟩, st13⟩ := Jvm.LawKit.callS X11 hx (y := (⟨"com/example/mapstone/mapstone/engine/DecisionAndPinLaw", "rank", "(Lcom/example/mapstone/mapstone/engine/Decision;)I"⟩ : MethodName)) hown (mvT hZ (hw _ (List.mem_of_getElem? (i := 16) rfl))) (mvT hZ (hw _ (List.mem_of_getElem? (i := 17) rfl))) (mvT hZ (hw _ (List.mem_of_getElem? (i := 2) rfl))) (mvT hZ (hw _ (List.mem_of_getElem? (i := 18) rfl))) (by decide) (backOf (W := 0) (rm3_H l Z a0 hw []  dH dN dU h0 n0 Z0 SH SN SU hHN hHU hNU) hZ (hw _ (List.mem_of_getElem? (i := 18) rfl)) (hw _ (List.mem_of_getElem? (i := 2) rfl)) (by decide) (by decide)) (g := (mkF m 18 #[.val (.int p0), .val (.int p1), .val (.ref dH), .val (.ref dH), .val (.ref dH), .unset] [(.ref dH)])) rfl (by rw [hml]; rfl) (argsL := [(.ref dH)]) (rest := []) (lenOf pd_2 rfl) rfl (by show 2 * 0 + _ ≤ _; exact Nat.le_of_eq rfl) (hb hby at_18) (fun _ _ => ⟨rfl, e11, (by decide : 0 + 0 ≤ _), (by decide : 0 + 0 ≤ _)⟩)
      dsimp only [Pt.U, Pt.locs, Pt.cells, Pt.slots] at X13 l13 y13 z13 st13 hQ13
      subst l13 y13 z13
      obtain ⟨rfl, N13q, e13⟩ := hQ13
      have N13 := Fr.app N11 N13q
      have c14 : ∀ t, Steps p.tables e below (T13.setTop (mkF m 22 #[.val (.int p0), .val (.int p1), .val (.ref dH), .val (.ref dH), .val (.ref dH), .unset] [(.ref dH), (.int (2 : Int32))])) t → Steps p.tables e below (T13.setTop (mkF m 21 #[.val (.int p0), .val (.int p1), .val (.ref dH), .val (.ref dH), .val (.ref dH), .unset] [(.int (2 : Int32))])) t := by
        intro t kt
        show Steps p.tables e below (T13.setTop (mkF m 21 #[.val (.int p0), .val (.int p1), .val (.ref dH), .val (.ref dH), .val (.ref dH), .unset] [(.int (2 : Int32))])) _
        refine XS.aloadN X13.here hx rfl (hb hby at_21) rfl rfl ?_
        exact kt
      obtain ⟨_, _, ⟨T15, L15, k15, n15⟩, -, X15, ⟨Lc15, hQ15, l15, y15, z15⟩, st15⟩ := Jvm.LawKit.callS X13 hx (y := (⟨"com/example/mapstone/mapstone/engine/DecisionAndPinLaw", "rank", "(Lcom/example/mapstone/mapstone/engine/Decision;)I"⟩ : MethodName)) hown (mvT hZ (hw _ (List.mem_of_getElem? (i := 16) rfl))) (mvT hZ (hw _ (List.mem_of_getElem? (i := 17) rfl))) (mvT hZ (hw _ (List.mem_of_getElem? (i := 2) rfl))) (mvT hZ (hw _ (List.mem_of_getElem? (i := 18) rfl))) (by decide) (backOf (W := 1) (rm3_H l Z a0 hw []  dH dN dU h0 n0 Z0 SH SN SU hHN hHU hNU) hZ (hw _ (List.mem_of_getElem? (i := 18) rfl)) (hw _ (List.mem_of_getElem? (i := 2) rfl)) (by decide) (by decide)) (g := (mkF m 22 #[.val (.int p0), .val (.int p1), .val (.ref dH), .val (.ref dH), .val (.ref dH), .unset] [(.ref dH), (.int (2 : Int32))])) rfl (by rw [hml]; rfl) (argsL := [(.ref dH)]) (rest := [(.int (2 : Int32))]) (lenOf pd_2 rfl) rfl (by show 2 * 0 + _ ≤ _; exact Nat.le_of_eq rfl) (hb hby at_22) (fun _ _ => ⟨rfl, e13, (by decide : 0 + 0 ≤ _), (by decide : 0 + 0 ≤ _)⟩)
      dsimp only [Pt.U, Pt.locs, Pt.cells, Pt.slots] at X15 l15 y15 z15 st15 hQ15
      subst l15 y15 z15
      obtain ⟨rfl, N15q, e15⟩ := hQ15
      have N15 := Fr.app N13 N15q
      obtain ⟨_, _, ⟨T16, L16, k16, n16⟩, -, X16, ⟨Lc16, hQ16, l16, y16, z16⟩, st16⟩ := Jvm.LawKit.callS X15 hx (y := (⟨"java/lang/Math", "min", "(II)I"⟩ : MethodName)) hown (mvT hZ (hw _ (List.mem_of_getElem? (i := 19) rfl))) (mvT hZ (hw _ (List.mem_of_getElem? (i := 20) rfl))) (mvT hZ (hw _ (List.mem_of_getElem? (i := 21) rfl))) (mvT hZ (hw _ (List.mem_of_getElem? (i := 22) rfl))) (by decide) (backOf (W := 0) (rm4 l Z a0 hw [] (2 : Int32) (2 : Int32)  h0 n0 Z0 ) hZ (hw _ (List.mem_of_getElem? (i := 22) rfl)) (hw _ (List.mem_of_getElem? (i := 21) rfl)) (by decide) (by decide)) (g := (mkF m 25 #[.val (.int p0), .val (.int p1), .val (.ref dH), .val (.ref dH), .val (.ref dH), .unset] [(.int (2 : Int32)), (.int (2 : Int32))])) rfl (by rw [hml]; rfl) (argsL := [(.int (2 : Int32)), (.int (2 : Int32))]) (rest := []) (lenOf pd_3 rfl) rfl (by show 2 * 0 + _ ≤ _; exact Nat.le_of_eq rfl) (hb hby at_25) (fun _ _ => ⟨rfl, e15, (by decide : 0 + 0 ≤ _), (by decide : 0 + 0 ≤ _)⟩)
      dsimp only [Pt.U, Pt.locs, Pt.cells, Pt.slots] at X16 l16 y16 z16 st16 hQ16
      subst l16 y16 z16
      obtain ⟨rfl, N16q, e16⟩ := hQ16
      have N16 := Fr.app N15 N16q
      have c17 : ∀ t, Steps p.tables e below (T16.setTop (mkF m 37 #[.val (.int p0), .val (.int p1), .val (.ref dH), .val (.ref dH), .val (.ref dH), .val (.int (own_min (2 : Int32) (2 : Int32)))] [(.ref dH)])) t → Steps p.tables e below (T16.setTop (mkF m 28 #[.val (.int p0), .val (.int p1), .val (.ref dH), .val (.ref dH), .val (.ref dH), .unset] [(.int (own_min (2 : Int32) (2 : Int32)))])) t := by
        intro t kt
        show Steps p.tables e below (T16.setTop (mkF m 28 #[.val (.int p0), .val (.int p1), .val (.ref dH), .val (.ref dH), .val (.ref dH), .unset] [(.int (own_min (2 : Int32) (2 : Int32)))])) _
        refine XS.istore X16.here hx rfl (hb hby at_28) rfl (l' := #[.val (.int p0), .val (.int p1), .val (.ref dH), .val (.ref dH), .val (.ref dH), .val (.int (own_min (2 : Int32) (2 : Int32)))]) rfl ?_
        show Steps p.tables e below (T16.setTop (mkF m 30 #[.val (.int p0), .val (.int p1), .val (.ref dH), .val (.ref dH), .val (.ref dH), .val (.int (own_min (2 : Int32) (2 : Int32)))] [])) _
        refine XS.aload X16.here hx rfl (hb hby at_30) rfl rfl ?_
        show Steps p.tables e below (T16.setTop (mkF m 32 #[.val (.int p0), .val (.int p1), .val (.ref dH), .val (.ref dH), .val (.ref dH), .val (.int (own_min (2 : Int32) (2 : Int32)))] [(.ref dH)])) _
        refine XS.ifnullNo X16.here hx rfl (hb hby at_32) rfl ?_
        show Steps p.tables e below (T16.setTop (mkF m 35 #[.val (.int p0), .val (.int p1), .val (.ref dH), .val (.ref dH), .val (.ref dH), .val (.int (own_min (2 : Int32) (2 : Int32)))] [])) _
        refine XS.aload X16.here hx rfl (hb hby at_35) rfl rfl ?_
        exact kt
      obtain ⟨_, _, ⟨T18, L18, k18, n18⟩, -, X18, ⟨Lc18, hQ18, l18, y18, z18⟩, st18⟩ := Jvm.LawKit.callS X16 hx (y := (⟨"com/example/mapstone/mapstone/engine/DecisionAndPinLaw", "rank", "(Lcom/example/mapstone/mapstone/engine/Decision;)I"⟩ : MethodName)) hown (mvT hZ (hw _ (List.mem_of_getElem? (i := 16) rfl))) (mvT hZ (hw _ (List.mem_of_getElem? (i := 17) rfl))) (mvT hZ (hw _ (List.mem_of_getElem? (i := 2) rfl))) (mvT hZ (hw _ (List.mem_of_getElem? (i := 18) rfl))) (by decide) (backOf (W := 0) (rm3_H l Z a0 hw []  dH dN dU h0 n0 Z0 SH SN SU hHN hHU hNU) hZ (hw _ (List.mem_of_getElem? (i := 18) rfl)) (hw _ (List.mem_of_getElem? (i := 2) rfl)) (by decide) (by decide)) (g := (mkF m 37 #[.val (.int p0), .val (.int p1), .val (.ref dH), .val (.ref dH), .val (.ref dH), .val (.int (own_min (2 : Int32) (2 : Int32)))] [(.ref dH)])) rfl (by rw [hml]; rfl) (argsL := [(.ref dH)]) (rest := []) (lenOf pd_2 rfl) rfl (by show 2 * 0 + _ ≤ _; exact Nat.le_of_eq rfl) (hb hby at_37) (fun _ _ => ⟨rfl, e16, (by decide : 0 + 0 ≤ _), (by decide : 0 + 0 ≤ _)⟩)
      dsimp only [Pt.U, Pt.locs, Pt.cells, Pt.slots] at X18 l18 y18 z18 st18 hQ18
      subst l18 y18 z18
      obtain ⟨rfl, N18q, e18⟩ := hQ18
      have N18 := Fr.app N16 N18q
      have c19 : ∀ t, Steps p.tables e below (T18.setTop (mkF m 50 #[.val (.int p0), .val (.int p1), .val (.ref dH), .val (.ref dH), .val (.ref dH), .val (.int (own_min (2 : Int32) (2 : Int32)))] [(.int (1 : Int32))])) t → Steps p.tables e below (T18.setTop (mkF m 40 #[.val (.int p0), .val (.int p1), .val (.ref dH), .val (.ref dH), .val (.ref dH), .val (.int (own_min (2 : Int32) (2 : Int32)))] [(.int (2 : Int32))])) t := by
        intro t kt
        show Steps p.tables e below (T18.setTop (mkF m 40 #[.val (.int p0), .val (.int p1), .val (.ref dH), .val (.ref dH), .val (.ref dH), .val (.int (own_min (2 : Int32) (2 : Int32)))] [(.int (2 : Int32))])) _
        refine XS.iload X18.here hx rfl (hb hby at_40) rfl ?_
        show Steps p.tables e below (T18.setTop (mkF m 42 #[.val (.int p0), .val (.int p1), .val (.ref dH), .val (.ref dH), .val (.ref dH), .val (.int (own_min (2 : Int32) (2 : Int32)))] [(.int (own_min (2 : Int32) (2 : Int32))), (.int (2 : Int32))])) _
        refine XS.icmpNo X18.here hx rfl (hb hby at_42) rfl (teq (by decide : (2 : Int32) = (own_min (2 : Int32) (2 : Int32)))).2 ?_
        show Steps p.tables e below (T18.setTop (mkF m 45 #[.val (.int p0), .val (.int p1), .val (.ref dH), .val (.ref dH), .val (.ref dH), .val (.int (own_min (2 : Int32) (2 : Int32)))] [])) _
        refine XS.iconst X18.here hx rfl (hb hby at_45) ?_
        show Steps p.tables e below (T18.setTop (mkF m 46 #[.val (.int p0), .val (.int p1), .val (.ref dH), .val (.ref dH), .val (.ref dH), .val (.int (own_min (2 : Int32) (2 : Int32)))] [(.int (1 : Int32))])) _
        refine XS.goto X18.here hx rfl (pc0 := 46) (pc' := 50) rfl (hb hby at_46) (by decide) (by decide) ?_
        exact kt
      obtain ⟨fs, hr, hrun, hended, hW, hsame⟩ := X18.leave (v := some (.int (1 : Int32))) (fun h => by rw [Bd.returns] at h; cases h)
      refine ⟨_, _, pre0 _ (c1 _ (st2 _ (c3 _ (c4 _ (c5 _ (st6 _ (c7 _ (c8 _ (c9 _ (st11.trans (c12 _ (st13 _ (c14 _ (st15 _ (st16 _ (c17 _ (st18 _ (c19 _ (?_))))))))))))))))))), hrun, hended, _, _, rfl, ?_, ⟨_, rfl⟩, hW, hsame.mono (by decide) (by decide)⟩
      · show Steps p.tables e below (T18.setTop (mkF m 50 #[.val (.int p0), .val (.int p1), .val (.ref dH), .val (.ref dH), .val (.ref dH), .val (.int (own_min (2 : Int32) (2 : Int32)))] [(.int (1 : Int32))])) _
        exact retN X18 hx (t := .boolean) Bd.returns (by simp) (hb hby at_50) hr
      · show Q0 Z p0 p1 dH dN dU h0 n0 _ T18.heap _
        rw [e18]
        exact ⟨congrArg (fun z => some (Value.int z)) (show (1 : Int32) = (1 : Int32) from by rfl), N18⟩
    · skip
      have c21 : ∀ t, Steps p.tables e below (T6.setTop (mkF m 10 #[.val (.int p0), .val (.int p1), .val (.ref dH), .val (.ref dN), .unset, .unset] [])) t → Steps p.tables e below (T6.setTop (mkF m 10 #[.val (.int p0), .val (.int p1), .val (.ref dH), .val (.ref (own_pk dH dN dU p1)), .unset, .unset] [])) t := fun t kt => by rw [hkp1]; exact kt
      have c22 : ∀ t, Steps p.tables e below (T6.setTop (mkF m 12 #[.val (.int p0), .val (.int p1), .val (.ref dH), .val (.ref dN), .unset, .unset] [(.ref dN), (.ref dH)])) t → Steps p.tables e below (T6.setTop (mkF m 10 #[.val (.int p0), .val (.int p1), .val (.ref dH), .val (.ref dN), .unset, .unset] [])) t := by
        intro t kt
        show Steps p.tables e below (T6.setTop (mkF m 10 #[.val (.int p0), .val (.int p1), .val (.ref dH), .val (.ref dN), .unset, .unset] [])) _
        refine XS.aloadN X6.here hx rfl (hb hby at_10) rfl rfl ?_
        show Steps p.tables e below (T6.setTop (mkF m 11 #[.val (.int p0), .val (.int p1), .val (.ref dH), .val (.ref dN), .unset, .unset] [(.ref dH)])) _
        refine XS.aloadN X6.here hx rfl (hb hby at_11) rfl rfl ?_
        exact kt
      obtain ⟨cq23, kq23, q23a, q23b, q23c⟩ := isOf hZ e6 EH
      obtain ⟨_, _, ⟨T24, L24, k24, n24⟩, -, X24, ⟨Lc24, hQ24, l24, y24, z24⟩, st24⟩ := X6.virtualBack hx (y := (⟨"com/example/mapstone/mapstone/engine/Decision", "and", "(Lcom/example/mapstone/mapstone/engine/Decision;)Lcom/example/mapstone/mapstone/engine/Decision;"⟩ : MethodName)) (z := (⟨"com/example/mapstone/mapstone/engine/Decision", "and", "(Lcom/example/mapstone/mapstone/engine/Decision;)Lcom/example/mapstone/mapstone/engine/Decision;"⟩ : MethodName)) hown (mvT hZ (hw _ (List.mem_of_getElem? (i := 8) rfl))) (mvT hZ (hw _ (List.mem_of_getElem? (i := 9) rfl))) (notFace_of_selects (args := #[]) (mvT hZ (hw _ (List.mem_of_getElem? (i := 11) rfl)))) (mvT hZ (hw _ (List.mem_of_getElem? (i := 11) rfl))) (mvT hZ (hw _ (List.mem_of_getElem? (i := 10) rfl))) (by decide) (backOf (W := 0) (rm2_HN l Z a0 hw []  dH dN dU h0 n0 Z0 SH SN SU hHN hHU hNU) hZ (hw _ (List.mem_of_getElem? (i := 12) rfl)) (hw _ (List.mem_of_getElem? (i := 6) rfl)) (by decide) (by decide)) q23a q23c (g := (mkF m 12 #[.val (.int p0), .val (.int p1), .val (.ref dH), .val (.ref dN), .unset, .unset] [(.ref dN), (.ref dH)])) rfl (by rw [hml]; rfl) (Steps.refl _) (argsL := [(.ref dN)]) (rest := []) (lenOf pd_1 rfl) rfl (by show 2 * 0 + _ ≤ _; exact Nat.le_of_eq rfl) (hb hby at_12) (fun _ _ => ⟨rfl, e6, (by decide : 0 + 0 ≤ _), (by decide : 0 + 0 ≤ _)⟩)
      dsimp only [Pt.U, Pt.locs, Pt.cells, Pt.slots] at X24 l24 y24 z24 st24 hQ24
      subst l24 y24 z24
      obtain ⟨rfl, N24q, e24⟩ := hQ24
      have N24 := Fr.app N6 N24q
      have c25 : ∀ t, Steps p.tables e below (T24.setTop (mkF m 18 #[.val (.int p0), .val (.int p1), .val (.ref dH), .val (.ref dN), .val (.ref dN), .unset] [(.ref dH)])) t → Steps p.tables e below (T24.setTop (mkF m 15 #[.val (.int p0), .val (.int p1), .val (.ref dH), .val (.ref dN), .unset, .unset] [(.ref dN)])) t := by
        intro t kt
        show Steps p.tables e below (T24.setTop (mkF m 15 #[.val (.int p0), .val (.int p1), .val (.ref dH), .val (.ref dN), .unset, .unset] [(.ref dN)])) _
        refine XS.astore X24.here hx rfl (hb hby at_15) rfl rfl (l' := #[.val (.int p0), .val (.int p1), .val (.ref dH), .val (.ref dN), .val (.ref dN), .unset]) rfl ?_
        show Steps p.tables e below (T24.setTop (mkF m 17 #[.val (.int p0), .val (.int p1), .val (.ref dH), .val (.ref dN), .val (.ref dN), .unset] [])) _
        refine XS.aloadN X24.here hx rfl (hb hby at_17) rfl rfl ?_
        exact kt
      obtain ⟨_, _, ⟨T26, L26, k26, n26⟩, -, X26, ⟨Lc26, hQ26, l26, y26, z26⟩, st26⟩ := Jvm.LawKit.callS X24 hx (y := (⟨"com/example/mapstone/mapstone/engine/DecisionAndPinLaw", "rank", "(Lcom/example/mapstone/mapstone/engine/Decision;)I"⟩ : MethodName)) hown (mvT hZ (hw _ (List.mem_of_getElem? (i := 16) rfl))) (mvT hZ (hw _ (List.mem_of_getElem? (i := 17) rfl))) (mvT hZ (hw _ (List.mem_of_getElem? (i := 2) rfl))) (mvT hZ (hw _ (List.mem_of_getElem? (i := 18) rfl))) (by decide) (backOf (W := 0) (rm3_H l Z a0 hw []  dH dN dU h0 n0 Z0 SH SN SU hHN hHU hNU) hZ (hw _ (List.mem_of_getElem? (i := 18) rfl)) (hw _ (List.mem_of_getElem? (i := 2) rfl)) (by decide) (by decide)) (g := (mkF m 18 #[.val (.int p0), .val (.int p1), .val (.ref dH), .val (.ref dN), .val (.ref dN), .unset] [(.ref dH)])) rfl (by rw [hml]; rfl) (argsL := [(.ref dH)]) (rest := []) (lenOf pd_2 rfl) rfl (by show 2 * 0 + _ ≤ _; exact Nat.le_of_eq rfl) (hb hby at_18) (fun _ _ => ⟨rfl, e24, (by decide : 0 + 0 ≤ _), (by decide : 0 + 0 ≤ _)⟩)
      dsimp only [Pt.U, Pt.locs, Pt.cells, Pt.slots] at X26 l26 y26 z26 st26 hQ26
      subst l26 y26 z26
      obtain ⟨rfl, N26q, e26⟩ := hQ26
      have N26 := Fr.app N24 N26q
      have c27 : ∀ t, Steps p.tables e below (T26.setTop (mkF m 22 #[.val (.int p0), .val (.int p1), .val (.ref dH), .val (.ref dN), .val (.ref dN), .unset] [(.ref dN), (.int (2 : Int32))])) t → Steps p.tables e below (T26.setTop (mkF m 21 #[.val (.int p0), .val (.int p1), .val (.ref dH), .val (.ref dN), .val (.ref dN), .unset] [(.int (2 : Int32))])) t := by
        intro t kt
        show Steps p.tables e below (T26.setTop (mkF m 21 #[.val (.int p0), .val (.int p1), .val (.ref dH), .val (.ref dN), .val (.ref dN), .unset] [(.int (2 : Int32))])) _
        refine XS.aloadN X26.here hx rfl (hb hby at_21) rfl rfl ?_
        exact kt
      obtain ⟨_, _, ⟨T28, L28, k28, n28⟩, -, X28, ⟨Lc28, hQ28, l28, y28, z28⟩, st28⟩ := Jvm.LawKit.callS X26 hx (y := (⟨"com/example/mapstone/mapstone/engine/DecisionAndPinLaw", "rank", "(Lcom/example/mapstone/mapstone/engine/Decision;)I"⟩ : MethodName)) hown (mvT hZ (hw _ (List.mem_of_getElem? (i := 16) rfl))) (mvT hZ (hw _ (List.mem_of_getElem? (i := 17) rfl))) (mvT hZ (hw _ (List.mem_of_getElem? (i := 2) rfl))) (mvT hZ (hw _ (List.mem_of_getElem? (i := 18) rfl))) (by decide) (backOf (W := 1) (rm3_N l Z a0 hw []  dH dN dU h0 n0 Z0 SH SN SU hHN hHU hNU) hZ (hw _ (List.mem_of_getElem? (i := 18) rfl)) (hw _ (List.mem_of_getElem? (i := 2) rfl)) (by decide) (by decide)) (g := (mkF m 22 #[.val (.int p0), .val (.int p1), .val (.ref dH), .val (.ref dN), .val (.ref dN), .unset] [(.ref dN), (.int (2 : Int32))])) rfl (by rw [hml]; rfl) (argsL := [(.ref dN)]) (rest := [(.int (2 : Int32))]) (lenOf pd_2 rfl) rfl (by show 2 * 0 + _ ≤ _; exact Nat.le_of_eq rfl) (hb hby at_22) (fun _ _ => ⟨rfl, e26, (by decide : 0 + 0 ≤ _), (by decide : 0 + 0 ≤ _)⟩)
      dsimp only [Pt.U, Pt.locs, Pt.cells, Pt.slots] at X28 l28 y28 z28 st28 hQ28
      subst l28 y28 z28
      obtain ⟨rfl, N28q, e28⟩ := hQ28
      have N28 := Fr.app N26 N28q
      obtain ⟨_, _, ⟨T29, L29, k29, n29⟩, -, X29, ⟨Lc29, hQ29, l29, y29, z29⟩, st29⟩ := Jvm.LawKit.callS X28 hx (y := (⟨"java/lang/Math", "min", "(II)I"⟩ : MethodName)) hown (mvT hZ (hw _ (List.mem_of_getElem? (i := 19) rfl))) (mvT hZ (hw _ (List.mem_of_getElem? (i := 20) rfl))) (mvT hZ (hw _ (List.mem_of_getElem? (i := 21) rfl))) (mvT hZ (hw _ (List.mem_of_getElem? (i := 22) rfl))) (by decide) (backOf (W := 0) (rm4 l Z a0 hw [] (2 : Int32) (0 : Int32)  h0 n0 Z0 ) hZ (hw _ (List.mem_of_getElem? (i := 22) rfl)) (hw _ (List.mem_of_getElem? (i := 21) rfl)) (by decide) (by decide)) (g := (mkF m 25 #[.val (.int p0), .val (.int p1), .val (.ref dH), .val (.ref dN), .val (.ref dN), .unset] [(.int (0 : Int32)), (.int (2 : Int32))])) rfl (by rw [hml]; rfl) (argsL := [(.int (2 : Int32)), (.int (0 : Int32))]) (rest := []) (lenOf pd_3 rfl) rfl (by show 2 * 0 + _ ≤ _; exact Nat.le_of_eq rfl) (hb hby at_25) (fun _ _ => ⟨rfl, e28, (by decide : 0 + 0 ≤ _), (by decide : 0 + 0 ≤ _)⟩)
      dsimp only [Pt.U, Pt.locs, Pt.cells, Pt.slots] at X29 l29 y29 z29 st29 hQ29
      subst l29 y29 z29
      obtain ⟨rfl, N29q, e29⟩ := hQ29
      have N29 := Fr.app N28 N29q
      have c30 : ∀ t, Steps p.tables e below (T29.setTop (mkF m 37 #[.val (.int p0), .val (.int p1), .val (.ref dH), .val (.ref dN), .val (.ref dN), .val (.int (own_min (2 : Int32) (0 : Int32)))] [(.ref dN)])) t → Steps p.tables e below (T29.setTop (mkF m 28 #[.val (.int p0), .val (.int p1), .val (.ref dH), .val (.ref dN), .val (.ref dN), .unset] [(.int (own_min (2 : Int32) (0 : Int32)))])) t := by
        intro t kt
        show Steps p.tables e below (T29.setTop (mkF m 28 #[.val (.int p0), .val (.int p1), .val (.ref dH), .val (.ref dN), .val (.ref dN), .unset] [(.int (own_min (2 : Int32) (0 : Int32)))])) _
        refine XS.istore X29.here hx rfl (hb hby at_28) rfl (l' := #[.val (.int p0), .val (.int p1), .val (.ref dH), .val (.ref dN), .val (.ref dN), .val (.int (own_min (2 : Int32) (0 : Int32)))]) rfl ?_
        show Steps p.tables e below (T29.setTop (mkF m 30 #[.val (.int p0), .val (.int p1), .val (.ref dH), .val (.ref dN), .val (.ref dN), .val (.int (own_min (2 : Int32) (0 : Int32)))] [])) _
        refine XS.aload X29.here hx rfl (hb hby at_30) rfl rfl ?_
        show Steps p.tables e below (T29.setTop (mkF m 32 #[.val (.int p0), .val (.int p1), .val (.ref dH), .val (.ref dN), .val (.ref dN), .val (.int (own_min (2 : Int32) (0 : Int32)))] [(.ref dN)])) _
        refine XS.ifnullNo X29.here hx rfl (hb hby at_32) rfl ?_
        show Steps p.tables e below (T29.setTop (mkF m 35 #[.val (.int p0), .val (.int p1), .val (.ref dH), .val (.ref dN), .val (.ref dN), .val (.int (own_min (2 : Int32) (0 : Int32)))] [])) _
        refine XS.aload X29.here hx rfl (hb hby at_35) rfl rfl ?_
        exact kt
      obtain ⟨_, _, ⟨T31, L31, k31, n31⟩, -, X31, ⟨Lc31, hQ31, l31, y31, z31⟩, st31⟩ := Jvm.LawKit.callS X29 hx (y := (⟨"com/example/mapstone/mapstone/engine/DecisionAndPinLaw", "rank", "(Lcom/example/mapstone/mapstone/engine/Decision;)I"⟩ : MethodName)) hown (mvT hZ (hw _ (List.mem_of_getElem? (i := 16) rfl))) (mvT hZ (hw _ (List.mem_of_getElem? (i := 17) rfl))) (mvT hZ (hw _ (List.mem_of_getElem? (i := 2) rfl))) (mvT hZ (hw _ (List.mem_of_getElem? (i := 18) rfl))) (by decide) (backOf (W := 0) (rm3_N l Z a0 hw []  dH dN dU h0 n0 Z0 SH SN SU hHN hHU hNU) hZ (hw _ (List.mem_of_getElem? (i := 18) rfl)) (hw _ (List.mem_of_getElem? (i := 2) rfl)) (by decide) (by decide)) (g := (mkF m 37 #[.val (.int p0), .val (.int p1), .val (.ref dH), .val (.ref dN), .val (.ref dN), .val (.int (own_min (2 : Int32) (0 : Int32)))] [(.ref dN)])) rfl (by rw [hml]; rfl) (argsL := [(.ref dN)]) (rest := []) (lenOf pd_2 rfl) rfl (by show 2 * 0 + _ ≤ _; exact Nat.le_of_eq rfl) (hb hby at_37) (fun _ _ => ⟨rfl, e29, (by decide : 0 + 0 ≤ _), (by decide : 0 + 0 ≤ _)⟩)
      dsimp only [Pt.U, Pt.locs, Pt.cells, Pt.slots] at X31 l31 y31 z31 st31 hQ31
      subst l31 y31 z31
      obtain ⟨rfl, N31q, e31⟩ := hQ31
      have N31 := Fr.app N29 N31q
      have c32 : ∀ t, Steps p.tables e below (T31.setTop (mkF m 50 #[.val (.int p0), .val (.int p1), .val (.ref dH), .val (.ref dN), .val (.ref dN), .val (.int (own_min (2 : Int32) (0 : Int32)))] [(.int (1 : Int32))])) t → Steps p.tables e below (T31.setTop (mkF m 40 #[.val (.int p0), .val (.int p1), .val (.ref dH), .val (.ref dN), .val (.ref dN), .val (.int (own_min (2 : Int32) (0 : Int32)))] [(.int (0 : Int32))])) t := by
        intro t kt
        show Steps p.tables e below (T31.setTop (mkF m 40 #[.val (.int p0), .val (.int p1), .val (.ref dH), .val (.ref dN), .val (.ref dN), .val (.int (own_min (2 : Int32) (0 : Int32)))] [(.int (0 : Int32))])) _
        refine XS.iload X31.here hx rfl (hb hby at_40) rfl ?_
        show Steps p.tables e below (T31.setTop (mkF m 42 #[.val (.int p0), .val (.int p1), .val (.ref dH), .val (.ref dN), .val (.ref dN), .val (.int (own_min (2 : Int32) (0 : Int32)))] [(.int (own_min (2 : Int32) (0 : Int32))), (.int (0 : Int32))])) _
        refine XS.icmpNo X31.here hx rfl (hb hby at_42) rfl (teq (by decide : (0 : Int32) = (own_min (2 : Int32) (0 : Int32)))).2 ?_
        show Steps p.tables e below (T31.setTop (mkF m 45 #[.val (.int p0), .val (.int p1), .val (.ref dH), .val (.ref dN), .val (.ref dN), .val (.int (own_min (2 : Int32) (0 : Int32)))] [])) _
        refine XS.iconst X31.here hx rfl (hb hby at_45) ?_
        show Steps p.tables e below (T31.setTop (mkF m 46 #[.val (.int p0), .val (.int p1), .val (.ref dH), .val (.ref dN), .val (.ref dN), .val (.int (own_min (2 : Int32) (0 : Int32)))] [(.int (1 : Int32))])) _
        refine XS.goto X31.here hx rfl (pc0 := 46) (pc' := 50) rfl (hb hby at_46) (by decide) (by decide) ?_
        exact kt
      obtain ⟨fs, hr, hrun, hended, hW, hsame⟩ := X31.leave (v := some (.int (1 : Int32))) (fun h => by rw [Bd.returns] at h; cases h)
      refine ⟨_, _, pre0 _ (c1 _ (st2 _ (c3 _ (c4 _ (c5 _ (st6 _ (c7 _ (c21 _ (c22 _ (st24.trans (c25 _ (st26 _ (c27 _ (st28 _ (st29 _ (c30 _ (st31 _ (c32 _ (?_))))))))))))))))))), hrun, hended, _, _, rfl, ?_, ⟨_, rfl⟩, hW, hsame.mono (by decide) (by decide)⟩
      · show Steps p.tables e below (T31.setTop (mkF m 50 #[.val (.int p0), .val (.int p1), .val (.ref dH), .val (.ref dN), .val (.ref dN), .val (.int (own_min (2 : Int32) (0 : Int32)))] [(.int (1 : Int32))])) _
        exact retN X31 hx (t := .boolean) Bd.returns (by simp) (hb hby at_50) hr
      · show Q0 Z p0 p1 dH dN dU h0 n0 _ T31.heap _
        rw [e31]
        exact ⟨congrArg (fun z => some (Value.int z)) (show (1 : Int32) = (1 : Int32) from by rfl), N31⟩
    · skip
      have c34 : ∀ t, Steps p.tables e below (T6.setTop (mkF m 10 #[.val (.int p0), .val (.int p1), .val (.ref dH), .val (.ref dU), .unset, .unset] [])) t → Steps p.tables e below (T6.setTop (mkF m 10 #[.val (.int p0), .val (.int p1), .val (.ref dH), .val (.ref (own_pk dH dN dU p1)), .unset, .unset] [])) t := fun t kt => by rw [hkp1]; exact kt
      have c35 : ∀ t, Steps p.tables e below (T6.setTop (mkF m 12 #[.val (.int p0), .val (.int p1), .val (.ref dH), .val (.ref dU), .unset, .unset] [(.ref dU), (.ref dH)])) t → Steps p.tables e below (T6.setTop (mkF m 10 #[.val (.int p0), .val (.int p1), .val (.ref dH), .val (.ref dU), .unset, .unset] [])) t := by
        intro t kt
        show Steps p.tables e below (T6.setTop (mkF m 10 #[.val (.int p0), .val (.int p1), .val (.ref dH), .val (.ref dU), .unset, .unset] [])) _
        refine XS.aloadN X6.here hx rfl (hb hby at_10) rfl rfl ?_
        show Steps p.tables e below (T6.setTop (mkF m 11 #[.val (.int p0), .val (.int p1), .val (.ref dH), .val (.ref dU), .unset, .unset] [(.ref dH)])) _
        refine XS.aloadN X6.here hx rfl (hb hby at_11) rfl rfl ?_
        exact kt
      obtain ⟨cq36, kq36, q36a, q36b, q36c⟩ := isOf hZ e6 EH
      obtain ⟨_, _, ⟨T37, L37, k37, n37⟩, -, X37, ⟨Lc37, hQ37, l37, y37, z37⟩, st37⟩ := X6.virtualBack hx (y := (⟨"com/example/mapstone/mapstone/engine/Decision", "and", "(Lcom/example/mapstone/mapstone/engine/Decision;)Lcom/example/mapstone/mapstone/engine/Decision;"⟩ : MethodName)) (z := (⟨"com/example/mapstone/mapstone/engine/Decision", "and", "(Lcom/example/mapstone/mapstone/engine/Decision;)Lcom/example/mapstone/mapstone/engine/Decision;"⟩ : MethodName)) hown (mvT hZ (hw _ (List.mem_of_getElem? (i := 8) rfl))) (mvT hZ (hw _ (List.mem_of_getElem? (i := 9) rfl))) (notFace_of_selects (args := #[]) (mvT hZ (hw _ (List.mem_of_getElem? (i := 11) rfl)))) (mvT hZ (hw _ (List.mem_of_getElem? (i := 11) rfl))) (mvT hZ (hw _ (List.mem_of_getElem? (i := 10) rfl))) (by decide) (backOf (W := 0) (rm2_HU l Z a0 hw []  dH dN dU h0 n0 Z0 SH SN SU hHN hHU hNU) hZ (hw _ (List.mem_of_getElem? (i := 12) rfl)) (hw _ (List.mem_of_getElem? (i := 6) rfl)) (by decide) (by decide)) q36a q36c (g := (mkF m 12 #[.val (.int p0), .val (.int p1), .val (.ref dH), .val (.ref dU), .unset, .unset] [(.ref dU), (.ref dH)])) rfl (by rw [hml]; rfl) (Steps.refl _) (argsL := [(.ref dU)]) (rest := []) (lenOf pd_1 rfl) rfl (by show 2 * 0 + _ ≤ _; exact Nat.le_of_eq rfl) (hb hby at_12) (fun _ _ => ⟨rfl, e6, (by decide : 0 + 0 ≤ _), (by decide : 0 + 0 ≤ _)⟩)
      dsimp only [Pt.U, Pt.locs, Pt.cells, Pt.slots] at X37 l37 y37 z37 st37 hQ37
      subst l37 y37 z37
      obtain ⟨rfl, N37q, e37⟩ := hQ37
      have N37 := Fr.app N6 N37q
      have c38 : ∀ t, Steps p.tables e below (T37.setTop (mkF m 18 #[.val (.int p0), .val (.int p1), .val (.ref dH), .val (.ref dU), .val (.ref dU), .unset] [(.ref dH)])) t → Steps p.tables e below (T37.setTop (mkF m 15 #[.val (.int p0), .val (.int p1), .val (.ref dH), .val (.ref dU), .unset, .unset] [(.ref dU)])) t := by
        intro t kt
        show Steps p.tables e below (T37.setTop (mkF m 15 #[.val (.int p0), .val (.int p1), .val (.ref dH), .val (.ref dU), .unset, .unset] [(.ref dU)])) _
        refine XS.astore X37.here hx rfl (hb hby at_15) rfl rfl (l' := #[.val (.int p0), .val (.int p1), .val (.ref dH), .val (.ref dU), .val (.ref dU), .unset]) rfl ?_
        show Steps p.tables e below (T37.setTop (mkF m 17 #[.val (.int p0), .val (.int p1), .val (.ref dH), .val (.ref dU), .val (.ref dU), .unset] [])) _
        refine XS.aloadN X37.here hx rfl (hb hby at_17) rfl rfl ?_
        exact kt
      obtain ⟨_, _, ⟨T39, L39, k39, n39⟩, -, X39, ⟨Lc39, hQ39, l39, y39, z39⟩, st39⟩ := Jvm.LawKit.callS X37 hx (y := (⟨"com/example/mapstone/mapstone/engine/DecisionAndPinLaw", "rank", "(Lcom/example/mapstone/mapstone/engine/Decision;)I"⟩ : MethodName)) hown (mvT hZ (hw _ (List.mem_of_getElem? (i := 16) rfl))) (mvT hZ (hw _ (List.mem_of_getElem? (i := 17) rfl))) (mvT hZ (hw _ (List.mem_of_getElem? (i := 2) rfl))) (mvT hZ (hw _ (List.mem_of_getElem? (i := 18) rfl))) (by decide) (backOf (W := 0) (rm3_H l Z a0 hw []  dH dN dU h0 n0 Z0 SH SN SU hHN hHU hNU) hZ (hw _ (List.mem_of_getElem? (i := 18) rfl)) (hw _ (List.mem_of_getElem? (i := 2) rfl)) (by decide) (by decide)) (g := (mkF m 18 #[.val (.int p0), .val (.int p1), .val (.ref dH), .val (.ref dU), .val (.ref dU), .unset] [(.ref dH)])) rfl (by rw [hml]; rfl) (argsL := [(.ref dH)]) (rest := []) (lenOf pd_2 rfl) rfl (by show 2 * 0 + _ ≤ _; exact Nat.le_of_eq rfl) (hb hby at_18) (fun _ _ => ⟨rfl, e37, (by decide : 0 + 0 ≤ _), (by decide : 0 + 0 ≤ _)⟩)
      dsimp only [Pt.U, Pt.locs, Pt.cells, Pt.slots] at X39 l39 y39 z39 st39 hQ39
      subst l39 y39 z39
      obtain ⟨rfl, N39q, e39⟩ := hQ39
      have N39 := Fr.app N37 N39q
      have c40 : ∀ t, Steps p.tables e below (T39.setTop (mkF m 22 #[.val (.int p0), .val (.int p1), .val (.ref dH), .val (.ref dU), .val (.ref dU), .unset] [(.ref dU), (.int (2 : Int32))])) t → Steps p.tables e below (T39.setTop (mkF m 21 #[.val (.int p0), .val (.int p1), .val (.ref dH), .val (.ref dU), .val (.ref dU), .unset] [(.int (2 : Int32))])) t := by
        intro t kt
        show Steps p.tables e below (T39.setTop (mkF m 21 #[.val (.int p0), .val (.int p1), .val (.ref dH), .val (.ref dU), .val (.ref dU), .unset] [(.int (2 : Int32))])) _
        refine XS.aloadN X39.here hx rfl (hb hby at_21) rfl rfl ?_
        exact kt
      obtain ⟨_, _, ⟨T41, L41, k41, n41⟩, -, X41, ⟨Lc41, hQ41, l41, y41, z41⟩, st41⟩ := Jvm.LawKit.callS X39 hx (y := (⟨"com/example/mapstone/mapstone/engine/DecisionAndPinLaw", "rank", "(Lcom/example/mapstone/mapstone/engine/Decision;)I"⟩ : MethodName)) hown (mvT hZ (hw _ (List.mem_of_getElem? (i := 16) rfl))) (mvT hZ (hw _ (List.mem_of_getElem? (i := 17) rfl))) (mvT hZ (hw _ (List.mem_of_getElem? (i := 2) rfl))) (mvT hZ (hw _ (List.mem_of_getElem? (i := 18) rfl))) (by decide) (backOf (W := 1) (rm3_U l Z a0 hw []  dH dN dU h0 n0 Z0 SH SN SU hHN hHU hNU) hZ (hw _ (List.mem_of_getElem? (i := 18) rfl)) (hw _ (List.mem_of_getElem? (i := 2) rfl)) (by decide) (by decide)) (g := (mkF m 22 #[.val (.int p0), .val (.int p1), .val (.ref dH), .val (.ref dU), .val (.ref dU), .unset] [(.ref dU), (.int (2 : Int32))])) rfl (by rw [hml]; rfl) (argsL := [(.ref dU)]) (rest := [(.int (2 : Int32))]) (lenOf pd_2 rfl) rfl (by show 2 * 0 + _ ≤ _; exact Nat.le_of_eq rfl) (hb hby at_22) (fun _ _ => ⟨rfl, e39, (by decide : 0 + 0 ≤ _), (by decide : 0 + 0 ≤ _)⟩)
      dsimp only [Pt.U, Pt.locs, Pt.cells, Pt.slots] at X41 l41 y41 z41 st41 hQ41
      subst l41 y41 z41
      obtain ⟨rfl, N41q, e41⟩ := hQ41
      have N41 := Fr.app N39 N41q
      obtain ⟨_, _, ⟨T42, L42, k42, n42⟩, -, X42, ⟨Lc42, hQ42, l42, y42, z42⟩, st42⟩ := Jvm.LawKit.callS X41 hx (y := (⟨"java/lang/Math", "min", "(II)I"⟩ : MethodName)) hown (mvT hZ (hw _ (List.mem_of_getElem? (i := 19) rfl))) (mvT hZ (hw _ (List.mem_of_getElem? (i := 20) rfl))) (mvT hZ (hw _ (List.mem_of_getElem? (i := 21) rfl))) (mvT hZ (hw _ (List.mem_of_getElem? (i := 22) rfl))) (by decide) (backOf (W := 0) (rm4 l Z a0 hw [] (2 : Int32) (1 : Int32)  h0 n0 Z0 ) hZ (hw _ (List.mem_of_getElem? (i := 22) rfl)) (hw _ (List.mem_of_getElem? (i := 21) rfl)) (by decide) (by decide)) (g := (mkF m 25 #[.val (.int p0), .val (.int p1), .val (.ref dH), .val (.ref dU), .val (.ref dU), .unset] [(.int (1 : Int32)), (.int (2 : Int32))])) rfl (by rw [hml]; rfl) (argsL := [(.int (2 : Int32)), (.int (1 : Int32))]) (rest := []) (lenOf pd_3 rfl) rfl (by show 2 * 0 + _ ≤ _; exact Nat.le_of_eq rfl) (hb hby at_25) (fun _ _ => ⟨rfl, e41, (by decide : 0 + 0 ≤ _), (by decide : 0 + 0 ≤ _)⟩)
      dsimp only [Pt.U, Pt.locs, Pt.cells, Pt.slots] at X42 l42 y42 z42 st42 hQ42
      subst l42 y42 z42
      obtain ⟨rfl, N42q, e42⟩ := hQ42
      have N42 := Fr.app N41 N42q
      have c43 : ∀ t, Steps p.tables e below (T42.setTop (mkF m 37 #[.val (.int p0), .val (.int p1), .val (.ref dH), .val (.ref dU), .val (.ref dU), .val (.int (own_min (2 : Int32) (1 : Int32)))] [(.ref dU)])) t → Steps p.tables e below (T42.setTop (mkF m 28 #[.val (.int p0), .val (.int p1), .val (.ref dH), .val (.ref dU), .val (.ref dU), .unset] [(.int (own_min (2 : Int32) (1 : Int32)))])) t := by
        intro t kt
        show Steps p.tables e below (T42.setTop (mkF m 28 #[.val (.int p0), .val (.int p1), .val (.ref dH), .val (.ref dU), .val (.ref dU), .unset] [(.int (own_min (2 : Int32) (1 : Int32)))])) _
        refine XS.istore X42.here hx rfl (hb hby at_28) rfl (l' := #[.val (.int p0), .val (.int p1), .val (.ref dH), .val (.ref dU), .val (.ref dU), .val (.int (own_min (2 : Int32) (1 : Int32)))]) rfl ?_
        show Steps p.tables e below (T42.setTop (mkF m 30 #[.val (.int p0), .val (.int p1), .val (.ref dH), .val (.ref dU), .val (.ref dU), .val (.int (own_min (2 : Int32) (1 : Int32)))] [])) _
        refine XS.aload X42.here hx rfl (hb hby at_30) rfl rfl ?_
        show Steps p.tables e below (T42.setTop (mkF m 32 #[.val (.int p0), .val (.int p1), .val (.ref dH), .val (.ref dU), .val (.ref dU), .val (.int (own_min (2 : Int32) (1 : Int32)))] [(.ref dU)])) _
        refine XS.ifnullNo X42.here hx rfl (hb hby at_32) rfl ?_
        show Steps p.tables e below (T42.setTop (mkF m 35 #[.val (.int p0), .val (.int p1), .val (.ref dH), .val (.ref dU), .val (.ref dU), .val (.int (own_min (2 : Int32) (1 : Int32)))] [])) _
        refine XS.aload X42.here hx rfl (hb hby at_35) rfl rfl ?_
        exact kt
      obtain ⟨_, _, ⟨T44, L44, k44, n44⟩, -, X44, ⟨Lc44, hQ44, l44, y44, z44⟩, st44⟩ := Jvm.LawKit.callS X42 hx (y := (⟨"com/example/mapstone/mapstone/engine/DecisionAndPinLaw", "rank", "(Lcom/example/mapstone/mapstone/engine/Decision;)I"⟩ : MethodName)) hown (mvT hZ (hw _ (List.mem_of_getElem? (i := 16) rfl))) (mvT hZ (hw _ (List.mem_of_getElem? (i := 17) rfl))) (mvT hZ (hw _ (List.mem_of_getElem? (i := 2) rfl))) (mvT hZ (hw _ (List.mem_of_getElem? (i := 18) rfl))) (by decide) (backOf (W := 0) (rm3_U l Z a0 hw []  dH dN dU h0 n0 Z0 SH SN SU hHN hHU hNU) hZ (hw _ (List.mem_of_getElem? (i := 18) rfl)) (hw _ (List.mem_of_getElem? (i := 2) rfl)) (by decide) (by decide)) (g := (mkF m 37 #[.val (.int p0), .val (.int p1), .val (.ref dH), .val (.ref dU), .val (.ref dU), .val (.int (own_min (2 : Int32) (1 : Int32)))] [(.ref dU)])) rfl (by rw [hml]; rfl) (argsL := [(.ref dU)]) (rest := []) (lenOf pd_2 rfl) rfl (by show 2 * 0 + _ ≤ _; exact Nat.le_of_eq rfl) (hb hby at_37) (fun _ _ => ⟨rfl, e42, (by decide : 0 + 0 ≤ _), (by decide : 0 + 0 ≤ _)⟩)
      dsimp only [Pt.U, Pt.locs, Pt.cells, Pt.slots] at X44 l44 y44 z44 st44 hQ44
      subst l44 y44 z44
      obtain ⟨rfl, N44q, e44⟩ := hQ44
      have N44 := Fr.app N42 N44q
      have c45 : ∀ t, Steps p.tables e below (T44.setTop (mkF m 50 #[.val (.int p0), .val (.int p1), .val (.ref dH), .val (.ref dU), .val (.ref dU), .val (.int (own_min (2 : Int32) (1 : Int32)))] [(.int (1 : Int32))])) t → Steps p.tables e below (T44.setTop (mkF m 40 #[.val (.int p0), .val (.int p1), .val (.ref dH), .val (.ref dU), .val (.ref dU), .val (.int (own_min (2 : Int32) (1 : Int32)))] [(.int (1 : Int32))])) t := by
        intro t kt
        show Steps p.tables e below (T44.setTop (mkF m 40 #[.val (.int p0), .val (.int p1), .val (.ref dH), .val (.ref dU), .val (.ref dU), .val (.int (own_min (2 : Int32) (1 : Int32)))] [(.int (1 : Int32))])) _
        refine XS.iload X44.here hx rfl (hb hby at_40) rfl ?_
        show Steps p.tables e below (T44.setTop (mkF m 42 #[.val (.int p0), .val (.int p1), .val (.ref dH), .val (.ref dU), .val (.ref dU), .val (.int (own_min (2 : Int32) (1 : Int32)))] [(.int (own_min (2 : Int32) (1 : Int32))), (.int (1 : Int32))])) _
        refine XS.icmpNo X44.here hx rfl (hb hby at_42) rfl (teq (by decide : (1 : Int32) = (own_min (2 : Int32) (1 : Int32)))).2 ?_
        show Steps p.tables e below (T44.setTop (mkF m 45 #[.val (.int p0), .val (.int p1), .val (.ref dH), .val (.ref dU), .val (.ref dU), .val (.int (own_min (2 : Int32) (1 : Int32)))] [])) _
        refine XS.iconst X44.here hx rfl (hb hby at_45) ?_
        show Steps p.tables e below (T44.setTop (mkF m 46 #[.val (.int p0), .val (.int p1), .val (.ref dH), .val (.ref dU), .val (.ref dU), .val (.int (own_min (2 : Int32) (1 : Int32)))] [(.int (1 : Int32))])) _
        refine XS.goto X44.here hx rfl (pc0 := 46) (pc' := 50) rfl (hb hby at_46) (by decide) (by decide) ?_
        exact kt
      obtain ⟨fs, hr, hrun, hended, hW, hsame⟩ := X44.leave (v := some (.int (1 : Int32))) (fun h => by rw [Bd.returns] at h; cases h)
      refine ⟨_, _, pre0 _ (c1 _ (st2 _ (c3 _ (c4 _ (c5 _ (st6 _ (c7 _ (c34 _ (c35 _ (st37.trans (c38 _ (st39 _ (c40 _ (st41 _ (st42 _ (c43 _ (st44 _ (c45 _ (?_))))))))))))))))))), hrun, hended, _, _, rfl, ?_, ⟨_, rfl⟩, hW, hsame.mono (by decide) (by decide)⟩
      · show Steps p.tables e below (T44.setTop (mkF m 50 #[.val (.int p0), .val (.int p1), .val (.ref dH), .val (.ref dU), .val (.ref dU), .val (.int (own_min (2 : Int32) (1 : Int32)))] [(.int (1 : Int32))])) _
        exact retN X44 hx (t := .boolean) Bd.returns (by simp) (hb hby at_50) hr
      · show Q0 Z p0 p1 dH dN dU h0 n0 _ T44.heap _
        rw [e44]
        exact ⟨congrArg (fun z => some (Value.int z)) (show (1 : Int32) = (1 : Int32) from by rfl), N44⟩
  · skip
    have c47 : ∀ t, Steps p.tables e below (T2.setTop (mkF m 5 #[.val (.int p0), .val (.int p1), .val (.ref dN), .unset, .unset, .unset] [])) t → Steps p.tables e below (T2.setTop (mkF m 5 #[.val (.int p0), .val (.int p1), .val (.ref (own_pk dH dN dU p0)), .unset, .unset, .unset] [])) t := fun t kt => by rw [hkp0]; exact kt
    have c48 : ∀ t, Steps p.tables e below (T2.setTop (mkF m 6 #[.val (.int p0), .val (.int p1), .val (.ref dN), .unset, .unset, .unset] [(.int p1)])) t → Steps p.tables e below (T2.setTop (mkF m 5 #[.val (.int p0), .val (.int p1), .val (.ref dN), .unset, .unset, .unset] [])) t := by
      intro t kt
      show Steps p.tables e below (T2.setTop (mkF m 5 #[.val (.int p0), .val (.int p1), .val (.ref dN), .unset, .unset, .unset] [])) _
      refine XS.iloadN X2.here hx rfl (hb hby at_5) rfl ?_
      exact kt
    obtain ⟨_, _, ⟨T49, L49, k49, n49⟩, -, X49, ⟨Lc49, hQ49, l49, y49, z49⟩, st49⟩ := Jvm.LawKit.callS X2 hx (y := (⟨"com/example/mapstone/mapstone/engine/DecisionAndPinLaw", "pick", "(I)Lcom/example/mapstone/mapstone/engine/Decision;"⟩ : MethodName)) hown (mvT hZ (hw _ (List.mem_of_getElem? (i := 0) rfl))) (mvT hZ (hw _ (List.mem_of_getElem? (i := 1) rfl))) (mvT hZ (hw _ (List.mem_of_getElem? (i := 2) rfl))) (mvT hZ (hw _ (List.mem_of_getElem? (i := 3) rfl))) (by decide) (backOf (W := 0) (rm1 l Z a0 hw [] p1 dH dN dU h0 n0 Z0 SH SN SU) hZ (hw _ (List.mem_of_getElem? (i := 3) rfl)) (hw _ (List.mem_of_getElem? (i := 2) rfl)) (by decide) (by decide)) (g := (mkF m 6 #[.val (.int p0), .val (.int p1), .val (.ref dN), .unset, .unset, .unset] [(.int p1)])) rfl (by rw [hml]; rfl) (argsL := [(.int p1)]) (rest := []) (lenOf pd_0 rfl) rfl (by show 2 * 0 + _ ≤ _; exact Nat.le_of_eq rfl) (hb hby at_6) (fun _ _ => ⟨rfl, e2, (by decide : 0 + 0 ≤ _), (by decide : 0 + 0 ≤ _)⟩)
    dsimp only [Pt.U, Pt.locs, Pt.cells, Pt.slots] at X49 l49 y49 z49 st49 hQ49
    subst l49 y49 z49
    obtain ⟨rfl, N49q, e49⟩ := hQ49
    have N49 := Fr.app N2 N49q
    have c50 : ∀ t, Steps p.tables e below (T49.setTop (mkF m 10 #[.val (.int p0), .val (.int p1), .val (.ref dN), .val (.ref (own_pk dH dN dU p1)), .unset, .unset] [])) t → Steps p.tables e below (T49.setTop (mkF m 9 #[.val (.int p0), .val (.int p1), .val (.ref dN), .unset, .unset, .unset] [(.ref (own_pk dH dN dU p1))])) t := by
      intro t kt
      show Steps p.tables e below (T49.setTop (mkF m 9 #[.val (.int p0), .val (.int p1), .val (.ref dN), .unset, .unset, .unset] [(.ref (own_pk dH dN dU p1))])) _
      refine XS.astoreN X49.here hx rfl (hb hby at_9) rfl rfl (l' := #[.val (.int p0), .val (.int p1), .val (.ref dN), .val (.ref (own_pk dH dN dU p1)), .unset, .unset]) rfl ?_
      exact kt
    rcases own_pk3 dH dN dU p1 with hkp1 | hkp1 | hkp1
    · skip
      have c51 : ∀ t, Steps p.tables e below (T49.setTop (mkF m 10 #[.val (.int p0), .val (.int p1), .val (.ref dN), .val (.ref dH), .unset, .unset] [])) t → Steps p.tables e below (T49.setTop (mkF m 10 #[.val (.int p0), .val (.int p1), .val (.ref dN), .val (.ref (own_pk dH dN dU p1)), .unset, .unset] [])) t := fun t kt => by rw [hkp1]; exact kt
      have c52 : ∀ t, Steps p.tables e below (T49.setTop (mkF m 12 #[.val (.int p0), .val (.int p1), .val (.ref dN), .val (.ref dH), .unset, .unset] [(.ref dH), (.ref dN)])) t → Steps p.tables e below (T49.setTop (mkF m 10 #[.val (.int p0), .val (.int p1), .val (.ref dN), .val (.ref dH), .unset, .unset] [])) t := by
        intro t kt
        show Steps p.tables e below (T49.setTop (mkF m 10 #[.val (.int p0), .val (.int p1), .val (.ref dN), .val (.ref dH), .unset, .unset] [])) _
        refine XS.aloadN X49.here hx rfl (hb hby at_10) rfl rfl ?_
        show Steps p.tables e below (T49.setTop (mkF m 11 #[.val (.int p0), .val (.int p1), .val (.ref dN), .val (.ref dH), .unset, .unset] [(.ref dN)])) _
        refine XS.aloadN X49.here hx rfl (hb hby at_11) rfl rfl ?_
        exact kt
      obtain ⟨cq53, kq53, q53a, q53b, q53c⟩ := isOf hZ e49 EN
      obtain ⟨_, _, ⟨T54, L54, k54, n54⟩, -, X54, ⟨Lc54, hQ54, l54, y54, z54⟩, st54⟩ := X49.virtualBack hx (y := (⟨"com/example/mapstone/mapstone/engine/Decision", "and", "(Lcom/example/mapstone/mapstone/engine/Decision;)Lcom/example/mapstone/mapstone/engine/Decision;"⟩ : MethodName)) (z := (⟨"com/example/mapstone/mapstone/engine/Decision", "and", "(Lcom/example/mapstone/mapstone/engine/Decision;)Lcom/example/mapstone/mapstone/engine/Decision;"⟩ : MethodName)) hown (mvT hZ (hw _ (List.mem_of_getElem? (i := 8) rfl))) (mvT hZ (hw _ (List.mem_of_getElem? (i := 9) rfl))) (notFace_of_selects (args := #[]) (mvT hZ (hw _ (List.mem_of_getElem? (i := 11) rfl)))) (mvT hZ (hw _ (List.mem_of_getElem? (i := 11) rfl))) (mvT hZ (hw _ (List.mem_of_getElem? (i := 10) rfl))) (by decide) (backOf (W := 0) (rm2_NH l Z a0 hw []  dH dN dU h0 n0 Z0 SH SN SU hHN hHU hNU) hZ (hw _ (List.mem_of_getElem? (i := 12) rfl)) (hw _ (List.mem_of_getElem? (i := 6) rfl)) (by decide) (by decide)) q53a q53c (g := (mkF m 12 #[.val (.int p0), .val (.int p1), .val (.ref dN), .val (.ref dH), .unset, .unset] [(.ref dH), (.ref dN)])) rfl (by rw [hml]; rfl) (Steps.refl _) (argsL := [(.ref dH)]) (rest := []) (lenOf pd_1 rfl) rfl (by show 2 * 0 + _ ≤ _; exact Nat.le_of_eq rfl) (hb hby at_12) (fun _ _ => ⟨rfl, e49, (by decide : 0 + 0 ≤ _), (by decide : 0 + 0 ≤ _)⟩)
      dsimp only [Pt.U, Pt.locs, Pt.cells, Pt.slots] at X54 l54 y54 z54 st54 hQ54
      subst l54 y54 z54
      obtain ⟨rfl, N54q, e54⟩ := hQ54
      have N54 := Fr.app N49 N54q
      have c55 : ∀ t, Steps p.tables e below (T54.setTop (mkF m 18 #[.val (.int p0), .val (.int p1), .val (.ref dN), .val (.ref dH), .val (.ref dN), .unset] [(.ref dN)])) t → Steps p.tables e below (T54.setTop (mkF m 15 #[.val (.int p0), .val (.int p1), .val (.ref dN), .val (.ref dH), .unset, .unset] [(.ref dN)])) t := by
        intro t kt
        show Steps p.tables e below (T54.setTop (mkF m 15 #[.val (.int p0), .val (.int p1), .val (.ref dN), .val (.ref dH), .unset, .unset] [(.ref dN)])) _
        refine XS.astore X54.here hx rfl (hb hby at_15) rfl rfl (l' := #[.val (.int p0), .val (.int p1), .val (.ref dN), .val (.ref dH), .val (.ref dN), .unset]) rfl ?_
        show Steps p.tables e below (T54.setTop (mkF m 17 #[.val (.int p0), .val (.int p1), .val (.ref dN), .val (.ref dH), .val (.ref dN), .unset] [])) _
        refine XS.aloadN X54.here hx rfl (hb hby at_17) rfl rfl ?_
        exact kt
      obtain ⟨_, _, ⟨T56, L56, k56, n56⟩, -, X56, ⟨Lc56, hQ56, l56, y56, z56⟩, st56⟩ := Jvm.LawKit.callS X54 hx (y := (⟨"com/example/mapstone/mapstone/engine/DecisionAndPinLaw", "rank", "(Lcom/example/mapstone/mapstone/engine/Decision;)I"⟩ : MethodName)) hown (mvT hZ (hw _ (List.mem_of_getElem? (i := 16) rfl))) (mvT hZ (hw _ (List.mem_of_getElem? (i := 17) rfl))) (mvT hZ (hw _ (List.mem_of_getElem? (i := 2) rfl))) (mvT hZ (hw _ (List.mem_of_getElem? (i := 18) rfl))) (by decide) (backOf (W := 0) (rm3_N l Z a0 hw []  dH dN dU h0 n0 Z0 SH SN SU hHN hHU hNU) hZ (hw _ (List.mem_of_getElem? (i := 18) rfl)) (hw _ (List.mem_of_getElem? (i := 2) rfl)) (by decide) (by decide)) (g := (mkF m 18 #[.val (.int p0), .val (.int p1), .val (.ref dN), .val (.ref dH), .val (.ref dN), .unset] [(.ref dN)])) rfl (by rw [hml]; rfl) (argsL := [(.ref dN)]) (rest := []) (lenOf pd_2 rfl) rfl (by show 2 * 0 + _ ≤ _; exact Nat.le_of_eq rfl) (hb hby at_18) (fun _ _ => ⟨rfl, e54, (by decide : 0 + 0 ≤ _), (by decide : 0 + 0 ≤ _)⟩)
      dsimp only [Pt.U, Pt.locs, Pt.cells, Pt.slots] at X56 l56 y56 z56 st56 hQ56
      subst l56 y56 z56
      obtain ⟨rfl, N56q, e56⟩ := hQ56
      have N56 := Fr.app N54 N56q
      have c57 : ∀ t, Steps p.tables e below (T56.setTop (mkF m 22 #[.val (.int p0), .val (.int p1), .val (.ref dN), .val (.ref dH), .val (.ref dN), .unset] [(.ref dH), (.int (0 : Int32))])) t → Steps p.tables e below (T56.setTop (mkF m 21 #[.val (.int p0), .val (.int p1), .val (.ref dN), .val (.ref dH), .val (.ref dN), .unset] [(.int (0 : Int32))])) t := by
        intro t kt
        show Steps p.tables e below (T56.setTop (mkF m 21 #[.val (.int p0), .val (.int p1), .val (.ref dN), .val (.ref dH), .val (.ref dN), .unset] [(.int (0 : Int32))])) _
        refine XS.aloadN X56.here hx rfl (hb hby at_21) rfl rfl ?_
        exact kt
      obtain ⟨_, _, ⟨T58, L58, k58, n58⟩, -, X58, ⟨Lc58, hQ58, l58, y58, z58⟩, st58⟩ := Jvm.LawKit.callS X56 hx (y := (⟨"com/example/mapstone/mapstone/engine/DecisionAndPinLaw", "rank", "(Lcom/example/mapstone/mapstone/engine/Decision;)I"⟩ : MethodName)) hown (mvT hZ (hw _ (List.mem_of_getElem? (i := 16) rfl))) (mvT hZ (hw _ (List.mem_of_getElem? (i := 17) rfl))) (mvT hZ (hw _ (List.mem_of_getElem? (i := 2) rfl))) (mvT hZ (hw _ (List.mem_of_getElem? (i := 18) rfl))) (by decide) (backOf (W := 1) (rm3_H l Z a0 hw []  dH dN dU h0 n0 Z0 SH SN SU hHN hHU hNU) hZ (hw _ (List.mem_of_getElem? (i := 18) rfl)) (hw _ (List.mem_of_getElem? (i := 2) rfl)) (by decide) (by decide)) (g := (mkF m 22 #[.val (.int p0), .val (.int p1), .val (.ref dN), .val (.ref dH), .val (.ref dN), .unset] [(.ref dH), (.int (0 : Int32))])) rfl (by rw [hml]; rfl) (argsL := [(.ref dH)]) (rest := [(.int (0 : Int32))]) (lenOf pd_2 rfl) rfl (by show 2 * 0 + _ ≤ _; exact Nat.le_of_eq rfl) (hb hby at_22) (fun _ _ => ⟨rfl, e56, (by decide : 0 + 0 ≤ _), (by decide : 0 + 0 ≤ _)⟩)
      dsimp only [Pt.U, Pt.locs, Pt.cells, Pt.slots] at X58 l58 y58 z58 st58 hQ58
      subst l58 y58 z58
      obtain ⟨rfl, N58q, e58⟩ := hQ58
      have N58 := Fr.app N56 N58q
      obtain ⟨_, _, ⟨T59, L59, k59, n59⟩, -, X59, ⟨Lc59, hQ59, l59, y59, z59⟩, st59⟩ := Jvm.LawKit.callS X58 hx (y := (⟨"java/lang/Math", "min", "(II)I"⟩ : MethodName)) hown (mvT hZ (hw _ (List.mem_of_getElem? (i := 19) rfl))) (mvT hZ (hw _ (List.mem_of_getElem? (i := 20) rfl))) (mvT hZ (hw _ (List.mem_of_getElem? (i := 21) rfl))) (mvT hZ (hw _ (List.mem_of_getElem? (i := 22) rfl))) (by decide) (backOf (W := 0) (rm4 l Z a0 hw [] (0 : Int32) (2 : Int32)  h0 n0 Z0 ) hZ (hw _ (List.mem_of_getElem? (i := 22) rfl)) (hw _ (List.mem_of_getElem? (i := 21) rfl)) (by decide) (by decide)) (g := (mkF m 25 #[.val (.int p0), .val (.int p1), .val (.ref dN), .val (.ref dH), .val (.ref dN), .unset] [(.int (2 : Int32)), (.int (0 : Int32))])) rfl (by rw [hml]; rfl) (argsL := [(.int (0 : Int32)), (.int (2 : Int32))]) (rest := []) (lenOf pd_3 rfl) rfl (by show 2 * 0 + _ ≤ _; exact Nat.le_of_eq rfl) (hb hby at_25) (fun _ _ => ⟨rfl, e58, (by decide : 0 + 0 ≤ _), (by decide : 0 + 0 ≤ _)⟩)
      dsimp only [Pt.U, Pt.locs, Pt.cells, Pt.slots] at X59 l59 y59 z59 st59 hQ59
      subst l59 y59 z59
      obtain ⟨rfl, N59q, e59⟩ := hQ59
      have N59 := Fr.app N58 N59q
      have c60 : ∀ t, Steps p.tables e below (T59.setTop (mkF m 37 #[.val (.int p0), .val (.int p1), .val (.ref dN), .val (.ref dH), .val (.ref dN), .val (.int (own_min (0 : Int32) (2 : Int32)))] [(.ref dN)])) t → Steps p.tables e below (T59.setTop (mkF m 28 #[.val (.int p0), .val (.int p1), .val (.ref dN), .val (.ref dH), .val (.ref dN), .unset] [(.int (own_min (0 : Int32) (2 : Int32)))])) t := by
        intro t kt
        show Steps p.tables e below (T59.setTop (mkF m 28 #[.val (.int p0), .val (.int p1), .val (.ref dN), .val (.ref dH), .val (.ref dN), .unset] [(.int (own_min (0 : Int32) (2 : Int32)))])) _
        refine XS.istore X59.here hx rfl (hb hby at_28) rfl (l' := #[.val (.int p0), .val (.int p1), .val (.ref dN), .val (.ref dH), .val (.ref dN), .val (.int (own_min (0 : Int32) (2 : Int32)))]) rfl ?_
        show Steps p.tables e below (T59.setTop (mkF m 30 #[.val (.int p0), .val (.int p1), .val (.ref dN), .val (.ref dH), .val (.ref dN), .val (.int (own_min (0 : Int32) (2 : Int32)))] [])) _
        refine XS.aload X59.here hx rfl (hb hby at_30) rfl rfl ?_
        show Steps p.tables e below (T59.setTop (mkF m 32 #[.val (.int p0), .val (.int p1), .val (.ref dN), .val (.ref dH), .val (.ref dN), .val (.int (own_min (0 : Int32) (2 : Int32)))] [(.ref dN)])) _
        refine XS.ifnullNo X59.here hx rfl (hb hby at_32) rfl ?_
        show Steps p.tables e below (T59.setTop (mkF m 35 #[.val (.int p0), .val (.int p1), .val (.ref dN), .val (.ref dH), .val (.ref dN), .val (.int (own_min (0 : Int32) (2 : Int32)))] [])) _
        refine XS.aload X59.here hx rfl (hb hby at_35) rfl rfl ?_
        exact kt
      obtain ⟨_, _, ⟨T61, L61, k61, n61⟩, -, X61, ⟨Lc61, hQ61, l61, y61, z61⟩, st61⟩ := Jvm.LawKit.callS X59 hx (y := (⟨"com/example/mapstone/mapstone/engine/DecisionAndPinLaw", "rank", "(Lcom/example/mapstone/mapstone/engine/Decision;)I"⟩ : MethodName)) hown (mvT hZ (hw _ (List.mem_of_getElem? (i := 16) rfl))) (mvT hZ (hw _ (List.mem_of_getElem? (i := 17) rfl))) (mvT hZ (hw _ (List.mem_of_getElem? (i := 2) rfl))) (mvT hZ (hw _ (List.mem_of_getElem? (i := 18) rfl))) (by decide) (backOf (W := 0) (rm3_N l Z a0 hw []  dH dN dU h0 n0 Z0 SH SN SU hHN hHU hNU) hZ (hw _ (List.mem_of_getElem? (i := 18) rfl)) (hw _ (List.mem_of_getElem? (i := 2) rfl)) (by decide) (by decide)) (g := (mkF m 37 #[.val (.int p0), .val (.int p1), .val (.ref dN), .val (.ref dH), .val (.ref dN), .val (.int (own_min (0 : Int32) (2 : Int32)))] [(.ref dN)])) rfl (by rw [hml]; rfl) (argsL := [(.ref dN)]) (rest := []) (lenOf pd_2 rfl) rfl (by show 2 * 0 + _ ≤ _; exact Nat.le_of_eq rfl) (hb hby at_37) (fun _ _ => ⟨rfl, e59, (by decide : 0 + 0 ≤ _), (by decide : 0 + 0 ≤ _)⟩)
      dsimp only [Pt.U, Pt.locs, Pt.cells, Pt.slots] at X61 l61 y61 z61 st61 hQ61
      subst l61 y61 z61
      obtain ⟨rfl, N61q, e61⟩ := hQ61
      have N61 := Fr.app N59 N61q
      have c62 : ∀ t, Steps p.tables e below (T61.setTop (mkF m 50 #[.val (.int p0), .val (.int p1), .val (.ref dN), .val (.ref dH), .val (.ref dN), .val (.int (own_min (0 : Int32) (2 : Int32)))] [(.int (1 : Int32))])) t → Steps p.tables e below (T61.setTop (mkF m 40 #[.val (.int p0), .val (.int p1), .val (.ref dN), .val (.ref dH), .val (.ref dN), .val (.int (own_min (0 : Int32) (2 : Int32)))] [(.int (0 : Int32))])) t := by
        intro t kt
        show Steps p.tables e below (T61.setTop (mkF m 40 #[.val (.int p0), .val (.int p1), .val (.ref dN), .val (.ref dH), .val (.ref dN), .val (.int (own_min (0 : Int32) (2 : Int32)))] [(.int (0 : Int32))])) _
        refine XS.iload X61.here hx rfl (hb hby at_40) rfl ?_
        show Steps p.tables e below (T61.setTop (mkF m 42 #[.val (.int p0), .val (.int p1), .val (.ref dN), .val (.ref dH), .val (.ref dN), .val (.int (own_min (0 : Int32) (2 : Int32)))] [(.int (own_min (0 : Int32) (2 : Int32))), (.int (0 : Int32))])) _
        refine XS.icmpNo X61.here hx rfl (hb hby at_42) rfl (teq (by decide : (0 : Int32) = (own_min (0 : Int32) (2 : Int32)))).2 ?_
        show Steps p.tables e below (T61.setTop (mkF m 45 #[.val (.int p0), .val (.int p1), .val (.ref dN), .val (.ref dH), .val (.ref dN), .val (.int (own_min (0 : Int32) (2 : Int32)))] [])) _
        refine XS.iconst X61.here hx rfl (hb hby at_45) ?_
        show Steps p.tables e below (T61.setTop (mkF m 46 #[.val (.int p0), .val (.int p1), .val (.ref dN), .val (.ref dH), .val (.ref dN), .val (.int (own_min (0 : Int32) (2 : Int32)))] [(.int (1 : Int32))])) _
        refine XS.goto X61.here hx rfl (pc0 := 46) (pc' := 50) rfl (hb hby at_46) (by decide) (by decide) ?_
        exact kt
      obtain ⟨fs, hr, hrun, hended, hW, hsame⟩ := X61.leave (v := some (.int (1 : Int32))) (fun h => by rw [Bd.returns] at h; cases h)
      refine ⟨_, _, pre0 _ (c1 _ (st2 _ (c3 _ (c47 _ (c48 _ (st49 _ (c50 _ (c51 _ (c52 _ (st54.trans (c55 _ (st56 _ (c57 _ (st58 _ (st59 _ (c60 _ (st61 _ (c62 _ (?_))))))))))))))))))), hrun, hended, _, _, rfl, ?_, ⟨_, rfl⟩, hW, hsame.mono (by decide) (by decide)⟩
      · show Steps p.tables e below (T61.setTop (mkF m 50 #[.val (.int p0), .val (.int p1), .val (.ref dN), .val (.ref dH), .val (.ref dN), .val (.int (own_min (0 : Int32) (2 : Int32)))] [(.int (1 : Int32))])) _
        exact retN X61 hx (t := .boolean) Bd.returns (by simp) (hb hby at_50) hr
      · show Q0 Z p0 p1 dH dN dU h0 n0 _ T61.heap _
        rw [e61]
        exact ⟨congrArg (fun z => some (Value.int z)) (show (1 : Int32) = (1 : Int32) from by rfl), N61⟩
    · skip
      have c64 : ∀ t, Steps p.tables e below (T49.setTop (mkF m 10 #[.val (.int p0), .val (.int p1), .val (.ref dN), .val (.ref dN), .unset, .unset] [])) t → Steps p.tables e below (T49.setTop (mkF m 10 #[.val (.int p0), .val (.int p1), .val (.ref dN), .val (.ref (own_pk dH dN dU p1)), .unset, .unset] [])) t := fun t kt => by rw [hkp1]; exact kt
      have c65 : ∀ t, Steps p.tables e below (T49.setTop (mkF m 12 #[.val (.int p0), .val (.int p1), .val (.ref dN), .val (.ref dN), .unset, .unset] [(.ref dN), (.ref dN)])) t → Steps p.tables e below (T49.setTop (mkF m 10 #[.val (.int p0), .val (.int p1), .val (.ref dN), .val (.ref dN), .unset, .unset] [])) t := by
        intro t kt
        show Steps p.tables e below (T49.setTop (mkF m 10 #[.val (.int p0), .val (.int p1), .val (.ref dN), .val (.ref dN), .unset, .unset] [])) _
        refine XS.aloadN X49.here hx rfl (hb hby at_10) rfl rfl ?_
        show Steps p.tables e below (T49.setTop (mkF m 11 #[.val (.int p0), .val (.int p1), .val (.ref dN), .val (.ref dN), .unset, .unset] [(.ref dN)])) _
        refine XS.aloadN X49.here hx rfl (hb hby at_11) rfl rfl ?_
        exact kt
      obtain ⟨cq66, kq66, q66a, q66b, q66c⟩ := isOf hZ e49 EN
      obtain ⟨_, _, ⟨T67, L67, k67, n67⟩, -, X67, ⟨Lc67, hQ67, l67, y67, z67⟩, st67⟩ := X49.virtualBack hx (y := (⟨"com/example/mapstone/mapstone/engine/Decision", "and", "(Lcom/example/mapstone/mapstone/engine/Decision;)Lcom/example/mapstone/mapstone/engine/Decision;"⟩ : MethodName)) (z := (⟨"com/example/mapstone/mapstone/engine/Decision", "and", "(Lcom/example/mapstone/mapstone/engine/Decision;)Lcom/example/mapstone/mapstone/engine/Decision;"⟩ : MethodName)) hown (mvT hZ (hw _ (List.mem_of_getElem? (i := 8) rfl))) (mvT hZ (hw _ (List.mem_of_getElem? (i := 9) rfl))) (notFace_of_selects (args := #[]) (mvT hZ (hw _ (List.mem_of_getElem? (i := 11) rfl)))) (mvT hZ (hw _ (List.mem_of_getElem? (i := 11) rfl))) (mvT hZ (hw _ (List.mem_of_getElem? (i := 10) rfl))) (by decide) (backOf (W := 0) (rm2_NN l Z a0 hw []  dH dN dU h0 n0 Z0 SH SN SU hHN hHU hNU) hZ (hw _ (List.mem_of_getElem? (i := 12) rfl)) (hw _ (List.mem_of_getElem? (i := 6) rfl)) (by decide) (by decide)) q66a q66c (g := (mkF m 12 #[.val (.int p0), .val (.int p1), .val (.ref dN), .val (.ref dN), .unset, .unset] [(.ref dN), (.ref dN)])) rfl (by rw [hml]; rfl) (Steps.refl _) (argsL := [(.ref dN)]) (rest := []) (lenOf pd_1 rfl) rfl (by show 2 * 0 + _ ≤ _; exact Nat.le_of_eq rfl) (hb hby at_12) (fun _ _ => ⟨rfl, e49, (by decide : 0 + 0 ≤ _), (by decide : 0 + 0 ≤ _)⟩)
      dsimp only [Pt.U, Pt.locs, Pt.cells, Pt.slots] at X67 l67 y67 z67 st67 hQ67
      subst l67 y67 z67
      obtain ⟨rfl, N67q, e67⟩ := hQ67
      have N67 := Fr.app N49 N67q
      have c68 : ∀ t, Steps p.tables e below (T67.setTop (mkF m 18 #[.val (.int p0), .val (.int p1), .val (.ref dN), .val (.ref dN), .val (.ref dN), .unset] [(.ref dN)])) t → Steps p.tables e below (T67.setTop (mkF m 15 #[.val (.int p0), .val (.int p1), .val (.ref dN), .val (.ref dN), .unset, .unset] [(.ref dN)])) t := by
        intro t kt
        show Steps p.tables e below (T67.setTop (mkF m 15 #[.val (.int p0), .val (.int p1), .val (.ref dN), .val (.ref dN), .unset, .unset] [(.ref dN)])) _
        refine XS.astore X67.here hx rfl (hb hby at_15) rfl rfl (l' := #[.val (.int p0), .val (.int p1), .val (.ref dN), .val (.ref dN), .val (.ref dN), .unset]) rfl ?_
        show Steps p.tables e below (T67.setTop (mkF m 17 #[.val (.int p0), .val (.int p1), .val (.ref dN), .val (.ref dN), .val (.ref dN), .unset] [])) _
        refine XS.aloadN X67.here hx rfl (hb hby at_17) rfl rfl ?_
        exact kt
      obtain ⟨_, _, ⟨T69, L69, k69, n69⟩, -, X69, ⟨Lc69, hQ69, l69, y69, z69⟩, st69⟩ := Jvm.LawKit.callS X67 hx (y := (⟨"com/example/mapstone/mapstone/engine/DecisionAndPinLaw", "rank", "(Lcom/example/mapstone/mapstone/engine/Decision;)I"⟩ : MethodName)) hown (mvT hZ (hw _ (List.mem_of_getElem? (i := 16) rfl))) (mvT hZ (hw _ (List.mem_of_getElem? (i := 17) rfl))) (mvT hZ (hw _ (List.mem_of_getElem? (i := 2) rfl))) (mvT hZ (hw _ (List.mem_of_getElem? (i := 18) rfl))) (by decide) (backOf (W := 0) (rm3_N l Z a0 hw []  dH dN dU h0 n0 Z0 SH SN SU hHN hHU hNU) hZ (hw _ (List.mem_of_getElem? (i := 18) rfl)) (hw _ (List.mem_of_getElem? (i := 2) rfl)) (by decide) (by decide)) (g := (mkF m 18 #[.val (.int p0), .val (.int p1), .val (.ref dN), .val (.ref dN), .val (.ref dN), .unset] [(.ref dN)])) rfl (by rw [hml]; rfl) (argsL := [(.ref dN)]) (rest := []) (lenOf pd_2 rfl) rfl (by show 2 * 0 + _ ≤ _; exact Nat.le_of_eq rfl) (hb hby at_18) (fun _ _ => ⟨rfl, e67, (by decide : 0 + 0 ≤ _), (by decide : 0 + 0 ≤ _)⟩)
      dsimp only [Pt.U, Pt.locs, Pt.cells, Pt.slots] at X69 l69 y69 z69 st69 hQ69
      subst l69 y69 z69
      obtain ⟨rfl, N69q, e69⟩ := hQ69
      have N69 := Fr.app N67 N69q
      have c70 : ∀ t, Steps p.tables e below (T69.setTop (mkF m 22 #[.val (.int p0), .val (.int p1), .val (.ref dN), .val (.ref dN), .val (.ref dN), .unset] [(.ref dN), (.int (0 : Int32))])) t → Steps p.tables e below (T69.setTop (mkF m 21 #[.val (.int p0), .val (.int p1), .val (.ref dN), .val (.ref dN), .val (.ref dN), .unset] [(.int (0 : Int32))])) t := by
        intro t kt
        show Steps p.tables e below (T69.setTop (mkF m 21 #[.val (.int p0), .val (.int p1), .val (.ref dN), .val (.ref dN), .val (.ref dN), .unset] [(.int (0 : Int32))])) _
        refine XS.aloadN X69.here hx rfl (hb hby at_21) rfl rfl ?_
        exact kt
      obtain ⟨_, _, ⟨T71, L71, k71, n71⟩, -, X71, ⟨Lc71, hQ71, l71, y71, z71⟩, st71⟩ := Jvm.LawKit.callS X69 hx (y := (⟨"com/example/mapstone/mapstone/engine/DecisionAndPinLaw", "rank", "(Lcom/example/mapstone/mapstone/engine/Decision;)I"⟩ : MethodName)) hown (mvT hZ (hw _ (List.mem_of_getElem? (i := 16) rfl))) (mvT hZ (hw _ (List.mem_of_getElem? (i := 17) rfl))) (mvT hZ (hw _ (List.mem_of_getElem? (i := 2) rfl))) (mvT hZ (hw _ (List.mem_of_getElem? (i := 18) rfl))) (by decide) (backOf (W := 1) (rm3_N l Z a0 hw []  dH dN dU h0 n0 Z0 SH SN SU hHN hHU hNU) hZ (hw _ (List.mem_of_getElem? (i := 18) rfl)) (hw _ (List.mem_of_getElem? (i := 2) rfl)) (by decide) (by decide)) (g := (mkF m 22 #[.val (.int p0), .val (.int p1), .val (.ref dN), .val (.ref dN), .val (.ref dN), .unset] [(.ref dN), (.int (0 : Int32))])) rfl (by rw [hml]; rfl) (argsL := [(.ref dN)]) (rest := [(.int (0 : Int32))]) (lenOf pd_2 rfl) rfl (by show 2 * 0 + _ ≤ _; exact Nat.le_of_eq rfl) (hb hby at_22) (fun _ _ => ⟨rfl, e69, (by decide : 0 + 0 ≤ _), (by decide : 0 + 0 ≤ _)⟩)
      dsimp only [Pt.U, Pt.locs, Pt.cells, Pt.slots] at X71 l71 y71 z71 st71 hQ71
      subst l71 y71 z71
      obtain ⟨rfl, N71q, e71⟩ := hQ71
      have N71 := Fr.app N69 N71q
      obtain ⟨_, _, ⟨T72, L72, k72, n72⟩, -, X72, ⟨Lc72, hQ72, l72, y72, z72⟩, st72⟩ := Jvm.LawKit.callS X71 hx (y := (⟨"java/lang/Math", "min", "(II)I"⟩ : MethodName)) hown (mvT hZ (hw _ (List.mem_of_getElem? (i := 19) rfl))) (mvT hZ (hw _ (List.mem_of_getElem? (i := 20) rfl))) (mvT hZ (hw _ (List.mem_of_getElem? (i := 21) rfl))) (mvT hZ (hw _ (List.mem_of_getElem? (i := 22) rfl))) (by decide) (backOf (W := 0) (rm4 l Z a0 hw [] (0 : Int32) (0 : Int32)  h0 n0 Z0 ) hZ (hw _ (List.mem_of_getElem? (i := 22) rfl)) (hw _ (List.mem_of_getElem? (i := 21) rfl)) (by decide) (by decide)) (g := (mkF m 25 #[.val (.int p0), .val (.int p1), .val (.ref dN), .val (.ref dN), .val (.ref dN), .unset] [(.int (0 : Int32)), (.int (0 : Int32))])) rfl (by rw [hml]; rfl) (argsL := [(.int (0 : Int32)), (.int (0 : Int32))]) (rest := []) (lenOf pd_3 rfl) rfl (by show 2 * 0 + _ ≤ _; exact Nat.le_of_eq rfl) (hb hby at_25) (fun _ _ => ⟨rfl, e71, (by decide : 0 + 0 ≤ _), (by decide : 0 + 0 ≤ _)⟩)
      dsimp only [Pt.U, Pt.locs, Pt.cells, Pt.slots] at X72 l72 y72 z72 st72 hQ72
      subst l72 y72 z72
      obtain ⟨rfl, N72q, e72⟩ := hQ72
      have N72 := Fr.app N71 N72q
      have c73 : ∀ t, Steps p.tables e below (T72.setTop (mkF m 37 #[.val (.int p0), .val (.int p1), .val (.ref dN), .val (.ref dN), .val (.ref dN), .val (.int (own_min (0 : Int32) (0 : Int32)))] [(.ref dN)])) t → Steps p.tables e below (T72.setTop (mkF m 28 #[.val (.int p0), .val (.int p1), .val (.ref dN), .val (.ref dN), .val (.ref dN), .unset] [(.int (own_min (0 : Int32) (0 : Int32)))])) t := by
        intro t kt
        show Steps p.tables e below (T72.setTop (mkF m 28 #[.val (.int p0), .val (.int p1), .val (.ref dN), .val (.ref dN), .val (.ref dN), .unset] [(.int (own_min (0 : Int32) (0 : Int32)))])) _
        refine XS.istore X72.here hx rfl (hb hby at_28) rfl (l' := #[.val (.int p0), .val (.int p1), .val (.ref dN), .val (.ref dN), .val (.ref dN), .val (.int (own_min (0 : Int32) (0 : Int32)))]) rfl ?_
        show Steps p.tables e below (T72.setTop (mkF m 30 #[.val (.int p0), .val (.int p1), .val (.ref dN), .val (.ref dN), .val (.ref dN), .val (.int (own_min (0 : Int32) (0 : Int32)))] [])) _
        refine XS.aload X72.here hx rfl (hb hby at_30) rfl rfl ?_
        show Steps p.tables e below (T72.setTop (mkF m 32 #[.val (.int p0), .val (.int p1), .val (.ref dN), .val (.ref dN), .val (.ref dN), .val (.int (own_min (0 : Int32) (0 : Int32)))] [(.ref dN)])) _
        refine XS.ifnullNo X72.here hx rfl (hb hby at_32) rfl ?_
        show Steps p.tables e below (T72.setTop (mkF m 35 #[.val (.int p0), .val (.int p1), .val (.ref dN), .val (.ref dN), .val (.ref dN), .val (.int (own_min (0 : Int32) (0 : Int32)))] [])) _
        refine XS.aload X72.here hx rfl (hb hby at_35) rfl rfl ?_
        exact kt
      obtain ⟨_, _, ⟨T74, L74, k74, n74⟩, -, X74, ⟨Lc74, hQ74, l74, y74, z74⟩, st74⟩ := Jvm.LawKit.callS X72 hx (y := (⟨"com/example/mapstone/mapstone/engine/DecisionAndPinLaw", "rank", "(Lcom/example/mapstone/mapstone/engine/Decision;)I"⟩ : MethodName)) hown (mvT hZ (hw _ (List.mem_of_getElem? (i := 16) rfl))) (mvT hZ (hw _ (List.mem_of_getElem? (i := 17) rfl))) (mvT hZ (hw _ (List.mem_of_getElem? (i := 2) rfl))) (mvT hZ (hw _ (List.mem_of_getElem? (i := 18) rfl))) (by decide) (backOf (W := 0) (rm3_N l Z a0 hw []  dH dN dU h0 n0 Z0 SH SN SU hHN hHU hNU) hZ (hw _ (List.mem_of_getElem? (i := 18) rfl)) (hw _ (List.mem_of_getElem? (i := 2) rfl)) (by decide) (by decide)) (g := (mkF m 37 #[.val (.int p0), .val (.int p1), .val (.ref dN), .val (.ref dN), .val (.ref dN), .val (.int (own_min (0 : Int32) (0 : Int32)))] [(.ref dN)])) rfl (by rw [hml]; rfl) (argsL := [(.ref dN)]) (rest := []) (lenOf pd_2 rfl) rfl (by show 2 * 0 + _ ≤ _; exact Nat.le_of_eq rfl) (hb hby at_37) (fun _ _ => ⟨rfl, e72, (by decide : 0 + 0 ≤ _), (by decide : 0 + 0 ≤ _)⟩)
      dsimp only [Pt.U, Pt.locs, Pt.cells, Pt.slots] at X74 l74 y74 z74 st74 hQ74
      subst l74 y74 z74
      obtain ⟨rfl, N74q, e74⟩ := hQ74
      have N74 := Fr.app N72 N74q
      have c75 : ∀ t, Steps p.tables e below (T74.setTop (mkF m 50 #[.val (.int p0), .val (.int p1), .val (.ref dN), .val (.ref dN), .val (.ref dN), .val (.int (own_min (0 : Int32) (0 : Int32)))] [(.int (1 : Int32))])) t → Steps p.tables e below (T74.setTop (mkF m 40 #[.val (.int p0), .val (.int p1), .val (.ref dN), .val (.ref dN), .val (.ref dN), .val (.int (own_min (0 : Int32) (0 : Int32)))] [(.int (0 : Int32))])) t := by
        intro t kt
        show Steps p.tables e below (T74.setTop (mkF m 40 #[.val (.int p0), .val (.int p1), .val (.ref dN), .val (.ref dN), .val (.ref dN), .val (.int (own_min (0 : Int32) (0 : Int32)))] [(.int (0 : Int32))])) _
        refine XS.iload X74.here hx rfl (hb hby at_40) rfl ?_
        show Steps p.tables e below (T74.setTop (mkF m 42 #[.val (.int p0), .val (.int p1), .val (.ref dN), .val (.ref dN), .val (.ref dN), .val (.int (own_min (0 : Int32) (0 : Int32)))] [(.int (own_min (0 : Int32) (0 : Int32))), (.int (0 : Int32))])) _
        refine XS.icmpNo X74.here hx rfl (hb hby at_42) rfl (teq (by decide : (0 : Int32) = (own_min (0 : Int32) (0 : Int32)))).2 ?_
        show Steps p.tables e below (T74.setTop (mkF m 45 #[.val (.int p0), .val (.int p1), .val (.ref dN), .val (.ref dN), .val (.ref dN), .val (.int (own_min (0 : Int32) (0 : Int32)))] [])) _
        refine XS.iconst X74.here hx rfl (hb hby at_45) ?_
        show Steps p.tables e below (T74.setTop (mkF m 46 #[.val (.int p0), .val (.int p1), .val (.ref dN), .val (.ref dN), .val (.ref dN), .val (.int (own_min (0 : Int32) (0 : Int32)))] [(.int (1 : Int32))])) _
        refine XS.goto X74.here hx rfl (pc0 := 46) (pc' := 50) rfl (hb hby at_46) (by decide) (by decide) ?_
        exact kt
      obtain ⟨fs, hr, hrun, hended, hW, hsame⟩ := X74.leave (v := some (.int (1 : Int32))) (fun h => by rw [Bd.returns] at h; cases h)
      refine ⟨_, _, pre0 _ (c1 _ (st2 _ (c3 _ (c47 _ (c48 _ (st49 _ (c50 _ (c64 _ (c65 _ (st67.trans (c68 _ (st69 _ (c70 _ (st71 _ (st72 _ (c73 _ (st74 _ (c75 _ (?_))))))))))))))))))), hrun, hended, _, _, rfl, ?_, ⟨_, rfl⟩, hW, hsame.mono (by decide) (by decide)⟩
      · show Steps p.tables e below (T74.setTop (mkF m 50 #[.val (.int p0), .val (.int p1), .val (.ref dN), .val (.ref dN), .val (.ref dN), .val (.int (own_min (0 : Int32) (0 : Int32)))] [(.int (1 : Int32))])) _
        exact retN X74 hx (t := .boolean) Bd.returns (by simp) (hb hby at_50) hr
      · show Q0 Z p0 p1 dH dN dU h0 n0 _ T74.heap _
        rw [e74]
        exact ⟨congrArg (fun z => some (Value.int z)) (show (1 : Int32) = (1 : Int32) from by rfl), N74⟩
    · skip
      have c77 : ∀ t, Steps p.tables e below (T49.setTop (mkF m 10 #[.val (.int p0), .val (.int p1), .val (.ref dN), .val (.ref dU), .unset, .unset] [])) t → Steps p.tables e below (T49.setTop (mkF m 10 #[.val (.int p0), .val (.int p1), .val (.ref dN), .val (.ref (own_pk dH dN dU p1)), .unset, .unset] [])) t := fun t kt => by rw [hkp1]; exact kt
      have c78 : ∀ t, Steps p.tables e below (T49.setTop (mkF m 12 #[.val (.int p0), .val (.int p1), .val (.ref dN), .val (.ref dU), .unset, .unset] [(.ref dU), (.ref dN)])) t → Steps p.tables e below (T49.setTop (mkF m 10 #[.val (.int p0), .val (.int p1), .val (.ref dN), .val (.ref dU), .unset, .unset] [])) t := by
        intro t kt
        show Steps p.tables e below (T49.setTop (mkF m 10 #[.val (.int p0), .val (.int p1), .val (.ref dN), .val (.ref dU), .unset, .unset] [])) _
        refine XS.aloadN X49.here hx rfl (hb hby at_10) rfl rfl ?_
        show Steps p.tables e below (T49.setTop (mkF m 11 #[.val (.int p0), .val (.int p1), .val (.ref dN), .val (.ref dU), .unset, .unset] [(.ref dN)])) _
        refine XS.aloadN X49.here hx rfl (hb hby at_11) rfl rfl ?_
        exact kt
      obtain ⟨cq79, kq79, q79a, q79b, q79c⟩ := isOf hZ e49 EN
      obtain ⟨_, _, ⟨T80, L80, k80, n80⟩, -, X80, ⟨Lc80, hQ80, l80, y80, z80⟩, st80⟩ := X49.virtualBack hx (y := (⟨"com/example/mapstone/mapstone/engine/Decision", "and", "(Lcom/example/mapstone/mapstone/engine/Decision;)Lcom/example/mapstone/mapstone/engine/Decision;"⟩ : MethodName)) (z := (⟨"com/example/mapstone/mapstone/engine/Decision", "and", "(Lcom/example/mapstone/mapstone/engine/Decision;)Lcom/example/mapstone/mapstone/engine/Decision;"⟩ : MethodName)) hown (mvT hZ (hw _ (List.mem_of_getElem? (i := 8) rfl))) (mvT hZ (hw _ (List.mem_of_getElem? (i := 9) rfl))) (notFace_of_selects (args := #[]) (mvT hZ (hw _ (List.mem_of_getElem? (i := 11) rfl)))) (mvT hZ (hw _ (List.mem_of_getElem? (i := 11) rfl))) (mvT hZ (hw _ (List.mem_of_getElem? (i := 10) rfl))) (by decide) (backOf (W := 0) (rm2_NU l Z a0 hw []  dH dN dU h0 n0 Z0 SH SN SU hHN hHU hNU) hZ (hw _ (List.mem_of_getElem? (i := 12) rfl)) (hw _ (List.mem_of_getElem? (i := 6) rfl)) (by decide) (by decide)) q79a q79c (g := (mkF m 12 #[.val (.int p0), .val (.int p1), .val (.ref dN), .val (.ref dU), .unset, .unset] [(.ref dU), (.ref dN)])) rfl (by rw [hml]; rfl) (Steps.refl _) (argsL := [(.ref dU)]) (rest := []) (lenOf pd_1 rfl) rfl (by show 2 * 0 + _ ≤ _; exact Nat.le_of_eq rfl) (hb hby at_12) (fun _ _ => ⟨rfl, e49, (by decide : 0 + 0 ≤ _), (by decide : 0 + 0 ≤ _)⟩)
      dsimp only [Pt.U, Pt.locs, Pt.cells, Pt.slots] at X80 l80 y80 z80 st80 hQ80
      subst l80 y80 z80
      obtain ⟨rfl, N80q, e80⟩ := hQ80
      have N80 := Fr.app N49 N80q
      have c81 : ∀ t, Steps p.tables e below (T80.setTop (mkF m 18 #[.val (.int p0), .val (.int p1), .val (.ref dN), .val (.ref dU), .val (.ref dN), .unset] [(.ref dN)])) t → Steps p.tables e below (T80.setTop (mkF m 15 #[.val (.int p0), .val (.int p1), .val (.ref dN), .val (.ref dU), .unset, .unset] [(.ref dN)])) t := by
        intro t kt
        show Steps p.tables e below (T80.setTop (mkF m 15 #[.val (.int p0), .val (.int p1), .val (.ref dN), .val (.ref dU), .unset, .unset] [(.ref dN)])) _
        refine XS.astore X80.here hx rfl (hb hby at_15) rfl rfl (l' := #[.val (.int p0), .val (.int p1), .val (.ref dN), .val (.ref dU), .val (.ref dN), .unset]) rfl ?_
        show Steps p.tables e below (T80.setTop (mkF m 17 #[.val (.int p0), .val (.int p1), .val (.ref dN), .val (.ref dU), .val (.ref dN), .unset] [])) _
        refine XS.aloadN X80.here hx rfl (hb hby at_17) rfl rfl ?_
        exact kt
      obtain ⟨_, _, ⟨T82, L82, k82, n82⟩, -, X82, ⟨Lc82, hQ82, l82, y82, z82⟩, st82⟩ := Jvm.LawKit.callS X80 hx (y := (⟨"com/example/mapstone/mapstone/engine/DecisionAndPinLaw", "rank", "(Lcom/example/mapstone/mapstone/engine/Decision;)I"⟩ : MethodName)) hown (mvT hZ (hw _ (List.mem_of_getElem? (i := 16) rfl))) (mvT hZ (hw _ (List.mem_of_getElem? (i := 17) rfl))) (mvT hZ (hw _ (List.mem_of_getElem? (i := 2) rfl))) (mvT hZ (hw _ (List.mem_of_getElem? (i := 18) rfl))) (by decide) (backOf (W := 0) (rm3_N l Z a0 hw []  dH dN dU h0 n0 Z0 SH SN SU hHN hHU hNU) hZ (hw _ (List.mem_of_getElem? (i := 18) rfl)) (hw _ (List.mem_of_getElem? (i := 2) rfl)) (by decide) (by decide)) (g := (mkF m 18 #[.val (.int p0), .val (.int p1), .val (.ref dN), .val (.ref dU), .val (.ref dN), .unset] [(.ref dN)])) rfl (by rw [hml]; rfl) (argsL := [(.ref dN)]) (rest := []) (lenOf pd_2 rfl) rfl (by show 2 * 0 + _ ≤ _; exact Nat.le_of_eq rfl) (hb hby at_18) (fun _ _ => ⟨rfl, e80, (by decide : 0 + 0 ≤ _), (by decide : 0 + 0 ≤ _)⟩)
      dsimp only [Pt.U, Pt.locs, Pt.cells, Pt.slots] at X82 l82 y82 z82 st82 hQ82
      subst l82 y82 z82
      obtain ⟨rfl, N82q, e82⟩ := hQ82
      have N82 := Fr.app N80 N82q
      have c83 : ∀ t, Steps p.tables e below (T82.setTop (mkF m 22 #[.val (.int p0), .val (.int p1), .val (.ref dN), .val (.ref dU), .val (.ref dN), .unset] [(.ref dU), (.int (0 : Int32))])) t → Steps p.tables e below (T82.setTop (mkF m 21 #[.val (.int p0), .val (.int p1), .val (.ref dN), .val (.ref dU), .val (.ref dN), .unset] [(.int (0 : Int32))])) t := by
        intro t kt
        show Steps p.tables e below (T82.setTop (mkF m 21 #[.val (.int p0), .val (.int p1), .val (.ref dN), .val (.ref dU), .val (.ref dN), .unset] [(.int (0 : Int32))])) _
        refine XS.aloadN X82.here hx rfl (hb hby at_21) rfl rfl ?_
        exact kt
      obtain ⟨_, _, ⟨T84, L84, k84, n84⟩, -, X84, ⟨Lc84, hQ84, l84, y84, z84⟩, st84⟩ := Jvm.LawKit.callS X82 hx (y := (⟨"com/example/mapstone/mapstone/engine/DecisionAndPinLaw", "rank", "(Lcom/example/mapstone/mapstone/engine/Decision;)I"⟩ : MethodName)) hown (mvT hZ (hw _ (List.mem_of_getElem? (i := 16) rfl))) (mvT hZ (hw _ (List.mem_of_getElem? (i := 17) rfl))) (mvT hZ (hw _ (List.mem_of_getElem? (i := 2) rfl))) (mvT hZ (hw _ (List.mem_of_getElem? (i := 18) rfl))) (by decide) (backOf (W := 1) (rm3_U l Z a0 hw []  dH dN dU h0 n0 Z0 SH SN SU hHN hHU hNU) hZ (hw _ (List.mem_of_getElem? (i := 18) rfl)) (hw _ (List.mem_of_getElem? (i := 2) rfl)) (by decide) (by decide)) (g := (mkF m 22 #[.val (.int p0), .val (.int p1), .val (.ref dN), .val (.ref dU), .val (.ref dN), .unset] [(.ref dU), (.int (0 : Int32))])) rfl (by rw [hml]; rfl) (argsL := [(.ref dU)]) (rest := [(.int (0 : Int32))]) (lenOf pd_2 rfl) rfl (by show 2 * 0 + _ ≤ _; exact Nat.le_of_eq rfl) (hb hby at_22) (fun _ _ => ⟨rfl, e82, (by decide : 0 + 0 ≤ _), (by decide : 0 + 0 ≤ _)⟩)
      dsimp only [Pt.U, Pt.locs, Pt.cells, Pt.slots] at X84 l84 y84 z84 st84 hQ84
      subst l84 y84 z84
      obtain ⟨rfl, N84q, e84⟩ := hQ84
      have N84 := Fr.app N82 N84q
      obtain ⟨_, _, ⟨T85, L85, k85, n85⟩, -, X85, ⟨Lc85, hQ85, l85, y85, z85⟩, st85⟩ := Jvm.LawKit.callS X84 hx (y := (⟨"java/lang/Math", "min", "(II)I"⟩ : MethodName)) hown (mvT hZ (hw _ (List.mem_of_getElem? (i := 19) rfl))) (mvT hZ (hw _ (List.mem_of_getElem? (i := 20) rfl))) (mvT hZ (hw _ (List.mem_of_getElem? (i := 21) rfl))) (mvT hZ (hw _ (List.mem_of_getElem? (i := 22) rfl))) (by decide) (backOf (W := 0) (rm4 l Z a0 hw [] (0 : Int32) (1 : Int32)  h0 n0 Z0 ) hZ (hw _ (List.mem_of_getElem? (i := 22) rfl)) (hw _ (List.mem_of_getElem? (i := 21) rfl)) (by decide) (by decide)) (g := (mkF m 25 #[.val (.int p0), .val (.int p1), .val (.ref dN), .val (.ref dU), .val (.ref dN), .unset] [(.int (1 : Int32)), (.int (0 : Int32))])) rfl (by rw [hml]; rfl) (argsL := [(.int (0 : Int32)), (.int (1 : Int32))]) (rest := []) (lenOf pd_3 rfl) rfl (by show 2 * 0 + _ ≤ _; exact Nat.le_of_eq rfl) (hb hby at_25) (fun _ _ => ⟨rfl, e84, (by decide : 0 + 0 ≤ _), (by decide : 0 + 0 ≤ _)⟩)
      dsimp only [Pt.U, Pt.locs, Pt.cells, Pt.slots] at X85 l85 y85 z85 st85 hQ85
      subst l85 y85 z85
      obtain ⟨rfl, N85q, e85⟩ := hQ85
      have N85 := Fr.app N84 N85q
      have c86 : ∀ t, Steps p.tables e below (T85.setTop (mkF m 37 #[.val (.int p0), .val (.int p1), .val (.ref dN), .val (.ref dU), .val (.ref dN), .val (.int (own_min (0 : Int32) (1 : Int32)))] [(.ref dN)])) t → Steps p.tables e below (T85.setTop (mkF m 28 #[.val (.int p0), .val (.int p1), .val (.ref dN), .val (.ref dU), .val (.ref dN), .unset] [(.int (own_min (0 : Int32) (1 : Int32)))])) t := by
        intro t kt
        show Steps p.tables e below (T85.setTop (mkF m 28 #[.val (.int p0), .val (.int p1), .val (.ref dN), .val (.ref dU), .val (.ref dN), .unset] [(.int (own_min (0 : Int32) (1 : Int32)))])) _
        refine XS.istore X85.here hx rfl (hb hby at_28) rfl (l' := #[.val (.int p0), .val (.int p1), .val (.ref dN), .val (.ref dU), .val (.ref dN), .val (.int (own_min (0 : Int32) (1 : Int32)))]) rfl ?_
        show Steps p.tables e below (T85.setTop (mkF m 30 #[.val (.int p0), .val (.int p1), .val (.ref dN), .val (.ref dU), .val (.ref dN), .val (.int (own_min (0 : Int32) (1 : Int32)))] [])) _
        refine XS.aload X85.here hx rfl (hb hby at_30) rfl rfl ?_
        show Steps p.tables e below (T85.setTop (mkF m 32 #[.val (.int p0), .val (.int p1), .val (.ref dN), .val (.ref dU), .val (.ref dN), .val (.int (own_min (0 : Int32) (1 : Int32)))] [(.ref dN)])) _
        refine XS.ifnullNo X85.here hx rfl (hb hby at_32) rfl ?_
        show Steps p.tables e below (T85.setTop (mkF m 35 #[.val (.int p0), .val (.int p1), .val (.ref dN), .val (.ref dU), .val (.ref dN), .val (.int (own_min (0 : Int32) (1 : Int32)))] [])) _
        refine XS.aload X85.here hx rfl (hb hby at_35) rfl rfl ?_
        exact kt
      obtain ⟨_, _, ⟨T87, L87, k87, n87⟩, -, X87, ⟨Lc87, hQ87, l87, y87, z87⟩, st87⟩ := Jvm.LawKit.callS X85 hx (y := (⟨"com/example/mapstone/mapstone/engine/DecisionAndPinLaw", "rank", "(Lcom/example/mapstone/mapstone/engine/Decision;)I"⟩ : MethodName)) hown (mvT hZ (hw _ (List.mem_of_getElem? (i := 16) rfl))) (mvT hZ (hw _ (List.mem_of_getElem? (i := 17) rfl))) (mvT hZ (hw _ (List.mem_of_getElem? (i := 2) rfl))) (mvT hZ (hw _ (List.mem_of_getElem? (i := 18) rfl))) (by decide) (backOf (W := 0) (rm3_N l Z a0 hw []  dH dN dU h0 n0 Z0 SH SN SU hHN hHU hNU) hZ (hw _ (List.mem_of_getElem? (i := 18) rfl)) (hw _ (List.mem_of_getElem? (i := 2) rfl)) (by decide) (by decide)) (g := (mkF m 37 #[.val (.int p0), .val (.int p1), .val (.ref dN), .val (.ref dU), .val (.ref dN), .val (.int (own_min (0 : Int32) (1 : Int32)))] [(.ref dN)])) rfl (by rw [hml]; rfl) (argsL := [(.ref dN)]) (rest := []) (lenOf pd_2 rfl) rfl (by show 2 * 0 + _ ≤ _; exact Nat.le_of_eq rfl) (hb hby at_37) (fun _ _ => ⟨rfl, e85, (by decide : 0 + 0 ≤ _), (by decide : 0 + 0 ≤ _)⟩)
      dsimp only [Pt.U, Pt.locs, Pt.cells, Pt.slots] at X87 l87 y87 z87 st87 hQ87
      subst l87 y87 z87
      obtain ⟨rfl, N87q, e87⟩ := hQ87
      have N87 := Fr.app N85 N87q
      have c88 : ∀ t, Steps p.tables e below (T87.setTop (mkF m 50 #[.val (.int p0), .val (.int p1), .val (.ref dN), .val (.ref dU), .val (.ref dN), .val (.int (own_min (0 : Int32) (1 : Int32)))] [(.int (1 : Int32))])) t → Steps p.tables e below (T87.setTop (mkF m 40 #[.val (.int p0), .val (.int p1), .val (.ref dN), .val (.ref dU), .val (.ref dN), .val (.int (own_min (0 : Int32) (1 : Int32)))] [(.int (0 : Int32))])) t := by
        intro t kt
        show Steps p.tables e below (T87.setTop (mkF m 40 #[.val (.int p0), .val (.int p1), .val (.ref dN), .val (.ref dU), .val (.ref dN), .val (.int (own_min (0 : Int32) (1 : Int32)))] [(.int (0 : Int32))])) _
        refine XS.iload X87.here hx rfl (hb hby at_40) rfl ?_
        show Steps p.tables e below (T87.setTop (mkF m 42 #[.val (.int p0), .val (.int p1), .val (.ref dN), .val (.ref dU), .val (.ref dN), .val (.int (own_min (0 : Int32) (1 : Int32)))] [(.int (own_min (0 : Int32) (1 : Int32))), (.int (0 : Int32))])) _
        refine XS.icmpNo X87.here hx rfl (hb hby at_42) rfl (teq (by decide : (0 : Int32) = (own_min (0 : Int32) (1 : Int32)))).2 ?_
        show Steps p.tables e below (T87.setTop (mkF m 45 #[.val (.int p0), .val (.int p1), .val (.ref dN), .val (.ref dU), .val (.ref dN), .val (.int (own_min (0 : Int32) (1 : Int32)))] [])) _
        refine XS.iconst X87.here hx rfl (hb hby at_45) ?_
        show Steps p.tables e below (T87.setTop (mkF m 46 #[.val (.int p0), .val (.int p1), .val (.ref dN), .val (.ref dU), .val (.ref dN), .val (.int (own_min (0 : Int32) (1 : Int32)))] [(.int (1 : Int32))])) _
        refine XS.goto X87.here hx rfl (pc0 := 46) (pc' := 50) rfl (hb hby at_46) (by decide) (by decide) ?_
        exact kt
      obtain ⟨fs, hr, hrun, hended, hW, hsame⟩ := X87.leave (v := some (.int (1 : Int32))) (fun h => by rw [Bd.returns] at h; cases h)
      refine ⟨_, _, pre0 _ (c1 _ (st2 _ (c3 _ (c47 _ (c48 _ (st49 _ (c50 _ (c77 _ (c78 _ (st80.trans (c81 _ (st82 _ (c83 _ (st84 _ (st85 _ (c86 _ (st87 _ (c88 _ (?_))))))))))))))))))), hrun, hended, _, _, rfl, ?_, ⟨_, rfl⟩, hW, hsame.mono (by decide) (by decide)⟩
      · show Steps p.tables e below (T87.setTop (mkF m 50 #[.val (.int p0), .val (.int p1), .val (.ref dN), .val (.ref dU), .val (.ref dN), .val (.int (own_min (0 : Int32) (1 : Int32)))] [(.int (1 : Int32))])) _
        exact retN X87 hx (t := .boolean) Bd.returns (by simp) (hb hby at_50) hr
      · show Q0 Z p0 p1 dH dN dU h0 n0 _ T87.heap _
        rw [e87]
        exact ⟨congrArg (fun z => some (Value.int z)) (show (1 : Int32) = (1 : Int32) from by rfl), N87⟩
  · skip
    have c90 : ∀ t, Steps p.tables e below (T2.setTop (mkF m 5 #[.val (.int p0), .val (.int p1), .val (.ref dU), .unset, .unset, .unset] [])) t → Steps p.tables e below (T2.setTop (mkF m 5 #[.val (.int p0), .val (.int p1), .val (.ref (own_pk dH dN dU p0)), .unset, .unset, .unset] [])) t := fun t kt => by rw [hkp0]; exact kt
    have c91 : ∀ t, Steps p.tables e below (T2.setTop (mkF m 6 #[.val (.int p0), .val (.int p1), .val (.ref dU), .unset, .unset, .unset] [(.int p1)])) t → Steps p.tables e below (T2.setTop (mkF m 5 #[.val (.int p0), .val (.int p1), .val (.ref dU), .unset, .unset, .unset] [])) t := by
      intro t kt
      show Steps p.tables e below (T2.setTop (mkF m 5 #[.val (.int p0), .val (.int p1), .val (.ref dU), .unset, .unset, .unset] [])) _
      refine XS.iloadN X2.here hx rfl (hb hby at_5) rfl ?_
      exact kt
    obtain ⟨_, _, ⟨T92, L92, k92, n92⟩, -, X92, ⟨Lc92, hQ92, l92, y92, z92⟩, st92⟩ := Jvm.LawKit.callS X2 hx (y := (⟨"com/example/mapstone/mapstone/engine/DecisionAndPinLaw", "pick", "(I)Lcom/example/mapstone/mapstone/engine/Decision;"⟩ : MethodName)) hown (mvT hZ (hw _ (List.mem_of_getElem? (i := 0) rfl))) (mvT hZ (hw _ (List.mem_of_getElem? (i := 1) rfl))) (mvT hZ (hw _ (List.mem_of_getElem? (i := 2) rfl))) (mvT hZ (hw _ (List.mem_of_getElem? (i := 3) rfl))) (by decide) (backOf (W := 0) (rm1 l Z a0 hw [] p1 dH dN dU h0 n0 Z0 SH SN SU) hZ (hw _ (List.mem_of_getElem? (i := 3) rfl)) (hw _ (List.mem_of_getElem? (i := 2) rfl)) (by decide) (by decide)) (g := (mkF m 6 #[.val (.int p0), .val (.int p1), .val (.ref dU), .unset, .unset, .unset] [(.int p1)])) rfl (by rw [hml]; rfl) (argsL := [(.int p1)]) (rest := []) (lenOf pd_0 rfl) rfl (by show 2 * 0 + _ ≤ _; exact Nat.le_of_eq rfl) (hb hby at_6) (fun _ _ => ⟨rfl, e2, (by decide : 0 + 0 ≤ _), (by decide : 0 + 0 ≤ _)⟩)
    dsimp only [Pt.U, Pt.locs, Pt.cells, Pt.slots] at X92 l92 y92 z92 st92 hQ92
    subst l92 y92 z92
    obtain ⟨rfl, N92q, e92⟩ := hQ92
    have N92 := Fr.app N2 N92q
    have c93 : ∀ t, Steps p.tables e below (T92.setTop (mkF m 10 #[.val (.int p0), .val (.int p1), .val (.ref dU), .val (.ref (own_pk dH dN dU p1)), .unset, .unset] [])) t → Steps p.tables e below (T92.setTop (mkF m 9 #[.val (.int p0), .val (.int p1), .val (.ref dU), .unset, .unset, .unset] [(.ref (own_pk dH dN dU p1))])) t := by
      intro t kt
      show Steps p.tables e below (T92.setTop (mkF m 9 #[.val (.int p0), .val (.int p1), .val (.ref dU), .unset, .unset, .unset] [(.ref (own_pk dH dN dU p1))])) _
      refine XS.astoreN X92.here hx rfl (hb hby at_9) rfl rfl (l' := #[.val (.int p0), .val (.int p1), .val (.ref dU), .val (.ref (own_pk dH dN dU p1)), .unset, .unset]) rfl ?_
      exact kt
    rcases own_pk3 dH dN dU p1 with hkp1 | hkp1 | hkp1
    · skip
      have c94 : ∀ t, Steps p.tables e below (T92.setTop (mkF m 10 #[.val (.int p0), .val (.int p1), .val (.ref dU), .val (.ref dH), .unset, .unset] [])) t → Steps p.tables e below (T92.setTop (mkF m 10 #[.val (.int p0), .val (.int p1), .val (.ref dU), .val (.ref (own_pk dH dN dU p1)), .unset, .unset] [])) t := fun t kt => by rw [hkp1]; exact kt
      have c95 : ∀ t, Steps p.tables e below (T92.setTop (mkF m 12 #[.val (.int p0), .val (.int p1), .val (.ref dU), .val (.ref dH), .unset, .unset] [(.ref dH), (.ref dU)])) t → Steps p.tables e below (T92.setTop (mkF m 10 #[.val (.int p0), .val (.int p1), .val (.ref dU), .val (.ref dH), .unset, .unset] [])) t := by
        intro t kt
        show Steps p.tables e below (T92.setTop (mkF m 10 #[.val (.int p0), .val (.int p1), .val (.ref dU), .val (.ref dH), .unset, .unset] [])) _
        refine XS.aloadN X92.here hx rfl (hb hby at_10) rfl rfl ?_
        show Steps p.tables e below (T92.setTop (mkF m 11 #[.val (.int p0), .val (.int p1), .val (.ref dU), .val (.ref dH), .unset, .unset] [(.ref dU)])) _
        refine XS.aloadN X92.here hx rfl (hb hby at_11) rfl rfl ?_
        exact kt
      obtain ⟨cq96, kq96, q96a, q96b, q96c⟩ := isOf hZ e92 EU
      obtain ⟨_, _, ⟨T97, L97, k97, n97⟩, -, X97, ⟨Lc97, hQ97, l97, y97, z97⟩, st97⟩ := X92.virtualBack hx (y := (⟨"com/example/mapstone/mapstone/engine/Decision", "and", "(Lcom/example/mapstone/mapstone/engine/Decision;)Lcom/example/mapstone/mapstone/engine/Decision;"⟩ : MethodName)) (z := (⟨"com/example/mapstone/mapstone/engine/Decision", "and", "(Lcom/example/mapstone/mapstone/engine/Decision;)Lcom/example/mapstone/mapstone/engine/Decision;"⟩ : MethodName)) hown (mvT hZ (hw _ (List.mem_of_getElem? (i := 8) rfl))) (mvT hZ (hw _ (List.mem_of_getElem? (i := 9) rfl))) (notFace_of_selects (args := #[]) (mvT hZ (hw _ (List.mem_of_getElem? (i := 11) rfl)))) (mvT hZ (hw _ (List.mem_of_getElem? (i := 11) rfl))) (mvT hZ (hw _ (List.mem_of_getElem? (i := 10) rfl))) (by decide) (backOf (W := 0) (rm2_UH l Z a0 hw []  dH dN dU h0 n0 Z0 SH SN SU hHN hHU hNU) hZ (hw _ (List.mem_of_getElem? (i := 12) rfl)) (hw _ (List.mem_of_getElem? (i := 6) rfl)) (by decide) (by decide)) q96a q96c (g := (mkF m 12 #[.val (.int p0), .val (.int p1), .val (.ref dU), .val (.ref dH), .unset, .unset] [(.ref dH), (.ref dU)])) rfl (by rw [hml]; rfl) (Steps.refl _) (argsL := [(.ref dH)]) (rest := []) (lenOf pd_1 rfl) rfl (by show 2 * 0 + _ ≤ _; exact Nat.le_of_eq rfl) (hb hby at_12) (fun _ _ => ⟨rfl, e92, (by decide : 0 + 0 ≤ _), (by decide : 0 + 0 ≤ _)⟩)
      dsimp only [Pt.U, Pt.locs, Pt.cells, Pt.slots] at X97 l97 y97 z97 st97 hQ97
      subst l97 y97 z97
      obtain ⟨rfl, N97q, e97⟩ := hQ97
      have N97 := Fr.app N92 N97q
      have c98 : ∀ t, Steps p.tables e below (T97.setTop (mkF m 18 #[.val (.int p0), .val (.int p1), .val (.ref dU), .val (.ref dH), .val (.ref dU), .unset] [(.ref dU)])) t → Steps p.tables e below (T97.setTop (mkF m 15 #[.val (.int p0), .val (.int p1), .val (.ref dU), .val (.ref dH), .unset, .unset] [(.ref dU)])) t := by
        intro t kt
        show Steps p.tables e below (T97.setTop (mkF m 15 #[.val (.int p0), .val (.int p1), .val (.ref dU), .val (.ref dH), .unset, .unset] [(.ref dU)])) _
        refine XS.astore X97.here hx rfl (hb hby at_15) rfl rfl (l' := #[.val (.int p0), .val (.int p1), .val (.ref dU), .val (.ref dH), .val (.ref dU), .unset]) rfl ?_
        show Steps p.tables e below (T97.setTop (mkF m 17 #[.val (.int p0), .val (.int p1), .val (.ref dU), .val (.ref dH), .val (.ref dU), .unset] [])) _
        refine XS.aloadN X97.here hx rfl (hb hby at_17) rfl rfl ?_
        exact kt
      obtain ⟨_, _, ⟨T99, L99, k99, n99⟩, -, X99, ⟨Lc99, hQ99, l99, y99, z99⟩, st99⟩ := Jvm.LawKit.callS X97 hx (y := (⟨"com/example/mapstone/mapstone/engine/DecisionAndPinLaw", "rank", "(Lcom/example/mapstone/mapstone/engine/Decision;)I"⟩ : MethodName)) hown (mvT hZ (hw _ (List.mem_of_getElem? (i := 16) rfl))) (mvT hZ (hw _ (List.mem_of_getElem? (i := 17) rfl))) (mvT hZ (hw _ (List.mem_of_getElem? (i := 2) rfl))) (mvT hZ (hw _ (List.mem_of_getElem? (i := 18) rfl))) (by decide) (backOf (W := 0) (rm3_U l Z a0 hw []  dH dN dU h0 n0 Z0 SH SN SU hHN hHU hNU) hZ (hw _ (List.mem_of_getElem? (i := 18) rfl)) (hw _ (List.mem_of_getElem? (i := 2) rfl)) (by decide) (by decide)) (g := (mkF m 18 #[.val (.int p0), .val (.int p1), .val (.ref dU), .val (.ref dH), .val (.ref dU), .unset] [(.ref dU)])) rfl (by rw [hml]; rfl) (argsL := [(.ref dU)]) (rest := []) (lenOf pd_2 rfl) rfl (by show 2 * 0 + _ ≤ _; exact Nat.le_of_eq rfl) (hb hby at_18) (fun _ _ => ⟨rfl, e97, (by decide : 0 + 0 ≤ _), (by decide : 0 + 0 ≤ _)⟩)
      dsimp only [Pt.U, Pt.locs, Pt.cells, Pt.slots] at X99 l99 y99 z99 st99 hQ99
      subst l99 y99 z99
      obtain ⟨rfl, N99q, e99⟩ := hQ99
      have N99 := Fr.app N97 N99q
      have c100 : ∀ t, Steps p.tables e below (T99.setTop (mkF m 22 #[.val (.int p0), .val (.int p1), .val (.ref dU), .val (.ref dH), .val (.ref dU), .unset] [(.ref dH), (.int (1 : Int32))])) t → Steps p.tables e below (T99.setTop (mkF m 21 #[.val (.int p0), .val (.int p1), .val (.ref dU), .val (.ref dH), .val (.ref dU), .unset] [(.int (1 : Int32))])) t := by
        intro t kt
        show Steps p.tables e below (T99.setTop (mkF m 21 #[.val (.int p0), .val (.int p1), .val (.ref dU), .val (.ref dH), .val (.ref dU), .unset] [(.int (1 : Int32))])) _
        refine XS.aloadN X99.here hx rfl (hb hby at_21) rfl rfl ?_
        exact kt
      obtain ⟨_, _, ⟨T101, L101, k101, n101⟩, -, X101, ⟨Lc101, hQ101, l101, y101, z101⟩, st101⟩ := Jvm.LawKit.callS X99 hx (y := (⟨"com/example/mapstone/mapstone/engine/DecisionAndPinLaw", "rank", "(Lcom/example/mapstone/mapstone/engine/Decision;)I"⟩ : MethodName)) hown (mvT hZ (hw _ (List.mem_of_getElem? (i := 16) rfl))) (mvT hZ (hw _ (List.mem_of_getElem? (i := 17) rfl))) (mvT hZ (hw _ (List.mem_of_getElem? (i := 2) rfl))) (mvT hZ (hw _ (List.mem_of_getElem? (i := 18) rfl))) (by decide) (backOf (W := 1) (rm3_H l Z a0 hw []  dH dN dU h0 n0 Z0 SH SN SU hHN hHU hNU) hZ (hw _ (List.mem_of_getElem? (i := 18) rfl)) (hw _ (List.mem_of_getElem? (i := 2) rfl)) (by decide) (by decide)) (g := (mkF m 22 #[.val (.int p0), .val (.int p1), .val (.ref dU), .val (.ref dH), .val (.ref dU), .unset] [(.ref dH), (.int (1 : Int32))])) rfl (by rw [hml]; rfl) (argsL := [(.ref dH)]) (rest := [(.int (1 : Int32))]) (lenOf pd_2 rfl) rfl (by show 2 * 0 + _ ≤ _; exact Nat.le_of_eq rfl) (hb hby at_22) (fun _ _ => ⟨rfl, e99, (by decide : 0 + 0 ≤ _), (by decide : 0 + 0 ≤ _)⟩)
      dsimp only [Pt.U, Pt.locs, Pt.cells, Pt.slots] at X101 l101 y101 z101 st101 hQ101
      subst l101 y101 z101
      obtain ⟨rfl, N101q, e101⟩ := hQ101
      have N101 := Fr.app N99 N101q
      obtain ⟨_, _, ⟨T102, L102, k102, n102⟩, -, X102, ⟨Lc102, hQ102, l102, y102, z102⟩, st102⟩ := Jvm.LawKit.callS X101 hx (y := (⟨"java/lang/Math", "min", "(II)I"⟩ : MethodName)) hown (mvT hZ (hw _ (List.mem_of_getElem? (i := 19) rfl))) (mvT hZ (hw _ (List.mem_of_getElem? (i := 20) rfl))) (mvT hZ (hw _ (List.mem_of_getElem? (i := 21) rfl))) (mvT hZ (hw _ (List.mem_of_getElem? (i := 22) rfl))) (by decide) (backOf (W := 0) (rm4 l Z a0 hw [] (1 : Int32) (2 : Int32)  h0 n0 Z0 ) hZ (hw _ (List.mem_of_getElem? (i := 22) rfl)) (hw _ (List.mem_of_getElem? (i := 21) rfl)) (by decide) (by decide)) (g := (mkF m 25 #[.val (.int p0), .val (.int p1), .val (.ref dU), .val (.ref dH), .val (.ref dU), .unset] [(.int (2 : Int32)), (.int (1 : Int32))])) rfl (by rw [hml]; rfl) (argsL := [(.int (1 : Int32)), (.int (2 : Int32))]) (rest := []) (lenOf pd_3 rfl) rfl (by show 2 * 0 + _ ≤ _; exact Nat.le_of_eq rfl) (hb hby at_25) (fun _ _ => ⟨rfl, e101, (by decide : 0 + 0 ≤ _), (by decide : 0 + 0 ≤ _)⟩)
      dsimp only [Pt.U, Pt.locs, Pt.cells, Pt.slots] at X102 l102 y102 z102 st102 hQ102
      subst l102 y102 z102
      obtain ⟨rfl, N102q, e102⟩ := hQ102
      have N102 := Fr.app N101 N102q
      have c103 : ∀ t, Steps p.tables e below (T102.setTop (mkF m 37 #[.val (.int p0), .val (.int p1), .val (.ref dU), .val (.ref dH), .val (.ref dU), .val (.int (own_min (1 : Int32) (2 : Int32)))] [(.ref dU)])) t → Steps p.tables e below (T102.setTop (mkF m 28 #[.val (.int p0), .val (.int p1), .val (.ref dU), .val (.ref dH), .val (.ref dU), .unset] [(.int (own_min (1 : Int32) (2 : Int32)))])) t := by
        intro t kt
        show Steps p.tables e below (T102.setTop (mkF m 28 #[.val (.int p0), .val (.int p1), .val (.ref dU), .val (.ref dH), .val (.ref dU), .unset] [(.int (own_min (1 : Int32) (2 : Int32)))])) _
        refine XS.istore X102.here hx rfl (hb hby at_28) rfl (l' := #[.val (.int p0), .val (.int p1), .val (.ref dU), .val (.ref dH), .val (.ref dU), .val (.int (own_min (1 : Int32) (2 : Int32)))]) rfl ?_
        show Steps p.tables e below (T102.setTop (mkF m 30 #[.val (.int p0), .val (.int p1), .val (.ref dU), .val (.ref dH), .val (.ref dU), .val (.int (own_min (1 : Int32) (2 : Int32)))] [])) _
        refine XS.aload X102.here hx rfl (hb hby at_30) rfl rfl ?_
        show Steps p.tables e below (T102.setTop (mkF m 32 #[.val (.int p0), .val (.int p1), .val (.ref dU), .val (.ref dH), .val (.ref dU), .val (.int (own_min (1 : Int32) (2 : Int32)))] [(.ref dU)])) _
        refine XS.ifnullNo X102.here hx rfl (hb hby at_32) rfl ?_
        show Steps p.tables e below (T102.setTop (mkF m 35 #[.val (.int p0), .val (.int p1), .val (.ref dU), .val (.ref dH), .val (.ref dU), .val (.int (own_min (1 : Int32) (2 : Int32)))] [])) _
        refine XS.aload X102.here hx rfl (hb hby at_35) rfl rfl ?_
        exact kt
      obtain ⟨_, _, ⟨T104, L104, k104, n104⟩, -, X104, ⟨Lc104, hQ104, l104, y104, z104⟩, st104⟩ := Jvm.LawKit.callS X102 hx (y := (⟨"com/example/mapstone/mapstone/engine/DecisionAndPinLaw", "rank", "(Lcom/example/mapstone/mapstone/engine/Decision;)I"⟩ : MethodName)) hown (mvT hZ (hw _ (List.mem_of_getElem? (i := 16) rfl))) (mvT hZ (hw _ (List.mem_of_getElem? (i := 17) rfl))) (mvT hZ (hw _ (List.mem_of_getElem? (i := 2) rfl))) (mvT hZ (hw _ (List.mem_of_getElem? (i := 18) rfl))) (by decide) (backOf (W := 0) (rm3_U l Z a0 hw []  dH dN dU h0 n0 Z0 SH SN SU hHN hHU hNU) hZ (hw _ (List.mem_of_getElem? (i := 18) rfl)) (hw _ (List.mem_of_getElem? (i := 2) rfl)) (by decide) (by decide)) (g := (mkF m 37 #[.val (.int p0), .val (.int p1), .val (.ref dU), .val (.ref dH), .val (.ref dU), .val (.int (own_min (1 : Int32) (2 : Int32)))] [(.ref dU)])) rfl (by rw [hml]; rfl) (argsL := [(.ref dU)]) (rest := []) (lenOf pd_2 rfl) rfl (by show 2 * 0 + _ ≤ _; exact Nat.le_of_eq rfl) (hb hby at_37) (fun _ _ => ⟨rfl, e102, (by decide : 0 + 0 ≤ _), (by decide : 0 + 0 ≤ _)⟩)
      dsimp only [Pt.U, Pt.locs, Pt.cells, Pt.slots] at X104 l104 y104 z104 st104 hQ104
      subst l104 y104 z104
      obtain ⟨rfl, N104q, e104⟩ := hQ104
      have N104 := Fr.app N102 N104q
      have c105 : ∀ t, Steps p.tables e below (T104.setTop (mkF m 50 #[.val (.int p0), .val (.int p1), .val (.ref dU), .val (.ref dH), .val (.ref dU), .val (.int (own_min (1 : Int32) (2 : Int32)))] [(.int (1 : Int32))])) t → Steps p.tables e below (T104.setTop (mkF m 40 #[.val (.int p0), .val (.int p1), .val (.ref dU), .val (.ref dH), .val (.ref dU), .val (.int (own_min (1 : Int32) (2 : Int32)))] [(.int (1 : Int32))])) t := by
        intro t kt
        show Steps p.tables e below (T104.setTop (mkF m 40 #[.val (.int p0), .val (.int p1), .val (.ref dU), .val (.ref dH), .val (.ref dU), .val (.int (own_min (1 : Int32) (2 : Int32)))] [(.int (1 : Int32))])) _
        refine XS.iload X104.here hx rfl (hb hby at_40) rfl ?_
        show Steps p.tables e below (T104.setTop (mkF m 42 #[.val (.int p0), .val (.int p1), .val (.ref dU), .val (.ref dH), .val (.ref dU), .val (.int (own_min (1 : Int32) (2 : Int32)))] [(.int (own_min (1 : Int32) (2 : Int32))), (.int (1 : Int32))])) _
        refine XS.icmpNo X104.here hx rfl (hb hby at_42) rfl (teq (by decide : (1 : Int32) = (own_min (1 : Int32) (2 : Int32)))).2 ?_
        show Steps p.tables e below (T104.setTop (mkF m 45 #[.val (.int p0), .val (.int p1), .val (.ref dU), .val (.ref dH), .val (.ref dU), .val (.int (own_min (1 : Int32) (2 : Int32)))] [])) _
        refine XS.iconst X104.here hx rfl (hb hby at_45) ?_
        show Steps p.tables e below (T104.setTop (mkF m 46 #[.val (.int p0), .val (.int p1), .val (.ref dU), .val (.ref dH), .val (.ref dU), .val (.int (own_min (1 : Int32) (2 : Int32)))] [(.int (1 : Int32))])) _
        refine XS.goto X104.here hx rfl (pc0 := 46) (pc' := 50) rfl (hb hby at_46) (by decide) (by decide) ?_
        exact kt
      obtain ⟨fs, hr, hrun, hended, hW, hsame⟩ := X104.leave (v := some (.int (1 : Int32))) (fun h => by rw [Bd.returns] at h; cases h)
      refine ⟨_, _, pre0 _ (c1 _ (st2 _ (c3 _ (c90 _ (c91 _ (st92 _ (c93 _ (c94 _ (c95 _ (st97.trans (c98 _ (st99 _ (c100 _ (st101 _ (st102 _ (c103 _ (st104 _ (c105 _ (?_))))))))))))))))))), hrun, hended, _, _, rfl, ?_, ⟨_, rfl⟩, hW, hsame.mono (by decide) (by decide)⟩
      · show Steps p.tables e below (T104.setTop (mkF m 50 #[.val (.int p0), .val (.int p1), .val (.ref dU), .val (.ref dH), .val (.ref dU), .val (.int (own_min (1 : Int32) (2 : Int32)))] [(.int (1 : Int32))])) _
        exact retN X104 hx (t := .boolean) Bd.returns (by simp) (hb hby at_50) hr
      · show Q0 Z p0 p1 dH dN dU h0 n0 _ T104.heap _
        rw [e104]
        exact ⟨congrArg (fun z => some (Value.int z)) (show (1 : Int32) = (1 : Int32) from by rfl), N104⟩
    · skip
      have c107 : ∀ t, Steps p.tables e below (T92.setTop (mkF m 10 #[.val (.int p0), .val (.int p1), .val (.ref dU), .val (.ref dN), .unset, .unset] [])) t → Steps p.tables e below (T92.setTop (mkF m 10 #[.val (.int p0), .val (.int p1), .val (.ref dU), .val (.ref (own_pk dH dN dU p1)), .unset, .unset] [])) t := fun t kt => by rw [hkp1]; exact kt
      have c108 : ∀ t, Steps p.tables e below (T92.setTop (mkF m 12 #[.val (.int p0), .val (.int p1), .val (.ref dU), .val (.ref dN), .unset, .unset] [(.ref dN), (.ref dU)])) t → Steps p.tables e below (T92.setTop (mkF m 10 #[.val (.int p0), .val (.int p1), .val (.ref dU), .val (.ref dN), .unset, .unset] [])) t := by
        intro t kt
        show Steps p.tables e below (T92.setTop (mkF m 10 #[.val (.int p0), .val (.int p1), .val (.ref dU), .val (.ref dN), .unset, .unset] [])) _
        refine XS.aloadN X92.here hx rfl (hb hby at_10) rfl rfl ?_
        show Steps p.tables e below (T92.setTop (mkF m 11 #[.val (.int p0), .val (.int p1), .val (.ref dU), .val (.ref dN), .unset, .unset] [(.ref dU)])) _
        refine XS.aloadN X92.here hx rfl (hb hby at_11) rfl rfl ?_
        exact kt
      obtain ⟨cq109, kq109, q109a, q109b, q109c⟩ := isOf hZ e92 EU
      obtain ⟨_, _, ⟨T110, L110, k110, n110⟩, -, X110, ⟨Lc110, hQ110, l110, y110, z110⟩, st110⟩ := X92.virtualBack hx (y := (⟨"com/example/mapstone/mapstone/engine/Decision", "and", "(Lcom/example/mapstone/mapstone/engine/Decision;)Lcom/example/mapstone/mapstone/engine/Decision;"⟩ : MethodName)) (z := (⟨"com/example/mapstone/mapstone/engine/Decision", "and", "(Lcom/example/mapstone/mapstone/engine/Decision;)Lcom/example/mapstone/mapstone/engine/Decision;"⟩ : MethodName)) hown (mvT hZ (hw _ (List.mem_of_getElem? (i := 8) rfl))) (mvT hZ (hw _ (List.mem_of_getElem? (i := 9) rfl))) (notFace_of_selects (args := #[]) (mvT hZ (hw _ (List.mem_of_getElem? (i := 11) rfl)))) (mvT hZ (hw _ (List.mem_of_getElem? (i := 11) rfl))) (mvT hZ (hw _ (List.mem_of_getElem? (i := 10) rfl))) (by decide) (backOf (W := 0) (rm2_UN l Z a0 hw []  dH dN dU h0 n0 Z0 SH SN SU hHN hHU hNU) hZ (hw _ (List.mem_of_getElem? (i := 12) rfl)) (hw _ (List.mem_of_getElem? (i := 6) rfl)) (by decide) (by decide)) q109a q109c (g := (mkF m 12 #[.val (.int p0), .val (.int p1), .val (.ref dU), .val (.ref dN), .unset, .unset] [(.ref dN), (.ref dU)])) rfl (by rw [hml]; rfl) (Steps.refl _) (argsL := [(.ref dN)]) (rest := []) (lenOf pd_1 rfl) rfl (by show 2 * 0 + _ ≤ _; exact Nat.le_of_eq rfl) (hb hby at_12) (fun _ _ => ⟨rfl, e92, (by decide : 0 + 0 ≤ _), (by decide : 0 + 0 ≤ _)⟩)
      dsimp only [Pt.U, Pt.locs, Pt.cells, Pt.slots] at X110 l110 y110 z110 st110 hQ110
      subst l110 y110 z110
      obtain ⟨rfl, N110q, e110⟩ := hQ110
      have N110 := Fr.app N92 N110q
      have c111 : ∀ t, Steps p.tables e below (T110.setTop (mkF m 18 #[.val (.int p0), .val (.int p1), .val (.ref dU), .val (.ref dN), .val (.ref dN), .unset] [(.ref dU)])) t → Steps p.tables e below (T110.setTop (mkF m 15 #[.val (.int p0), .val (.int p1), .val (.ref dU), .val (.ref dN), .unset, .unset] [(.ref dN)])) t := by
        intro t kt
        show Steps p.tables e below (T110.setTop (mkF m 15 #[.val (.int p0), .val (.int p1), .val (.ref dU), .val (.ref dN), .unset, .unset] [(.ref dN)])) _
        refine XS.astore X110.here hx rfl (hb hby at_15) rfl rfl (l' := #[.val (.int p0), .val (.int p1), .val (.ref dU), .val (.ref dN), .val (.ref dN), .unset]) rfl ?_
        show Steps p.tables e below (T110.setTop (mkF m 17 #[.val (.int p0), .val (.int p1), .val (.ref dU), .val (.ref dN), .val (.ref dN), .unset] [])) _
        refine XS.aloadN X110.here hx rfl (hb hby at_17) rfl rfl ?_
        exact kt
      obtain ⟨_, _, ⟨T112, L112, k112, n112⟩, -, X112, ⟨Lc112, hQ112, l112, y112, z112⟩, st112⟩ := Jvm.LawKit.callS X110 hx (y := (⟨"com/example/mapstone/mapstone/engine/DecisionAndPinLaw", "rank", "(Lcom/example/mapstone/mapstone/engine/Decision;)I"⟩ : MethodName)) hown (mvT hZ (hw _ (List.mem_of_getElem? (i := 16) rfl))) (mvT hZ (hw _ (List.mem_of_getElem? (i := 17) rfl))) (mvT hZ (hw _ (List.mem_of_getElem? (i := 2) rfl))) (mvT hZ (hw _ (List.mem_of_getElem? (i := 18) rfl))) (by decide) (backOf (W := 0) (rm3_U l Z a0 hw []  dH dN dU h0 n0 Z0 SH SN SU hHN hHU hNU) hZ (hw _ (List.mem_of_getElem? (i := 18) rfl)) (hw _ (List.mem_of_getElem? (i := 2) rfl)) (by decide) (by decide)) (g := (mkF m 18 #[.val (.int p0), .val (.int p1), .val (.ref dU), .val (.ref dN), .val (.ref dN), .unset] [(.ref dU)])) rfl (by rw [hml]; rfl) (argsL := [(.ref dU)]) (rest := []) (lenOf pd_2 rfl) rfl (by show 2 * 0 + _ ≤ _; exact Nat.le_of_eq rfl) (hb hby at_18) (fun _ _ => ⟨rfl, e110, (by decide : 0 + 0 ≤ _), (by decide : 0 + 0 ≤ _)⟩)
      dsimp only [Pt.U, Pt.locs, Pt.cells, Pt.slots] at X112 l112 y112 z112 st112 hQ112
      subst l112 y112 z112
      obtain ⟨rfl, N112q, e112⟩ := hQ112
      have N112 := Fr.app N110 N112q
      have c113 : ∀ t, Steps p.tables e below (T112.setTop (mkF m 22 #[.val (.int p0), .val (.int p1), .val (.ref dU), .val (.ref dN), .val (.ref dN), .unset] [(.ref dN), (.int (1 : Int32))])) t → Steps p.tables e below (T112.setTop (mkF m 21 #[.val (.int p0), .val (.int p1), .val (.ref dU), .val (.ref dN), .val (.ref dN), .unset] [(.int (1 : Int32))])) t := by
        intro t kt
        show Steps p.tables e below (T112.setTop (mkF m 21 #[.val (.int p0), .val (.int p1), .val (.ref dU), .val (.ref dN), .val (.ref dN), .unset] [(.int (1 : Int32))])) _
        refine XS.aloadN X112.here hx rfl (hb hby at_21) rfl rfl ?_
        exact kt
      obtain ⟨_, _, ⟨T114, L114, k114, n114⟩, -, X114, ⟨Lc114, hQ114, l114, y114, z114⟩, st114⟩ := Jvm.LawKit.callS X112 hx (y := (⟨"com/example/mapstone/mapstone/engine/DecisionAndPinLaw", "rank", "(Lcom/example/mapstone/mapstone/engine/Decision;)I"⟩ : MethodName)) hown (mvT hZ (hw _ (List.mem_of_getElem? (i := 16) rfl))) (mvT hZ (hw _ (List.mem_of_getElem? (i := 17) rfl))) (mvT hZ (hw _ (List.mem_of_getElem? (i := 2) rfl))) (mvT hZ (hw _ (List.mem_of_getElem? (i := 18) rfl))) (by decide) (backOf (W := 1) (rm3_N l Z a0 hw []  dH dN dU h0 n0 Z0 SH SN SU hHN hHU hNU) hZ (hw _ (List.mem_of_getElem? (i := 18) rfl)) (hw _ (List.mem_of_getElem? (i := 2) rfl)) (by decide) (by decide)) (g := (mkF m 22 #[.val (.int p0), .val (.int p1), .val (.ref dU), .val (.ref dN), .val (.ref dN), .unset] [(.ref dN), (.int (1 : Int32))])) rfl (by rw [hml]; rfl) (argsL := [(.ref dN)]) (rest := [(.int (1 : Int32))]) (lenOf pd_2 rfl) rfl (by show 2 * 0 + _ ≤ _; exact Nat.le_of_eq rfl) (hb hby at_22) (fun _ _ => ⟨rfl, e112, (by decide : 0 + 0 ≤ _), (by decide : 0 + 0 ≤ _)⟩)
      dsimp only [Pt.U, Pt.locs, Pt.cells, Pt.slots] at X114 l114 y114 z114 st114 hQ114
      subst l114 y114 z114
      obtain ⟨rfl, N114q, e114⟩ := hQ114
      have N114 := Fr.app N112 N114q
      obtain ⟨_, _, ⟨T115, L115, k115, n115⟩, -, X115, ⟨Lc115, hQ115, l115, y115, z115⟩, st115⟩ := Jvm.LawKit.callS X114 hx (y := (⟨"java/lang/Math", "min", "(II)I"⟩ : MethodName)) hown (mvT hZ (hw _ (List.mem_of_getElem? (i := 19) rfl))) (mvT hZ (hw _ (List.mem_of_getElem? (i := 20) rfl))) (mvT hZ (hw _ (List.mem_of_getElem? (i := 21) rfl))) (mvT hZ (hw _ (List.mem_of_getElem? (i := 22) rfl))) (by decide) (backOf (W := 0) (rm4 l Z a0 hw [] (1 : Int32) (0 : Int32)  h0 n0 Z0 ) hZ (hw _ (List.mem_of_getElem? (i := 22) rfl)) (hw _ (List.mem_of_getElem? (i := 21) rfl)) (by decide) (by decide)) (g := (mkF m 25 #[.val (.int p0), .val (.int p1), .val (.ref dU), .val (.ref dN), .val (.ref dN), .unset] [(.int (0 : Int32)), (.int (1 : Int32))])) rfl (by rw [hml]; rfl) (argsL := [(.int (1 : Int32)), (.int (0 : Int32))]) (rest := []) (lenOf pd_3 rfl) rfl (by show 2 * 0 + _ ≤ _; exact Nat.le_of_eq rfl) (hb hby at_25) (fun _ _ => ⟨rfl, e114, (by decide : 0 + 0 ≤ _), (by decide : 0 + 0 ≤ _)⟩)
      dsimp only [Pt.U, Pt.locs, Pt.cells, Pt.slots] at X115 l115 y115 z115 st115 hQ115
      subst l115 y115 z115
      obtain ⟨rfl, N115q, e115⟩ := hQ115
      have N115 := Fr.app N114 N115q
      have c116 : ∀ t, Steps p.tables e below (T115.setTop (mkF m 37 #[.val (.int p0), .val (.int p1), .val (.ref dU), .val (.ref dN), .val (.ref dN), .val (.int (own_min (1 : Int32) (0 : Int32)))] [(.ref dN)])) t → Steps p.tables e below (T115.setTop (mkF m 28 #[.val (.int p0), .val (.int p1), .val (.ref dU), .val (.ref dN), .val (.ref dN), .unset] [(.int (own_min (1 : Int32) (0 : Int32)))])) t := by
        intro t kt
        show Steps p.tables e below (T115.setTop (mkF m 28 #[.val (.int p0), .val (.int p1), .val (.ref dU), .val (.ref dN), .val (.ref dN), .unset] [(.int (own_min (1 : Int32) (0 : Int32)))])) _
        refine XS.istore X115.here hx rfl (hb hby at_28) rfl (l' := #[.val (.int p0), .val (.int p1), .val (.ref dU), .val (.ref dN), .val (.ref dN), .val (.int (own_min (1 : Int32) (0 : Int32)))]) rfl ?_
        show Steps p.tables e below (T115.setTop (mkF m 30 #[.val (.int p0), .val (.int p1), .val (.ref dU), .val (.ref dN), .val (.ref dN), .val (.int (own_min (1 : Int32) (0 : Int32)))] [])) _
        refine XS.aload X115.here hx rfl (hb hby at_30) rfl rfl ?_
        show Steps p.tables e below (T115.setTop (mkF m 32 #[.val (.int p0), .val (.int p1), .val (.ref dU), .val (.ref dN), .val (.ref dN), .val (.int (own_min (1 : Int32) (0 : Int32)))] [(.ref dN)])) _
        refine XS.ifnullNo X115.here hx rfl (hb hby at_32) rfl ?_
        show Steps p.tables e below (T115.setTop (mkF m 35 #[.val (.int p0), .val (.int p1), .val (.ref dU), .val (.ref dN), .val (.ref dN), .val (.int (own_min (1 : Int32) (0 : Int32)))] [])) _
        refine XS.aload X115.here hx rfl (hb hby at_35) rfl rfl ?_
        exact kt
      obtain ⟨_, _, ⟨T117, L117, k117, n117⟩, -, X117, ⟨Lc117, hQ117, l117, y117, z117⟩, st117⟩ := Jvm.LawKit.callS X115 hx (y := (⟨"com/example/mapstone/mapstone/engine/DecisionAndPinLaw", "rank", "(Lcom/example/mapstone/mapstone/engine/Decision;)I"⟩ : MethodName)) hown (mvT hZ (hw _ (List.mem_of_getElem? (i := 16) rfl))) (mvT hZ (hw _ (List.mem_of_getElem? (i := 17) rfl))) (mvT hZ (hw _ (List.mem_of_getElem? (i := 2) rfl))) (mvT hZ (hw _ (List.mem_of_getElem? (i := 18) rfl))) (by decide) (backOf (W := 0) (rm3_N l Z a0 hw []  dH dN dU h0 n0 Z0 SH SN SU hHN hHU hNU) hZ (hw _ (List.mem_of_getElem? (i := 18) rfl)) (hw _ (List.mem_of_getElem? (i := 2) rfl)) (by decide) (by decide)) (g := (mkF m 37 #[.val (.int p0), .val (.int p1), .val (.ref dU), .val (.ref dN), .val (.ref dN), .val (.int (own_min (1 : Int32) (0 : Int32)))] [(.ref dN)])) rfl (by rw [hml]; rfl) (argsL := [(.ref dN)]) (rest := []) (lenOf pd_2 rfl) rfl (by show 2 * 0 + _ ≤ _; exact Nat.le_of_eq rfl) (hb hby at_37) (fun _ _ => ⟨rfl, e115, (by decide : 0 + 0 ≤ _), (by decide : 0 + 0 ≤ _)⟩)
      dsimp only [Pt.U, Pt.locs, Pt.cells, Pt.slots] at X117 l117 y117 z117 st117 hQ117
      subst l117 y117 z117
      obtain ⟨rfl, N117q, e117⟩ := hQ117
      have N117 := Fr.app N115 N117q
      have c118 : ∀ t, Steps p.tables e below (T117.setTop (mkF m 50 #[.val (.int p0), .val (.int p1), .val (.ref dU), .val (.ref dN), .val (.ref dN), .val (.int (own_min (1 : Int32) (0 : Int32)))] [(.int (1 : Int32))])) t → Steps p.tables e below (T117.setTop (mkF m 40 #[.val (.int p0), .val (.int p1), .val (.ref dU), .val (.ref dN), .val (.ref dN), .val (.int (own_min (1 : Int32) (0 : Int32)))] [(.int (0 : Int32))])) t := by
        intro t kt
        show Steps p.tables e below (T117.setTop (mkF m 40 #[.val (.int p0), .val (.int p1), .val (.ref dU), .val (.ref dN), .val (.ref dN), .val (.int (own_min (1 : Int32) (0 : Int32)))] [(.int (0 : Int32))])) _
        refine XS.iload X117.here hx rfl (hb hby at_40) rfl ?_
        show Steps p.tables e below (T117.setTop (mkF m 42 #[.val (.int p0), .val (.int p1), .val (.ref dU), .val (.ref dN), .val (.ref dN), .val (.int (own_min (1 : Int32) (0 : Int32)))] [(.int (own_min (1 : Int32) (0 : Int32))), (.int (0 : Int32))])) _
        refine XS.icmpNo X117.here hx rfl (hb hby at_42) rfl (teq (by decide : (0 : Int32) = (own_min (1 : Int32) (0 : Int32)))).2 ?_
        show Steps p.tables e below (T117.setTop (mkF m 45 #[.val (.int p0), .val (.int p1), .val (.ref dU), .val (.ref dN), .val (.ref dN), .val (.int (own_min (1 : Int32) (0 : Int32)))] [])) _
        refine XS.iconst X117.here hx rfl (hb hby at_45) ?_
        show Steps p.tables e below (T117.setTop (mkF m 46 #[.val (.int p0), .val (.int p1), .val (.ref dU), .val (.ref dN), .val (.ref dN), .val (.int (own_min (1 : Int32) (0 : Int32)))] [(.int (1 : Int32))])) _
        refine XS.goto X117.here hx rfl (pc0 := 46) (pc' := 50) rfl (hb hby at_46) (by decide) (by decide) ?_
        exact kt
      obtain ⟨fs, hr, hrun, hended, hW, hsame⟩ := X117.leave (v := some (.int (1 : Int32))) (fun h => by rw [Bd.returns] at h; cases h)
      refine ⟨_, _, pre0 _ (c1 _ (st2 _ (c3 _ (c90 _ (c91 _ (st92 _ (c93 _ (c107 _ (c108 _ (st110.trans (c111 _ (st112 _ (c113 _ (st114 _ (st115 _ (c116 _ (st117 _ (c118 _ (?_))))))))))))))))))), hrun, hended, _, _, rfl, ?_, ⟨_, rfl⟩, hW, hsame.mono (by decide) (by decide)⟩
      · show Steps p.tables e below (T117.setTop (mkF m 50 #[.val (.int p0), .val (.int p1), .val (.ref dU), .val (.ref dN), .val (.ref dN), .val (.int (own_min (1 : Int32) (0 : Int32)))] [(.int (1 : Int32))])) _
        exact retN X117 hx (t := .boolean) Bd.returns (by simp) (hb hby at_50) hr
      · show Q0 Z p0 p1 dH dN dU h0 n0 _ T117.heap _
        rw [e117]
        exact ⟨congrArg (fun z => some (Value.int z)) (show (1 : Int32) = (1 : Int32) from by rfl), N117⟩
    · skip
      have c120 : ∀ t, Steps p.tables e below (T92.setTop (mkF m 10 #[.val (.int p0), .val (.int p1), .val (.ref dU), .val (.ref dU), .unset, .unset] [])) t → Steps p.tables e below (T92.setTop (mkF m 10 #[.val (.int p0), .val (.int p1), .val (.ref dU), .val (.ref (own_pk dH dN dU p1)), .unset, .unset] [])) t := fun t kt => by rw [hkp1]; exact kt
      have c121 : ∀ t, Steps p.tables e below (T92.setTop (mkF m 12 #[.val (.int p0), .val (.int p1), .val (.ref dU), .val (.ref dU), .unset, .unset] [(.ref dU), (.ref dU)])) t → Steps p.tables e below (T92.setTop (mkF m 10 #[.val (.int p0), .val (.int p1), .val (.ref dU), .val (.ref dU), .unset, .unset] [])) t := by
        intro t kt
        show Steps p.tables e below (T92.setTop (mkF m 10 #[.val (.int p0), .val (.int p1), .val (.ref dU), .val (.ref dU), .unset, .unset] [])) _
        refine XS.aloadN X92.here hx rfl (hb hby at_10) rfl rfl ?_
        show Steps p.tables e below (T92.setTop (mkF m 11 #[.val (.int p0), .val (.int p1), .val (.ref dU), .val (.ref dU), .unset, .unset] [(.ref dU)])) _
        refine XS.aloadN X92.here hx rfl (hb hby at_11) rfl rfl ?_
        exact kt
      obtain ⟨cq122, kq122, q122a, q122b, q122c⟩ := isOf hZ e92 EU
      obtain ⟨_, _, ⟨T123, L123, k123, n123⟩, -, X123, ⟨Lc123, hQ123, l123, y123, z123⟩, st123⟩ := X92.virtualBack hx (y := (⟨"com/example/mapstone/mapstone/engine/Decision", "and", "(Lcom/example/mapstone/mapstone/engine/Decision;)Lcom/example/mapstone/mapstone/engine/Decision;"⟩ : MethodName)) (z := (⟨"com/example/mapstone/mapstone/engine/Decision", "and", "(Lcom/example/mapstone/mapstone/engine/Decision;)Lcom/example/mapstone/mapstone/engine/Decision;"⟩ : MethodName)) hown (mvT hZ (hw _ (List.mem_of_getElem? (i := 8) rfl))) (mvT hZ (hw _ (List.mem_of_getElem? (i := 9) rfl))) (notFace_of_selects (args := #[]) (mvT hZ (hw _ (List.mem_of_getElem? (i := 11) rfl)))) (mvT hZ (hw _ (List.mem_of_getElem? (i := 11) rfl))) (mvT hZ (hw _ (List.mem_of_getElem? (i := 10) rfl))) (by decide) (backOf (W := 0) (rm2_UU l Z a0 hw []  dH dN dU h0 n0 Z0 SH SN SU hHN hHU hNU) hZ (hw _ (List.mem_of_getElem? (i := 12) rfl)) (hw _ (List.mem_of_getElem? (i := 6) rfl)) (by decide) (by decide)) q122a q122c (g := (mkF m 12 #[.val (.int p0), .val (.int p1), .val (.ref dU), .val (.ref dU), .unset, .unset] [(.ref dU), (.ref dU)])) rfl (by rw [hml]; rfl) (Steps.refl _) (argsL := [(.ref dU)]) (rest := []) (lenOf pd_1 rfl) rfl (by show 2 * 0 + _ ≤ _; exact Nat.le_of_eq rfl) (hb hby at_12) (fun _ _ => ⟨rfl, e92, (by decide : 0 + 0 ≤ _), (by decide : 0 + 0 ≤ _)⟩)
      dsimp only [Pt.U, Pt.locs, Pt.cells, Pt.slots] at X123 l123 y123 z123 st123 hQ123
      subst l123 y123 z123
      obtain ⟨rfl, N123q, e123⟩ := hQ123
      have N123 := Fr.app N92 N123q
      have c124 : ∀ t, Steps p.tables e below (T123.setTop (mkF m 18 #[.val (.int p0), .val (.int p1), .val (.ref dU), .val (.ref dU), .val (.ref dU), .unset] [(.ref dU)])) t → Steps p.tables e below (T123.setTop (mkF m 15 #[.val (.int p0), .val (.int p1), .val (.ref dU), .val (.ref dU), .unset, .unset] [(.ref dU)])) t := by
        intro t kt
        show Steps p.tables e below (T123.setTop (mkF m 15 #[.val (.int p0), .val (.int p1), .val (.ref dU), .val (.ref dU), .unset, .unset] [(.ref dU)])) _
        refine XS.astore X123.here hx rfl (hb hby at_15) rfl rfl (l' := #[.val (.int p0), .val (.int p1), .val (.ref dU), .val (.ref dU), .val (.ref dU), .unset]) rfl ?_
        show Steps p.tables e below (T123.setTop (mkF m 17 #[.val (.int p0), .val (.int p1), .val (.ref dU), .val (.ref dU), .val (.ref dU), .unset] [])) _
        refine XS.aloadN X123.here hx rfl (hb hby at_17) rfl rfl ?_
        exact kt
      obtain ⟨_, _, ⟨T125, L125, k125, n125⟩, -, X125, ⟨Lc125, hQ125, l125, y125, z125⟩, st125⟩ := Jvm.LawKit.callS X123 hx (y := (⟨"com/example/mapstone/mapstone/engine/DecisionAndPinLaw", "rank", "(Lcom/example/mapstone/mapstone/engine/Decision;)I"⟩ : MethodName)) hown (mvT hZ (hw _ (List.mem_of_getElem? (i := 16) rfl))) (mvT hZ (hw _ (List.mem_of_getElem? (i := 17) rfl))) (mvT hZ (hw _ (List.mem_of_getElem? (i := 2) rfl))) (mvT hZ (hw _ (List.mem_of_getElem? (i := 18) rfl))) (by decide) (backOf (W := 0) (rm3_U l Z a0 hw []  dH dN dU h0 n0 Z0 SH SN SU hHN hHU hNU) hZ (hw _ (List.mem_of_getElem? (i := 18) rfl)) (hw _ (List.mem_of_getElem? (i := 2) rfl)) (by decide) (by decide)) (g := (mkF m 18 #[.val (.int p0), .val (.int p1), .val (.ref dU), .val (.ref dU), .val (.ref dU), .unset] [(.ref dU)])) rfl (by rw [hml]; rfl) (argsL := [(.ref dU)]) (rest := []) (lenOf pd_2 rfl) rfl (by show 2 * 0 + _ ≤ _; exact Nat.le_of_eq rfl) (hb hby at_18) (fun _ _ => ⟨rfl, e123, (by decide : 0 + 0 ≤ _), (by decide : 0 + 0 ≤ _)⟩)
      dsimp only [Pt.U, Pt.locs, Pt.cells, Pt.slots] at X125 l125 y125 z125 st125 hQ125
      subst l125 y125 z125
      obtain ⟨rfl, N125q, e125⟩ := hQ125
      have N125 := Fr.app N123 N125q
      have c126 : ∀ t, Steps p.tables e below (T125.setTop (mkF m 22 #[.val (.int p0), .val (.int p1), .val (.ref dU), .val (.ref dU), .val (.ref dU), .unset] [(.ref dU), (.int (1 : Int32))])) t → Steps p.tables e below (T125.setTop (mkF m 21 #[.val (.int p0), .val (.int p1), .val (.ref dU), .val (.ref dU), .val (.ref dU), .unset] [(.int (1 : Int32))])) t := by
        intro t kt
        show Steps p.tables e below (T125.setTop (mkF m 21 #[.val (.int p0), .val (.int p1), .val (.ref dU), .val (.ref dU), .val (.ref dU), .unset] [(.int (1 : Int32))])) _
        refine XS.aloadN X125.here hx rfl (hb hby at_21) rfl rfl ?_
        exact kt
      obtain ⟨_, _, ⟨T127, L127, k127, n127⟩, -, X127, ⟨Lc127, hQ127, l127, y127, z127⟩, st127⟩ := Jvm.LawKit.callS X125 hx (y := (⟨"com/example/mapstone/mapstone/engine/DecisionAndPinLaw", "rank", "(Lcom/example/mapstone/mapstone/engine/Decision;)I"⟩ : MethodName)) hown (mvT hZ (hw _ (List.mem_of_getElem? (i := 16) rfl))) (mvT hZ (hw _ (List.mem_of_getElem? (i := 17) rfl))) (mvT hZ (hw _ (List.mem_of_getElem? (i := 2) rfl))) (mvT hZ (hw _ (List.mem_of_getElem? (i := 18) rfl))) (by decide) (backOf (W := 1) (rm3_U l Z a0 hw []  dH dN dU h0 n0 Z0 SH SN SU hHN hHU hNU) hZ (hw _ (List.mem_of_getElem? (i := 18) rfl)) (hw _ (List.mem_of_getElem? (i := 2) rfl)) (by decide) (by decide)) (g := (mkF m 22 #[.val (.int p0), .val (.int p1), .val (.ref dU), .val (.ref dU), .val (.ref dU), .unset] [(.ref dU), (.int (1 : Int32))])) rfl (by rw [hml]; rfl) (argsL := [(.ref dU)]) (rest := [(.int (1 : Int32))]) (lenOf pd_2 rfl) rfl (by show 2 * 0 + _ ≤ _; exact Nat.le_of_eq rfl) (hb hby at_22) (fun _ _ => ⟨rfl, e125, (by decide : 0 + 0 ≤ _), (by decide : 0 + 0 ≤ _)⟩)
      dsimp only [Pt.U, Pt.locs, Pt.cells, Pt.slots] at X127 l127 y127 z127 st127 hQ127
      subst l127 y127 z127
      obtain ⟨rfl, N127q, e127⟩ := hQ127
      have N127 := Fr.app N125 N127q
      obtain ⟨_, _, ⟨T128, L128, k128, n128⟩, -, X128, ⟨Lc128, hQ128, l128, y128, z128⟩, st128⟩ := Jvm.LawKit.callS X127 hx (y := (⟨"java/lang/Math", "min", "(II)I"⟩ : MethodName)) hown (mvT hZ (hw _ (List.mem_of_getElem? (i := 19) rfl))) (mvT hZ (hw _ (List.mem_of_getElem? (i := 20) rfl))) (mvT hZ (hw _ (List.mem_of_getElem? (i := 21) rfl))) (mvT hZ (hw _ (List.mem_of_getElem? (i := 22) rfl))) (by decide) (backOf (W := 0) (rm4 l Z a0 hw [] (1 : Int32) (1 : Int32)  h0 n0 Z0 ) hZ (hw _ (List.mem_of_getElem? (i := 22) rfl)) (hw _ (List.mem_of_getElem? (i := 21) rfl)) (by decide) (by decide)) (g := (mkF m 25 #[.val (.int p0), .val (.int p1), .val (.ref dU), .val (.ref dU), .val (.ref dU), .unset] [(.int (1 : Int32)), (.int (1 : Int32))])) rfl (by rw [hml]; rfl) (argsL := [(.int (1 : Int32)), (.int (1 : Int32))]) (rest := []) (lenOf pd_3 rfl) rfl (by show 2 * 0 + _ ≤ _; exact Nat.le_of_eq rfl) (hb hby at_25) (fun _ _ => ⟨rfl, e127, (by decide : 0 + 0 ≤ _), (by decide : 0 + 0 ≤ _)⟩)
      dsimp only [Pt.U, Pt.locs, Pt.cells, Pt.slots] at X128 l128 y128 z128 st128 hQ128
      subst l128 y128 z128
      obtain ⟨rfl, N128q, e128⟩ := hQ128
      have N128 := Fr.app N127 N128q
      have c129 : ∀ t, Steps p.tables e below (T128.setTop (mkF m 37 #[.val (.int p0), .val (.int p1), .val (.ref dU), .val (.ref dU), .val (.ref dU), .val (.int (own_min (1 : Int32) (1 : Int32)))] [(.ref dU)])) t → Steps p.tables e below (T128.setTop (mkF m 28 #[.val (.int p0), .val (.int p1), .val (.ref dU), .val (.ref dU), .val (.ref dU), .unset] [(.int (own_min (1 : Int32) (1 : Int32)))])) t := by
        intro t kt
        show Steps p.tables e below (T128.setTop (mkF m 28 #[.val (.int p0), .val (.int p1), .val (.ref dU), .val (.ref dU), .val (.ref dU), .unset] [(.int (own_min (1 : Int32) (1 : Int32)))])) _
        refine XS.istore X128.here hx rfl (hb hby at_28) rfl (l' := #[.val (.int p0), .val (.int p1), .val (.ref dU), .val (.ref dU), .val (.ref dU), .val (.int (own_min (1 : Int32) (1 : Int32)))]) rfl ?_
        show Steps p.tables e below (T128.setTop (mkF m 30 #[.val (.int p0), .val (.int p1), .val (.ref dU), .val (.ref dU), .val (.ref dU), .val (.int (own_min (1 : Int32) (1 : Int32)))] [])) _
        refine XS.aload X128.here hx rfl (hb hby at_30) rfl rfl ?_
        show Steps p.tables e below (T128.setTop (mkF m 32 #[.val (.int p0), .val (.int p1), .val (.ref dU), .val (.ref dU), .val (.ref dU), .val (.int (own_min (1 : Int32) (1 : Int32)))] [(.ref dU)])) _
        refine XS.ifnullNo X128.here hx rfl (hb hby at_32) rfl ?_
        show Steps p.tables e below (T128.setTop (mkF m 35 #[.val (.int p0), .val (.int p1), .val (.ref dU), .val (.ref dU), .val (.ref dU), .val (.int (own_min (1 : Int32) (1 : Int32)))] [])) _
        refine XS.aload X128.here hx rfl (hb hby at_35) rfl rfl ?_
        exact kt
      obtain ⟨_, _, ⟨T130, L130, k130, n130⟩, -, X130, ⟨Lc130, hQ130, l130, y130, z130⟩, st130⟩ := Jvm.LawKit.callS X128 hx (y := (⟨"com/example/mapstone/mapstone/engine/DecisionAndPinLaw", "rank", "(Lcom/example/mapstone/mapstone/engine/Decision;)I"⟩ : MethodName)) hown (mvT hZ (hw _ (List.mem_of_getElem? (i := 16) rfl))) (mvT hZ (hw _ (List.mem_of_getElem? (i := 17) rfl))) (mvT hZ (hw _ (List.mem_of_getElem? (i := 2) rfl))) (mvT hZ (hw _ (List.mem_of_getElem? (i := 18) rfl))) (by decide) (backOf (W := 0) (rm3_U l Z a0 hw []  dH dN dU h0 n0 Z0 SH SN SU hHN hHU hNU) hZ (hw _ (List.mem_of_getElem? (i := 18) rfl)) (hw _ (List.mem_of_getElem? (i := 2) rfl)) (by decide) (by decide)) (g := (mkF m 37 #[.val (.int p0), .val (.int p1), .val (.ref dU), .val (.ref dU), .val (.ref dU), .val (.int (own_min (1 : Int32) (1 : Int32)))] [(.ref dU)])) rfl (by rw [hml]; rfl) (argsL := [(.ref dU)]) (rest := []) (lenOf pd_2 rfl) rfl (by show 2 * 0 + _ ≤ _; exact Nat.le_of_eq rfl) (hb hby at_37) (fun _ _ => ⟨rfl, e128, (by decide : 0 + 0 ≤ _), (by decide : 0 + 0 ≤ _)⟩)
      dsimp only [Pt.U, Pt.locs, Pt.cells, Pt.slots] at X130 l130 y130 z130 st130 hQ130
      subst l130 y130 z130
      obtain ⟨rfl, N130q, e130⟩ := hQ130
      have N130 := Fr.app N128 N130q
      have c131 : ∀ t, Steps p.tables e below (T130.setTop (mkF m 50 #[.val (.int p0), .val (.int p1), .val (.ref dU), .val (.ref dU), .val (.ref dU), .val (.int (own_min (1 : Int32) (1 : Int32)))] [(.int (1 : Int32))])) t → Steps p.tables e below (T130.setTop (mkF m 40 #[.val (.int p0), .val (.int p1), .val (.ref dU), .val (.ref dU), .val (.ref dU), .val (.int (own_min (1 : Int32) (1 : Int32)))] [(.int (1 : Int32))])) t := by
        intro t kt
        show Steps p.tables e below (T130.setTop (mkF m 40 #[.val (.int p0), .val (.int p1), .val (.ref dU), .val (.ref dU), .val (.ref dU), .val (.int (own_min (1 : Int32) (1 : Int32)))] [(.int (1 : Int32))])) _
        refine XS.iload X130.here hx rfl (hb hby at_40) rfl ?_
        show Steps p.tables e below (T130.setTop (mkF m 42 #[.val (.int p0), .val (.int p1), .val (.ref dU), .val (.ref dU), .val (.ref dU), .val (.int (own_min (1 : Int32) (1 : Int32)))] [(.int (own_min (1 : Int32) (1 : Int32))), (.int (1 : Int32))])) _
        refine XS.icmpNo X130.here hx rfl (hb hby at_42) rfl (teq (by decide : (1 : Int32) = (own_min (1 : Int32) (1 : Int32)))).2 ?_
        show Steps p.tables e below (T130.setTop (mkF m 45 #[.val (.int p0), .val (.int p1), .val (.ref dU), .val (.ref dU), .val (.ref dU), .val (.int (own_min (1 : Int32) (1 : Int32)))] [])) _
        refine XS.iconst X130.here hx rfl (hb hby at_45) ?_
        show Steps p.tables e below (T130.setTop (mkF m 46 #[.val (.int p0), .val (.int p1), .val (.ref dU), .val (.ref dU), .val (.ref dU), .val (.int (own_min (1 : Int32) (1 : Int32)))] [(.int (1 : Int32))])) _
        refine XS.goto X130.here hx rfl (pc0 := 46) (pc' := 50) rfl (hb hby at_46) (by decide) (by decide) ?_
        exact kt
      obtain ⟨fs, hr, hrun, hended, hW, hsame⟩ := X130.leave (v := some (.int (1 : Int32))) (fun h => by rw [Bd.returns] at h; cases h)
      refine ⟨_, _, pre0 _ (c1 _ (st2 _ (c3 _ (c90 _ (c91 _ (st92 _ (c93 _ (c120 _ (c121 _ (st123.trans (c124 _ (st125 _ (c126 _ (st127 _ (st128 _ (c129 _ (st130 _ (c131 _ (?_))))))))))))))))))), hrun, hended, _, _, rfl, ?_, ⟨_, rfl⟩, hW, hsame.mono (by decide) (by decide)⟩
      · show Steps p.tables e below (T130.setTop (mkF m 50 #[.val (.int p0), .val (.int p1), .val (.ref dU), .val (.ref dU), .val (.ref dU), .val (.int (own_min (1 : Int32) (1 : Int32)))] [(.int (1 : Int32))])) _
        exact retN X130 hx (t := .boolean) Bd.returns (by simp) (hb hby at_50) hr
      · show Q0 Z p0 p1 dH dN dU h0 n0 _ T130.heap _
        rw [e130]
        exact ⟨congrArg (fun z => some (Value.int z)) (show (1 : Int32) = (1 : Int32) from by rfl), N130⟩
set_option maxRecDepth 65536 in
set_option maxHeartbeats 40000000 in
theorem comes_1 {Post : Tables → Env → Array Value → State → Outcome → State → Prop} (hpost : ∀ tb e args s v u, (limb_1_1.after args s (.returned v) u = true ∧ limb_1_2.after args s (.returned v) u = true ∧ True) → FrameEnd s (.returned v) u (Jvm.fieldLocs frame_1_writes args s ++ Jvm.arrayLocs frame_1_arrays args s ++ Jvm.staticLocs frame_1_statics s) 0 0 → Post tb e args s (.returned v) u) :
    ArmFor flags0 classFile x code maxLocals ret World_1 tables_1 room_1 Calls_1 rest_1 Pre_1 Post := by
  intro l hfl _ _ p e ha hc hk s m args below hf hA hF happ hP
  obtain ⟨hcalls, hrest, hpre⟩ := hP
  obtain ⟨-, -, -, hnamed, -, -, -, hat⟩ := (Spec.applies_iff hf).mp happ
  obtain ⟨hg, hn⟩ := and_e (Cond.before_iff.mp (show (Jvm.Cond.and given_1 narrow_1).before args s = true from hpre))
  obtain ⟨g1, g2⟩ := and_e hg
  obtain ⟨g3, g4⟩ := and_e g2
  obtain ⟨w0, w1, rfl⟩ : ∃ w0 w1 : Value, args = #[w0, w1] := by
    have hs : args.size = 2 := by simpa [Cond.value, given_1] using g1
    obtain ⟨L⟩ := args
    match L, hs with
    | [w0, w1], _ => exact ⟨w0, w1, rfl⟩
  have hw := fun d (hd : d ∈ tables_1) => atoms_spec (ws := Jvm.Cond.code x code maxLocals ret :: tables_1) hat d (List.mem_cons_of_mem _ hd)
  have hfit : Fit s := fun {y c} hc i hi => by
    obtain ⟨ha, rfl⟩ := Array.getElem?_eq_some_iff.mp hc
    have q := List.all_eq_true.mp ((Array.all_eq_true_iff_forall_mem.mp hF) _ (Array.getElem_mem ha)) i (List.mem_range.mpr hi)
    simpa [Array.getElem?_eq_getElem hi] using q
  obtain ⟨i0, ei0⟩ := is_v g3
  obtain rfl : w0 = (.int i0) := Option.some.inj ei0
  obtain ⟨i1, ei1⟩ := is_v g4
  obtain rfl : w1 = (.int i1) := Option.some.inj ei1
  obtain ⟨n1, n2⟩ := and_e hn
  obtain ⟨n3, n4⟩ := and_e n2
  obtain ⟨n5, n6⟩ := and_e n4
  obtain ⟨n7, n8⟩ := and_e n6
  obtain ⟨n9, n10⟩ := and_e n8
  obtain ⟨dH, vH⟩ := exa_v n1
  obtain ⟨dN, vN⟩ := exa_v n3
  obtain ⟨dU, vU⟩ := exa_v n9
  have EH := Exa.start vH n1
  have EN := Exa.start vN n3
  have EU := Exa.start vU n9
  have SH := Sta.start vH (Or.inr ⟨(hw _ (List.mem_of_getElem? (i := 6) rfl)), (hw _ (List.mem_of_getElem? (i := 7) rfl))⟩)
  have SN := Sta.start vN (Or.inr ⟨(hw _ (List.mem_of_getElem? (i := 6) rfl)), (hw _ (List.mem_of_getElem? (i := 14) rfl))⟩)
  have SU := Sta.start vU (Or.inr ⟨(hw _ (List.mem_of_getElem? (i := 6) rfl)), (hw _ (List.mem_of_getElem? (i := 24) rfl))⟩)
  have oH := (fld_at vH).symm.trans (own_int n5)
  have oN := (fld_at vN).symm.trans (own_int n7)
  have oU := (fld_at vU).symm.trans (own_int n10)
  have hHN : dH ≠ dN := fun q => by rw [q, oN] at oH; exact absurd oH (by decide)
  have hHU : dH ≠ dU := fun q => by rw [q, oU] at oH; exact absurd oH (by decide)
  have hNU : dN ≠ dU := fun q => by rw [q, oU] at oN; exact absurd oN (by decide)
  obtain ⟨n, o, h1, h2, h3, _, L, rfl, ⟨rfl, N⟩, hq⟩ := rm0 l s _ hw tables_1 i0 i1 dH dN dU s.heap s.heap.size (Nat.le_refl _) SH SN SU hHN hHU hNU EH EN EU p e ha hc hk s m _ below hf ((Spec.applies_iff_loose hf).mp happ).1 ⟨rfl, State.Warmed39.refl s, rfl⟩ trivial
  refine ⟨n, _, h1, h2, h3, hpost _ _ _ _ _ _ ⟨Cond.after_iff.mpr rfl, Cond.after_iff.mpr (eq_i res_at (Term.int_eval (1)) rfl), trivial⟩ ⟨hq.1, hq.2.1, (hq.2.2.sift fun y hy => Or.inr (N y hy)).mono (by decide) (by decide)⟩⟩
theorem main_1_1 : Claimed_1_1 := comes_1 fun _ _ _ _ _ _ h hF => ⟨h.1, hF⟩
theorem main_1_2 : Claimed_1_2 := comes_1 fun _ _ _ _ _ _ h hF => ⟨h.2.1, hF⟩
end Jvm.Pilot.@@N@@
namespace Jvm.Pilot.@@N@@
open Jvm Jvm.ClassFile Sem Op Lib Jvm.Free Jvm.Stand Jvm.Pilot.@@N@@.Jvm.D
/-! MADE BY PROGRAM (witnessworld.py) out of the Statement's table words and the real class files: 13 classes; the members and pool entries that the words name. The judged class is class 1, her method 3. -/
namespace start1
open Jvm.ClassFile
def u (s : String) : CpInfo := .utf8 (stringToUtf16 s)
/-- a pool by its gaps: so many unusable entries, then the entry; so many at the end -/
def gap : Nat → List CpInfo → List CpInfo
  | 0, r => r
  | n + 1, r => .unusable :: gap n r
def poolList (es : List (Nat × CpInfo)) (last : Nat) : List CpInfo := es.foldr (fun e r => gap e.1 (e.2 :: r)) (gap last [])
def pool (es : List (Nat × CpInfo)) (last : Nat) : Array CpInfo := ⟨poolList es last⟩
def fileOf (pool : Array CpInfo) (this : Nat) (attrs : Array Attribute := #[]) (ms : Array MethodInfo := #[]) (fl : Nat := 33) (sup : Nat := 0) (ifs : Array Nat := #[]) (fds : Array FieldInfo := #[]) : ClassFile where
  minorVersion := 0
  majorVersion := 65
  constantPool := pool
  accessFlags := fl
  thisClass := this
  superClass := sup
  interfaces := ifs
  fields := fds
  methods := ms
  attributes := attrs
def plain (name : String) (sup : Option ClassId) : Class where
  name := name
  kind := .ordinary
  loader := none
  accessFlags := 33
  super := sup
  interfaces := #[]
  cf := none
  fields := #[]
  methods := #[]
  instanceTypes := #[]
  staticTypes := #[]
  resolved := #[]
  callSites := []
  init := .initialized
  statics := none
  mirror := none

def pool0 : Array CpInfo := pool [(5, u "<init>"), (0, u "()V"), (1, .class_ 10), (1, u "java/lang/Object")] 113

def k0m0 : Method := { name := "<init>", desc := "()V", sig := { parameters := [], returnType := none }, accessFlags := 1, code := none }
/-- java/lang/Object -/
def k0 : Class := { plain "java/lang/Object" none with
  accessFlags := 33
  interfaces := #[]
  cf := some (fileOf pool0 8 #[] #[{ accessFlags := 1, nameIndex := 5, descriptorIndex := 6, attributes := #[] }] 33 0 #[] #[])
  fields := #[]
  methods := #[k0m0]
  instanceTypes := #[]
  staticTypes := #[]
  resolved := Array.replicate 124 none
  statics := none }

def pool1 : Array CpInfo := pool [(2, .class_ 4), (1, u "java/lang/Object"), (0, u "<init>"), (0, u "()V"), (0, .integer 2147483647), (0, .fieldref 9 10), (0, .class_ 11), (0, .nameAndType 12 13), (0, u "com/example/mapstone/mapstone/engine/Decision"), (0, u "HOLDS"), (0, u "Lcom/example/mapstone/mapstone/engine/Decision;"), (0, .fieldref 9 15), (0, .nameAndType 16 13), (0, u "DOES_NOT_HOLD"), (0, .fieldref 9 18), (0, .nameAndType 19 13), (0, u "UNDECIDED"), (0, .methodref 21 22), (0, .class_ 23), (0, .nameAndType 24 25), (0, u "com/example/mapstone/mapstone/engine/DecisionAndPinLaw"), (0, u "pick"), (0, u "(I)Lcom/example/mapstone/mapstone/engine/Decision;"), (0, .methodref 9 27), (0, .nameAndType 28 29), (0, u "and"), (0, u "(Lcom/example/mapstone/mapstone/engine/Decision;)Lcom/example/mapstone/mapstone/engine/Decision;"), (0, .methodref 21 31), (0, .nameAndType 32 33), (0, u "rank"), (0, u "(Lcom/example/mapstone/mapstone/engine/Decision;)I"), (0, .methodref 35 36), (0, .class_ 37), (0, .nameAndType 38 39), (0, u "java/lang/Math"), (0, u "min"), (0, u "(II)I"), (3, u "law"), (0, u "(II)Z")] 2

def k1m0 : Method := { name := "<init>", desc := "()V", sig := { parameters := [], returnType := none }, accessFlags := 2, code := none }
def k1c1 : Code := { maxStack := 2, maxLocals := 2, code := method_2_code, exceptionTable := #[], attributes := #[] }
def k1m1 : Method := { name := "pick", desc := "(I)Lcom/example/mapstone/mapstone/engine/Decision;", sig := { parameters := [.int], returnType := some (.object "com/example/mapstone/mapstone/engine/Decision") }, accessFlags := 10, code := some k1c1 }
def k1c2 : Code := { maxStack := 2, maxLocals := 1, code := method_3_code, exceptionTable := #[], attributes := #[] }
def k1m2 : Method := { name := "rank", desc := "(Lcom/example/mapstone/mapstone/engine/Decision;)I", sig := { parameters := [(.object "com/example/mapstone/mapstone/engine/Decision")], returnType := some .int }, accessFlags := 10, code := some k1c2 }
def k1c3 : Code := { maxStack := 2, maxLocals := 6, code := code, exceptionTable := #[], attributes := #[] }
def k1m3 : Method := { name := "law", desc := "(II)Z", sig := { parameters := [.int, .int], returnType := some .boolean }, accessFlags := 9, code := some k1c3 }
/-- com/example/mapstone/mapstone/engine/DecisionAndPinLaw -/
def k1 : Class := { plain "com/example/mapstone/mapstone/engine/DecisionAndPinLaw" (some 0) with
  accessFlags := 49
  interfaces := #[]
  cf := some (fileOf pool1 21 #[] #[{ accessFlags := 2, nameIndex := 5, descriptorIndex := 6, attributes := #[] }, { accessFlags := 10, nameIndex := 24, descriptorIndex := 25, attributes := #[] }, { accessFlags := 10, nameIndex := 32, descriptorIndex := 33, attributes := #[] }, { accessFlags := 9, nameIndex := 43, descriptorIndex := 44, attributes := #[] }] 49 2 #[] #[])
  fields := #[]
  methods := #[k1m0, k1m1, k1m2, k1m3]
  instanceTypes := #[]
  staticTypes := #[]
  resolved := Array.replicate 47 none
  statics := none }

def pool2 : Array CpInfo := pool [(1, .class_ 2), (0, u "java/lang/constant/Constable"), (0, .class_ 4), (0, u "java/lang/Object")] 6

/-- java/lang/constant/Constable -/
def k2 : Class := { plain "java/lang/constant/Constable" (some 0) with
  accessFlags := 1537
  interfaces := #[]
  cf := some (fileOf pool2 1 #[] #[] 1537 3 #[] #[])
  fields := #[]
  methods := #[]
  instanceTypes := #[]
  staticTypes := #[]
  resolved := Array.replicate 11 none
  statics := none }

def pool3 : Array CpInfo := pool [(1, .class_ 2), (0, u "java/lang/Comparable"), (0, .class_ 4), (0, u "java/lang/Object")] 7

/-- java/lang/Comparable -/
def k3 : Class := { plain "java/lang/Comparable" (some 0) with
  accessFlags := 1537
  interfaces := #[]
  cf := some (fileOf pool3 1 #[] #[] 1537 3 #[] #[])
  fields := #[]
  methods := #[]
  instanceTypes := #[]
  staticTypes := #[]
  resolved := Array.replicate 12 none
  statics := none }

def pool4 : Array CpInfo := pool [(1, .class_ 2), (0, u "java/io/Serializable"), (0, .class_ 4), (0, u "java/lang/Object")] 2

/-- java/io/Serializable -/
def k4 : Class := { plain "java/io/Serializable" (some 0) with
  accessFlags := 1537
  interfaces := #[]
  cf := some (fileOf pool4 1 #[] #[] 1537 3 #[] #[])
  fields := #[]
  methods := #[]
  instanceTypes := #[]
  staticTypes := #[]
  resolved := Array.replicate 7 none
  statics := none }

def pool5 : Array CpInfo := pool [(2, .class_ 4), (1, u "java/lang/Enum"), (0, u "name"), (0, u "Ljava/lang/String;"), (2, u "ordinal"), (0, u "I"), (1, .class_ 14), (1, u "java/lang/Object"), (4, u "hash"), (86, .class_ 108), (1, u "java/lang/Enum$EnumDesc"), (2, .class_ 112), (0, u "java/lang/constant/Constable"), (0, .class_ 114), (0, u "java/lang/Comparable"), (0, .class_ 116), (0, u "java/io/Serializable")] 87

/-- java/lang/Enum -/
def k5 : Class := { plain "java/lang/Enum" (some 0) with
  accessFlags := 1057
  interfaces := #[2, 3, 4]
  cf := some (fileOf pool5 2 #[.nestMembers #[106]] #[] 1057 12 #[111, 113, 115] #[{ accessFlags := 18, nameIndex := 5, descriptorIndex := 6, attributes := #[] }, { accessFlags := 18, nameIndex := 9, descriptorIndex := 10, attributes := #[] }, { accessFlags := 2, nameIndex := 19, descriptorIndex := 10, attributes := #[] }])
  fields := #[{ name := "name", type := (.object "java/lang/String"), accessFlags := 18, slot := 0, constantValue := 0 }, { name := "ordinal", type := .int, accessFlags := 18, slot := 1, constantValue := 0 }, { name := "hash", type := .int, accessFlags := 2, slot := 2, constantValue := 0 }]
  methods := #[]
  instanceTypes := #[(.object "java/lang/String"), .int, .int]
  staticTypes := #[]
  resolved := Array.replicate 204 none
  statics := none }

def pool6 : Array CpInfo := pool [(1, .class_ 2), (0, u "com/example/mapstone/mapstone/engine/Decision"), (0, .fieldref 1 4), (0, .nameAndType 5 6), (0, u "HOLDS"), (0, u "Lcom/example/mapstone/mapstone/engine/Decision;"), (0, .fieldref 1 8), (0, .nameAndType 9 6), (0, u "DOES_NOT_HOLD"), (0, .fieldref 1 11), (0, .nameAndType 12 6), (0, u "UNDECIDED"), (2, u "$VALUES"), (0, u "[Lcom/example/mapstone/mapstone/engine/Decision;"), (6, .class_ 25), (1, u "java/lang/Enum"), (21, u "and"), (0, u "(Lcom/example/mapstone/mapstone/engine/Decision;)Lcom/example/mapstone/mapstone/engine/Decision;")] 5

def k6c0 : Code := { maxStack := 2, maxLocals := 2, code := prog_19_method_4_code, exceptionTable := #[], attributes := #[] }
def k6m0 : Method := { name := "and", desc := "(Lcom/example/mapstone/mapstone/engine/Decision;)Lcom/example/mapstone/mapstone/engine/Decision;", sig := { parameters := [(.object "com/example/mapstone/mapstone/engine/Decision")], returnType := some (.object "com/example/mapstone/mapstone/engine/Decision") }, accessFlags := 0, code := some k6c0 }
/-- com/example/mapstone/mapstone/engine/Decision -/
def k6 : Class := { plain "com/example/mapstone/mapstone/engine/Decision" (some 5) with
  accessFlags := 16432
  interfaces := #[]
  cf := some (fileOf pool6 1 #[] #[{ accessFlags := 0, nameIndex := 47, descriptorIndex := 48, attributes := #[] }] 16432 23 #[] #[{ accessFlags := 16409, nameIndex := 5, descriptorIndex := 6, attributes := #[] }, { accessFlags := 16409, nameIndex := 9, descriptorIndex := 6, attributes := #[] }, { accessFlags := 16409, nameIndex := 12, descriptorIndex := 6, attributes := #[] }, { accessFlags := 4122, nameIndex := 15, descriptorIndex := 16, attributes := #[] }])
  fields := #[{ name := "HOLDS", type := (.object "com/example/mapstone/mapstone/engine/Decision"), accessFlags := 16409, slot := 0, constantValue := 0 }, { name := "DOES_NOT_HOLD", type := (.object "com/example/mapstone/mapstone/engine/Decision"), accessFlags := 16409, slot := 1, constantValue := 0 }, { name := "UNDECIDED", type := (.object "com/example/mapstone/mapstone/engine/Decision"), accessFlags := 16409, slot := 2, constantValue := 0 }, { name := "$VALUES", type := (.array (.object "com/example/mapstone/mapstone/engine/Decision")), accessFlags := 4122, slot := 3, constantValue := 0 }]
  methods := #[k6m0]
  instanceTypes := #[(.object "java/lang/String"), .int, .int]
  staticTypes := #[(.object "com/example/mapstone/mapstone/engine/Decision"), (.object "com/example/mapstone/mapstone/engine/Decision"), (.object "com/example/mapstone/mapstone/engine/Decision"), (.array (.object "com/example/mapstone/mapstone/engine/Decision"))]
  resolved := Array.replicate 54 none
  statics := some 0 }

def pool7 : Array CpInfo := pool [(1, .class_ 2), (0, u "java/lang/Math"), (1, .class_ 6), (1, u "java/lang/Object"), (0, u "<init>"), (0, u "()V"), (89, .class_ 100), (1, u "java/lang/Math$RandomNumberGeneratorHolder"), (71, u "negativeZeroFloatBits"), (0, u "J"), (2, u "negativeZeroDoubleBits"), (24, u "min"), (43, u "$assertionsDisabled"), (0, u "Z"), (88, u "(II)I"), (2, u "twoToTheDoubleScaleDown"), (0, u "D"), (4, u "twoToTheDoubleScaleUp"), (9, u "E"), (3, u "PI"), (2, u "TAU"), (2, u "DEGREES_TO_RADIANS"), (0, u "RADIANS_TO_DEGREES")] 94

def k7m0 : Method := { name := "<init>", desc := "()V", sig := { parameters := [], returnType := none }, accessFlags := 2, code := none }
def k7c1 : Code := { maxStack := 2, maxLocals := 2, code := jdk_29_method_69_code, exceptionTable := #[], attributes := #[] }
def k7m1 : Method := { name := "min", desc := "(II)I", sig := { parameters := [.int, .int], returnType := some .int }, accessFlags := 9, code := some k7c1 }
/-- java/lang/Math -/
def k7 : Class := { plain "java/lang/Math" (some 0) with
  accessFlags := 49
  interfaces := #[]
  cf := some (fileOf pool7 1 #[.nestMembers #[98]] #[{ accessFlags := 2, nameIndex := 7, descriptorIndex := 8, attributes := #[] }, { accessFlags := 9, nameIndex := 201, descriptorIndex := 335, attributes := #[] }] 49 4 #[] #[{ accessFlags := 25, nameIndex := 354, descriptorIndex := 339, attributes := #[] }, { accessFlags := 25, nameIndex := 358, descriptorIndex := 339, attributes := #[] }, { accessFlags := 25, nameIndex := 361, descriptorIndex := 339, attributes := #[] }, { accessFlags := 26, nameIndex := 364, descriptorIndex := 339, attributes := #[] }, { accessFlags := 26, nameIndex := 365, descriptorIndex := 339, attributes := #[] }, { accessFlags := 26, nameIndex := 172, descriptorIndex := 173, attributes := #[] }, { accessFlags := 26, nameIndex := 176, descriptorIndex := 173, attributes := #[] }, { accessFlags := 8, nameIndex := 344, descriptorIndex := 339, attributes := #[] }, { accessFlags := 8, nameIndex := 338, descriptorIndex := 339, attributes := #[] }, { accessFlags := 4120, nameIndex := 245, descriptorIndex := 246, attributes := #[] }])
  fields := #[{ name := "E", type := .double, accessFlags := 25, slot := 0, constantValue := 0 }, { name := "PI", type := .double, accessFlags := 25, slot := 1, constantValue := 0 }, { name := "TAU", type := .double, accessFlags := 25, slot := 2, constantValue := 0 }, { name := "DEGREES_TO_RADIANS", type := .double, accessFlags := 26, slot := 3, constantValue := 0 }, { name := "RADIANS_TO_DEGREES", type := .double, accessFlags := 26, slot := 4, constantValue := 0 }, { name := "negativeZeroFloatBits", type := .long, accessFlags := 26, slot := 5, constantValue := 0 }, { name := "negativeZeroDoubleBits", type := .long, accessFlags := 26, slot := 6, constantValue := 0 }, { name := "twoToTheDoubleScaleUp", type := .double, accessFlags := 8, slot := 7, constantValue := 0 }, { name := "twoToTheDoubleScaleDown", type := .double, accessFlags := 8, slot := 8, constantValue := 0 }, { name := "$assertionsDisabled", type := .boolean, accessFlags := 4120, slot := 9, constantValue := 0 }]
  methods := #[k7m0, k7m1]
  instanceTypes := #[]
  staticTypes := #[.double, .double, .double, .double, .double, .long, .long, .double, .double, .boolean]
  resolved := Array.replicate 460 none
  statics := none }

def pool8 : Array CpInfo := pool [(1, u "java/lang/Cloneable"), (0, .class_ 1), (0, u "java/lang/Object"), (0, .class_ 3)] 3

/-- java/lang/Cloneable -/
def k8 : Class := { plain "java/lang/Cloneable" (some 0) with
  accessFlags := 1537
  interfaces := #[]
  cf := some (fileOf pool8 2 #[] #[] 1537 4 #[] #[])
  fields := #[]
  methods := #[]
  instanceTypes := #[]
  staticTypes := #[]
  resolved := Array.replicate 8 none
  statics := none }

/-- the primitive byte -/
def k9 : Class := { plain "byte" none with kind := .primitive 'B', accessFlags := 0x411 }
/-- [B -/
def k10 : Class := { plain "[B" (some 0) with kind := .array 9 .byte, interfaces := #[8, 4], accessFlags := 1041 }

/-- the primitive int -/
def k11 : Class := { plain "int" none with kind := .primitive 'I', accessFlags := 0x411 }
/-- [I -/
def k12 : Class := { plain "[I" (some 0) with kind := .array 11 .int, interfaces := #[8, 4], accessFlags := 1041 }

def heap : Heap := #[{ cls := 6, slots := #[.ref 1, .ref 2, .ref 3, .null], vm := .statics 6 },
  { cls := 6, slots := #[.null, .int 0, .int 0], vm := .none },
  { cls := 6, slots := #[.null, .int 1, .int 0], vm := .none },
  { cls := 6, slots := #[.null, .int 2, .int 0], vm := .none }]
def classes : Array Class := #[k0, k1, k2, k3, k4, k5, k6, k7, k8, k9, k10, k11, k12]
def interned : List (Array UInt16 × Addr) := []
def slotsUsed : Nat := 13
def theMethod : MethodId := ⟨1, 3⟩
def args0 : Array Value := #[.int 5, .int 5]
def aboutOver (below : List Frame) : State where
  vm := { classes := classes, interned := interned.toArray }
  heap := heap
  slotsUsed := slotsUsed
  threads := #[{ frames := .invoking theMethod args0 :: below }]
def below0 : List Frame := [.native { method := ⟨0, 0⟩, args := #[] }]
def about1 : State := aboutOver below0
def p0 : Program := .bare "" "" ""
def e0 : Env := launch0.env 0 0 0
theorem w_frames : about1.frames = Frame.invoking theMethod args0 :: below0 := rfl
set_option maxRecDepth 65536 in
theorem w_args : argsFit about1.vm theMethod args0 = true := by decide +kernel
set_option maxRecDepth 65536 in
theorem w_heap : heapFits about1 = true := by decide +kernel
set_option maxRecDepth 65536 in
theorem w_runnable : about1.curStatus? = some .runnable := by decide +kernel
set_option maxRecDepth 65536 in
theorem w_alone : about1.alone = true := by decide +kernel
set_option maxRecDepth 65536 in
theorem w_named : about1.methodNamed? x = some theMethod := by decide +kernel
set_option maxRecDepth 65536 in
theorem w_hears : about1.hears theMethod below0 = true := by decide +kernel
set_option maxRecDepth 65536 in
theorem w_ripe : about1.ripe theMethod args0 below0 = true := by decide +kernel
theorem w_running : about1.status = .running := rfl
set_option maxRecDepth 65536 in
theorem w_room : about1.hasRoom e0.platform room_1 = true :=
  launch0.hasRoom_least _ room_1 (by decide +kernel) (by decide +kernel) (by decide +kernel) (by decide +kernel) (by decide +kernel) (by decide +kernel)
theorem allAtoms_all (ts : List Jvm.Cond) (a : Array Jvm.Value) (st : Jvm.State) : (allAtoms ts).before a st = ts.all (fun c => c.before a st) := by
  induction ts with
  | nil => rfl
  | cons c t ih =>
    show (Jvm.Cond.and c (allAtoms t)).before a st = _
    rw [Jvm.Cond.before_and, ih, List.all_cons]
def words1 : List Jvm.Cond := Jvm.Cond.code x code maxLocals ret :: tables_1
/-- a 'code' word, met by the world's own term for the bytes: nothing is compared byte by byte -/
theorem code_word {y : MethodName} {bytes : ByteArray} {mx : Nat} {rt : Option FieldType} {a : Array Value} {s : State} {m : MethodId} {meth : Method} {c : Code} (h1 : s.methodNamed? y = some m) (h2 : s.vm.method? m = some meth) (h3 : meth.code = some c) (h4 : c.code = bytes)
    (h5 : (c.maxLocals == mx && c.exceptionTable.isEmpty && decide (c.maxStack ≤ mostOperands) && decide (meth.sig.returnType = rt) && !meth.locks && decide (parseMethodDescriptor y.desc = some meth.sig)) = true) : (Jvm.Cond.code y bytes mx rt).before a s = true := by
  simp only [Bool.and_eq_true, beq_iff_eq, Bool.not_eq_true', decide_eq_true_eq] at h5
  obtain ⟨⟨⟨⟨⟨g1, g2⟩, g3⟩, g4⟩, g5⟩, g6⟩ := h5
  simp [Cond.before, Cond.holds, Cond.value, h1, h2, h3, h4, g1, g2, g3, g4, g5, g6]
def isCode : Jvm.Cond → Bool
  | .code _ _ _ _ => true
  | _ => false
theorem all_split {L : List Jvm.Cond} {P : Jvm.Cond → Bool} (h1 : L.all (fun c => isCode c || P c) = true) (h2 : ∀ c ∈ L.filter isCode, P c = true) : L.all P = true := by
  refine List.all_eq_true.mpr fun c hc => ?_
  have h := List.all_eq_true.mp h1 c hc
  rcases Bool.eq_false_or_eq_true (isCode c) with hi | hi
  · exact h2 c (List.mem_filter.mpr ⟨hc, hi⟩)
  · simpa [hi] using h
set_option maxRecDepth 65536 in
theorem w_c0 : (Jvm.Cond.code x code maxLocals ret).before args0 about1 = true := code_word (m := ⟨1, 3⟩) (meth := k1m3) (c := k1c3) (by decide +kernel) rfl rfl rfl (by decide +kernel)
set_option maxRecDepth 65536 in
theorem w_c1 : (Jvm.Cond.code ({ cls := "com/example/mapstone/mapstone/engine/DecisionAndPinLaw", name := "pick", desc := "(I)Lcom/example/mapstone/mapstone/engine/Decision;" } : Jvm.MethodName) method_2_code (2 : Nat) (Option.some (Jvm.ClassFile.FieldType.object "com/example/mapstone/mapstone/engine/Decision"))).before args0 about1 = true := code_word (m := ⟨1, 1⟩) (meth := k1m1) (c := k1c1) (by decide +kernel) rfl rfl rfl (by decide +kernel)
set_option maxRecDepth 65536 in
theorem w_c2 : (Jvm.Cond.code ({ cls := "com/example/mapstone/mapstone/engine/Decision", name := "and", desc := "(Lcom/example/mapstone/mapstone/engine/Decision;)Lcom/example/mapstone/mapstone/engine/Decision;" } : Jvm.MethodName) prog_19_method_4_code (2 : Nat) (Option.some (Jvm.ClassFile.FieldType.object "com/example/mapstone/mapstone/engine/Decision"))).before args0 about1 = true := code_word (m := ⟨6, 0⟩) (meth := k6m0) (c := k6c0) (by decide +kernel) rfl rfl rfl (by decide +kernel)
set_option maxRecDepth 65536 in
theorem w_c3 : (Jvm.Cond.code ({ cls := "com/example/mapstone/mapstone/engine/DecisionAndPinLaw", name := "rank", desc := "(Lcom/example/mapstone/mapstone/engine/Decision;)I" } : Jvm.MethodName) method_3_code (1 : Nat) (Option.some Jvm.ClassFile.FieldType.int)).before args0 about1 = true := code_word (m := ⟨1, 2⟩) (meth := k1m2) (c := k1c2) (by decide +kernel) rfl rfl rfl (by decide +kernel)
set_option maxRecDepth 65536 in
theorem w_c4 : (Jvm.Cond.code ({ cls := "java/lang/Math", name := "min", desc := "(II)I" } : Jvm.MethodName) jdk_29_method_69_code (2 : Nat) (Option.some Jvm.ClassFile.FieldType.int)).before args0 about1 = true := code_word (m := ⟨7, 1⟩) (meth := k7m1) (c := k7c1) (by decide +kernel) rfl rfl rfl (by decide +kernel)
def codes1 : List Jvm.Cond := [Jvm.Cond.code x code maxLocals ret, Jvm.Cond.code ({ cls := "com/example/mapstone/mapstone/engine/DecisionAndPinLaw", name := "pick", desc := "(I)Lcom/example/mapstone/mapstone/engine/Decision;" } : Jvm.MethodName) method_2_code (2 : Nat) (Option.some (Jvm.ClassFile.FieldType.object "com/example/mapstone/mapstone/engine/Decision")), Jvm.Cond.code ({ cls := "com/example/mapstone/mapstone/engine/Decision", name := "and", desc := "(Lcom/example/mapstone/mapstone/engine/Decision;)Lcom/example/mapstone/mapstone/engine/Decision;" } : Jvm.MethodName) prog_19_method_4_code (2 : Nat) (Option.some (Jvm.ClassFile.FieldType.object "com/example/mapstone/mapstone/engine/Decision")), Jvm.Cond.code ({ cls := "com/example/mapstone/mapstone/engine/DecisionAndPinLaw", name := "rank", desc := "(Lcom/example/mapstone/mapstone/engine/Decision;)I" } : Jvm.MethodName) method_3_code (1 : Nat) (Option.some Jvm.ClassFile.FieldType.int), Jvm.Cond.code ({ cls := "java/lang/Math", name := "min", desc := "(II)I" } : Jvm.MethodName) jdk_29_method_69_code (2 : Nat) (Option.some Jvm.ClassFile.FieldType.int)]
set_option maxRecDepth 65536 in
theorem codes_eq : words1.filter isCode = codes1 := rfl
theorem w_codes : ∀ c ∈ words1.filter isCode, c.before args0 about1 = true := by
  rw [codes_eq]
  intro c hc
  simp only [codes1, List.mem_cons, List.not_mem_nil, or_false] at hc
  rcases hc with rfl | rfl | rfl | rfl | rfl
  · exact w_c0
  · exact w_c1
  · exact w_c2
  · exact w_c3
  · exact w_c4
set_option maxRecDepth 65536 in
theorem w_t1 : (words1.take 24).all (fun c => isCode c || c.before args0 about1) = true := by decide +kernel
set_option maxRecDepth 65536 in
theorem w_t2 : (words1.drop 24).all (fun c => isCode c || c.before args0 about1) = true := by decide +kernel
theorem w_tables : (allAtoms (Jvm.Cond.code x code maxLocals ret :: tables_1)).before args0 about1 = true := by
  rw [allAtoms_all]
  show words1.all (fun c => c.before args0 about1) = true
  refine all_split ?_ w_codes
  rw [← List.take_append_drop 24 words1, List.all_append, w_t1, w_t2]
  rfl
set_option maxRecDepth 65536 in
theorem w_case : (Jvm.Cond.and given_1 narrow_1).before args0 about1 = true := by decide +kernel
theorem w_applies : (headSpec (Jvm.Cond.code x code maxLocals ret :: tables_1) room_1).applies x e0.platform about1 = true :=
  (Spec.applies_iff w_frames).mpr ⟨w_running, w_runnable, w_alone, w_named, w_hears, w_ripe, w_room, w_tables⟩
theorem atStart : AtStart classFile x code maxLocals ret World_1 tables_1 room_1 Calls_1 rest_1 Pre_1 launch0 p0 e0 about1 theMethod args0 below0 :=
  ⟨lists_1, trivial, launch0.admits_env _ _ _, launch0.least_env, fairChoices_fair.cas, fairChoices_fair.clock, w_frames, w_args, w_heap, w_applies, trivial, trivial, w_case⟩
end start1
theorem witness_1 : WitnessClaimed_1 := ⟨start1.p0, start1.e0, start1.about1, start1.theMethod, start1.args0, start1.below0, start1.atStart⟩
end Jvm.Pilot.@@N@@
