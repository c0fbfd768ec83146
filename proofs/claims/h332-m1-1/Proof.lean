import JvmDerived
import JvmDerived.Pilot.@@N@@Statement
import JvmDerived.Pilot.@@N@@Code
set_option linter.unusedVariables false
set_option linter.unusedSimpArgs false

namespace Jvm.RoadKit
open Sem ClassFile Op Lib Jvm.Stand Jvm.Free Jvm.LawKit
section New
variable {p : Program} {l : Launch} {e : Env} {R : Room} {s : State} {m : MethodId} {args : Array Value} {below : List Frame} {meth : Method} {c : Code} {T : State} {locs : List Loc} {cells slots : Nat}
theorem retI (X : Stand p l e R s m args below meth c T locs cells slots) (hx : p.tables.exec = Jvm.exec) {pc : Nat} {Ls : Array Slot} {z : Int32} {rest : List Value} (hret : meth.sig.returnType = some .int) (hd : decode c.code pc = .ok (.ireturn, 1)) {fs : List Frame}
    (hl : ∀ (f : JFrame) (acts : List Action), f.method = m → f.locked = none → f.entered = [] → (doReturn e (T.setTop f) acts (some (.int z))).1 = T.setFrames fs) : Steps p.tables e below (T.setTop (mkF m pc Ls (.int z :: rest))) (T.setFrames fs) := by
  have hm' : T.vm.method? m = some meth := X.method'
  have hn : narrow .int (.int z) = .int z := rfl
  show Steps p.tables e below (T.setTop { method := m, pc := pc, locals := Ls, stack := _ :: rest, locked := none }) _
  jvm_step X.here [X.here.top, hx, hd, hm', hret, hn]
  first | (intro acts; rw [hl _ acts rfl rfl rfl]) | rw [hl _ _ rfl rfl rfl]
  exact Steps.refl _
theorem own_lrem {g : JFrame} {target : State} (X : Stand p l e R s m args below meth c T locs cells slots) (hx : p.tables.exec = Jvm.exec) (hg : g.method = m) {x y : Int64} {rest : List Value} (hd : decode c.code g.pc = .ok (.lrem, 1)) (hs : g.stack = .long y :: .long x :: rest) (hy : y ≠ 0)
    (hr : Steps p.tables e below (T.setTop { g with pc := g.pc + 1, stack := .long (x % y) :: rest }) target) : Steps p.tables e below (T.setTop g) target := by
  have q : x - x / y * y = x % y := lrem_mod x y
  exact XS.lrem X.here hx hg hd hs hy (by rw [q]; exact hr)
end New
end Jvm.RoadKit
namespace Jvm.RoadKit
open Sem ClassFile Op Lib Jvm.Stand Jvm.Free Jvm.LawKit
section OwnSync
variable {p : Program} {l : Launch} {e : Env} {R : Room} {s : State} {m : MethodId} {args : Array Value} {below : List Frame} {meth : Method} {c : Code} {T : State} {locs : List Loc} {cells slots : Nat} {Z : State} {a0 : Array Value} {h h' : Heap}
theorem own_untk {a : Addr} {ws : List Addr} (F : Unt h a) (K : Keep h h' ws) (q : a ∉ ws) : Unt h' a := by
  obtain ⟨c, h1, r⟩ := F; exact ⟨c, K.2.1 _ _ h1 q, r⟩
/-- a field reference that is resolved already -/
theorem own_getR (X : Stand p l e R s m args below meth c T locs cells slots) (hx : p.tables.exec = Jvm.exec) (hZ : Z.Warmed39 s.vm) {own O n d : String} {index : Nat} (hown : s.vm.findClass own = some m.cls) (w : (Cond.fieldRef own index O n d).before a0 Z = true) (eT : T.heap = h) {a : Addr} {v : Value} (F : Fld Z h a O n d v)
    {g : JFrame} (hg : g.method = m) {rest : List Value} (hs : g.stack = .ref a :: rest) (hd : decode c.code g.pc = .ok (.getfield index, 3)) : ∀ target, Steps p.tables e below (T.setTop { g with pc := g.pc + 3, stack := v :: rest }) target → Steps p.tables e below (T.setTop g) target := by
  obtain ⟨cell, cf, k, i, f, h1, h2, h3, h4, -, -, h7⟩ := F
  have hW : Z.Warmed39 T.vm := wtrans hZ X.warmed
  have w' := Cond.fieldRef_warmed39 hW w
  have hc : (Z.setVm T.vm).vm.findClass own = some m.cls := by show T.vm.findClass own = _; rw [X.warmed.alike.findClass]; exact hown
  obtain ⟨c', k', i', f', q1, q2⟩ := Cond.fieldRef_spec hc w'
  obtain ⟨k'', r1, r2⟩ := State.fieldFound?_setVm (s := Z) hW.alike h2
  cases q1.symm.trans r1
  intro target hrest
  subst hg
  jvm_step X.here [hx, hd, getfield.wp_ready (e := e) (s := T) (f := g) X.here.top q2 h3 hs (show T.heap[a]? = some cell by rw [eT]; exact h1) h4 h7]
  exact hrest
theorem own_keep {s s' : State} {locs : List Loc} {cells slots : Nat} {ws : List Addr} (h : s.sameButNew s' locs cells slots) (hl : ∀ y ∈ locs, y.base ∈ ws) : Keep s.heap s'.heap ws := by
  obtain ⟨-, h1, -, -, -, h2⟩ := h
  refine ⟨h1, fun x c q r => ?_, fun x c q => ?_⟩
  · obtain ⟨c', e1, e2, e3, e4⟩ := h2 x c q
    have : c'.slots = c.slots := by
      apply Array.ext e3
      intro i hi1 hi2
      have := e4 i (fun z => r (hl _ z))
      rw [Array.getElem?_eq_getElem hi1, Array.getElem?_eq_getElem hi2] at this
      exact Option.some.inj this
    rw [e1, e2, this]
  · obtain ⟨c', e1, e2, e3, e4⟩ := h2 x c q
    exact ⟨c', e1, by rw [e2], by rw [e2], e3⟩
/-- 'backOf' for a synchronized method of an object whose monitor nobody has -/
theorem own_backS {y : MethodName} {bytes : ByteArray} {maxL : Nat} {ret : Option FieldType} {rm : Room} {len W : Nat} {as' : Array Value} {Q : Option Value → Heap → List Loc → Prop} {r0 : Addr}
    (hM : MetFree l y (head1 [Cond.codeSync y bytes maxL ret, Cond.instanceMethod y] rm) (fun a U => a = as' ∧ Z.Warmed39 U.vm ∧ U.heap = h ∧ ∃ cell : Cell, h[r0]? = some cell ∧ cell.enterable U.cur) (fun _ _ _ _ _ => True) (fun _ U o U' => ∃ v L, o = .returned v ∧ Q v U'.heap L ∧ FrameEnd U o U' L rm.cells rm.slots))
    (hZ : Z.Warmed39 s.vm) (wc : (Cond.codeSync y bytes maxL ret).before a0 Z = true) (wi : (Cond.instanceMethod y).before a0 Z = true) (wz : (Cond.initialized y.cls).before a0 Z = true) (N : Unt h r0) (hf : rm.frames + 1 ≤ R.frames) (hl : W + (maxL + 11) + rm.locals ≤ R.locals) :
    Back l R p e below s args y len W (fun A a => a = as' ∧ A.U.heap = h ∧ A.cells + rm.cells ≤ R.cells ∧ A.slots + rm.slots ≤ R.slots)
      (fun A _ v B => ∃ L, Q v B.U.heap L ∧ B.locs = A.locs ++ L ∧ B.cells = A.cells + rm.cells ∧ B.slots = A.slots + rm.slots) :=
  Jvm.Free.XT.back_of_sync (bytes := bytes) (maxL := maxL) (ret := ret) (E := fun _ _ o t L k n => k = rm.cells ∧ n = rm.slots ∧ ∃ v, o = .returned v ∧ Q v t.heap L) hM hf hl
    (fun m meth c A as Y hp => have hU : Z.Warmed39 A.U.vm := wtrans hZ Y.warmed
      ⟨by show (Cond.and _ (Cond.and _ .tt)).before as A.U = true; rw [Cond.before_and, Cond.before_and, mv hU wc, mv hU wi]; rfl, mv hU wc, mv hU wz, hp.2.2.1, hp.2.2.2⟩)
    (fun m meth c A as g mk Y hp => ⟨hp.1, wtrans hZ Y.warmed, hp.2.1, by obtain ⟨cl, u1, -, u3⟩ := N; exact ⟨cl, u1, by rw [Cell.enterable, u3]; simp⟩⟩)
    (fun _ _ _ _ _ _ _ _ _ => trivial)
    (fun _ _ _ _ ⟨v, L, h1, h2, h3⟩ => ⟨L, _, _, h3, rfl, rfl, v, h1, h2⟩)
    (fun m meth c A a g mk v t L k n Y hp _ _ ⟨e1, e2, v', e3, e4⟩ => by cases e3; subst e1 e2; exact ⟨L, e4, rfl, rfl, rfl⟩)
end OwnSync
end Jvm.RoadKit
namespace Jvm.Pilot.@@N@@
open Jvm Jvm.ClassFile Sem Op Lib Jvm.Free Jvm.Stand Jvm.LawKit Jvm.RoadKit Bundle Jvm.Pilot.@@N@@.Jvm.D
def own_max (a b : Int64) : Int64 := if a < b then b else a
def own_min (a b : Int64) : Int64 := if b < a then b else a
def own_fit (a b : Int64) : Int32 := if a < b then (0 : Int32) else (1 : Int32)
def own_lft (a b : Int64) : Int64 := if a < b then a else a - b
def own_exp (h c : Int64) : Int32 := if h < c then (0 : Int32) else (1 : Int32)
def own_tk (m : Int32) (h t : Int64) : Int64 := if (m &&& (8 : Int32)) = (0 : Int32) then t else h
theorem own_mask (a : Int64) : 0 ≤ (a &&& (9223372036854775807 : Int64)).toInt := by
  have := c_maskL a 9223372036854775807 63 (by decide) (by decide)
  omega
theorem own_cap (a : Int64) : 0 ≤ (a &&& (4611686018427387903 : Int64)).toInt ∧ (a &&& (4611686018427387903 : Int64)).toInt ≤ 4611686018427387903 := by
  have := c_maskL a 4611686018427387903 62 (by decide) (by decide)
  simp only [show ((2 ^ 62 : Nat) : Int) = 4611686018427387904 from rfl] at this
  omega
theorem own_half (l : Int64) (h : 0 ≤ l.toInt) : (l / (2 : Int64)).toInt = l.toInt / 2 := (c_ldiv l 2 2 rfl (by decide)).1 h
theorem own_c1 (h : Int64) (h0 : 0 ≤ h.toInt) (h1 : h.toInt ≤ 4611686018427387903) : 0 ≤ (own_min (h + (1 : Int64)) (4611686018427387903 : Int64)).toInt ∧ (own_min (h + (1 : Int64)) (4611686018427387903 : Int64)).toInt ≤ 4611686018427387903 := by
  have a := c_ladd h 1
  have b := rng64 (h + 1)
  unfold own_min
  simp only [Int64.reduceToInt] at a
  split
  · decide
  · next k => rw [Int64.lt_iff_toInt_lt] at k; simp only [Int64.reduceToInt] at k; omega
theorem own_c2 (h : Int64) (h0 : 0 ≤ h.toInt) (h1 : h.toInt ≤ 4611686018427387903) : 0 ≤ (own_max (h - (1 : Int64)) (0 : Int64)).toInt ∧ (own_max (h - (1 : Int64)) (0 : Int64)).toInt ≤ 4611686018427387903 := by
  have a := c_lsub h 1
  have b := rng64 (h - 1)
  unfold own_max
  simp only [Int64.reduceToInt] at a
  split
  · decide
  · next k => rw [Int64.lt_iff_toInt_lt] at k; simp only [Int64.reduceToInt] at k; omega
theorem own_eq (l h c : Int64) (hl : 0 ≤ l.toInt) (hh : h.toInt = l.toInt / 2) (c0 : 0 ≤ c.toInt) (c1 : c.toInt ≤ 4611686018427387903) : own_fit l ((2 : Int64) * c) = own_exp h c := by
  have a := c_lmul 2 c
  have b := rng64 ((2 : Int64) * c)
  simp only [Int64.reduceToInt] at a
  have e : l < (2 : Int64) * c ↔ h < c := by rw [Int64.lt_iff_toInt_lt, Int64.lt_iff_toInt_lt]; omega
  unfold own_fit own_exp
  by_cases k : h < c
  · rw [if_pos k, if_pos (e.mpr k)]
  · rw [if_neg k, if_neg (fun z => k (e.mp z))]
theorem pd_0 : parseMethodDescriptor "(J)V" = some ⟨[.long], none⟩ := by decide +kernel
theorem pd_1 : parseMethodDescriptor "(J)J" = some ⟨[.long], some .long⟩ := by decide +kernel
theorem pd_2 : parseMethodDescriptor "(J)Z" = some ⟨[.long], some .boolean⟩ := by decide +kernel
theorem pd_3 : parseMethodDescriptor "(JJ)V" = some ⟨[.long, .long], none⟩ := by decide +kernel
theorem pd_4 : parseMethodDescriptor "(JJ)J" = some ⟨[.long, .long], some .long⟩ := by decide +kernel
theorem d1_0 : decode jdk_29_method_66_code 0 = .ok (.lload_n 0, 1) := by decide +kernel
theorem d1_1 : decode jdk_29_method_66_code 1 = .ok (.lload_n 2, 1) := by decide +kernel
theorem d1_2 : decode jdk_29_method_66_code 2 = .ok (.lcmp, 1) := by decide +kernel
theorem d1_3 : decode jdk_29_method_66_code 3 = .ok (.ifCond .lt 7, 3) := by decide +kernel
theorem d1_6 : decode jdk_29_method_66_code 6 = .ok (.lload_n 0, 1) := by decide +kernel
theorem d1_7 : decode jdk_29_method_66_code 7 = .ok (.goto 4, 3) := by decide +kernel
theorem d1_10 : decode jdk_29_method_66_code 10 = .ok (.lload_n 2, 1) := by decide +kernel
theorem d1_11 : decode jdk_29_method_66_code 11 = .ok (.lreturn, 1) := by decide +kernel
theorem ef_1 (m : MethodId) (x0 : Int64) (x1 : Int64) : entryFrame m #[(.long x0), (.long x1)] 4 = mkF m 0 #[.val (.long x0), .second, .val (.long x1), .second] [] := by first | (simp [entryFrame, mkF, argsToLocals, Value.category]; done) | rfl
def Q1 (Z : State) (q0 : Int64) (q1 : Int64) (h0 : Heap) (n0 : Nat) (v : Option Value) (h : Heap) (L : List Loc) : Prop := v = some (.long (own_max q0 q1)) ∧ Fr n0 L ∧ h = h0
set_option maxRecDepth 65536 in
set_option maxHeartbeats 40000000 in
theorem rm1 (l : Launch) (Z : State) (a0 : Array Value) (hw : ∀ d ∈ tables_1, d.before a0 Z = true) (ws : List Jvm.Cond) (q0 : Int64) (q1 : Int64)  (h0 : Heap) (n0 : Nat) (Z0 : n0 ≤ h0.size) :
    MetFree l (⟨"java/lang/Math", "max", "(JJ)J"⟩ : MethodName) (head1 (Jvm.Cond.code (⟨"java/lang/Math", "max", "(JJ)J"⟩ : MethodName) jdk_29_method_66_code 4 (some .long) :: ws) ({ frames := 0, cells := 0, slots := 0, locals := 0 } : Room)) (fun a U => a = #[(.long q0), (.long q1)] ∧ Z.Warmed39 U.vm ∧ U.heap = h0) (fun _ _ _ _ _ => True) (fun _ U o U' => ∃ v L, o = .returned v ∧ Q1 Z q0 q1 h0 n0 v U'.heap L ∧ FrameEnd U o U' L ({ frames := 0, cells := 0, slots := 0, locals := 0 } : Room).cells ({ frames := 0, cells := 0, slots := 0, locals := 0 } : Room).slots) := by
  refine MetFree.of_bodySF (Jvm.Free.JP.mathPlain rfl (by decide +kernel)) hisR ?_
  intro p e s m args below meth c s₁ Bd hml0 hP hK
  obtain ⟨rfl, hZ, hh⟩ := hP
  have hx := Bd.exec
  have hby := Bd.bytes
  have hml : c.maxLocals = 4 := hml0
  have hown : s.vm.findClass "java/lang/Math" = some m.cls := findClass_of_methodNamed Bd.named
  have hnm := (name_of_methodNamed Bd.named Bd.method).1
  have X0 : Stand p l e ({ frames := 0, cells := 0, slots := 0, locals := 0 } : Room) s m #[(.long q0), (.long q1)] below meth c s₁ [] 0 0 := Stand.of_body Bd
  have e0 : s₁.heap = h0 := by rw [← hh, Bd.state]; rfl
  have N0 := Fr.nil n0
  have pre0 : ∀ t, Steps p.tables e below (s₁.setTop (mkF m 0 #[.val (.long q0), .second, .val (.long q1), .second] [])) t → Steps p.tables e below (s₁.setTop (entryFrame m #[(.long q0), (.long q1)] 4)) t := fun t k => castTop (ef_1 m q0 q1) k
  have c1 : ∀ t, Steps p.tables e below (s₁.setTop (mkF m 3 #[.val (.long q0), .second, .val (.long q1), .second] [(.int (lcmpW q0 q1))])) t → Steps p.tables e below (s₁.setTop (mkF m 0 #[.val (.long q0), .second, .val (.long q1), .second] [])) t := by
    intro t kt
    show Steps p.tables e below (s₁.setTop (mkF m 0 #[.val (.long q0), .second, .val (.long q1), .second] [])) _
    refine XS.lloadN X0.here hx rfl (hb hby d1_0) rfl ?_
    show Steps p.tables e below (s₁.setTop (mkF m 1 #[.val (.long q0), .second, .val (.long q1), .second] [(.long q0)])) _
    refine XS.lloadN X0.here hx rfl (hb hby d1_1) rfl ?_
    show Steps p.tables e below (s₁.setTop (mkF m 2 #[.val (.long q0), .second, .val (.long q1), .second] [(.long q1), (.long q0)])) _
    refine XS.lcmp X0.here hx rfl (hb hby d1_2) rfl ?_
    exact kt
  by_cases hc3 : q0 < q1
  · -- it is
    have c2 : ∀ t, Steps p.tables e below (s₁.setTop (mkF m 11 #[.val (.long q0), .second, .val (.long q1), .second] [(.long q1)])) t → Steps p.tables e below (s₁.setTop (mkF m 3 #[.val (.long q0), .second, .val (.long q1), .second] [(.int (lcmpW q0 q1))])) t := by
      intro t kt
      show Steps p.tables e below (s₁.setTop (mkF m 3 #[.val (.long q0), .second, .val (.long q1), .second] [(.int (lcmpW q0 q1))])) _
      refine XS.ifYes X0.here hx rfl (pc0 := 3) (pc' := 10) rfl (hb hby d1_3) rfl ((if0 _ _).trans (tlt ((lw_lt _ _).mpr hc3)).1) (by decide) (by decide) ?_
      show Steps p.tables e below (s₁.setTop (mkF m 10 #[.val (.long q0), .second, .val (.long q1), .second] [])) _
      refine XS.lloadN X0.here hx rfl (hb hby d1_10) rfl ?_
      exact kt
    obtain ⟨fs, hr, hrun, hended, hW, hsame⟩ := X0.leave (v := some (.long q1)) (fun h => by rw [Bd.returns] at h; cases h)
    refine ⟨_, _, pre0 _ (c1 _ (c2 _ (?_))), hrun, hended, _, _, rfl, ?_, ⟨_, rfl⟩, hW, hsame.mono (by decide) (by decide)⟩
    · show Steps p.tables e below (s₁.setTop (mkF m 11 #[.val (.long q0), .second, .val (.long q1), .second] [(.long q1)])) _
      jvm_step X0.here [X0.here.top, hx, (hb hby d1_11), X0.method', Bd.returns, narrow]
      first | (intro acts; rw [hr _ acts rfl rfl rfl]) | rw [hr _ _ rfl rfl rfl]
      exact Steps.refl _
    · show Q1 Z q0 q1 h0 n0 _ s₁.heap _
      rw [e0]
      exact ⟨congrArg (fun z => some (Value.long z)) (show q1 = (own_max q0 q1) from by unfold own_max; simp only [hc3, if_true, if_false]), N0, rfl⟩
  · -- it isn't
    have c4 : ∀ t, Steps p.tables e below (s₁.setTop (mkF m 11 #[.val (.long q0), .second, .val (.long q1), .second] [(.long q0)])) t → Steps p.tables e below (s₁.setTop (mkF m 3 #[.val (.long q0), .second, .val (.long q1), .second] [(.int (lcmpW q0 q1))])) t := by
      intro t kt
      show Steps p.tables e below (s₁.setTop (mkF m 3 #[.val (.long q0), .second, .val (.long q1), .second] [(.int (lcmpW q0 q1))])) _
      refine XS.ifNo X0.here hx rfl (hb hby d1_3) rfl ((if0 _ _).trans (flt (fun q => hc3 ((lw_lt _ _).mp q))).1) ?_
      show Steps p.tables e below (s₁.setTop (mkF m 6 #[.val (.long q0), .second, .val (.long q1), .second] [])) _
      refine XS.lloadN X0.here hx rfl (hb hby d1_6) rfl ?_
      show Steps p.tables e below (s₁.setTop (mkF m 7 #[.val (.long q0), .second, .val (.long q1), .second] [(.long q0)])) _
      refine XS.goto X0.here hx rfl (pc0 := 7) (pc' := 11) rfl (hb hby d1_7) (by decide) (by decide) ?_
      exact kt
    obtain ⟨fs, hr, hrun, hended, hW, hsame⟩ := X0.leave (v := some (.long q0)) (fun h => by rw [Bd.returns] at h; cases h)
    refine ⟨_, _, pre0 _ (c1 _ (c4 _ (?_))), hrun, hended, _, _, rfl, ?_, ⟨_, rfl⟩, hW, hsame.mono (by decide) (by decide)⟩
    · show Steps p.tables e below (s₁.setTop (mkF m 11 #[.val (.long q0), .second, .val (.long q1), .second] [(.long q0)])) _
      jvm_step X0.here [X0.here.top, hx, (hb hby d1_11), X0.method', Bd.returns, narrow]
      first | (intro acts; rw [hr _ acts rfl rfl rfl]) | rw [hr _ _ rfl rfl rfl]
      exact Steps.refl _
    · show Q1 Z q0 q1 h0 n0 _ s₁.heap _
      rw [e0]
      exact ⟨congrArg (fun z => some (Value.long z)) (show q0 = (own_max q0 q1) from by unfold own_max; simp only [hc3, if_true, if_false]), N0, rfl⟩
theorem d9_0 : decode jdk_29_method_70_code 0 = .ok (.lload_n 0, 1) := by decide +kernel
theorem d9_1 : decode jdk_29_method_70_code 1 = .ok (.lload_n 2, 1) := by decide +kernel
theorem d9_2 : decode jdk_29_method_70_code 2 = .ok (.lcmp, 1) := by decide +kernel
theorem d9_3 : decode jdk_29_method_70_code 3 = .ok (.ifCond .gt 7, 3) := by decide +kernel
theorem d9_6 : decode jdk_29_method_70_code 6 = .ok (.lload_n 0, 1) := by decide +kernel
theorem d9_7 : decode jdk_29_method_70_code 7 = .ok (.goto 4, 3) := by decide +kernel
theorem d9_10 : decode jdk_29_method_70_code 10 = .ok (.lload_n 2, 1) := by decide +kernel
theorem d9_11 : decode jdk_29_method_70_code 11 = .ok (.lreturn, 1) := by decide +kernel
theorem ef_9 (m : MethodId) (x0 : Int64) (x1 : Int64) : entryFrame m #[(.long x0), (.long x1)] 4 = mkF m 0 #[.val (.long x0), .second, .val (.long x1), .second] [] := by first | (simp [entryFrame, mkF, argsToLocals, Value.category]; done) | rfl
def Q9 (Z : State) (q0 : Int64) (q1 : Int64) (h0 : Heap) (n0 : Nat) (v : Option Value) (h : Heap) (L : List Loc) : Prop := v = some (.long (own_min q0 q1)) ∧ Fr n0 L ∧ h = h0
set_option maxRecDepth 65536 in
set_option maxHeartbeats 40000000 in
theorem rm9 (l : Launch) (Z : State) (a0 : Array Value) (hw : ∀ d ∈ tables_1, d.before a0 Z = true) (ws : List Jvm.Cond) (q0 : Int64) (q1 : Int64)  (h0 : Heap) (n0 : Nat) (Z0 : n0 ≤ h0.size) :
    MetFree l (⟨"java/lang/Math", "min", "(JJ)J"⟩ : MethodName) (head1 (Jvm.Cond.code (⟨"java/lang/Math", "min", "(JJ)J"⟩ : MethodName) jdk_29_method_70_code 4 (some .long) :: ws) ({ frames := 0, cells := 0, slots := 0, locals := 0 } : Room)) (fun a U => a = #[(.long q0), (.long q1)] ∧ Z.Warmed39 U.vm ∧ U.heap = h0) (fun _ _ _ _ _ => True) (fun _ U o U' => ∃ v L, o = .returned v ∧ Q9 Z q0 q1 h0 n0 v U'.heap L ∧ FrameEnd U o U' L ({ frames := 0, cells := 0, slots := 0, locals := 0 } : Room).cells ({ frames := 0, cells := 0, slots := 0, locals := 0 } : Room).slots) := by
  refine MetFree.of_bodySF (Jvm.Free.JP.mathPlain rfl (by decide +kernel)) hisR ?_
  intro p e s m args below meth c s₁ Bd hml0 hP hK
  obtain ⟨rfl, hZ, hh⟩ := hP
  have hx := Bd.exec
  have hby := Bd.bytes
  have hml : c.maxLocals = 4 := hml0
  have hown : s.vm.findClass "java/lang/Math" = some m.cls := findClass_of_methodNamed Bd.named
  have hnm := (name_of_methodNamed Bd.named Bd.method).1
  have X0 : Stand p l e ({ frames := 0, cells := 0, slots := 0, locals := 0 } : Room) s m #[(.long q0), (.long q1)] below meth c s₁ [] 0 0 := Stand.of_body Bd
  have e0 : s₁.heap = h0 := by rw [← hh, Bd.state]; rfl
  have N0 := Fr.nil n0
  have pre0 : ∀ t, Steps p.tables e below (s₁.setTop (mkF m 0 #[.val (.long q0), .second, .val (.long q1), .second] [])) t → Steps p.tables e below (s₁.setTop (entryFrame m #[(.long q0), (.long q1)] 4)) t := fun t k => castTop (ef_9 m q0 q1) k
  have c1 : ∀ t, Steps p.tables e below (s₁.setTop (mkF m 3 #[.val (.long q0), .second, .val (.long q1), .second] [(.int (lcmpW q0 q1))])) t → Steps p.tables e below (s₁.setTop (mkF m 0 #[.val (.long q0), .second, .val (.long q1), .second] [])) t := by
    intro t kt
    show Steps p.tables e below (s₁.setTop (mkF m 0 #[.val (.long q0), .second, .val (.long q1), .second] [])) _
    refine XS.lloadN X0.here hx rfl (hb hby d9_0) rfl ?_
    show Steps p.tables e below (s₁.setTop (mkF m 1 #[.val (.long q0), .second, .val (.long q1), .second] [(.long q0)])) _
    refine XS.lloadN X0.here hx rfl (hb hby d9_1) rfl ?_
    show Steps p.tables e below (s₁.setTop (mkF m 2 #[.val (.long q0), .second, .val (.long q1), .second] [(.long q1), (.long q0)])) _
    refine XS.lcmp X0.here hx rfl (hb hby d9_2) rfl ?_
    exact kt
  by_cases hc3 : q1 < q0
  · -- it is
    have c2 : ∀ t, Steps p.tables e below (s₁.setTop (mkF m 11 #[.val (.long q0), .second, .val (.long q1), .second] [(.long q1)])) t → Steps p.tables e below (s₁.setTop (mkF m 3 #[.val (.long q0), .second, .val (.long q1), .second] [(.int (lcmpW q0 q1))])) t := by
      intro t kt
      show Steps p.tables e below (s₁.setTop (mkF m 3 #[.val (.long q0), .second, .val (.long q1), .second] [(.int (lcmpW q0 q1))])) _
      refine XS.ifYes X0.here hx rfl (pc0 := 3) (pc' := 10) rfl (hb hby d9_3) rfl ((if0 _ _).trans (tlt ((lw_gt _ _).mpr hc3)).2.2.1) (by decide) (by decide) ?_
      show Steps p.tables e below (s₁.setTop (mkF m 10 #[.val (.long q0), .second, .val (.long q1), .second] [])) _
      refine XS.lloadN X0.here hx rfl (hb hby d9_10) rfl ?_
      exact kt
    obtain ⟨fs, hr, hrun, hended, hW, hsame⟩ := X0.leave (v := some (.long q1)) (fun h => by rw [Bd.returns] at h; cases h)
    refine ⟨_, _, pre0 _ (c1 _ (c2 _ (?_))), hrun, hended, _, _, rfl, ?_, ⟨_, rfl⟩, hW, hsame.mono (by decide) (by decide)⟩
    · show Steps p.tables e below (s₁.setTop (mkF m 11 #[.val (.long q0), .second, .val (.long q1), .second] [(.long q1)])) _
      jvm_step X0.here [X0.here.top, hx, (hb hby d9_11), X0.method', Bd.returns, narrow]
      first | (intro acts; rw [hr _ acts rfl rfl rfl]) | rw [hr _ _ rfl rfl rfl]
      exact Steps.refl _
    · show Q9 Z q0 q1 h0 n0 _ s₁.heap _
      rw [e0]
      exact ⟨congrArg (fun z => some (Value.long z)) (show q1 = (own_min q0 q1) from by unfold own_min; simp only [hc3, if_true, if_false]), N0, rfl⟩
  · -- it isn't
    have c4 : ∀ t, Steps p.tables e below (s₁.setTop (mkF m 11 #[.val (.long q0), .second, .val (.long q1), .second] [(.long q0)])) t → Steps p.tables e below (s₁.setTop (mkF m 3 #[.val (.long q0), .second, .val (.long q1), .second] [(.int (lcmpW q0 q1))])) t := by
      intro t kt
      show Steps p.tables e below (s₁.setTop (mkF m 3 #[.val (.long q0), .second, .val (.long q1), .second] [(.int (lcmpW q0 q1))])) _
      refine XS.ifNo X0.here hx rfl (hb hby d9_3) rfl ((if0 _ _).trans (flt (fun q => hc3 ((lw_gt _ _).mp q))).2.2.1) ?_
      show Steps p.tables e below (s₁.setTop (mkF m 6 #[.val (.long q0), .second, .val (.long q1), .second] [])) _
      refine XS.lloadN X0.here hx rfl (hb hby d9_6) rfl ?_
      show Steps p.tables e below (s₁.setTop (mkF m 7 #[.val (.long q0), .second, .val (.long q1), .second] [(.long q0)])) _
      refine XS.goto X0.here hx rfl (pc0 := 7) (pc' := 11) rfl (hb hby d9_7) (by decide) (by decide) ?_
      exact kt
    obtain ⟨fs, hr, hrun, hended, hW, hsame⟩ := X0.leave (v := some (.long q0)) (fun h => by rw [Bd.returns] at h; cases h)
    refine ⟨_, _, pre0 _ (c1 _ (c4 _ (?_))), hrun, hended, _, _, rfl, ?_, ⟨_, rfl⟩, hW, hsame.mono (by decide) (by decide)⟩
    · show Steps p.tables e below (s₁.setTop (mkF m 11 #[.val (.long q0), .second, .val (.long q1), .second] [(.long q0)])) _
      jvm_step X0.here [X0.here.top, hx, (hb hby d9_11), X0.method', Bd.returns, narrow]
      first | (intro acts; rw [hr _ acts rfl rfl rfl]) | rw [hr _ _ rfl rfl rfl]
      exact Steps.refl _
    · show Q9 Z q0 q1 h0 n0 _ s₁.heap _
      rw [e0]
      exact ⟨congrArg (fun z => some (Value.long z)) (show q0 = (own_min q0 q1) from by unfold own_min; simp only [hc3, if_true, if_false]), N0, rfl⟩
theorem d6_0 : decode prog_33_method_2_code 0 = .ok (.ldc2_w 21, 3) := by decide +kernel
theorem d6_3 : decode prog_33_method_2_code 3 = .ok (.lload_n 0, 1) := by decide +kernel
theorem d6_4 : decode prog_33_method_2_code 4 = .ok (.lmul, 1) := by decide +kernel
theorem d6_5 : decode prog_33_method_2_code 5 = .ok (.lreturn, 1) := by decide +kernel
theorem pn_6 : plainName "com/example/href/href/text/KeptRoom" = true := by first | (simp [plainName, overriddenIn]; done) | decide +kernel
theorem ef_6 (m : MethodId) (x0 : Int64) : entryFrame m #[(.long x0)] 2 = mkF m 0 #[.val (.long x0), .second] [] := by first | (simp [entryFrame, mkF, argsToLocals, Value.category]; done) | rfl
def Q6 (Z : State) (q0 : Int64) (h0 : Heap) (n0 : Nat) (v : Option Value) (h : Heap) (L : List Loc) : Prop := v = some (.long ((2 : Int64) * q0)) ∧ Fr n0 L ∧ h = h0
set_option maxRecDepth 65536 in
set_option maxHeartbeats 40000000 in
theorem rm6 (l : Launch) (Z : State) (a0 : Array Value) (hw : ∀ d ∈ tables_1, d.before a0 Z = true) (ws : List Jvm.Cond) (q0 : Int64)  (h0 : Heap) (n0 : Nat) (Z0 : n0 ≤ h0.size) :
    MetFree l (⟨"com/example/href/href/text/KeptRoom", "charBytes", "(J)J"⟩ : MethodName) (head1 (Jvm.Cond.code (⟨"com/example/href/href/text/KeptRoom", "charBytes", "(J)J"⟩ : MethodName) prog_33_method_2_code 2 (some .long) :: ws) ({ frames := 0, cells := 0, slots := 0, locals := 0 } : Room)) (fun a U => a = #[(.long q0)] ∧ Z.Warmed39 U.vm ∧ U.heap = h0) (fun _ _ _ _ _ => True) (fun _ U o U' => ∃ v L, o = .returned v ∧ Q6 Z q0 h0 n0 v U'.heap L ∧ FrameEnd U o U' L ({ frames := 0, cells := 0, slots := 0, locals := 0 } : Room).cells ({ frames := 0, cells := 0, slots := 0, locals := 0 } : Room).slots) := by
  refine MetFree.of_bodySF (plainFor_of_name pn_6) hisR ?_
  intro p e s m args below meth c s₁ Bd hml0 hP hK
  obtain ⟨rfl, hZ, hh⟩ := hP
  have hx := Bd.exec
  have hby := Bd.bytes
  have hml : c.maxLocals = 2 := hml0
  have hown : s.vm.findClass "com/example/href/href/text/KeptRoom" = some m.cls := findClass_of_methodNamed Bd.named
  have hnm := (name_of_methodNamed Bd.named Bd.method).1
  have X0 : Stand p l e ({ frames := 0, cells := 0, slots := 0, locals := 0 } : Room) s m #[(.long q0)] below meth c s₁ [] 0 0 := Stand.of_body Bd
  have e0 : s₁.heap = h0 := by rw [← hh, Bd.state]; rfl
  have N0 := Fr.nil n0
  have pre0 : ∀ t, Steps p.tables e below (s₁.setTop (mkF m 0 #[.val (.long q0), .second] [])) t → Steps p.tables e below (s₁.setTop (entryFrame m #[(.long q0)] 2)) t := fun t k => castTop (ef_6 m q0) k
  have c1 : ∀ t, Steps p.tables e below (s₁.setTop (mkF m 5 #[.val (.long q0), .second] [(.long ((2 : Int64) * q0))])) t → Steps p.tables e below (s₁.setTop (mkF m 0 #[.val (.long q0), .second] [])) t := by
    intro t kt
    show Steps p.tables e below (s₁.setTop (mkF m 0 #[.val (.long q0), .second] [])) _
    refine X0.ldc2Long hx hown (mvT hZ (hw _ (List.mem_of_getElem? (i := 39) rfl))) (g := (mkF m 0 #[.val (.long q0), .second] [])) rfl (hb hby d6_0) _ ?_
    show Steps p.tables e below (s₁.setTop (mkF m 3 #[.val (.long q0), .second] [(.long (2 : Int64))])) _
    refine XS.lloadN X0.here hx rfl (hb hby d6_3) rfl ?_
    show Steps p.tables e below (s₁.setTop (mkF m 4 #[.val (.long q0), .second] [(.long q0), (.long (2 : Int64))])) _
    refine XS.lmul X0.here hx rfl (hb hby d6_4) rfl ?_
    exact kt
  obtain ⟨fs, hr, hrun, hended, hW, hsame⟩ := X0.leave (v := some (.long ((2 : Int64) * q0))) (fun h => by rw [Bd.returns] at h; cases h)
  refine ⟨_, _, pre0 _ (c1 _ (?_)), hrun, hended, _, _, rfl, ?_, ⟨_, rfl⟩, hW, hsame.mono (by decide) (by decide)⟩
  · show Steps p.tables e below (s₁.setTop (mkF m 5 #[.val (.long q0), .second] [(.long ((2 : Int64) * q0))])) _
    jvm_step X0.here [X0.here.top, hx, (hb hby d6_5), X0.method', Bd.returns, narrow]
    first | (intro acts; rw [hr _ acts rfl rfl rfl]) | rw [hr _ _ rfl rfl rfl]
    exact Steps.refl _
  · show Q6 Z q0 h0 n0 _ s₁.heap _
    rw [e0]
    exact ⟨congrArg (fun z => some (Value.long z)) (show ((2 : Int64) * q0) = ((2 : Int64) * q0) from by rfl), N0, rfl⟩
theorem d4_0 : decode prog_35_method_1_code 0 = .ok (.aload_n 0, 1) := by decide +kernel
theorem d4_1 : decode prog_35_method_1_code 1 = .ok (.invokespecial 1, 3) := by decide +kernel
theorem d4_4 : decode prog_35_method_1_code 4 = .ok (.aload_n 0, 1) := by decide +kernel
theorem d4_5 : decode prog_35_method_1_code 5 = .ok (.lload_n 1, 1) := by decide +kernel
theorem d4_6 : decode prog_35_method_1_code 6 = .ok (.putfield 7, 3) := by decide +kernel
theorem d4_9 : decode prog_35_method_1_code 9 = .ok (.aload_n 0, 1) := by decide +kernel
theorem d4_10 : decode prog_35_method_1_code 10 = .ok (.lload_n 1, 1) := by decide +kernel
theorem d4_11 : decode prog_35_method_1_code 11 = .ok (.putfield 13, 3) := by decide +kernel
theorem d4_14 : decode prog_35_method_1_code 14 = .ok (.return_, 1) := by decide +kernel
theorem pn_4 : plainName "com/example/href/href/text/KeptRoom$Room" = true := by first | (simp [plainName, overriddenIn]; done) | decide +kernel
theorem ef_4 (m : MethodId) (x0 : Addr) (x1 : Int64) : entryFrame m #[(.ref x0), (.long x1)] 3 = mkF m 0 #[.val (.ref x0), .val (.long x1), .second] [] := by first | (simp [entryFrame, mkF, argsToLocals, Value.category]; done) | rfl
def Q4 (Z : State) (r0 : Addr) (q1 : Int64) (h0 : Heap) (n0 : Nat) (v : Option Value) (h : Heap) (L : List Loc) : Prop := v = none ∧ Fr n0 L ∧ Keep h0 h [r0] ∧ Exa Z h r0 "com/example/href/href/text/KeptRoom$Room" ∧ Fld Z h r0 "com/example/href/href/text/KeptRoom$Room" "limit" "J" (.long q1) ∧ Fld Z h r0 "com/example/href/href/text/KeptRoom$Room" "left" "J" (.long q1) ∧ Unt h r0
set_option maxRecDepth 65536 in
set_option maxHeartbeats 40000000 in
theorem rm4 (l : Launch) (Z : State) (a0 : Array Value) (hw : ∀ d ∈ tables_1, d.before a0 Z = true) (ws : List Jvm.Cond) (r0 : Addr) (q1 : Int64)  (h0 : Heap) (n0 : Nat) (Z0 : n0 ≤ h0.size) (F_lim : Fld Z h0 r0 "com/example/href/href/text/KeptRoom$Room" "limit" "J" (.long (0 : Int64))) (F_lft : Fld Z h0 r0 "com/example/href/href/text/KeptRoom$Room" "left" "J" (.long (0 : Int64))) (E0 : Exa Z h0 r0 "com/example/href/href/text/KeptRoom$Room") (g_r0 : n0 ≤ r0) (U0 : Unt h0 r0) :
    MetFree l (⟨"com/example/href/href/text/KeptRoom$Room", "<init>", "(J)V"⟩ : MethodName) (head1 (Jvm.Cond.code (⟨"com/example/href/href/text/KeptRoom$Room", "<init>", "(J)V"⟩ : MethodName) prog_35_method_1_code 3 none :: ws) ({ frames := 1, cells := 0, slots := 0, locals := 12 } : Room)) (fun a U => a = #[(.ref r0), (.long q1)] ∧ Z.Warmed39 U.vm ∧ U.heap = h0) (fun _ _ _ _ _ => True) (fun _ U o U' => ∃ v L, o = .returned v ∧ Q4 Z r0 q1 h0 n0 v U'.heap L ∧ FrameEnd U o U' L ({ frames := 1, cells := 0, slots := 0, locals := 12 } : Room).cells ({ frames := 1, cells := 0, slots := 0, locals := 12 } : Room).slots) := by
  refine MetFree.of_bodySF (plainFor_of_name pn_4) hisR ?_
  intro p e s m args below meth c s₁ Bd hml0 hP hK
  obtain ⟨rfl, hZ, hh⟩ := hP
  have hx := Bd.exec
  have hby := Bd.bytes
  have hml : c.maxLocals = 3 := hml0
  have hown : s.vm.findClass "com/example/href/href/text/KeptRoom$Room" = some m.cls := findClass_of_methodNamed Bd.named
  have hnm := (name_of_methodNamed Bd.named Bd.method).1
  have X0 : Stand p l e ({ frames := 1, cells := 0, slots := 0, locals := 12 } : Room) s m #[(.ref r0), (.long q1)] below meth c s₁ [] 0 0 := Stand.of_body Bd
  have e0 : s₁.heap = h0 := by rw [← hh, Bd.state]; rfl
  have N0 := Fr.nil n0
  have pre0 : ∀ t, Steps p.tables e below (s₁.setTop (mkF m 0 #[.val (.ref r0), .val (.long q1), .second] [])) t → Steps p.tables e below (s₁.setTop (entryFrame m #[(.ref r0), (.long q1)] 3)) t := fun t k => castTop (ef_4 m r0 q1) k
  have c2 : ∀ t, Steps p.tables e below (s₁.setTop (mkF m 1 #[.val (.ref r0), .val (.long q1), .second] [(.ref r0)])) t → Steps p.tables e below (s₁.setTop (mkF m 0 #[.val (.ref r0), .val (.long q1), .second] [])) t := by
    intro t kt
    show Steps p.tables e below (s₁.setTop (mkF m 0 #[.val (.ref r0), .val (.long q1), .second] [])) _
    refine XS.aloadN X0.here hx rfl (hb hby d4_0) rfl rfl ?_
    exact kt
  obtain ⟨T1, X1, e1, st1⟩ := initO X0 hx hZ hown (hw _ (List.mem_of_getElem? (i := 22) rfl)) (hw _ (List.mem_of_getElem? (i := 14) rfl)) (hw _ (List.mem_of_getElem? (i := 15) rfl)) e0 (g := (mkF m 1 #[.val (.ref r0), .val (.long q1), .second] [(.ref r0)])) rfl (by rw [hml]; rfl) rfl (hb hby d4_1) (by decide) (W := 0) (by show 2 * 0 + _ ≤ _; exact Nat.le_of_eq rfl) (by decide)
  have c4 : ∀ t, Steps p.tables e below (T1.setTop (mkF m 6 #[.val (.ref r0), .val (.long q1), .second] [(.long q1), (.ref r0)])) t → Steps p.tables e below (T1.setTop (mkF m 4 #[.val (.ref r0), .val (.long q1), .second] [])) t := by
    intro t kt
    show Steps p.tables e below (T1.setTop (mkF m 4 #[.val (.ref r0), .val (.long q1), .second] [])) _
    refine XS.aloadN X1.here hx rfl (hb hby d4_4) rfl rfl ?_
    show Steps p.tables e below (T1.setTop (mkF m 5 #[.val (.ref r0), .val (.long q1), .second] [(.ref r0)])) _
    refine XS.lloadN X1.here hx rfl (hb hby d4_5) rfl ?_
    exact kt
  obtain ⟨T3, h3, X3, e3, W3, st3⟩ := putF X1 hx hZ hown (host := "") (Or.inl (hw _ (List.mem_of_getElem? (i := 23) rfl))) Via.refl e1 F_lim E0 (Or.inr ⟨(hw _ (List.mem_of_getElem? (i := 24) rfl)), rfl, hnm⟩) (hw _ (List.mem_of_getElem? (i := 17) rfl)) (ty := .long) (by decide) rfl rfl (g := (mkF m 6 #[.val (.ref r0), .val (.long q1), .second] [(.long q1), (.ref r0)])) rfl rfl (hb hby d4_6)
  have Fw3 := F_lim.same W3
  have N3 := Fr.snoc X3 N0 g_r0
  have f5 := (F_lft.other W3 (Or.inr (slot_ne (a0 := a0) (Or.inl (hw _ (List.mem_of_getElem? (i := 26) rfl))) (Or.inr (hw _ (List.mem_of_getElem? (i := 24) rfl))) (by decide) (t := .long) (t' := .long) (by decide) (by decide))))
  have f6 := (E0.wr W3)
  have c8 : ∀ t, Steps p.tables e below (T3.setTop (mkF m 11 #[.val (.ref r0), .val (.long q1), .second] [(.long q1), (.ref r0)])) t → Steps p.tables e below (T3.setTop (mkF m 9 #[.val (.ref r0), .val (.long q1), .second] [])) t := by
    intro t kt
    show Steps p.tables e below (T3.setTop (mkF m 9 #[.val (.ref r0), .val (.long q1), .second] [])) _
    refine XS.aloadN X3.here hx rfl (hb hby d4_9) rfl rfl ?_
    show Steps p.tables e below (T3.setTop (mkF m 10 #[.val (.ref r0), .val (.long q1), .second] [(.ref r0)])) _
    refine XS.lloadN X3.here hx rfl (hb hby d4_10) rfl ?_
    exact kt
  obtain ⟨T7, h7, X7, e7, W7, st7⟩ := putF X3 hx hZ hown (host := "") (Or.inl (hw _ (List.mem_of_getElem? (i := 25) rfl))) Via.refl e3 f5 f6 (Or.inl (hw _ (List.mem_of_getElem? (i := 26) rfl))) (hw _ (List.mem_of_getElem? (i := 17) rfl)) (ty := .long) (by decide) rfl rfl (g := (mkF m 11 #[.val (.ref r0), .val (.long q1), .second] [(.long q1), (.ref r0)])) rfl rfl (hb hby d4_11)
  have Fw7 := f5.same W7
  have N7 := Fr.snoc X7 N3 g_r0
  obtain ⟨fs, hr, hrun, hended, hW, hsame⟩ := X7.leave (v := none) (fun _ => rfl)
  have f10 := (((Keep.refl h0 [r0]).wr W3 (Or.inl (List.mem_of_getElem? (i := 0) rfl))).wr W7 (Or.inl (List.mem_of_getElem? (i := 0) rfl)))
  have f11 := (f6.wr W7)
  have f12 := (Fw3.other W7 (Or.inr (slot_ne (a0 := a0) (Or.inr (hw _ (List.mem_of_getElem? (i := 24) rfl))) (Or.inl (hw _ (List.mem_of_getElem? (i := 26) rfl))) (by decide) (t := .long) (t' := .long) (by decide) (by decide))))
  have f13 := ((U0.wr W3).wr W7)
  refine ⟨_, _, pre0 _ (c2 _ (st1 _ (c4 _ (st3 _ (c8 _ (st7 _ (?_))))))), hrun, hended, _, _, rfl, ?_, ⟨_, rfl⟩, hW, hsame.mono (by decide) (by decide)⟩
  · show Steps p.tables e below (T7.setTop (mkF m 14 #[.val (.ref r0), .val (.long q1), .second] [])) _
    exact X7.returnOut hx Bd.returns (hb hby d4_14) hr
  · show Q4 Z r0 q1 h0 n0 _ T7.heap _
    rw [e7]
    exact ⟨rfl, N7, f10, f11, f12, Fw7, f13⟩
theorem d2_0 : decode prog_33_method_1_code 0 = .ok (.aload_n 0, 1) := by decide +kernel
theorem d2_1 : decode prog_33_method_1_code 1 = .ok (.invokespecial 1, 3) := by decide +kernel
theorem d2_4 : decode prog_33_method_1_code 4 = .ok (.aload_n 0, 1) := by decide +kernel
theorem d2_5 : decode prog_33_method_1_code 5 = .ok (.new 7, 3) := by decide +kernel
theorem d2_8 : decode prog_33_method_1_code 8 = .ok (.dup, 1) := by decide +kernel
theorem d2_9 : decode prog_33_method_1_code 9 = .ok (.lload_n 1, 1) := by decide +kernel
theorem d2_10 : decode prog_33_method_1_code 10 = .ok (.invokespecial 9, 3) := by decide +kernel
theorem d2_13 : decode prog_33_method_1_code 13 = .ok (.putfield 12, 3) := by decide +kernel
theorem d2_16 : decode prog_33_method_1_code 16 = .ok (.aload_n 0, 1) := by decide +kernel
theorem d2_17 : decode prog_33_method_1_code 17 = .ok (.new 7, 3) := by decide +kernel
theorem d2_20 : decode prog_33_method_1_code 20 = .ok (.dup, 1) := by decide +kernel
theorem d2_21 : decode prog_33_method_1_code 21 = .ok (.lload_n 3, 1) := by decide +kernel
theorem d2_22 : decode prog_33_method_1_code 22 = .ok (.invokespecial 9, 3) := by decide +kernel
theorem d2_25 : decode prog_33_method_1_code 25 = .ok (.putfield 18, 3) := by decide +kernel
theorem d2_28 : decode prog_33_method_1_code 28 = .ok (.return_, 1) := by decide +kernel
theorem pn_2 : plainName "com/example/href/href/text/KeptRoom" = true := by first | (simp [plainName, overriddenIn]; done) | decide +kernel
theorem ef_2 (m : MethodId) (x0 : Addr) (x1 : Int64) (x2 : Int64) : entryFrame m #[(.ref x0), (.long x1), (.long x2)] 5 = mkF m 0 #[.val (.ref x0), .val (.long x1), .second, .val (.long x2), .second] [] := by first | (simp [entryFrame, mkF, argsToLocals, Value.category]; done) | rfl
def Q2 (Z : State) (r0 : Addr) (q1 : Int64) (q2 : Int64) (h0 : Heap) (n0 : Nat) (v : Option Value) (h : Heap) (L : List Loc) : Prop := ∃ t : Addr, v = none ∧ Fr n0 L ∧ Keep h0 h [r0] ∧ Exa Z h r0 "com/example/href/href/text/KeptRoom" ∧ Fld Z h r0 "com/example/href/href/text/KeptRoom" "texts" "Lcom/example/href/href/text/KeptRoom$Room;" (.ref t) ∧ n0 ≤ t ∧ Exa Z h t "com/example/href/href/text/KeptRoom$Room" ∧ Fld Z h t "com/example/href/href/text/KeptRoom$Room" "limit" "J" (.long q1) ∧ Fld Z h t "com/example/href/href/text/KeptRoom$Room" "left" "J" (.long q1) ∧ Unt h t
set_option maxRecDepth 65536 in
set_option maxHeartbeats 40000000 in
theorem rm2 (l : Launch) (Z : State) (a0 : Array Value) (hw : ∀ d ∈ tables_1, d.before a0 Z = true) (ws : List Jvm.Cond) (r0 : Addr) (q1 : Int64) (q2 : Int64)  (h0 : Heap) (n0 : Nat) (Z0 : n0 ≤ h0.size) (F_t : Fld Z h0 r0 "com/example/href/href/text/KeptRoom" "texts" "Lcom/example/href/href/text/KeptRoom$Room;" .null) (F_r : Fld Z h0 r0 "com/example/href/href/text/KeptRoom" "records" "Lcom/example/href/href/text/KeptRoom$Room;" .null) (E0 : Exa Z h0 r0 "com/example/href/href/text/KeptRoom") (g_r0 : n0 ≤ r0) :
    MetFree l (⟨"com/example/href/href/text/KeptRoom", "<init>", "(JJ)V"⟩ : MethodName) (head1 (Jvm.Cond.code (⟨"com/example/href/href/text/KeptRoom", "<init>", "(JJ)V"⟩ : MethodName) prog_33_method_1_code 5 none :: ws) ({ frames := 2, cells := 2, slots := 4, locals := 28 } : Room)) (fun a U => a = #[(.ref r0), (.long q1), (.long q2)] ∧ Z.Warmed39 U.vm ∧ U.heap = h0) (fun _ _ _ _ _ => True) (fun _ U o U' => ∃ v L, o = .returned v ∧ Q2 Z r0 q1 q2 h0 n0 v U'.heap L ∧ FrameEnd U o U' L ({ frames := 2, cells := 2, slots := 4, locals := 28 } : Room).cells ({ frames := 2, cells := 2, slots := 4, locals := 28 } : Room).slots) := by
  refine MetFree.of_bodySF (plainFor_of_name pn_2) hisR ?_
  intro p e s m args below meth c s₁ Bd hml0 hP hK
  obtain ⟨rfl, hZ, hh⟩ := hP
  have hx := Bd.exec
  have hby := Bd.bytes
  have hml : c.maxLocals = 5 := hml0
  have hown : s.vm.findClass "com/example/href/href/text/KeptRoom" = some m.cls := findClass_of_methodNamed Bd.named
  have hnm := (name_of_methodNamed Bd.named Bd.method).1
  have X0 : Stand p l e ({ frames := 2, cells := 2, slots := 4, locals := 28 } : Room) s m #[(.ref r0), (.long q1), (.long q2)] below meth c s₁ [] 0 0 := Stand.of_body Bd
  have e0 : s₁.heap = h0 := by rw [← hh, Bd.state]; rfl
  have N0 := Fr.nil n0
  have pre0 : ∀ t, Steps p.tables e below (s₁.setTop (mkF m 0 #[.val (.ref r0), .val (.long q1), .second, .val (.long q2), .second] [])) t → Steps p.tables e below (s₁.setTop (entryFrame m #[(.ref r0), (.long q1), (.long q2)] 5)) t := fun t k => castTop (ef_2 m r0 q1 q2) k
  have c2 : ∀ t, Steps p.tables e below (s₁.setTop (mkF m 1 #[.val (.ref r0), .val (.long q1), .second, .val (.long q2), .second] [(.ref r0)])) t → Steps p.tables e below (s₁.setTop (mkF m 0 #[.val (.ref r0), .val (.long q1), .second, .val (.long q2), .second] [])) t := by
    intro t kt
    show Steps p.tables e below (s₁.setTop (mkF m 0 #[.val (.ref r0), .val (.long q1), .second, .val (.long q2), .second] [])) _
    refine XS.aloadN X0.here hx rfl (hb hby d2_0) rfl rfl ?_
    exact kt
  obtain ⟨T1, X1, e1, st1⟩ := initO X0 hx hZ hown (hw _ (List.mem_of_getElem? (i := 13) rfl)) (hw _ (List.mem_of_getElem? (i := 14) rfl)) (hw _ (List.mem_of_getElem? (i := 15) rfl)) e0 (g := (mkF m 1 #[.val (.ref r0), .val (.long q1), .second, .val (.long q2), .second] [(.ref r0)])) rfl (by rw [hml]; rfl) rfl (hb hby d2_1) (by decide) (W := 0) (by show 2 * 0 + _ ≤ _; exact Nat.le_of_eq rfl) (by decide)
  have c4 : ∀ t, Steps p.tables e below (T1.setTop (mkF m 5 #[.val (.ref r0), .val (.long q1), .second, .val (.long q2), .second] [(.ref r0)])) t → Steps p.tables e below (T1.setTop (mkF m 4 #[.val (.ref r0), .val (.long q1), .second, .val (.long q2), .second] [])) t := by
    intro t kt
    show Steps p.tables e below (T1.setTop (mkF m 4 #[.val (.ref r0), .val (.long q1), .second, .val (.long q2), .second] [])) _
    refine XS.aloadN X1.here hx rfl (hb hby d2_4) rfl rfl ?_
    exact kt
  obtain ⟨T3, h3, X3, e3, E3, A3, D3, U3, st3⟩ := newO X1 hx hZ hown (hw _ (List.mem_of_getElem? (i := 16) rfl)) (hw _ (List.mem_of_getElem? (i := 17) rfl)) (hw _ (List.mem_of_getElem? (i := 18) rfl)) e1 (g := (mkF m 5 #[.val (.ref r0), .val (.long q1), .second, .val (.long q2), .second] [(.ref r0)])) rfl (hb hby d2_5) (by decide) (by decide)
  obtain ⟨b3, g3⟩ : ∃ z, z = h0.size := ⟨_, rfl⟩
  rw [← g3] at A3 D3 U3 st3
  have g_b3 : n0 ≤ b3 := Nat.le_trans Z0 (Nat.le_of_eq g3.symm)
  have sz_b3 : h0.size ≤ b3 := Nat.le_trans (Keep.refl h0 [r0]).1 (Nat.le_of_eq g3.symm)
  have lt_r0_3 := F_t.lt
  have Un3 : Unt h3 b3 := U3
  have F3_limit : Fld Z h3 b3 "com/example/href/href/text/KeptRoom$Room" "limit" "J" (.long (0 : Int64)) := D3 (Or.inr (hw _ (List.mem_of_getElem? (i := 24) rfl))) (ty := .long) (by decide)
  have F3_left : Fld Z h3 b3 "com/example/href/href/text/KeptRoom$Room" "left" "J" (.long (0 : Int64)) := D3 (Or.inl (hw _ (List.mem_of_getElem? (i := 26) rfl))) (ty := .long) (by decide)
  have c5 : ∀ t, Steps p.tables e below (T3.setTop (mkF m 10 #[.val (.ref r0), .val (.long q1), .second, .val (.long q2), .second] [(.long q1), (.ref b3), (.ref b3), (.ref r0)])) t → Steps p.tables e below (T3.setTop (mkF m 8 #[.val (.ref r0), .val (.long q1), .second, .val (.long q2), .second] [(.ref b3), (.ref r0)])) t := by
    intro t kt
    show Steps p.tables e below (T3.setTop (mkF m 8 #[.val (.ref r0), .val (.long q1), .second, .val (.long q2), .second] [(.ref b3), (.ref r0)])) _
    refine XS.dup X3.here hx rfl (hb hby d2_8) rfl rfl ?_
    show Steps p.tables e below (T3.setTop (mkF m 9 #[.val (.ref r0), .val (.long q1), .second, .val (.long q2), .second] [(.ref b3), (.ref b3), (.ref r0)])) _
    refine XS.lloadN X3.here hx rfl (hb hby d2_9) rfl ?_
    exact kt
  have f6 := (Nat.le_trans Z0 E3.1)
  obtain ⟨_, _, ⟨T7, L7, k7, n7⟩, -, X7, ⟨Lc7, hQ7, l7, y7, z7⟩, st7⟩ := X3.specialBack hx (y := (⟨"com/example/href/href/text/KeptRoom$Room", "<init>", "(J)V"⟩ : MethodName)) rfl hown (mvT hZ (hw _ (List.mem_of_getElem? (i := 19) rfl))) (mvT hZ (hw _ (List.mem_of_getElem? (i := 20) rfl))) (mvT hZ (hw _ (List.mem_of_getElem? (i := 21) rfl))) (by decide) (backOf (W := 2) (rm4 l Z a0 hw [] b3 q1  h3 n0 f6 F3_limit F3_left A3 g_b3 Un3) hZ (hw _ (List.mem_of_getElem? (i := 21) rfl)) (hw _ (List.mem_of_getElem? (i := 18) rfl)) (by decide) (by decide)) (g := (mkF m 10 #[.val (.ref r0), .val (.long q1), .second, .val (.long q2), .second] [(.long q1), (.ref b3), (.ref b3), (.ref r0)])) rfl (by rw [hml]; rfl) (Steps.refl _) (a := b3) (argsL := [(.long q1)]) (rest := [(.ref b3), (.ref r0)]) (lenOf pd_0 rfl) rfl (by show 2 * 0 + _ ≤ _; exact Nat.le_of_eq rfl) (hb hby d2_10) (fun _ _ => ⟨rfl, e3, (by decide : 1 + 0 ≤ _), (by decide : 2 + 0 ≤ _)⟩)
  dsimp only [Pt.U, Pt.locs, Pt.cells, Pt.slots] at X7 l7 y7 z7 st7 hQ7
  subst l7 y7 z7
  obtain ⟨rfl, N7q, Kq7, Eq7, Fq7_0, Fq7_1, Uq7⟩ := hQ7
  have N7 := Fr.app N0 N7q
  have f8 := ((F_t.ext E3).keep Kq7 (ninS (Nat.ne_of_lt (Nat.lt_of_lt_of_le lt_r0_3 (Nat.le_of_eq g3.symm))) nin0))
  have f9 := ((E0.ext E3).keep Kq7)
  obtain ⟨T10, h10, X10, e10, W10, st10⟩ := putF X7 hx hZ hown (host := "") (Or.inl (hw _ (List.mem_of_getElem? (i := 27) rfl))) Via.refl rfl f8 f9 (Or.inr ⟨(hw _ (List.mem_of_getElem? (i := 28) rfl)), rfl, hnm⟩) (hw _ (List.mem_of_getElem? (i := 8) rfl)) (ty := (.object "com/example/href/href/text/KeptRoom$Room")) (by decide) rfl rfl (g := (mkF m 13 #[.val (.ref r0), .val (.long q1), .second, .val (.long q2), .second] [(.ref b3), (.ref r0)])) rfl rfl (hb hby d2_13)
  have Fw10 := f8.same W10
  have N10 := Fr.snoc X10 N7 g_r0
  have c12 : ∀ t, Steps p.tables e below (T10.setTop (mkF m 17 #[.val (.ref r0), .val (.long q1), .second, .val (.long q2), .second] [(.ref r0)])) t → Steps p.tables e below (T10.setTop (mkF m 16 #[.val (.ref r0), .val (.long q1), .second, .val (.long q2), .second] [])) t := by
    intro t kt
    show Steps p.tables e below (T10.setTop (mkF m 16 #[.val (.ref r0), .val (.long q1), .second, .val (.long q2), .second] [])) _
    refine XS.aloadN X10.here hx rfl (hb hby d2_16) rfl rfl ?_
    exact kt
  obtain ⟨T11, h11, X11, e11, E11, A11, D11, U11, st11⟩ := newO X10 hx hZ hown (hw _ (List.mem_of_getElem? (i := 16) rfl)) (hw _ (List.mem_of_getElem? (i := 17) rfl)) (hw _ (List.mem_of_getElem? (i := 18) rfl)) e10 (g := (mkF m 17 #[.val (.ref r0), .val (.long q1), .second, .val (.long q2), .second] [(.ref r0)])) rfl (hb hby d2_17) (by decide) (by decide)
  obtain ⟨b11, g11⟩ : ∃ z, z = h10.size := ⟨_, rfl⟩
  rw [← g11] at A11 D11 U11 st11
  have f13 := (Nat.le_trans (Nat.le_trans f6 Kq7.1) (Keep.of_wr W10).1)
  have f14 := ((((Keep.refl h0 [r0]).ext E3).trans Kq7 (allS (Or.inr sz_b3) all0)).wr W10 (Or.inl (List.mem_of_getElem? (i := 0) rfl)))
  have g_b11 : n0 ≤ b11 := Nat.le_trans f13 (Nat.le_of_eq g11.symm)
  have sz_b11 : h0.size ≤ b11 := Nat.le_trans f14.1 (Nat.le_of_eq g11.symm)
  have lt_r0_11 := Fw10.lt
  have f15 := (Eq7.wr W10)
  have lt_b3_11 := f15.lt
  have Un11 : Unt h11 b11 := U11
  have F11_limit : Fld Z h11 b11 "com/example/href/href/text/KeptRoom$Room" "limit" "J" (.long (0 : Int64)) := D11 (Or.inr (hw _ (List.mem_of_getElem? (i := 24) rfl))) (ty := .long) (by decide)
  have F11_left : Fld Z h11 b11 "com/example/href/href/text/KeptRoom$Room" "left" "J" (.long (0 : Int64)) := D11 (Or.inl (hw _ (List.mem_of_getElem? (i := 26) rfl))) (ty := .long) (by decide)
  have c16 : ∀ t, Steps p.tables e below (T11.setTop (mkF m 22 #[.val (.ref r0), .val (.long q1), .second, .val (.long q2), .second] [(.long q2), (.ref b11), (.ref b11), (.ref r0)])) t → Steps p.tables e below (T11.setTop (mkF m 20 #[.val (.ref r0), .val (.long q1), .second, .val (.long q2), .second] [(.ref b11), (.ref r0)])) t := by
    intro t kt
    show Steps p.tables e below (T11.setTop (mkF m 20 #[.val (.ref r0), .val (.long q1), .second, .val (.long q2), .second] [(.ref b11), (.ref r0)])) _
    refine XS.dup X11.here hx rfl (hb hby d2_20) rfl rfl ?_
    show Steps p.tables e below (T11.setTop (mkF m 21 #[.val (.ref r0), .val (.long q1), .second, .val (.long q2), .second] [(.ref b11), (.ref b11), (.ref r0)])) _
    refine XS.lloadN X11.here hx rfl (hb hby d2_21) rfl ?_
    exact kt
  have f17 := (Nat.le_trans f13 E11.1)
  obtain ⟨_, _, ⟨T18, L18, k18, n18⟩, -, X18, ⟨Lc18, hQ18, l18, y18, z18⟩, st18⟩ := X11.specialBack hx (y := (⟨"com/example/href/href/text/KeptRoom$Room", "<init>", "(J)V"⟩ : MethodName)) rfl hown (mvT hZ (hw _ (List.mem_of_getElem? (i := 19) rfl))) (mvT hZ (hw _ (List.mem_of_getElem? (i := 20) rfl))) (mvT hZ (hw _ (List.mem_of_getElem? (i := 21) rfl))) (by decide) (backOf (W := 2) (rm4 l Z a0 hw [] b11 q2  h11 n0 f17 F11_limit F11_left A11 g_b11 Un11) hZ (hw _ (List.mem_of_getElem? (i := 21) rfl)) (hw _ (List.mem_of_getElem? (i := 18) rfl)) (by decide) (by decide)) (g := (mkF m 22 #[.val (.ref r0), .val (.long q1), .second, .val (.long q2), .second] [(.long q2), (.ref b11), (.ref b11), (.ref r0)])) rfl (by rw [hml]; rfl) (Steps.refl _) (a := b11) (argsL := [(.long q2)]) (rest := [(.ref b11), (.ref r0)]) (lenOf pd_0 rfl) rfl (by show 2 * 0 + _ ≤ _; exact Nat.le_of_eq rfl) (hb hby d2_22) (fun _ _ => ⟨rfl, e11, (by decide : 2 + 0 ≤ _), (by decide : 4 + 0 ≤ _)⟩)
  dsimp only [Pt.U, Pt.locs, Pt.cells, Pt.slots] at X18 l18 y18 z18 st18 hQ18
  subst l18 y18 z18
  obtain ⟨rfl, N18q, Kq18, Eq18, Fq18_0, Fq18_1, Uq18⟩ := hQ18
  have N18 := Fr.app N10 N18q
  have f19 := (((((F_r.ext E3).keep Kq7 (ninS (Nat.ne_of_lt (Nat.lt_of_lt_of_le lt_r0_3 (Nat.le_of_eq g3.symm))) nin0)).other W10 (Or.inr (slot_ne (a0 := a0) (Or.inr (hw _ (List.mem_of_getElem? (i := 30) rfl))) (Or.inr (hw _ (List.mem_of_getElem? (i := 28) rfl))) (by decide) (t := (.object "com/example/href/href/text/KeptRoom$Room")) (t' := (.object "com/example/href/href/text/KeptRoom$Room")) (by decide) (by decide)))).ext E11).keep Kq18 (ninS (Nat.ne_of_lt (Nat.lt_of_lt_of_le lt_r0_11 (Nat.le_of_eq g11.symm))) nin0))
  have f20 := (((f9.wr W10).ext E11).keep Kq18)
  obtain ⟨T21, h21, X21, e21, W21, st21⟩ := putF X18 hx hZ hown (host := "") (Or.inl (hw _ (List.mem_of_getElem? (i := 29) rfl))) Via.refl rfl f19 f20 (Or.inr ⟨(hw _ (List.mem_of_getElem? (i := 30) rfl)), rfl, hnm⟩) (hw _ (List.mem_of_getElem? (i := 8) rfl)) (ty := (.object "com/example/href/href/text/KeptRoom$Room")) (by decide) rfl rfl (g := (mkF m 25 #[.val (.ref r0), .val (.long q1), .second, .val (.long q2), .second] [(.ref b11), (.ref r0)])) rfl rfl (hb hby d2_25)
  have Fw21 := f19.same W21
  have N21 := Fr.snoc X21 N18 g_r0
  obtain ⟨fs, hr, hrun, hended, hW, hsame⟩ := X21.leave (v := none) (fun _ => rfl)
  have f23 := (((f14.ext E11).trans Kq18 (allS (Or.inr sz_b11) all0)).wr W21 (Or.inl (List.mem_of_getElem? (i := 0) rfl)))
  have f24 := (f20.wr W21)
  have f25 := (((Fw10.ext E11).keep Kq18 (ninS (Nat.ne_of_lt (Nat.lt_of_lt_of_le lt_r0_11 (Nat.le_of_eq g11.symm))) nin0)).other W21 (Or.inr (slot_ne (a0 := a0) (Or.inr (hw _ (List.mem_of_getElem? (i := 28) rfl))) (Or.inr (hw _ (List.mem_of_getElem? (i := 30) rfl))) (by decide) (t := (.object "com/example/href/href/text/KeptRoom$Room")) (t' := (.object "com/example/href/href/text/KeptRoom$Room")) (by decide) (by decide))))
  have f26 := (((f15.ext E11).keep Kq18).wr W21)
  have f27 := ((((Fq7_0.other W10 (Or.inl (Ne.symm (Nat.ne_of_lt (Nat.lt_of_lt_of_le lt_r0_3 (Nat.le_of_eq g3.symm)))))).ext E11).keep Kq18 (ninS (Nat.ne_of_lt (Nat.lt_of_lt_of_le lt_b3_11 (Nat.le_of_eq g11.symm))) nin0)).other W21 (Or.inl (Ne.symm (Nat.ne_of_lt (Nat.lt_of_lt_of_le lt_r0_3 (Nat.le_of_eq g3.symm))))))
  have f28 := ((((Fq7_1.other W10 (Or.inl (Ne.symm (Nat.ne_of_lt (Nat.lt_of_lt_of_le lt_r0_3 (Nat.le_of_eq g3.symm)))))).ext E11).keep Kq18 (ninS (Nat.ne_of_lt (Nat.lt_of_lt_of_le lt_b3_11 (Nat.le_of_eq g11.symm))) nin0)).other W21 (Or.inl (Ne.symm (Nat.ne_of_lt (Nat.lt_of_lt_of_le lt_r0_3 (Nat.le_of_eq g3.symm))))))
  have f29 := ((own_untk ((Uq7.wr W10).ext E11) Kq18 (ninS (Nat.ne_of_lt (Nat.lt_of_lt_of_le lt_b3_11 (Nat.le_of_eq g11.symm))) nin0)).wr W21)
  refine ⟨_, _, pre0 _ (c2 _ (st1 _ (c4 _ (st3 _ (c5 _ (st7.trans (st10 _ (c12 _ (st11 _ (c16 _ (st18.trans (st21 _ (?_))))))))))))), hrun, hended, _, _, rfl, ?_, ⟨_, rfl⟩, hW, hsame.mono (by decide) (by decide)⟩
  · show Steps p.tables e below (T21.setTop (mkF m 28 #[.val (.ref r0), .val (.long q1), .second, .val (.long q2), .second] [])) _
    exact X21.returnOut hx Bd.returns (hb hby d2_28) hr
  · show Q2 Z r0 q1 q2 h0 n0 _ T21.heap _
    rw [e21]
    exact ⟨b3, rfl, N21, f23, f24, f25, g_b3, f26, f27, f28, f29⟩
theorem d5_0 : decode prog_33_method_12_code 0 = .ok (.lload_n 1, 1) := by decide +kernel
theorem d5_1 : decode prog_33_method_12_code 1 = .ok (.invokestatic 35, 3) := by decide +kernel
theorem d5_4 : decode prog_33_method_12_code 4 = .ok (.aload_n 0, 1) := by decide +kernel
theorem d5_5 : decode prog_33_method_12_code 5 = .ok (.getfield 12, 3) := by decide +kernel
theorem d5_8 : decode prog_33_method_12_code 8 = .ok (.getfield 121, 3) := by decide +kernel
theorem d5_11 : decode prog_33_method_12_code 11 = .ok (.lcmp, 1) := by decide +kernel
theorem d5_12 : decode prog_33_method_12_code 12 = .ok (.ifCond .gt 7, 3) := by decide +kernel
theorem d5_15 : decode prog_33_method_12_code 15 = .ok (.iconst 1, 1) := by decide +kernel
theorem d5_16 : decode prog_33_method_12_code 16 = .ok (.goto 4, 3) := by decide +kernel
theorem d5_19 : decode prog_33_method_12_code 19 = .ok (.iconst 0, 1) := by decide +kernel
theorem d5_20 : decode prog_33_method_12_code 20 = .ok (.ireturn, 1) := by decide +kernel
theorem pn_5 : plainName "com/example/href/href/text/KeptRoom" = true := by first | (simp [plainName, overriddenIn]; done) | decide +kernel
theorem ef_5 (m : MethodId) (x0 : Addr) (x1 : Int64) : entryFrame m #[(.ref x0), (.long x1)] 3 = mkF m 0 #[.val (.ref x0), .val (.long x1), .second] [] := by first | (simp [entryFrame, mkF, argsToLocals, Value.category]; done) | rfl
def Q5 (Z : State) (r0 : Addr) (q1 : Int64) (rt : Addr) (lim : Int64) (h0 : Heap) (n0 : Nat) (v : Option Value) (h : Heap) (L : List Loc) : Prop := v = some (.int (own_fit lim ((2 : Int64) * q1))) ∧ Fr n0 L ∧ h = h0
set_option maxRecDepth 65536 in
set_option maxHeartbeats 40000000 in
theorem rm5 (l : Launch) (Z : State) (a0 : Array Value) (hw : ∀ d ∈ tables_1, d.before a0 Z = true) (ws : List Jvm.Cond) (r0 : Addr) (q1 : Int64) (rt : Addr) (lim : Int64) (h0 : Heap) (n0 : Nat) (Z0 : n0 ≤ h0.size) (F_t : Fld Z h0 r0 "com/example/href/href/text/KeptRoom" "texts" "Lcom/example/href/href/text/KeptRoom$Room;" (.ref rt)) (F_lim : Fld Z h0 rt "com/example/href/href/text/KeptRoom$Room" "limit" "J" (.long lim)) :
    MetFree l (⟨"com/example/href/href/text/KeptRoom", "fitsKeepLimit", "(J)Z"⟩ : MethodName) (head1 (Jvm.Cond.code (⟨"com/example/href/href/text/KeptRoom", "fitsKeepLimit", "(J)Z"⟩ : MethodName) prog_33_method_12_code 3 (some .boolean) :: ws) ({ frames := 1, cells := 0, slots := 0, locals := 13 } : Room)) (fun a U => a = #[(.ref r0), (.long q1)] ∧ Z.Warmed39 U.vm ∧ U.heap = h0) (fun _ _ _ _ _ => True) (fun _ U o U' => ∃ v L, o = .returned v ∧ Q5 Z r0 q1 rt lim h0 n0 v U'.heap L ∧ FrameEnd U o U' L ({ frames := 1, cells := 0, slots := 0, locals := 13 } : Room).cells ({ frames := 1, cells := 0, slots := 0, locals := 13 } : Room).slots) := by
  refine MetFree.of_bodySF (plainFor_of_name pn_5) hisR ?_
  intro p e s m args below meth c s₁ Bd hml0 hP hK
  obtain ⟨rfl, hZ, hh⟩ := hP
  have hx := Bd.exec
  have hby := Bd.bytes
  have hml : c.maxLocals = 3 := hml0
  have hown : s.vm.findClass "com/example/href/href/text/KeptRoom" = some m.cls := findClass_of_methodNamed Bd.named
  have hnm := (name_of_methodNamed Bd.named Bd.method).1
  have X0 : Stand p l e ({ frames := 1, cells := 0, slots := 0, locals := 13 } : Room) s m #[(.ref r0), (.long q1)] below meth c s₁ [] 0 0 := Stand.of_body Bd
  have e0 : s₁.heap = h0 := by rw [← hh, Bd.state]; rfl
  have N0 := Fr.nil n0
  have pre0 : ∀ t, Steps p.tables e below (s₁.setTop (mkF m 0 #[.val (.ref r0), .val (.long q1), .second] [])) t → Steps p.tables e below (s₁.setTop (entryFrame m #[(.ref r0), (.long q1)] 3)) t := fun t k => castTop (ef_5 m r0 q1) k
  have c1 : ∀ t, Steps p.tables e below (s₁.setTop (mkF m 1 #[.val (.ref r0), .val (.long q1), .second] [(.long q1)])) t → Steps p.tables e below (s₁.setTop (mkF m 0 #[.val (.ref r0), .val (.long q1), .second] [])) t := by
    intro t kt
    show Steps p.tables e below (s₁.setTop (mkF m 0 #[.val (.ref r0), .val (.long q1), .second] [])) _
    refine XS.lloadN X0.here hx rfl (hb hby d5_0) rfl ?_
    exact kt
  obtain ⟨_, _, ⟨T2, L2, k2, n2⟩, -, X2, ⟨Lc2, hQ2, l2, y2, z2⟩, st2⟩ := Jvm.LawKit.callS X0 hx (y := (⟨"com/example/href/href/text/KeptRoom", "charBytes", "(J)J"⟩ : MethodName)) hown (mvT hZ (hw _ (List.mem_of_getElem? (i := 36) rfl))) (mvT hZ (hw _ (List.mem_of_getElem? (i := 37) rfl))) (mvT hZ (hw _ (List.mem_of_getElem? (i := 9) rfl))) (mvT hZ (hw _ (List.mem_of_getElem? (i := 38) rfl))) (by decide) (backOf (W := 0) (rm6 l Z a0 hw [] q1  h0 n0 Z0 ) hZ (hw _ (List.mem_of_getElem? (i := 38) rfl)) (hw _ (List.mem_of_getElem? (i := 9) rfl)) (by decide) (by decide)) (g := (mkF m 1 #[.val (.ref r0), .val (.long q1), .second] [(.long q1)])) rfl (by rw [hml]; rfl) (argsL := [(.long q1)]) (rest := []) (lenOf pd_1 rfl) rfl (by show 2 * 0 + _ ≤ _; exact Nat.le_of_eq rfl) (hb hby d5_1) (fun _ _ => ⟨rfl, e0, (by decide : 0 + 0 ≤ _), (by decide : 0 + 0 ≤ _)⟩)
  dsimp only [Pt.U, Pt.locs, Pt.cells, Pt.slots] at X2 l2 y2 z2 st2 hQ2
  subst l2 y2 z2
  obtain ⟨rfl, N2q, e2⟩ := hQ2
  have N2 := Fr.app N0 N2q
  have c4 : ∀ t, Steps p.tables e below (T2.setTop (mkF m 5 #[.val (.ref r0), .val (.long q1), .second] [(.ref r0), (.long ((2 : Int64) * q1))])) t → Steps p.tables e below (T2.setTop (mkF m 4 #[.val (.ref r0), .val (.long q1), .second] [(.long ((2 : Int64) * q1))])) t := by
    intro t kt
    show Steps p.tables e below (T2.setTop (mkF m 4 #[.val (.ref r0), .val (.long q1), .second] [(.long ((2 : Int64) * q1))])) _
    refine XS.aloadN X2.here hx rfl (hb hby d5_4) rfl rfl ?_
    exact kt
  obtain ⟨T3, X3, e3, st3⟩ := getF X2 hx hZ hown (host := "") (Or.inl (hw _ (List.mem_of_getElem? (i := 27) rfl))) Via.refl e2 F_t (g := (mkF m 5 #[.val (.ref r0), .val (.long q1), .second] [(.ref r0), (.long ((2 : Int64) * q1))])) rfl rfl (hb hby d5_5)
  have c5 : ∀ t, Steps p.tables e below (T3.setTop (mkF m 12 #[.val (.ref r0), .val (.long q1), .second] [(.int (lcmpW ((2 : Int64) * q1) lim))])) t → Steps p.tables e below (T3.setTop (mkF m 8 #[.val (.ref r0), .val (.long q1), .second] [(.ref rt), (.long ((2 : Int64) * q1))])) t := by
    intro t kt
    show Steps p.tables e below (T3.setTop (mkF m 8 #[.val (.ref r0), .val (.long q1), .second] [(.ref rt), (.long ((2 : Int64) * q1))])) _
    refine own_getR X3 hx hZ hown (hw _ (List.mem_of_getElem? (i := 40) rfl)) e3 F_lim (g := (mkF m 8 #[.val (.ref r0), .val (.long q1), .second] [(.ref rt), (.long ((2 : Int64) * q1))])) rfl rfl (hb hby d5_8) _ ?_
    show Steps p.tables e below (T3.setTop (mkF m 11 #[.val (.ref r0), .val (.long q1), .second] [(.long lim), (.long ((2 : Int64) * q1))])) _
    refine XS.lcmp X3.here hx rfl (hb hby d5_11) rfl ?_
    exact kt
  by_cases hc12 : lim < ((2 : Int64) * q1)
  · -- it is
    have c6 : ∀ t, Steps p.tables e below (T3.setTop (mkF m 20 #[.val (.ref r0), .val (.long q1), .second] [(.int (0 : Int32))])) t → Steps p.tables e below (T3.setTop (mkF m 12 #[.val (.ref r0), .val (.long q1), .second] [(.int (lcmpW ((2 : Int64) * q1) lim))])) t := by
      intro t kt
      show Steps p.tables e below (T3.setTop (mkF m 12 #[.val (.ref r0), .val (.long q1), .second] [(.int (lcmpW ((2 : Int64) * q1) lim))])) _
      refine XS.ifYes X3.here hx rfl (pc0 := 12) (pc' := 19) rfl (hb hby d5_12) rfl ((if0 _ _).trans (tlt ((lw_gt _ _).mpr hc12)).2.2.1) (by decide) (by decide) ?_
      show Steps p.tables e below (T3.setTop (mkF m 19 #[.val (.ref r0), .val (.long q1), .second] [])) _
      refine XS.iconst X3.here hx rfl (hb hby d5_19) ?_
      exact kt
    obtain ⟨fs, hr, hrun, hended, hW, hsame⟩ := X3.leave (v := some (.int (0 : Int32))) (fun h => by rw [Bd.returns] at h; cases h)
    refine ⟨_, _, pre0 _ (c1 _ (st2 _ (c4 _ (st3 _ (c5 _ (c6 _ (?_))))))), hrun, hended, _, _, rfl, ?_, ⟨_, rfl⟩, hW, hsame.mono (by decide) (by decide)⟩
    · show Steps p.tables e below (T3.setTop (mkF m 20 #[.val (.ref r0), .val (.long q1), .second] [(.int (0 : Int32))])) _
      exact retN X3 hx (t := .boolean) Bd.returns (by simp) (hb hby d5_20) hr
    · show Q5 Z r0 q1 rt lim h0 n0 _ T3.heap _
      rw [e3]
      exact ⟨congrArg (fun z => some (Value.int z)) (show (0 : Int32) = (own_fit lim ((2 : Int64) * q1)) from by unfold own_fit; simp only [hc12, if_true, if_false]), N2, rfl⟩
  · -- it isn't
    have c8 : ∀ t, Steps p.tables e below (T3.setTop (mkF m 20 #[.val (.ref r0), .val (.long q1), .second] [(.int (1 : Int32))])) t → Steps p.tables e below (T3.setTop (mkF m 12 #[.val (.ref r0), .val (.long q1), .second] [(.int (lcmpW ((2 : Int64) * q1) lim))])) t := by
      intro t kt
      show Steps p.tables e below (T3.setTop (mkF m 12 #[.val (.ref r0), .val (.long q1), .second] [(.int (lcmpW ((2 : Int64) * q1) lim))])) _
      refine XS.ifNo X3.here hx rfl (hb hby d5_12) rfl ((if0 _ _).trans (flt (fun q => hc12 ((lw_gt _ _).mp q))).2.2.1) ?_
      show Steps p.tables e below (T3.setTop (mkF m 15 #[.val (.ref r0), .val (.long q1), .second] [])) _
      refine XS.iconst X3.here hx rfl (hb hby d5_15) ?_
      show Steps p.tables e below (T3.setTop (mkF m 16 #[.val (.ref r0), .val (.long q1), .second] [(.int (1 : Int32))])) _
      refine XS.goto X3.here hx rfl (pc0 := 16) (pc' := 20) rfl (hb hby d5_16) (by decide) (by decide) ?_
      exact kt
    obtain ⟨fs, hr, hrun, hended, hW, hsame⟩ := X3.leave (v := some (.int (1 : Int32))) (fun h => by rw [Bd.returns] at h; cases h)
    refine ⟨_, _, pre0 _ (c1 _ (st2 _ (c4 _ (st3 _ (c5 _ (c8 _ (?_))))))), hrun, hended, _, _, rfl, ?_, ⟨_, rfl⟩, hW, hsame.mono (by decide) (by decide)⟩
    · show Steps p.tables e below (T3.setTop (mkF m 20 #[.val (.ref r0), .val (.long q1), .second] [(.int (1 : Int32))])) _
      exact retN X3 hx (t := .boolean) Bd.returns (by simp) (hb hby d5_20) hr
    · show Q5 Z r0 q1 rt lim h0 n0 _ T3.heap _
      rw [e3]
      exact ⟨congrArg (fun z => some (Value.int z)) (show (1 : Int32) = (own_fit lim ((2 : Int64) * q1)) from by unfold own_fit; simp only [hc12, if_true, if_false]), N2, rfl⟩
theorem d8_0 : decode prog_35_method_3_code 0 = .ok (.lload_n 1, 1) := by decide +kernel
theorem d8_1 : decode prog_35_method_3_code 1 = .ok (.aload_n 0, 1) := by decide +kernel
theorem d8_2 : decode prog_35_method_3_code 2 = .ok (.getfield 13, 3) := by decide +kernel
theorem d8_5 : decode prog_35_method_3_code 5 = .ok (.lcmp, 1) := by decide +kernel
theorem d8_6 : decode prog_35_method_3_code 6 = .ok (.ifCond .le 5, 3) := by decide +kernel
theorem d8_9 : decode prog_35_method_3_code 9 = .ok (.iconst 0, 1) := by decide +kernel
theorem d8_10 : decode prog_35_method_3_code 10 = .ok (.ireturn, 1) := by decide +kernel
theorem d8_11 : decode prog_35_method_3_code 11 = .ok (.aload_n 0, 1) := by decide +kernel
theorem d8_12 : decode prog_35_method_3_code 12 = .ok (.dup, 1) := by decide +kernel
theorem d8_13 : decode prog_35_method_3_code 13 = .ok (.getfield 13, 3) := by decide +kernel
theorem d8_16 : decode prog_35_method_3_code 16 = .ok (.lload_n 1, 1) := by decide +kernel
theorem d8_17 : decode prog_35_method_3_code 17 = .ok (.lsub, 1) := by decide +kernel
theorem d8_18 : decode prog_35_method_3_code 18 = .ok (.putfield 13, 3) := by decide +kernel
theorem d8_21 : decode prog_35_method_3_code 21 = .ok (.iconst 1, 1) := by decide +kernel
theorem d8_22 : decode prog_35_method_3_code 22 = .ok (.ireturn, 1) := by decide +kernel
theorem pn_8 : plainName "com/example/href/href/text/KeptRoom$Room" = true := by first | (simp [plainName, overriddenIn]; done) | decide +kernel
def Q8 (Z : State) (r0 : Addr) (q1 lim lft : Int64) (h0 : Heap) (n0 : Nat) (v : Option Value) (h : Heap) (L : List Loc) : Prop := v = some (.int (own_fit lft q1)) ∧ Fr n0 L ∧ Keep h0 h [r0] ∧ Exa Z h r0 "com/example/href/href/text/KeptRoom$Room" ∧ Fld Z h r0 "com/example/href/href/text/KeptRoom$Room" "limit" "J" (.long lim) ∧ Fld Z h r0 "com/example/href/href/text/KeptRoom$Room" "left" "J" (.long (own_lft lft q1))
set_option maxRecDepth 65536 in
set_option maxHeartbeats 40000000 in
theorem rm8 (l : Launch) (Z : State) (a0 : Array Value) (hw : ∀ d ∈ tables_1, d.before a0 Z = true) (ws : List Jvm.Cond) (hin : Jvm.Cond.instanceMethod (⟨"com/example/href/href/text/KeptRoom$Room", "reserve", "(J)Z"⟩ : MethodName) ∈ ws) (r0 : Addr) (q1 lim lft : Int64) (h0 : Heap) (n0 : Nat) (Z0 : n0 ≤ h0.size) (F_lim : Fld Z h0 r0 "com/example/href/href/text/KeptRoom$Room" "limit" "J" (.long lim)) (F_lft : Fld Z h0 r0 "com/example/href/href/text/KeptRoom$Room" "left" "J" (.long lft)) (E0 : Exa Z h0 r0 "com/example/href/href/text/KeptRoom$Room") (g_r0 : n0 ≤ r0) :
    MetFree l (⟨"com/example/href/href/text/KeptRoom$Room", "reserve", "(J)Z"⟩ : MethodName) (head1 (Jvm.Cond.codeSync (⟨"com/example/href/href/text/KeptRoom$Room", "reserve", "(J)Z"⟩ : MethodName) prog_35_method_3_code 3 (some .boolean) :: ws) ({ frames := 0, cells := 0, slots := 0, locals := 0 } : Room)) (fun a U => a = #[.ref r0, .long q1] ∧ Z.Warmed39 U.vm ∧ U.heap = h0 ∧ ∃ cell : Cell, h0[r0]? = some cell ∧ cell.enterable U.cur) (fun _ _ _ _ _ => True) (fun _ U o U' => ∃ v L, o = .returned v ∧ Q8 Z r0 q1 lim lft h0 n0 v U'.heap L ∧ FrameEnd U o U' L ({ frames := 0, cells := 0, slots := 0, locals := 0 } : Room).cells ({ frames := 0, cells := 0, slots := 0, locals := 0 } : Room).slots) := by
  refine MetFree.of_bodySync (plainFor_of_name pn_8) (hisS hin) (fun _ s _ ⟨h1, _, h2, cl, h3, h4⟩ => ⟨r0, cl, by rw [h1]; rfl, by rw [h2]; exact h3, h4⟩) ?_
  intro p e s m args below meth c a' cell s₁ Bd hml0 hP _
  obtain ⟨rfl, hZ0, hh, -⟩ := hP
  cases Bd.receiver
  have hx := Bd.exec
  have hby := Bd.bytes
  have hown : (s.setCell r0 (cell.withEntry s.cur)).vm.findClass "com/example/href/href/text/KeptRoom$Room" = some m.cls := (findClass_of_methodNamed Bd.named :)
  have hnm := (name_of_methodNamed Bd.named Bd.method).1
  have X0 : Stand p l e ({ frames := 0, cells := 0, slots := 0, locals := 0 } : Room) (s.setCell r0 (cell.withEntry s.cur)) m _ below meth c s₁ [] 0 0 := Stand.of_bodySync Bd
  have hZ : Z.Warmed39 (s.setCell r0 (cell.withEntry s.cur)).vm := hZ0
  have M0 : Mon h0 s₁.heap := by rw [← hh, Bd.state]; exact mon_set Bd.object _
  obtain ⟨hM, e0⟩ : ∃ z, s₁.heap = z := ⟨_, rfl⟩
  rw [e0] at M0
  have F1 := F_lim.mon M0
  have F2 := F_lft.mon M0
  have E1 := E0.mon M0
  have N0 := Fr.nil n0
  have c2 : ∀ t, Steps p.tables e below (s₁.setTop (mkL r0 m 2 #[.val (.ref r0), .val (.long q1), .second] [(.ref r0), (.long q1)])) t → Steps p.tables e below (s₁.setTop (mkL r0 m 0 #[.val (.ref r0), .val (.long q1), .second] [])) t := by
    intro t kt
    show Steps p.tables e below (s₁.setTop (mkL r0 m 0 #[.val (.ref r0), .val (.long q1), .second] [])) _
    refine XS.lloadN X0.here hx rfl (hb hby d8_0) rfl ?_
    show Steps p.tables e below (s₁.setTop (mkL r0 m 1 #[.val (.ref r0), .val (.long q1), .second] [(.long q1)])) _
    refine XS.aloadN X0.here hx rfl (hb hby d8_1) rfl rfl ?_
    exact kt
  obtain ⟨T1, X1, e1, st1⟩ := getF X0 hx hZ hown (host := "") (Or.inl (hw _ (List.mem_of_getElem? (i := 25) rfl))) Via.refl e0 F2 (g := (mkL r0 m 2 #[.val (.ref r0), .val (.long q1), .second] [(.ref r0), (.long q1)])) rfl rfl (hb hby d8_2)
  have c3 : ∀ t, Steps p.tables e below (T1.setTop (mkL r0 m 6 #[.val (.ref r0), .val (.long q1), .second] [(.int (lcmpW q1 lft))])) t → Steps p.tables e below (T1.setTop (mkL r0 m 5 #[.val (.ref r0), .val (.long q1), .second] [(.long lft), (.long q1)])) t := by
    intro t kt
    show Steps p.tables e below (T1.setTop (mkL r0 m 5 #[.val (.ref r0), .val (.long q1), .second] [(.long lft), (.long q1)])) _
    refine XS.lcmp X1.here hx rfl (hb hby d8_5) rfl ?_
    exact kt
  by_cases hc6 : lft < q1
  · -- it is
    have c4 : ∀ t, Steps p.tables e below (T1.setTop (mkL r0 m 10 #[.val (.ref r0), .val (.long q1), .second] [(.int (0 : Int32))])) t → Steps p.tables e below (T1.setTop (mkL r0 m 6 #[.val (.ref r0), .val (.long q1), .second] [(.int (lcmpW q1 lft))])) t := by
      intro t kt
      show Steps p.tables e below (T1.setTop (mkL r0 m 6 #[.val (.ref r0), .val (.long q1), .second] [(.int (lcmpW q1 lft))])) _
      refine XS.ifNo X1.here hx rfl (hb hby d8_6) rfl ((if0 _ _).trans (tlt ((lw_gt _ _).mpr hc6)).2.2.2) ?_
      show Steps p.tables e below (T1.setTop (mkL r0 m 9 #[.val (.ref r0), .val (.long q1), .second] [])) _
      refine XS.iconst X1.here hx rfl (hb hby d8_9) ?_
      exact kt
    obtain ⟨V, hr, hrun, hended, M1, hW, hsame⟩ := leaveS X1 Bd.object Bd.enterable Bd.synchronized (v := some (.int (0 : Int32))) (fun h => by rw [Bd.returns] at h; cases h)
    rw [e1] at M1
    have hK : Keep h0 V.heap [r0] := by have kk := own_keep (ws := [r0]) hsame (fun _ q => nomatch q); rw [← hh]; exact kk
    refine ⟨V, _, c2 _ (st1 _ (c3 _ (c4 _ (?_)))), hrun, hended, _, _, rfl, ⟨congrArg (fun z => some (Value.int z)) (show (0 : Int32) = own_fit lft q1 from (if_pos hc6).symm), N0, hK, E1.mon M1, F1.mon M1, (by rw [own_lft, if_pos hc6]; exact F2.mon M1)⟩, ⟨_, rfl⟩, hW, hsame⟩
    show Steps p.tables e below (T1.setTop (mkL r0 m 10 #[.val (.ref r0), .val (.long q1), .second] [(.int (0 : Int32))])) V
    exact retS X1 hx Bd.returns rfl (Or.inl ⟨rfl, Or.inr (Or.inl rfl), _, rfl⟩) (hb hby d8_10) hr
  · -- it isn't
    have c6 : ∀ t, Steps p.tables e below (T1.setTop (mkL r0 m 13 #[.val (.ref r0), .val (.long q1), .second] [(.ref r0), (.ref r0)])) t → Steps p.tables e below (T1.setTop (mkL r0 m 6 #[.val (.ref r0), .val (.long q1), .second] [(.int (lcmpW q1 lft))])) t := by
      intro t kt
      show Steps p.tables e below (T1.setTop (mkL r0 m 6 #[.val (.ref r0), .val (.long q1), .second] [(.int (lcmpW q1 lft))])) _
      refine XS.ifYes X1.here hx rfl (pc0 := 6) (pc' := 11) rfl (hb hby d8_6) rfl ((if0 _ _).trans (flt (fun q => hc6 ((lw_gt _ _).mp q))).2.2.2) (by decide) (by decide) ?_
      show Steps p.tables e below (T1.setTop (mkL r0 m 11 #[.val (.ref r0), .val (.long q1), .second] [])) _
      refine XS.aloadN X1.here hx rfl (hb hby d8_11) rfl rfl ?_
      show Steps p.tables e below (T1.setTop (mkL r0 m 12 #[.val (.ref r0), .val (.long q1), .second] [(.ref r0)])) _
      refine XS.dup X1.here hx rfl (hb hby d8_12) rfl rfl ?_
      exact kt
    obtain ⟨T5, X5, e5, st5⟩ := getF X1 hx hZ hown (host := "") (Or.inl (hw _ (List.mem_of_getElem? (i := 25) rfl))) Via.refl e1 F2 (g := (mkL r0 m 13 #[.val (.ref r0), .val (.long q1), .second] [(.ref r0), (.ref r0)])) rfl rfl (hb hby d8_13)
    have c8 : ∀ t, Steps p.tables e below (T5.setTop (mkL r0 m 18 #[.val (.ref r0), .val (.long q1), .second] [(.long (lft - q1)), (.ref r0)])) t → Steps p.tables e below (T5.setTop (mkL r0 m 16 #[.val (.ref r0), .val (.long q1), .second] [(.long lft), (.ref r0)])) t := by
      intro t kt
      show Steps p.tables e below (T5.setTop (mkL r0 m 16 #[.val (.ref r0), .val (.long q1), .second] [(.long lft), (.ref r0)])) _
      refine XS.lloadN X5.here hx rfl (hb hby d8_16) rfl ?_
      show Steps p.tables e below (T5.setTop (mkL r0 m 17 #[.val (.ref r0), .val (.long q1), .second] [(.long q1), (.long lft), (.ref r0)])) _
      refine XS.lsub X5.here hx rfl (hb hby d8_17) rfl ?_
      exact kt
    obtain ⟨T7, h7, X7, e7, W7, st7⟩ := putF X5 hx hZ hown (host := "") (Or.inl (hw _ (List.mem_of_getElem? (i := 25) rfl))) Via.refl e5 F2 E1 (Or.inl (hw _ (List.mem_of_getElem? (i := 26) rfl))) (hw _ (List.mem_of_getElem? (i := 17) rfl)) (ty := .long) (by decide) rfl rfl (g := (mkL r0 m 18 #[.val (.ref r0), .val (.long q1), .second] [(.long (lft - q1)), (.ref r0)])) rfl rfl (hb hby d8_18)
    have Fw7 := F2.same W7
    have N7 := Fr.snoc X7 N0 g_r0
    have c9 : ∀ t, Steps p.tables e below (T7.setTop (mkL r0 m 22 #[.val (.ref r0), .val (.long q1), .second] [(.int (1 : Int32))])) t → Steps p.tables e below (T7.setTop (mkL r0 m 21 #[.val (.ref r0), .val (.long q1), .second] [])) t := by
      intro t kt
      show Steps p.tables e below (T7.setTop (mkL r0 m 21 #[.val (.ref r0), .val (.long q1), .second] [])) _
      refine XS.iconst X7.here hx rfl (hb hby d8_21) ?_
      exact kt
    obtain ⟨V, hr, hrun, hended, M1, hW, hsame⟩ := leaveS X7 Bd.object Bd.enterable Bd.synchronized (v := some (.int (1 : Int32))) (fun h => by rw [Bd.returns] at h; cases h)
    rw [e7] at M1
    have hK : Keep h0 V.heap [r0] := by have kk := own_keep (ws := [r0]) hsame (fun y q => by cases List.mem_singleton.mp q; exact List.mem_singleton.mpr rfl); rw [← hh]; exact kk
    have f10 := (E1.wr W7)
    have f11 := (F1.other W7 (Or.inr (slot_ne (a0 := a0) (Or.inr (hw _ (List.mem_of_getElem? (i := 24) rfl))) (Or.inl (hw _ (List.mem_of_getElem? (i := 26) rfl))) (by decide) (t := .long) (t' := .long) (by decide) (by decide))))
    refine ⟨V, _, c2 _ (st1 _ (c3 _ (c6 _ (st5 _ (c8 _ (st7 _ (c9 _ (?_)))))))), hrun, hended, _, _, rfl, ⟨congrArg (fun z => some (Value.int z)) (show (1 : Int32) = own_fit lft q1 from (if_neg hc6).symm), N7, hK, f10.mon M1, f11.mon M1, (by rw [own_lft, if_neg hc6]; exact Fw7.mon M1)⟩, ⟨_, rfl⟩, hW, hsame⟩
    show Steps p.tables e below (T7.setTop (mkL r0 m 22 #[.val (.ref r0), .val (.long q1), .second] [(.int (1 : Int32))])) V
    exact retS X7 hx Bd.returns rfl (Or.inl ⟨rfl, Or.inr (Or.inl rfl), _, rfl⟩) (hb hby d8_22) hr
theorem d7_0 : decode prog_33_method_13_code 0 = .ok (.aload_n 0, 1) := by decide +kernel
theorem d7_1 : decode prog_33_method_13_code 1 = .ok (.getfield 12, 3) := by decide +kernel
theorem d7_4 : decode prog_33_method_13_code 4 = .ok (.lload_n 1, 1) := by decide +kernel
theorem d7_5 : decode prog_33_method_13_code 5 = .ok (.invokestatic 35, 3) := by decide +kernel
theorem d7_8 : decode prog_33_method_13_code 8 = .ok (.invokevirtual 133, 3) := by decide +kernel
theorem d7_11 : decode prog_33_method_13_code 11 = .ok (.ireturn, 1) := by decide +kernel
theorem pn_7 : plainName "com/example/href/href/text/KeptRoom" = true := by first | (simp [plainName, overriddenIn]; done) | decide +kernel
theorem ef_7 (m : MethodId) (x0 : Addr) (x1 : Int64) : entryFrame m #[(.ref x0), (.long x1)] 3 = mkF m 0 #[.val (.ref x0), .val (.long x1), .second] [] := by first | (simp [entryFrame, mkF, argsToLocals, Value.category]; done) | rfl
def Q7 (Z : State) (r0 : Addr) (q1 : Int64) (rt : Addr) (lim lft : Int64) (h0 : Heap) (n0 : Nat) (v : Option Value) (h : Heap) (L : List Loc) : Prop := ∃ z : Int32, v = some (.int z) ∧ Fr n0 L ∧ Keep h0 h [rt] ∧ Fld Z h rt "com/example/href/href/text/KeptRoom$Room" "limit" "J" (.long lim)
set_option maxRecDepth 65536 in
set_option maxHeartbeats 40000000 in
theorem rm7 (l : Launch) (Z : State) (a0 : Array Value) (hw : ∀ d ∈ tables_1, d.before a0 Z = true) (ws : List Jvm.Cond) (r0 : Addr) (q1 : Int64) (rt : Addr) (lim lft : Int64) (h0 : Heap) (n0 : Nat) (Z0 : n0 ≤ h0.size) (F_t : Fld Z h0 r0 "com/example/href/href/text/KeptRoom" "texts" "Lcom/example/href/href/text/KeptRoom$Room;" (.ref rt)) (F_lim : Fld Z h0 rt "com/example/href/href/text/KeptRoom$Room" "limit" "J" (.long lim)) (F_lft : Fld Z h0 rt "com/example/href/href/text/KeptRoom$Room" "left" "J" (.long lft)) (E_t : Exa Z h0 rt "com/example/href/href/text/KeptRoom$Room") (g_rt : n0 ≤ rt) (U_t : Unt h0 rt) :
    MetFree l (⟨"com/example/href/href/text/KeptRoom", "reserveText", "(J)Z"⟩ : MethodName) (head1 (Jvm.Cond.code (⟨"com/example/href/href/text/KeptRoom", "reserveText", "(J)Z"⟩ : MethodName) prog_33_method_13_code 3 (some .boolean) :: ws) ({ frames := 1, cells := 0, slots := 0, locals := 14 } : Room)) (fun a U => a = #[(.ref r0), (.long q1)] ∧ Z.Warmed39 U.vm ∧ U.heap = h0) (fun _ _ _ _ _ => True) (fun _ U o U' => ∃ v L, o = .returned v ∧ Q7 Z r0 q1 rt lim lft h0 n0 v U'.heap L ∧ FrameEnd U o U' L ({ frames := 1, cells := 0, slots := 0, locals := 14 } : Room).cells ({ frames := 1, cells := 0, slots := 0, locals := 14 } : Room).slots) := by
  refine MetFree.of_bodySF (plainFor_of_name pn_7) hisR ?_
  intro p e s m args below meth c s₁ Bd hml0 hP hK
  obtain ⟨rfl, hZ, hh⟩ := hP
  have hx := Bd.exec
  have hby := Bd.bytes
  have hml : c.maxLocals = 3 := hml0
  have hown : s.vm.findClass "com/example/href/href/text/KeptRoom" = some m.cls := findClass_of_methodNamed Bd.named
  have hnm := (name_of_methodNamed Bd.named Bd.method).1
  have X0 : Stand p l e ({ frames := 1, cells := 0, slots := 0, locals := 14 } : Room) s m #[(.ref r0), (.long q1)] below meth c s₁ [] 0 0 := Stand.of_body Bd
  have e0 : s₁.heap = h0 := by rw [← hh, Bd.state]; rfl
  have N0 := Fr.nil n0
  have pre0 : ∀ t, Steps p.tables e below (s₁.setTop (mkF m 0 #[.val (.ref r0), .val (.long q1), .second] [])) t → Steps p.tables e below (s₁.setTop (entryFrame m #[(.ref r0), (.long q1)] 3)) t := fun t k => castTop (ef_7 m r0 q1) k
  have c2 : ∀ t, Steps p.tables e below (s₁.setTop (mkF m 1 #[.val (.ref r0), .val (.long q1), .second] [(.ref r0)])) t → Steps p.tables e below (s₁.setTop (mkF m 0 #[.val (.ref r0), .val (.long q1), .second] [])) t := by
    intro t kt
    show Steps p.tables e below (s₁.setTop (mkF m 0 #[.val (.ref r0), .val (.long q1), .second] [])) _
    refine XS.aloadN X0.here hx rfl (hb hby d7_0) rfl rfl ?_
    exact kt
  obtain ⟨T1, X1, e1, st1⟩ := getF X0 hx hZ hown (host := "") (Or.inl (hw _ (List.mem_of_getElem? (i := 27) rfl))) Via.refl e0 F_t (g := (mkF m 1 #[.val (.ref r0), .val (.long q1), .second] [(.ref r0)])) rfl rfl (hb hby d7_1)
  have c3 : ∀ t, Steps p.tables e below (T1.setTop (mkF m 5 #[.val (.ref r0), .val (.long q1), .second] [(.long q1), (.ref rt)])) t → Steps p.tables e below (T1.setTop (mkF m 4 #[.val (.ref r0), .val (.long q1), .second] [(.ref rt)])) t := by
    intro t kt
    show Steps p.tables e below (T1.setTop (mkF m 4 #[.val (.ref r0), .val (.long q1), .second] [(.ref rt)])) _
    refine XS.lloadN X1.here hx rfl (hb hby d7_4) rfl ?_
    exact kt
  obtain ⟨_, _, ⟨T4, L4, k4, n4⟩, -, X4, ⟨Lc4, hQ4, l4, y4, z4⟩, st4⟩ := Jvm.LawKit.callS X1 hx (y := (⟨"com/example/href/href/text/KeptRoom", "charBytes", "(J)J"⟩ : MethodName)) hown (mvT hZ (hw _ (List.mem_of_getElem? (i := 36) rfl))) (mvT hZ (hw _ (List.mem_of_getElem? (i := 37) rfl))) (mvT hZ (hw _ (List.mem_of_getElem? (i := 9) rfl))) (mvT hZ (hw _ (List.mem_of_getElem? (i := 38) rfl))) (by decide) (backOf (W := 1) (rm6 l Z a0 hw [] q1  h0 n0 Z0 ) hZ (hw _ (List.mem_of_getElem? (i := 38) rfl)) (hw _ (List.mem_of_getElem? (i := 9) rfl)) (by decide) (by decide)) (g := (mkF m 5 #[.val (.ref r0), .val (.long q1), .second] [(.long q1), (.ref rt)])) rfl (by rw [hml]; rfl) (argsL := [(.long q1)]) (rest := [(.ref rt)]) (lenOf pd_1 rfl) rfl (by show 2 * 0 + _ ≤ _; exact Nat.le_of_eq rfl) (hb hby d7_5) (fun _ _ => ⟨rfl, e1, (by decide : 0 + 0 ≤ _), (by decide : 0 + 0 ≤ _)⟩)
  dsimp only [Pt.U, Pt.locs, Pt.cells, Pt.slots] at X4 l4 y4 z4 st4 hQ4
  subst l4 y4 z4
  obtain ⟨rfl, N4q, e4⟩ := hQ4
  have N4 := Fr.app N0 N4q
  obtain ⟨cq5, kq5, q5a, q5b, q5c⟩ := isOf hZ e4 E_t
  obtain ⟨_, _, ⟨T6, L6, k6, n6⟩, -, X6, ⟨Lc6, hQ6, l6, y6, z6⟩, st6⟩ := X4.virtualBack hx (y := (⟨"com/example/href/href/text/KeptRoom$Room", "reserve", "(J)Z"⟩ : MethodName)) (z := (⟨"com/example/href/href/text/KeptRoom$Room", "reserve", "(J)Z"⟩ : MethodName)) hown (mvT hZ (hw _ (List.mem_of_getElem? (i := 46) rfl))) (mvT hZ (hw _ (List.mem_of_getElem? (i := 47) rfl))) (notFace_of_selects (args := #[]) (mvT hZ (hw _ (List.mem_of_getElem? (i := 49) rfl)))) (mvT hZ (hw _ (List.mem_of_getElem? (i := 49) rfl))) (mvT hZ (hw _ (List.mem_of_getElem? (i := 48) rfl))) (by decide) (own_backS (W := 0) (rm8 l Z a0 hw [Jvm.Cond.instanceMethod (⟨"com/example/href/href/text/KeptRoom$Room", "reserve", "(J)Z"⟩ : MethodName)] (List.mem_cons_self ..) rt ((2 : Int64) * q1) lim lft h0 n0 Z0 F_lim F_lft E_t g_rt) hZ (hw _ (List.mem_of_getElem? (i := 50) rfl)) (hw _ (List.mem_of_getElem? (i := 48) rfl)) (hw _ (List.mem_of_getElem? (i := 18) rfl)) U_t (by decide) (by decide)) q5a q5c (g := (mkF m 8 #[.val (.ref r0), .val (.long q1), .second] [(.long ((2 : Int64) * q1)), (.ref rt)])) rfl (by rw [hml]; rfl) (Steps.refl _) (argsL := [(.long ((2 : Int64) * q1))]) (rest := []) (lenOf pd_2 rfl) rfl (by show 2 * 0 + _ ≤ _; exact Nat.le_of_eq rfl) (hb hby d7_8) (fun _ _ => ⟨rfl, e4, (by decide : 0 + 0 ≤ _), (by decide : 0 + 0 ≤ _)⟩)
  dsimp only [Pt.U, Pt.locs, Pt.cells, Pt.slots] at X6 l6 y6 z6 st6 hQ6
  subst l6 y6 z6
  obtain ⟨rfl, N6q, Kq6, Eq6, Fq6_0, Fq6_1⟩ := hQ6
  have N6 := Fr.app N4 N6q
  obtain ⟨fs, hr, hrun, hended, hW, hsame⟩ := X6.leave (v := some (.int ((own_fit lft ((2 : Int64) * q1)) &&& 1))) (fun h => by rw [Bd.returns] at h; cases h)
  have f8 := ((Keep.refl h0 [rt]).trans Kq6 (allS (Or.inl (List.mem_of_getElem? (i := 0) rfl)) all0))
  refine ⟨_, _, pre0 _ (c2 _ (st1 _ (c3 _ (st4 _ (st6.trans (?_)))))), hrun, hended, _, _, rfl, ?_, ⟨_, rfl⟩, hW, hsame.mono (by decide) (by decide)⟩
  · show Steps p.tables e below (T6.setTop (mkF m 11 #[.val (.ref r0), .val (.long q1), .second] [(.int (own_fit lft ((2 : Int64) * q1)))])) _
    exact retN X6 hx (t := .boolean) Bd.returns (by simp) (hb hby d7_11) hr
  · show Q7 Z r0 q1 rt lim lft h0 n0 _ T6.heap _
    exact ⟨_, rfl, N6, f8, Fq6_0⟩
theorem pn_0 : plainName "com/example/href/href/text/KeptRoomFitsKeepLimitPinLaw" = true := by first | (simp [plainName, overriddenIn]; done) | decide +kernel
theorem ef_0 (m : MethodId) (x0 : Int64) (x1 : Int64) (x2 : Int64) (x3 : Int32) : entryFrame m #[(.long x0), (.long x1), (.long x2), (.int x3)] maxLocals = mkF m 0 #[.val (.long x0), .second, .val (.long x1), .second, .val (.long x2), .second, .val (.int x3), .unset, .unset, .unset, .unset, .unset, .unset, .unset, .unset, .unset, .unset, .unset, .unset, .unset, .unset, .unset] [] := by first | (simp [entryFrame, mkF, argsToLocals, Value.category, maxLocals]; done) | rfl
def Q0 (Z : State) (q0 : Int64) (q1 : Int64) (q2 : Int64) (p3 : Int32) (h0 : Heap) (n0 : Nat) (v : Option Value) (h : Heap) (L : List Loc) : Prop := v = some (.int 1) ∧ Fr n0 L
set_option maxRecDepth 65536 in
set_option maxHeartbeats 40000000 in
theorem rm0 (l : Launch) (Z : State) (a0 : Array Value) (hw : ∀ d ∈ tables_1, d.before a0 Z = true) (ws : List Jvm.Cond) (q0 : Int64) (q1 : Int64) (q2 : Int64) (p3 : Int32)  (h0 : Heap) (n0 : Nat) (Z0 : n0 ≤ h0.size) :
    MetFree l x (head1 (Jvm.Cond.code x code maxLocals ret :: ws) room_1) (fun a U => a = #[(.long q0), (.long q1), (.long q2), (.int p3)] ∧ Z.Warmed39 U.vm ∧ U.heap = h0) (fun _ _ _ _ _ => True) (fun _ U o U' => ∃ v L, o = .returned v ∧ Q0 Z q0 q1 q2 p3 h0 n0 v U'.heap L ∧ FrameEnd U o U' L room_1.cells room_1.slots) := by
  refine MetFree.of_bodySF (plainFor_of_name pn_0) hisR ?_
  intro p e s m args below meth c s₁ Bd hml0 hP hK
  obtain ⟨rfl, hZ, hh⟩ := hP
  have hx := Bd.exec
  have hby := Bd.bytes
  have hml : c.maxLocals = 22 := hml0
  have hown : s.vm.findClass "com/example/href/href/text/KeptRoomFitsKeepLimitPinLaw" = some m.cls := findClass_of_methodNamed Bd.named
  have hnm := (name_of_methodNamed Bd.named Bd.method).1
  have X0 : Stand p l e room_1 s m #[(.long q0), (.long q1), (.long q2), (.int p3)] below meth c s₁ [] 0 0 := Stand.of_body Bd
  have e0 : s₁.heap = h0 := by rw [← hh, Bd.state]; rfl
  have N0 := Fr.nil n0
  have pre0 : ∀ t, Steps p.tables e below (s₁.setTop (mkF m 0 #[.val (.long q0), .second, .val (.long q1), .second, .val (.long q2), .second, .val (.int p3), .unset, .unset, .unset, .unset, .unset, .unset, .unset, .unset, .unset, .unset, .unset, .unset, .unset, .unset, .unset] [])) t → Steps p.tables e below (s₁.setTop (entryFrame m #[(.long q0), (.long q1), (.long q2), (.int p3)] maxLocals)) t := fun t k => castTop (ef_0 m q0 q1 q2 p3) k
  have c1 : ∀ t, Steps p.tables e below (s₁.setTop (mkF m 7 #[.val (.long q0), .second, .val (.long q1), .second, .val (.long q2), .second, .val (.int p3), .val (.long (q0 &&& (9223372036854775807 : Int64))), .second, .unset, .unset, .unset, .unset, .unset, .unset, .unset, .unset, .unset, .unset, .unset, .unset, .unset] [])) t → Steps p.tables e below (s₁.setTop (mkF m 0 #[.val (.long q0), .second, .val (.long q1), .second, .val (.long q2), .second, .val (.int p3), .unset, .unset, .unset, .unset, .unset, .unset, .unset, .unset, .unset, .unset, .unset, .unset, .unset, .unset, .unset] [])) t := by
    intro t kt
    show Steps p.tables e below (s₁.setTop (mkF m 0 #[.val (.long q0), .second, .val (.long q1), .second, .val (.long q2), .second, .val (.int p3), .unset, .unset, .unset, .unset, .unset, .unset, .unset, .unset, .unset, .unset, .unset, .unset, .unset, .unset, .unset] [])) _
    refine XS.lloadN X0.here hx rfl (hb hby at_0) rfl ?_
    show Steps p.tables e below (s₁.setTop (mkF m 1 #[.val (.long q0), .second, .val (.long q1), .second, .val (.long q2), .second, .val (.int p3), .unset, .unset, .unset, .unset, .unset, .unset, .unset, .unset, .unset, .unset, .unset, .unset, .unset, .unset, .unset] [(.long q0)])) _
    refine X0.ldc2Long hx hown (mvT hZ (hw _ (List.mem_of_getElem? (i := 0) rfl))) (g := (mkF m 1 #[.val (.long q0), .second, .val (.long q1), .second, .val (.long q2), .second, .val (.int p3), .unset, .unset, .unset, .unset, .unset, .unset, .unset, .unset, .unset, .unset, .unset, .unset, .unset, .unset, .unset] [(.long q0)])) rfl (hb hby at_1) _ ?_
    show Steps p.tables e below (s₁.setTop (mkF m 4 #[.val (.long q0), .second, .val (.long q1), .second, .val (.long q2), .second, .val (.int p3), .unset, .unset, .unset, .unset, .unset, .unset, .unset, .unset, .unset, .unset, .unset, .unset, .unset, .unset, .unset] [(.long (9223372036854775807 : Int64)), (.long q0)])) _
    refine XS.land X0.here hx rfl (hb hby at_4) rfl ?_
    show Steps p.tables e below (s₁.setTop (mkF m 5 #[.val (.long q0), .second, .val (.long q1), .second, .val (.long q2), .second, .val (.int p3), .unset, .unset, .unset, .unset, .unset, .unset, .unset, .unset, .unset, .unset, .unset, .unset, .unset, .unset, .unset] [(.long (q0 &&& (9223372036854775807 : Int64)))])) _
    refine XS.lstore X0.here hx rfl (hb hby at_5) rfl (l' := #[.val (.long q0), .second, .val (.long q1), .second, .val (.long q2), .second, .val (.int p3), .val (.long (q0 &&& (9223372036854775807 : Int64))), .second, .unset, .unset, .unset, .unset, .unset, .unset, .unset, .unset, .unset, .unset, .unset, .unset, .unset]) rfl ?_
    exact kt
  obtain ⟨lim, hlim⟩ : ∃ z, z = (q0 &&& (9223372036854775807 : Int64)) := ⟨_, rfl⟩
  have c2 : ∀ t, Steps p.tables e below (s₁.setTop (mkF m 7 #[.val (.long q0), .second, .val (.long q1), .second, .val (.long q2), .second, .val (.int p3), .val (.long lim), .second, .unset, .unset, .unset, .unset, .unset, .unset, .unset, .unset, .unset, .unset, .unset, .unset, .unset] [])) t → Steps p.tables e below (s₁.setTop (mkF m 7 #[.val (.long q0), .second, .val (.long q1), .second, .val (.long q2), .second, .val (.int p3), .val (.long (q0 &&& (9223372036854775807 : Int64))), .second, .unset, .unset, .unset, .unset, .unset, .unset, .unset, .unset, .unset, .unset, .unset, .unset, .unset] [])) t := fun t kt => by rw [hlim] at kt; exact kt
  have hl0 : 0 ≤ lim.toInt := by rw [hlim]; exact own_mask _
  have c3 : ∀ t, Steps p.tables e below (s₁.setTop (mkF m 20 #[.val (.long q0), .second, .val (.long q1), .second, .val (.long q2), .second, .val (.int p3), .val (.long lim), .second, .val (.long (4611686018427387903 : Int64)), .second, .val (.long (lim / (2 : Int64))), .second, .unset, .unset, .unset, .unset, .unset, .unset, .unset, .unset, .unset] [])) t → Steps p.tables e below (s₁.setTop (mkF m 7 #[.val (.long q0), .second, .val (.long q1), .second, .val (.long q2), .second, .val (.int p3), .val (.long lim), .second, .unset, .unset, .unset, .unset, .unset, .unset, .unset, .unset, .unset, .unset, .unset, .unset, .unset] [])) t := by
    intro t kt
    show Steps p.tables e below (s₁.setTop (mkF m 7 #[.val (.long q0), .second, .val (.long q1), .second, .val (.long q2), .second, .val (.int p3), .val (.long lim), .second, .unset, .unset, .unset, .unset, .unset, .unset, .unset, .unset, .unset, .unset, .unset, .unset, .unset] [])) _
    refine X0.ldc2Long hx hown (mvT hZ (hw _ (List.mem_of_getElem? (i := 1) rfl))) (g := (mkF m 7 #[.val (.long q0), .second, .val (.long q1), .second, .val (.long q2), .second, .val (.int p3), .val (.long lim), .second, .unset, .unset, .unset, .unset, .unset, .unset, .unset, .unset, .unset, .unset, .unset, .unset, .unset] [])) rfl (hb hby at_7) _ ?_
    show Steps p.tables e below (s₁.setTop (mkF m 10 #[.val (.long q0), .second, .val (.long q1), .second, .val (.long q2), .second, .val (.int p3), .val (.long lim), .second, .unset, .unset, .unset, .unset, .unset, .unset, .unset, .unset, .unset, .unset, .unset, .unset, .unset] [(.long (4611686018427387903 : Int64))])) _
    refine XS.lstore X0.here hx rfl (hb hby at_10) rfl (l' := #[.val (.long q0), .second, .val (.long q1), .second, .val (.long q2), .second, .val (.int p3), .val (.long lim), .second, .val (.long (4611686018427387903 : Int64)), .second, .unset, .unset, .unset, .unset, .unset, .unset, .unset, .unset, .unset, .unset, .unset]) rfl ?_
    show Steps p.tables e below (s₁.setTop (mkF m 12 #[.val (.long q0), .second, .val (.long q1), .second, .val (.long q2), .second, .val (.int p3), .val (.long lim), .second, .val (.long (4611686018427387903 : Int64)), .second, .unset, .unset, .unset, .unset, .unset, .unset, .unset, .unset, .unset, .unset, .unset] [])) _
    refine XS.lload X0.here hx rfl (hb hby at_12) rfl ?_
    show Steps p.tables e below (s₁.setTop (mkF m 14 #[.val (.long q0), .second, .val (.long q1), .second, .val (.long q2), .second, .val (.int p3), .val (.long lim), .second, .val (.long (4611686018427387903 : Int64)), .second, .unset, .unset, .unset, .unset, .unset, .unset, .unset, .unset, .unset, .unset, .unset] [(.long lim)])) _
    refine X0.ldc2Long hx hown (mvT hZ (hw _ (List.mem_of_getElem? (i := 2) rfl))) (g := (mkF m 14 #[.val (.long q0), .second, .val (.long q1), .second, .val (.long q2), .second, .val (.int p3), .val (.long lim), .second, .val (.long (4611686018427387903 : Int64)), .second, .unset, .unset, .unset, .unset, .unset, .unset, .unset, .unset, .unset, .unset, .unset] [(.long lim)])) rfl (hb hby at_14) _ ?_
    show Steps p.tables e below (s₁.setTop (mkF m 17 #[.val (.long q0), .second, .val (.long q1), .second, .val (.long q2), .second, .val (.int p3), .val (.long lim), .second, .val (.long (4611686018427387903 : Int64)), .second, .unset, .unset, .unset, .unset, .unset, .unset, .unset, .unset, .unset, .unset, .unset] [(.long (2 : Int64)), (.long lim)])) _
    refine XS.ldiv X0.here hx rfl (hb hby at_17) rfl (by decide) ?_
    show Steps p.tables e below (s₁.setTop (mkF m 18 #[.val (.long q0), .second, .val (.long q1), .second, .val (.long q2), .second, .val (.int p3), .val (.long lim), .second, .val (.long (4611686018427387903 : Int64)), .second, .unset, .unset, .unset, .unset, .unset, .unset, .unset, .unset, .unset, .unset, .unset] [(.long (lim / (2 : Int64)))])) _
    refine XS.lstore X0.here hx rfl (hb hby at_18) rfl (l' := #[.val (.long q0), .second, .val (.long q1), .second, .val (.long q2), .second, .val (.int p3), .val (.long lim), .second, .val (.long (4611686018427387903 : Int64)), .second, .val (.long (lim / (2 : Int64))), .second, .unset, .unset, .unset, .unset, .unset, .unset, .unset, .unset, .unset]) rfl ?_
    exact kt
  obtain ⟨half, hhalf⟩ : ∃ z, z = (lim / (2 : Int64)) := ⟨_, rfl⟩
  have c4 : ∀ t, Steps p.tables e below (s₁.setTop (mkF m 20 #[.val (.long q0), .second, .val (.long q1), .second, .val (.long q2), .second, .val (.int p3), .val (.long lim), .second, .val (.long (4611686018427387903 : Int64)), .second, .val (.long half), .second, .unset, .unset, .unset, .unset, .unset, .unset, .unset, .unset, .unset] [])) t → Steps p.tables e below (s₁.setTop (mkF m 20 #[.val (.long q0), .second, .val (.long q1), .second, .val (.long q2), .second, .val (.int p3), .val (.long lim), .second, .val (.long (4611686018427387903 : Int64)), .second, .val (.long (lim / (2 : Int64))), .second, .unset, .unset, .unset, .unset, .unset, .unset, .unset, .unset, .unset] [])) t := fun t kt => by rw [hhalf] at kt; exact kt
  have hh : half.toInt = lim.toInt / 2 := by rw [hhalf]; exact own_half _ hl0
  have hlm := rng64 lim
  have hh0 : 0 ≤ half.toInt := by omega
  have hh1 : half.toInt ≤ 4611686018427387903 := by omega
  have c5 : ∀ t, Steps p.tables e below (s₁.setTop (mkF m 28 #[.val (.long q0), .second, .val (.long q1), .second, .val (.long q2), .second, .val (.int p3), .val (.long lim), .second, .val (.long (4611686018427387903 : Int64)), .second, .val (.long half), .second, .val (.int (p3 &&& (3 : Int32))), .unset, .unset, .unset, .unset, .unset, .unset, .unset, .unset] [(.int (p3 &&& (3 : Int32)))])) t → Steps p.tables e below (s₁.setTop (mkF m 20 #[.val (.long q0), .second, .val (.long q1), .second, .val (.long q2), .second, .val (.int p3), .val (.long lim), .second, .val (.long (4611686018427387903 : Int64)), .second, .val (.long half), .second, .unset, .unset, .unset, .unset, .unset, .unset, .unset, .unset, .unset] [])) t := by
    intro t kt
    show Steps p.tables e below (s₁.setTop (mkF m 20 #[.val (.long q0), .second, .val (.long q1), .second, .val (.long q2), .second, .val (.int p3), .val (.long lim), .second, .val (.long (4611686018427387903 : Int64)), .second, .val (.long half), .second, .unset, .unset, .unset, .unset, .unset, .unset, .unset, .unset, .unset] [])) _
    refine XS.iload X0.here hx rfl (hb hby at_20) rfl ?_
    show Steps p.tables e below (s₁.setTop (mkF m 22 #[.val (.long q0), .second, .val (.long q1), .second, .val (.long q2), .second, .val (.int p3), .val (.long lim), .second, .val (.long (4611686018427387903 : Int64)), .second, .val (.long half), .second, .unset, .unset, .unset, .unset, .unset, .unset, .unset, .unset, .unset] [(.int p3)])) _
    refine XS.iconst X0.here hx rfl (hb hby at_22) ?_
    show Steps p.tables e below (s₁.setTop (mkF m 23 #[.val (.long q0), .second, .val (.long q1), .second, .val (.long q2), .second, .val (.int p3), .val (.long lim), .second, .val (.long (4611686018427387903 : Int64)), .second, .val (.long half), .second, .unset, .unset, .unset, .unset, .unset, .unset, .unset, .unset, .unset] [(.int (3 : Int32)), (.int p3)])) _
    refine XS.iand X0.here hx rfl (hb hby at_23) rfl ?_
    show Steps p.tables e below (s₁.setTop (mkF m 24 #[.val (.long q0), .second, .val (.long q1), .second, .val (.long q2), .second, .val (.int p3), .val (.long lim), .second, .val (.long (4611686018427387903 : Int64)), .second, .val (.long half), .second, .unset, .unset, .unset, .unset, .unset, .unset, .unset, .unset, .unset] [(.int (p3 &&& (3 : Int32)))])) _
    refine XS.istore X0.here hx rfl (hb hby at_24) rfl (l' := #[.val (.long q0), .second, .val (.long q1), .second, .val (.long q2), .second, .val (.int p3), .val (.long lim), .second, .val (.long (4611686018427387903 : Int64)), .second, .val (.long half), .second, .val (.int (p3 &&& (3 : Int32))), .unset, .unset, .unset, .unset, .unset, .unset, .unset, .unset]) rfl ?_
    show Steps p.tables e below (s₁.setTop (mkF m 26 #[.val (.long q0), .second, .val (.long q1), .second, .val (.long q2), .second, .val (.int p3), .val (.long lim), .second, .val (.long (4611686018427387903 : Int64)), .second, .val (.long half), .second, .val (.int (p3 &&& (3 : Int32))), .unset, .unset, .unset, .unset, .unset, .unset, .unset, .unset] [])) _
    refine XS.iload X0.here hx rfl (hb hby at_26) rfl ?_
    exact kt
  by_cases hc28 : (p3 &&& (3 : Int32)) = (0 : Int32)
  · -- it is
    have c6 : ∀ t, Steps p.tables e below (s₁.setTop (mkF m 83 #[.val (.long q0), .second, .val (.long q1), .second, .val (.long q2), .second, .val (.int p3), .val (.long lim), .second, .val (.long (4611686018427387903 : Int64)), .second, .val (.long half), .second, .val (.int (p3 &&& (3 : Int32))), .val (.long half), .second, .unset, .unset, .unset, .unset, .unset, .unset] [])) t → Steps p.tables e below (s₁.setTop (mkF m 28 #[.val (.long q0), .second, .val (.long q1), .second, .val (.long q2), .second, .val (.int p3), .val (.long lim), .second, .val (.long (4611686018427387903 : Int64)), .second, .val (.long half), .second, .val (.int (p3 &&& (3 : Int32))), .unset, .unset, .unset, .unset, .unset, .unset, .unset, .unset] [(.int (p3 &&& (3 : Int32)))])) t := by
      intro t kt
      show Steps p.tables e below (s₁.setTop (mkF m 28 #[.val (.long q0), .second, .val (.long q1), .second, .val (.long q2), .second, .val (.int p3), .val (.long lim), .second, .val (.long (4611686018427387903 : Int64)), .second, .val (.long half), .second, .val (.int (p3 &&& (3 : Int32))), .unset, .unset, .unset, .unset, .unset, .unset, .unset, .unset] [(.int (p3 &&& (3 : Int32)))])) _
      refine XS.ifNo X0.here hx rfl (hb hby at_28) rfl ((if0 _ _).trans (teq hc28).2) ?_
      show Steps p.tables e below (s₁.setTop (mkF m 31 #[.val (.long q0), .second, .val (.long q1), .second, .val (.long q2), .second, .val (.int p3), .val (.long lim), .second, .val (.long (4611686018427387903 : Int64)), .second, .val (.long half), .second, .val (.int (p3 &&& (3 : Int32))), .unset, .unset, .unset, .unset, .unset, .unset, .unset, .unset] [])) _
      refine XS.lload X0.here hx rfl (hb hby at_31) rfl ?_
      show Steps p.tables e below (s₁.setTop (mkF m 33 #[.val (.long q0), .second, .val (.long q1), .second, .val (.long q2), .second, .val (.int p3), .val (.long lim), .second, .val (.long (4611686018427387903 : Int64)), .second, .val (.long half), .second, .val (.int (p3 &&& (3 : Int32))), .unset, .unset, .unset, .unset, .unset, .unset, .unset, .unset] [(.long half)])) _
      refine XS.lstore X0.here hx rfl (hb hby at_33) rfl (l' := #[.val (.long q0), .second, .val (.long q1), .second, .val (.long q2), .second, .val (.int p3), .val (.long lim), .second, .val (.long (4611686018427387903 : Int64)), .second, .val (.long half), .second, .val (.int (p3 &&& (3 : Int32))), .val (.long half), .second, .unset, .unset, .unset, .unset, .unset, .unset]) rfl ?_
      show Steps p.tables e below (s₁.setTop (mkF m 35 #[.val (.long q0), .second, .val (.long q1), .second, .val (.long q2), .second, .val (.int p3), .val (.long lim), .second, .val (.long (4611686018427387903 : Int64)), .second, .val (.long half), .second, .val (.int (p3 &&& (3 : Int32))), .val (.long half), .second, .unset, .unset, .unset, .unset, .unset, .unset] [])) _
      refine XS.goto X0.here hx rfl (pc0 := 35) (pc' := 83) rfl (hb hby at_35) (by decide) (by decide) ?_
      exact kt
    obtain ⟨chs, hchs⟩ : ∃ z, z = half := ⟨_, rfl⟩
    have c7 : ∀ t, Steps p.tables e below (s₁.setTop (mkF m 83 #[.val (.long q0), .second, .val (.long q1), .second, .val (.long q2), .second, .val (.int p3), .val (.long lim), .second, .val (.long (4611686018427387903 : Int64)), .second, .val (.long half), .second, .val (.int (p3 &&& (3 : Int32))), .val (.long chs), .second, .unset, .unset, .unset, .unset, .unset, .unset] [])) t → Steps p.tables e below (s₁.setTop (mkF m 83 #[.val (.long q0), .second, .val (.long q1), .second, .val (.long q2), .second, .val (.int p3), .val (.long lim), .second, .val (.long (4611686018427387903 : Int64)), .second, .val (.long half), .second, .val (.int (p3 &&& (3 : Int32))), .val (.long half), .second, .unset, .unset, .unset, .unset, .unset, .unset] [])) t := fun t kt => by rw [hchs] at kt; exact kt
    have hc : 0 ≤ chs.toInt ∧ chs.toInt ≤ 4611686018427387903 := by rw [hchs]; exact ⟨hh0, hh1⟩
    have c8 : ∀ t, Steps p.tables e below (s₁.setTop (mkF m 103 #[.val (.long q0), .second, .val (.long q1), .second, .val (.long q2), .second, .val (.int p3), .val (.long lim), .second, .val (.long (4611686018427387903 : Int64)), .second, .val (.long half), .second, .val (.int (p3 &&& (3 : Int32))), .val (.long chs), .second, .val (.long (own_tk p3 half (q2 &&& (4611686018427387903 : Int64)))), .second, .unset, .unset, .unset, .unset] [])) t → Steps p.tables e below (s₁.setTop (mkF m 83 #[.val (.long q0), .second, .val (.long q1), .second, .val (.long q2), .second, .val (.int p3), .val (.long lim), .second, .val (.long (4611686018427387903 : Int64)), .second, .val (.long half), .second, .val (.int (p3 &&& (3 : Int32))), .val (.long chs), .second, .unset, .unset, .unset, .unset, .unset, .unset] [])) t := by
      intro t kt
      show Steps p.tables e below (s₁.setTop (mkF m 83 #[.val (.long q0), .second, .val (.long q1), .second, .val (.long q2), .second, .val (.int p3), .val (.long lim), .second, .val (.long (4611686018427387903 : Int64)), .second, .val (.long half), .second, .val (.int (p3 &&& (3 : Int32))), .val (.long chs), .second, .unset, .unset, .unset, .unset, .unset, .unset] [])) _
      refine XS.iload X0.here hx rfl (hb hby at_83) rfl ?_
      show Steps p.tables e below (s₁.setTop (mkF m 85 #[.val (.long q0), .second, .val (.long q1), .second, .val (.long q2), .second, .val (.int p3), .val (.long lim), .second, .val (.long (4611686018427387903 : Int64)), .second, .val (.long half), .second, .val (.int (p3 &&& (3 : Int32))), .val (.long chs), .second, .unset, .unset, .unset, .unset, .unset, .unset] [(.int p3)])) _
      refine XS.bipush X0.here hx rfl (hb hby at_85) ?_
      show Steps p.tables e below (s₁.setTop (mkF m 87 #[.val (.long q0), .second, .val (.long q1), .second, .val (.long q2), .second, .val (.int p3), .val (.long lim), .second, .val (.long (4611686018427387903 : Int64)), .second, .val (.long half), .second, .val (.int (p3 &&& (3 : Int32))), .val (.long chs), .second, .unset, .unset, .unset, .unset, .unset, .unset] [(.int (8 : Int32)), (.int p3)])) _
      refine XS.iand X0.here hx rfl (hb hby at_87) rfl ?_
      by_cases hc88 : (p3 &&& (8 : Int32)) = (0 : Int32)
      · -- it is
        show Steps p.tables e below (s₁.setTop (mkF m 88 #[.val (.long q0), .second, .val (.long q1), .second, .val (.long q2), .second, .val (.int p3), .val (.long lim), .second, .val (.long (4611686018427387903 : Int64)), .second, .val (.long half), .second, .val (.int (p3 &&& (3 : Int32))), .val (.long chs), .second, .unset, .unset, .unset, .unset, .unset, .unset] [(.int (p3 &&& (8 : Int32)))])) _
        refine XS.ifYes X0.here hx rfl (pc0 := 88) (pc' := 96) rfl (hb hby at_88) rfl ((if0 _ _).trans (teq hc88).1) (by decide) (by decide) ?_
        show Steps p.tables e below (s₁.setTop (mkF m 96 #[.val (.long q0), .second, .val (.long q1), .second, .val (.long q2), .second, .val (.int p3), .val (.long lim), .second, .val (.long (4611686018427387903 : Int64)), .second, .val (.long half), .second, .val (.int (p3 &&& (3 : Int32))), .val (.long chs), .second, .unset, .unset, .unset, .unset, .unset, .unset] [])) _
        refine XS.lload X0.here hx rfl (hb hby at_96) rfl ?_
        show Steps p.tables e below (s₁.setTop (mkF m 98 #[.val (.long q0), .second, .val (.long q1), .second, .val (.long q2), .second, .val (.int p3), .val (.long lim), .second, .val (.long (4611686018427387903 : Int64)), .second, .val (.long half), .second, .val (.int (p3 &&& (3 : Int32))), .val (.long chs), .second, .unset, .unset, .unset, .unset, .unset, .unset] [(.long q2)])) _
        refine XS.lload X0.here hx rfl (hb hby at_98) rfl ?_
        show Steps p.tables e below (s₁.setTop (mkF m 100 #[.val (.long q0), .second, .val (.long q1), .second, .val (.long q2), .second, .val (.int p3), .val (.long lim), .second, .val (.long (4611686018427387903 : Int64)), .second, .val (.long half), .second, .val (.int (p3 &&& (3 : Int32))), .val (.long chs), .second, .unset, .unset, .unset, .unset, .unset, .unset] [(.long (4611686018427387903 : Int64)), (.long q2)])) _
        refine XS.land X0.here hx rfl (hb hby at_100) rfl ?_
        show Steps p.tables e below (s₁.setTop (mkF m 101 #[.val (.long q0), .second, .val (.long q1), .second, .val (.long q2), .second, .val (.int p3), .val (.long lim), .second, .val (.long (4611686018427387903 : Int64)), .second, .val (.long half), .second, .val (.int (p3 &&& (3 : Int32))), .val (.long chs), .second, .unset, .unset, .unset, .unset, .unset, .unset] [(.long (q2 &&& (4611686018427387903 : Int64)))])) _
        refine XS.lstore X0.here hx rfl (hb hby at_101) rfl (l' := #[.val (.long q0), .second, .val (.long q1), .second, .val (.long q2), .second, .val (.int p3), .val (.long lim), .second, .val (.long (4611686018427387903 : Int64)), .second, .val (.long half), .second, .val (.int (p3 &&& (3 : Int32))), .val (.long chs), .second, .val (.long (q2 &&& (4611686018427387903 : Int64))), .second, .unset, .unset, .unset, .unset]) rfl ?_
        rw [show (own_tk p3 half (q2 &&& (4611686018427387903 : Int64))) = (q2 &&& (4611686018427387903 : Int64)) from by unfold own_tk; rw [if_pos hc88]] at kt
        exact kt
      · -- it isn't
        show Steps p.tables e below (s₁.setTop (mkF m 88 #[.val (.long q0), .second, .val (.long q1), .second, .val (.long q2), .second, .val (.int p3), .val (.long lim), .second, .val (.long (4611686018427387903 : Int64)), .second, .val (.long half), .second, .val (.int (p3 &&& (3 : Int32))), .val (.long chs), .second, .unset, .unset, .unset, .unset, .unset, .unset] [(.int (p3 &&& (8 : Int32)))])) _
        refine XS.ifNo X0.here hx rfl (hb hby at_88) rfl ((if0 _ _).trans (feq hc88).1) ?_
        show Steps p.tables e below (s₁.setTop (mkF m 91 #[.val (.long q0), .second, .val (.long q1), .second, .val (.long q2), .second, .val (.int p3), .val (.long lim), .second, .val (.long (4611686018427387903 : Int64)), .second, .val (.long half), .second, .val (.int (p3 &&& (3 : Int32))), .val (.long chs), .second, .unset, .unset, .unset, .unset, .unset, .unset] [])) _
        refine XS.lload X0.here hx rfl (hb hby at_91) rfl ?_
        show Steps p.tables e below (s₁.setTop (mkF m 93 #[.val (.long q0), .second, .val (.long q1), .second, .val (.long q2), .second, .val (.int p3), .val (.long lim), .second, .val (.long (4611686018427387903 : Int64)), .second, .val (.long half), .second, .val (.int (p3 &&& (3 : Int32))), .val (.long chs), .second, .unset, .unset, .unset, .unset, .unset, .unset] [(.long half)])) _
        refine XS.goto X0.here hx rfl (pc0 := 93) (pc' := 101) rfl (hb hby at_93) (by decide) (by decide) ?_
        show Steps p.tables e below (s₁.setTop (mkF m 101 #[.val (.long q0), .second, .val (.long q1), .second, .val (.long q2), .second, .val (.int p3), .val (.long lim), .second, .val (.long (4611686018427387903 : Int64)), .second, .val (.long half), .second, .val (.int (p3 &&& (3 : Int32))), .val (.long chs), .second, .unset, .unset, .unset, .unset, .unset, .unset] [(.long half)])) _
        refine XS.lstore X0.here hx rfl (hb hby at_101) rfl (l' := #[.val (.long q0), .second, .val (.long q1), .second, .val (.long q2), .second, .val (.int p3), .val (.long lim), .second, .val (.long (4611686018427387903 : Int64)), .second, .val (.long half), .second, .val (.int (p3 &&& (3 : Int32))), .val (.long chs), .second, .val (.long half), .second, .unset, .unset, .unset, .unset]) rfl ?_
        rw [show (own_tk p3 half (q2 &&& (4611686018427387903 : Int64))) = half from by unfold own_tk; rw [if_neg hc88]] at kt
        exact kt
    have c9 : ∀ t, Steps p.tables e below (s₁.setTop (mkF m 118 #[.val (.long q0), .second, .val (.long q1), .second, .val (.long q2), .second, .val (.int p3), .val (.long lim), .second, .val (.long (4611686018427387903 : Int64)), .second, .val (.long half), .second, .val (.int (p3 &&& (3 : Int32))), .val (.long chs), .second, .val (.long (own_tk p3 half (q2 &&& (4611686018427387903 : Int64)))), .second, .val (.int (own_exp half chs)), .unset, .unset, .unset] [])) t → Steps p.tables e below (s₁.setTop (mkF m 103 #[.val (.long q0), .second, .val (.long q1), .second, .val (.long q2), .second, .val (.int p3), .val (.long lim), .second, .val (.long (4611686018427387903 : Int64)), .second, .val (.long half), .second, .val (.int (p3 &&& (3 : Int32))), .val (.long chs), .second, .val (.long (own_tk p3 half (q2 &&& (4611686018427387903 : Int64)))), .second, .unset, .unset, .unset, .unset] [])) t := by
      intro t kt
      show Steps p.tables e below (s₁.setTop (mkF m 103 #[.val (.long q0), .second, .val (.long q1), .second, .val (.long q2), .second, .val (.int p3), .val (.long lim), .second, .val (.long (4611686018427387903 : Int64)), .second, .val (.long half), .second, .val (.int (p3 &&& (3 : Int32))), .val (.long chs), .second, .val (.long (own_tk p3 half (q2 &&& (4611686018427387903 : Int64)))), .second, .unset, .unset, .unset, .unset] [])) _
      refine XS.lload X0.here hx rfl (hb hby at_103) rfl ?_
      show Steps p.tables e below (s₁.setTop (mkF m 105 #[.val (.long q0), .second, .val (.long q1), .second, .val (.long q2), .second, .val (.int p3), .val (.long lim), .second, .val (.long (4611686018427387903 : Int64)), .second, .val (.long half), .second, .val (.int (p3 &&& (3 : Int32))), .val (.long chs), .second, .val (.long (own_tk p3 half (q2 &&& (4611686018427387903 : Int64)))), .second, .unset, .unset, .unset, .unset] [(.long chs)])) _
      refine XS.lload X0.here hx rfl (hb hby at_105) rfl ?_
      show Steps p.tables e below (s₁.setTop (mkF m 107 #[.val (.long q0), .second, .val (.long q1), .second, .val (.long q2), .second, .val (.int p3), .val (.long lim), .second, .val (.long (4611686018427387903 : Int64)), .second, .val (.long half), .second, .val (.int (p3 &&& (3 : Int32))), .val (.long chs), .second, .val (.long (own_tk p3 half (q2 &&& (4611686018427387903 : Int64)))), .second, .unset, .unset, .unset, .unset] [(.long half), (.long chs)])) _
      refine XS.lcmp X0.here hx rfl (hb hby at_107) rfl ?_
      by_cases hc108 : half < chs
      · -- it is
        show Steps p.tables e below (s₁.setTop (mkF m 108 #[.val (.long q0), .second, .val (.long q1), .second, .val (.long q2), .second, .val (.int p3), .val (.long lim), .second, .val (.long (4611686018427387903 : Int64)), .second, .val (.long half), .second, .val (.int (p3 &&& (3 : Int32))), .val (.long chs), .second, .val (.long (own_tk p3 half (q2 &&& (4611686018427387903 : Int64)))), .second, .unset, .unset, .unset, .unset] [(.int (lcmpW chs half))])) _
        refine XS.ifYes X0.here hx rfl (pc0 := 108) (pc' := 115) rfl (hb hby at_108) rfl ((if0 _ _).trans (tlt ((lw_gt _ _).mpr hc108)).2.2.1) (by decide) (by decide) ?_
        show Steps p.tables e below (s₁.setTop (mkF m 115 #[.val (.long q0), .second, .val (.long q1), .second, .val (.long q2), .second, .val (.int p3), .val (.long lim), .second, .val (.long (4611686018427387903 : Int64)), .second, .val (.long half), .second, .val (.int (p3 &&& (3 : Int32))), .val (.long chs), .second, .val (.long (own_tk p3 half (q2 &&& (4611686018427387903 : Int64)))), .second, .unset, .unset, .unset, .unset] [])) _
        refine XS.iconst X0.here hx rfl (hb hby at_115) ?_
        show Steps p.tables e below (s₁.setTop (mkF m 116 #[.val (.long q0), .second, .val (.long q1), .second, .val (.long q2), .second, .val (.int p3), .val (.long lim), .second, .val (.long (4611686018427387903 : Int64)), .second, .val (.long half), .second, .val (.int (p3 &&& (3 : Int32))), .val (.long chs), .second, .val (.long (own_tk p3 half (q2 &&& (4611686018427387903 : Int64)))), .second, .unset, .unset, .unset, .unset] [(.int (0 : Int32))])) _
        refine XS.istore X0.here hx rfl (hb hby at_116) rfl (l' := #[.val (.long q0), .second, .val (.long q1), .second, .val (.long q2), .second, .val (.int p3), .val (.long lim), .second, .val (.long (4611686018427387903 : Int64)), .second, .val (.long half), .second, .val (.int (p3 &&& (3 : Int32))), .val (.long chs), .second, .val (.long (own_tk p3 half (q2 &&& (4611686018427387903 : Int64)))), .second, .val (.int (0 : Int32)), .unset, .unset, .unset]) rfl ?_
        rw [show (own_exp half chs) = (0 : Int32) from by unfold own_exp; rw [if_pos hc108]] at kt
        exact kt
      · -- it isn't
        show Steps p.tables e below (s₁.setTop (mkF m 108 #[.val (.long q0), .second, .val (.long q1), .second, .val (.long q2), .second, .val (.int p3), .val (.long lim), .second, .val (.long (4611686018427387903 : Int64)), .second, .val (.long half), .second, .val (.int (p3 &&& (3 : Int32))), .val (.long chs), .second, .val (.long (own_tk p3 half (q2 &&& (4611686018427387903 : Int64)))), .second, .unset, .unset, .unset, .unset] [(.int (lcmpW chs half))])) _
        refine XS.ifNo X0.here hx rfl (hb hby at_108) rfl ((if0 _ _).trans (flt (fun q => hc108 ((lw_gt _ _).mp q))).2.2.1) ?_
        show Steps p.tables e below (s₁.setTop (mkF m 111 #[.val (.long q0), .second, .val (.long q1), .second, .val (.long q2), .second, .val (.int p3), .val (.long lim), .second, .val (.long (4611686018427387903 : Int64)), .second, .val (.long half), .second, .val (.int (p3 &&& (3 : Int32))), .val (.long chs), .second, .val (.long (own_tk p3 half (q2 &&& (4611686018427387903 : Int64)))), .second, .unset, .unset, .unset, .unset] [])) _
        refine XS.iconst X0.here hx rfl (hb hby at_111) ?_
        show Steps p.tables e below (s₁.setTop (mkF m 112 #[.val (.long q0), .second, .val (.long q1), .second, .val (.long q2), .second, .val (.int p3), .val (.long lim), .second, .val (.long (4611686018427387903 : Int64)), .second, .val (.long half), .second, .val (.int (p3 &&& (3 : Int32))), .val (.long chs), .second, .val (.long (own_tk p3 half (q2 &&& (4611686018427387903 : Int64)))), .second, .unset, .unset, .unset, .unset] [(.int (1 : Int32))])) _
        refine XS.goto X0.here hx rfl (pc0 := 112) (pc' := 116) rfl (hb hby at_112) (by decide) (by decide) ?_
        show Steps p.tables e below (s₁.setTop (mkF m 116 #[.val (.long q0), .second, .val (.long q1), .second, .val (.long q2), .second, .val (.int p3), .val (.long lim), .second, .val (.long (4611686018427387903 : Int64)), .second, .val (.long half), .second, .val (.int (p3 &&& (3 : Int32))), .val (.long chs), .second, .val (.long (own_tk p3 half (q2 &&& (4611686018427387903 : Int64)))), .second, .unset, .unset, .unset, .unset] [(.int (1 : Int32))])) _
        refine XS.istore X0.here hx rfl (hb hby at_116) rfl (l' := #[.val (.long q0), .second, .val (.long q1), .second, .val (.long q2), .second, .val (.int p3), .val (.long lim), .second, .val (.long (4611686018427387903 : Int64)), .second, .val (.long half), .second, .val (.int (p3 &&& (3 : Int32))), .val (.long chs), .second, .val (.long (own_tk p3 half (q2 &&& (4611686018427387903 : Int64)))), .second, .val (.int (1 : Int32)), .unset, .unset, .unset]) rfl ?_
        rw [show (own_exp half chs) = (1 : Int32) from by unfold own_exp; rw [if_neg hc108]] at kt
        exact kt
    obtain ⟨T10, h10, X10, e10, E10, A10, D10, U10, st10⟩ := newO X0 hx hZ hown (hw _ (List.mem_of_getElem? (i := 7) rfl)) (hw _ (List.mem_of_getElem? (i := 8) rfl)) (hw _ (List.mem_of_getElem? (i := 9) rfl)) e0 (g := (mkF m 118 #[.val (.long q0), .second, .val (.long q1), .second, .val (.long q2), .second, .val (.int p3), .val (.long lim), .second, .val (.long (4611686018427387903 : Int64)), .second, .val (.long half), .second, .val (.int (p3 &&& (3 : Int32))), .val (.long chs), .second, .val (.long (own_tk p3 half (q2 &&& (4611686018427387903 : Int64)))), .second, .val (.int (own_exp half chs)), .unset, .unset, .unset] [])) rfl (hb hby at_118) (by decide) (by decide)
    obtain ⟨b10, g10⟩ : ∃ z, z = h0.size := ⟨_, rfl⟩
    rw [← g10] at A10 D10 U10 st10
    have g_b10 : n0 ≤ b10 := Nat.le_trans Z0 (Nat.le_of_eq g10.symm)
    have sz_b10 : h0.size ≤ b10 := Nat.le_trans (Keep.refl h0 []).1 (Nat.le_of_eq g10.symm)
    have Un10 : Unt h10 b10 := U10
    have F10_texts : Fld Z h10 b10 "com/example/href/href/text/KeptRoom" "texts" "Lcom/example/href/href/text/KeptRoom$Room;" .null := D10 (Or.inr (hw _ (List.mem_of_getElem? (i := 28) rfl))) (ty := (.object "com/example/href/href/text/KeptRoom$Room")) (by decide)
    have F10_records : Fld Z h10 b10 "com/example/href/href/text/KeptRoom" "records" "Lcom/example/href/href/text/KeptRoom$Room;" .null := D10 (Or.inr (hw _ (List.mem_of_getElem? (i := 30) rfl))) (ty := (.object "com/example/href/href/text/KeptRoom$Room")) (by decide)
    have c11 : ∀ t, Steps p.tables e below (T10.setTop (mkF m 125 #[.val (.long q0), .second, .val (.long q1), .second, .val (.long q2), .second, .val (.int p3), .val (.long lim), .second, .val (.long (4611686018427387903 : Int64)), .second, .val (.long half), .second, .val (.int (p3 &&& (3 : Int32))), .val (.long chs), .second, .val (.long (own_tk p3 half (q2 &&& (4611686018427387903 : Int64)))), .second, .val (.int (own_exp half chs)), .unset, .unset, .unset] [(.long (0 : Int64)), (.long lim), (.ref b10), (.ref b10)])) t → Steps p.tables e below (T10.setTop (mkF m 121 #[.val (.long q0), .second, .val (.long q1), .second, .val (.long q2), .second, .val (.int p3), .val (.long lim), .second, .val (.long (4611686018427387903 : Int64)), .second, .val (.long half), .second, .val (.int (p3 &&& (3 : Int32))), .val (.long chs), .second, .val (.long (own_tk p3 half (q2 &&& (4611686018427387903 : Int64)))), .second, .val (.int (own_exp half chs)), .unset, .unset, .unset] [(.ref b10)])) t := by
      intro t kt
      show Steps p.tables e below (T10.setTop (mkF m 121 #[.val (.long q0), .second, .val (.long q1), .second, .val (.long q2), .second, .val (.int p3), .val (.long lim), .second, .val (.long (4611686018427387903 : Int64)), .second, .val (.long half), .second, .val (.int (p3 &&& (3 : Int32))), .val (.long chs), .second, .val (.long (own_tk p3 half (q2 &&& (4611686018427387903 : Int64)))), .second, .val (.int (own_exp half chs)), .unset, .unset, .unset] [(.ref b10)])) _
      refine XS.dup X10.here hx rfl (hb hby at_121) rfl rfl ?_
      show Steps p.tables e below (T10.setTop (mkF m 122 #[.val (.long q0), .second, .val (.long q1), .second, .val (.long q2), .second, .val (.int p3), .val (.long lim), .second, .val (.long (4611686018427387903 : Int64)), .second, .val (.long half), .second, .val (.int (p3 &&& (3 : Int32))), .val (.long chs), .second, .val (.long (own_tk p3 half (q2 &&& (4611686018427387903 : Int64)))), .second, .val (.int (own_exp half chs)), .unset, .unset, .unset] [(.ref b10), (.ref b10)])) _
      refine XS.lload X10.here hx rfl (hb hby at_122) rfl ?_
      show Steps p.tables e below (T10.setTop (mkF m 124 #[.val (.long q0), .second, .val (.long q1), .second, .val (.long q2), .second, .val (.int p3), .val (.long lim), .second, .val (.long (4611686018427387903 : Int64)), .second, .val (.long half), .second, .val (.int (p3 &&& (3 : Int32))), .val (.long chs), .second, .val (.long (own_tk p3 half (q2 &&& (4611686018427387903 : Int64)))), .second, .val (.int (own_exp half chs)), .unset, .unset, .unset] [(.long lim), (.ref b10), (.ref b10)])) _
      refine XS.lconst X10.here hx rfl (hb hby at_124) ?_
      exact kt
    have f12 := (Nat.le_trans Z0 E10.1)
    obtain ⟨_, _, ⟨T13, L13, k13, n13⟩, -, X13, ⟨Lc13, hQ13, l13, y13, z13⟩, st13⟩ := X10.specialBack hx (y := (⟨"com/example/href/href/text/KeptRoom", "<init>", "(JJ)V"⟩ : MethodName)) rfl hown (mvT hZ (hw _ (List.mem_of_getElem? (i := 10) rfl))) (mvT hZ (hw _ (List.mem_of_getElem? (i := 11) rfl))) (mvT hZ (hw _ (List.mem_of_getElem? (i := 12) rfl))) (by decide) (backOf (W := 1) (rm2 l Z a0 hw [] b10 lim (0 : Int64)  h10 n0 f12 F10_texts F10_records A10 g_b10) hZ (hw _ (List.mem_of_getElem? (i := 12) rfl)) (hw _ (List.mem_of_getElem? (i := 9) rfl)) (by decide) (by decide)) (g := (mkF m 125 #[.val (.long q0), .second, .val (.long q1), .second, .val (.long q2), .second, .val (.int p3), .val (.long lim), .second, .val (.long (4611686018427387903 : Int64)), .second, .val (.long half), .second, .val (.int (p3 &&& (3 : Int32))), .val (.long chs), .second, .val (.long (own_tk p3 half (q2 &&& (4611686018427387903 : Int64)))), .second, .val (.int (own_exp half chs)), .unset, .unset, .unset] [(.long (0 : Int64)), (.long lim), (.ref b10), (.ref b10)])) rfl (by rw [hml]; rfl) (Steps.refl _) (a := b10) (argsL := [(.long lim), (.long (0 : Int64))]) (rest := [(.ref b10)]) (lenOf pd_3 rfl) rfl (by show 2 * 0 + _ ≤ _; exact Nat.le_of_eq rfl) (hb hby at_125) (fun _ _ => ⟨rfl, e10, (by decide : 1 + 2 ≤ _), (by decide : 3 + 4 ≤ _)⟩)
    dsimp only [Pt.U, Pt.locs, Pt.cells, Pt.slots] at X13 l13 y13 z13 st13 hQ13
    subst l13 y13 z13
    obtain ⟨ot13, rfl, N13q, Kq13, Eq13, Fq13, g_ot13, Et13, Fl13, Ff13, Uq13⟩ := hQ13
    have N13 := Fr.app N0 N13q
    have ne13 : b10 ≠ ot13 := ne_exa Eq13 Et13 (by decide)
    have c14 : ∀ t, Steps p.tables e below (T13.setTop (mkF m 134 #[.val (.long q0), .second, .val (.long q1), .second, .val (.long q2), .second, .val (.int p3), .val (.long lim), .second, .val (.long (4611686018427387903 : Int64)), .second, .val (.long half), .second, .val (.int (p3 &&& (3 : Int32))), .val (.long chs), .second, .val (.long (own_tk p3 half (q2 &&& (4611686018427387903 : Int64)))), .second, .val (.int (own_exp half chs)), .val (.ref b10), .unset, .unset] [(.long chs), (.ref b10)])) t → Steps p.tables e below (T13.setTop (mkF m 128 #[.val (.long q0), .second, .val (.long q1), .second, .val (.long q2), .second, .val (.int p3), .val (.long lim), .second, .val (.long (4611686018427387903 : Int64)), .second, .val (.long half), .second, .val (.int (p3 &&& (3 : Int32))), .val (.long chs), .second, .val (.long (own_tk p3 half (q2 &&& (4611686018427387903 : Int64)))), .second, .val (.int (own_exp half chs)), .unset, .unset, .unset] [(.ref b10)])) t := by
      intro t kt
      show Steps p.tables e below (T13.setTop (mkF m 128 #[.val (.long q0), .second, .val (.long q1), .second, .val (.long q2), .second, .val (.int p3), .val (.long lim), .second, .val (.long (4611686018427387903 : Int64)), .second, .val (.long half), .second, .val (.int (p3 &&& (3 : Int32))), .val (.long chs), .second, .val (.long (own_tk p3 half (q2 &&& (4611686018427387903 : Int64)))), .second, .val (.int (own_exp half chs)), .unset, .unset, .unset] [(.ref b10)])) _
      refine XS.astore X13.here hx rfl (hb hby at_128) rfl rfl (l' := #[.val (.long q0), .second, .val (.long q1), .second, .val (.long q2), .second, .val (.int p3), .val (.long lim), .second, .val (.long (4611686018427387903 : Int64)), .second, .val (.long half), .second, .val (.int (p3 &&& (3 : Int32))), .val (.long chs), .second, .val (.long (own_tk p3 half (q2 &&& (4611686018427387903 : Int64)))), .second, .val (.int (own_exp half chs)), .val (.ref b10), .unset, .unset]) rfl ?_
      show Steps p.tables e below (T13.setTop (mkF m 130 #[.val (.long q0), .second, .val (.long q1), .second, .val (.long q2), .second, .val (.int p3), .val (.long lim), .second, .val (.long (4611686018427387903 : Int64)), .second, .val (.long half), .second, .val (.int (p3 &&& (3 : Int32))), .val (.long chs), .second, .val (.long (own_tk p3 half (q2 &&& (4611686018427387903 : Int64)))), .second, .val (.int (own_exp half chs)), .val (.ref b10), .unset, .unset] [])) _
      refine XS.aload X13.here hx rfl (hb hby at_130) rfl rfl ?_
      show Steps p.tables e below (T13.setTop (mkF m 132 #[.val (.long q0), .second, .val (.long q1), .second, .val (.long q2), .second, .val (.int p3), .val (.long lim), .second, .val (.long (4611686018427387903 : Int64)), .second, .val (.long half), .second, .val (.int (p3 &&& (3 : Int32))), .val (.long chs), .second, .val (.long (own_tk p3 half (q2 &&& (4611686018427387903 : Int64)))), .second, .val (.int (own_exp half chs)), .val (.ref b10), .unset, .unset] [(.ref b10)])) _
      refine XS.lload X13.here hx rfl (hb hby at_132) rfl ?_
      exact kt
    have f15 := (Nat.le_trans f12 Kq13.1)
    obtain ⟨cq16, kq16, q16a, q16b, q16c⟩ := isOf hZ rfl Eq13
    obtain ⟨_, _, ⟨T17, L17, k17, n17⟩, -, X17, ⟨Lc17, hQ17, l17, y17, z17⟩, st17⟩ := X13.virtualBack hx (y := (⟨"com/example/href/href/text/KeptRoom", "fitsKeepLimit", "(J)Z"⟩ : MethodName)) (z := (⟨"com/example/href/href/text/KeptRoom", "fitsKeepLimit", "(J)Z"⟩ : MethodName)) hown (mvT hZ (hw _ (List.mem_of_getElem? (i := 31) rfl))) (mvT hZ (hw _ (List.mem_of_getElem? (i := 32) rfl))) (notFace_of_selects (args := #[]) (mvT hZ (hw _ (List.mem_of_getElem? (i := 34) rfl)))) (mvT hZ (hw _ (List.mem_of_getElem? (i := 34) rfl))) (mvT hZ (hw _ (List.mem_of_getElem? (i := 33) rfl))) (by decide) (backOf (W := 0) (rm5 l Z a0 hw [] b10 chs ot13 lim T13.heap n0 f15 Fq13 Fl13) hZ (hw _ (List.mem_of_getElem? (i := 35) rfl)) (hw _ (List.mem_of_getElem? (i := 9) rfl)) (by decide) (by decide)) q16a q16c (g := (mkF m 134 #[.val (.long q0), .second, .val (.long q1), .second, .val (.long q2), .second, .val (.int p3), .val (.long lim), .second, .val (.long (4611686018427387903 : Int64)), .second, .val (.long half), .second, .val (.int (p3 &&& (3 : Int32))), .val (.long chs), .second, .val (.long (own_tk p3 half (q2 &&& (4611686018427387903 : Int64)))), .second, .val (.int (own_exp half chs)), .val (.ref b10), .unset, .unset] [(.long chs), (.ref b10)])) rfl (by rw [hml]; rfl) (Steps.refl _) (argsL := [(.long chs)]) (rest := []) (lenOf pd_2 rfl) rfl (by show 2 * 0 + _ ≤ _; exact Nat.le_of_eq rfl) (hb hby at_134) (fun _ _ => ⟨rfl, rfl, (by decide : 3 + 0 ≤ _), (by decide : 7 + 0 ≤ _)⟩)
    dsimp only [Pt.U, Pt.locs, Pt.cells, Pt.slots] at X17 l17 y17 z17 st17 hQ17
    subst l17 y17 z17
    obtain ⟨rfl, N17q, e17⟩ := hQ17
    have N17 := Fr.app N13 N17q
    have c18 : ∀ t, Steps p.tables e below (T17.setTop (mkF m 143 #[.val (.long q0), .second, .val (.long q1), .second, .val (.long q2), .second, .val (.int p3), .val (.long lim), .second, .val (.long (4611686018427387903 : Int64)), .second, .val (.long half), .second, .val (.int (p3 &&& (3 : Int32))), .val (.long chs), .second, .val (.long (own_tk p3 half (q2 &&& (4611686018427387903 : Int64)))), .second, .val (.int (own_exp half chs)), .val (.ref b10), .val (.int (own_fit lim ((2 : Int64) * chs))), .unset] [(.int (p3 &&& (4 : Int32)))])) t → Steps p.tables e below (T17.setTop (mkF m 137 #[.val (.long q0), .second, .val (.long q1), .second, .val (.long q2), .second, .val (.int p3), .val (.long lim), .second, .val (.long (4611686018427387903 : Int64)), .second, .val (.long half), .second, .val (.int (p3 &&& (3 : Int32))), .val (.long chs), .second, .val (.long (own_tk p3 half (q2 &&& (4611686018427387903 : Int64)))), .second, .val (.int (own_exp half chs)), .val (.ref b10), .unset, .unset] [(.int (own_fit lim ((2 : Int64) * chs)))])) t := by
      intro t kt
      show Steps p.tables e below (T17.setTop (mkF m 137 #[.val (.long q0), .second, .val (.long q1), .second, .val (.long q2), .second, .val (.int p3), .val (.long lim), .second, .val (.long (4611686018427387903 : Int64)), .second, .val (.long half), .second, .val (.int (p3 &&& (3 : Int32))), .val (.long chs), .second, .val (.long (own_tk p3 half (q2 &&& (4611686018427387903 : Int64)))), .second, .val (.int (own_exp half chs)), .val (.ref b10), .unset, .unset] [(.int (own_fit lim ((2 : Int64) * chs)))])) _
      refine XS.istore X17.here hx rfl (hb hby at_137) rfl (l' := #[.val (.long q0), .second, .val (.long q1), .second, .val (.long q2), .second, .val (.int p3), .val (.long lim), .second, .val (.long (4611686018427387903 : Int64)), .second, .val (.long half), .second, .val (.int (p3 &&& (3 : Int32))), .val (.long chs), .second, .val (.long (own_tk p3 half (q2 &&& (4611686018427387903 : Int64)))), .second, .val (.int (own_exp half chs)), .val (.ref b10), .val (.int (own_fit lim ((2 : Int64) * chs))), .unset]) rfl ?_
      show Steps p.tables e below (T17.setTop (mkF m 139 #[.val (.long q0), .second, .val (.long q1), .second, .val (.long q2), .second, .val (.int p3), .val (.long lim), .second, .val (.long (4611686018427387903 : Int64)), .second, .val (.long half), .second, .val (.int (p3 &&& (3 : Int32))), .val (.long chs), .second, .val (.long (own_tk p3 half (q2 &&& (4611686018427387903 : Int64)))), .second, .val (.int (own_exp half chs)), .val (.ref b10), .val (.int (own_fit lim ((2 : Int64) * chs))), .unset] [])) _
      refine XS.iload X17.here hx rfl (hb hby at_139) rfl ?_
      show Steps p.tables e below (T17.setTop (mkF m 141 #[.val (.long q0), .second, .val (.long q1), .second, .val (.long q2), .second, .val (.int p3), .val (.long lim), .second, .val (.long (4611686018427387903 : Int64)), .second, .val (.long half), .second, .val (.int (p3 &&& (3 : Int32))), .val (.long chs), .second, .val (.long (own_tk p3 half (q2 &&& (4611686018427387903 : Int64)))), .second, .val (.int (own_exp half chs)), .val (.ref b10), .val (.int (own_fit lim ((2 : Int64) * chs))), .unset] [(.int p3)])) _
      refine XS.iconst X17.here hx rfl (hb hby at_141) ?_
      show Steps p.tables e below (T17.setTop (mkF m 142 #[.val (.long q0), .second, .val (.long q1), .second, .val (.long q2), .second, .val (.int p3), .val (.long lim), .second, .val (.long (4611686018427387903 : Int64)), .second, .val (.long half), .second, .val (.int (p3 &&& (3 : Int32))), .val (.long chs), .second, .val (.long (own_tk p3 half (q2 &&& (4611686018427387903 : Int64)))), .second, .val (.int (own_exp half chs)), .val (.ref b10), .val (.int (own_fit lim ((2 : Int64) * chs))), .unset] [(.int (4 : Int32)), (.int p3)])) _
      refine XS.iand X17.here hx rfl (hb hby at_142) rfl ?_
      exact kt
    by_cases hc143 : (p3 &&& (4 : Int32)) = (0 : Int32)
    · -- it is
      have c19 : ∀ t, Steps p.tables e below (T17.setTop (mkF m 158 #[.val (.long q0), .second, .val (.long q1), .second, .val (.long q2), .second, .val (.int p3), .val (.long lim), .second, .val (.long (4611686018427387903 : Int64)), .second, .val (.long half), .second, .val (.int (p3 &&& (3 : Int32))), .val (.long chs), .second, .val (.long (own_tk p3 half (q2 &&& (4611686018427387903 : Int64)))), .second, .val (.int (own_exp half chs)), .val (.ref b10), .val (.int (own_fit lim ((2 : Int64) * chs))), .unset] [(.long chs), (.ref b10)])) t → Steps p.tables e below (T17.setTop (mkF m 143 #[.val (.long q0), .second, .val (.long q1), .second, .val (.long q2), .second, .val (.int p3), .val (.long lim), .second, .val (.long (4611686018427387903 : Int64)), .second, .val (.long half), .second, .val (.int (p3 &&& (3 : Int32))), .val (.long chs), .second, .val (.long (own_tk p3 half (q2 &&& (4611686018427387903 : Int64)))), .second, .val (.int (own_exp half chs)), .val (.ref b10), .val (.int (own_fit lim ((2 : Int64) * chs))), .unset] [(.int (p3 &&& (4 : Int32)))])) t := by
        intro t kt
        show Steps p.tables e below (T17.setTop (mkF m 143 #[.val (.long q0), .second, .val (.long q1), .second, .val (.long q2), .second, .val (.int p3), .val (.long lim), .second, .val (.long (4611686018427387903 : Int64)), .second, .val (.long half), .second, .val (.int (p3 &&& (3 : Int32))), .val (.long chs), .second, .val (.long (own_tk p3 half (q2 &&& (4611686018427387903 : Int64)))), .second, .val (.int (own_exp half chs)), .val (.ref b10), .val (.int (own_fit lim ((2 : Int64) * chs))), .unset] [(.int (p3 &&& (4 : Int32)))])) _
        refine XS.ifYes X17.here hx rfl (pc0 := 143) (pc' := 154) rfl (hb hby at_143) rfl ((if0 _ _).trans (teq hc143).1) (by decide) (by decide) ?_
        show Steps p.tables e below (T17.setTop (mkF m 154 #[.val (.long q0), .second, .val (.long q1), .second, .val (.long q2), .second, .val (.int p3), .val (.long lim), .second, .val (.long (4611686018427387903 : Int64)), .second, .val (.long half), .second, .val (.int (p3 &&& (3 : Int32))), .val (.long chs), .second, .val (.long (own_tk p3 half (q2 &&& (4611686018427387903 : Int64)))), .second, .val (.int (own_exp half chs)), .val (.ref b10), .val (.int (own_fit lim ((2 : Int64) * chs))), .unset] [])) _
        refine XS.aload X17.here hx rfl (hb hby at_154) rfl rfl ?_
        show Steps p.tables e below (T17.setTop (mkF m 156 #[.val (.long q0), .second, .val (.long q1), .second, .val (.long q2), .second, .val (.int p3), .val (.long lim), .second, .val (.long (4611686018427387903 : Int64)), .second, .val (.long half), .second, .val (.int (p3 &&& (3 : Int32))), .val (.long chs), .second, .val (.long (own_tk p3 half (q2 &&& (4611686018427387903 : Int64)))), .second, .val (.int (own_exp half chs)), .val (.ref b10), .val (.int (own_fit lim ((2 : Int64) * chs))), .unset] [(.ref b10)])) _
        refine XS.lload X17.here hx rfl (hb hby at_156) rfl ?_
        exact kt
      obtain ⟨cq20, kq20, q20a, q20b, q20c⟩ := isOf hZ e17 Eq13
      obtain ⟨_, _, ⟨T21, L21, k21, n21⟩, -, X21, ⟨Lc21, hQ21, l21, y21, z21⟩, st21⟩ := X17.virtualBack hx (y := (⟨"com/example/href/href/text/KeptRoom", "fitsKeepLimit", "(J)Z"⟩ : MethodName)) (z := (⟨"com/example/href/href/text/KeptRoom", "fitsKeepLimit", "(J)Z"⟩ : MethodName)) hown (mvT hZ (hw _ (List.mem_of_getElem? (i := 31) rfl))) (mvT hZ (hw _ (List.mem_of_getElem? (i := 32) rfl))) (notFace_of_selects (args := #[]) (mvT hZ (hw _ (List.mem_of_getElem? (i := 34) rfl)))) (mvT hZ (hw _ (List.mem_of_getElem? (i := 34) rfl))) (mvT hZ (hw _ (List.mem_of_getElem? (i := 33) rfl))) (by decide) (backOf (W := 0) (rm5 l Z a0 hw [] b10 chs ot13 lim T13.heap n0 f15 Fq13 Fl13) hZ (hw _ (List.mem_of_getElem? (i := 35) rfl)) (hw _ (List.mem_of_getElem? (i := 9) rfl)) (by decide) (by decide)) q20a q20c (g := (mkF m 158 #[.val (.long q0), .second, .val (.long q1), .second, .val (.long q2), .second, .val (.int p3), .val (.long lim), .second, .val (.long (4611686018427387903 : Int64)), .second, .val (.long half), .second, .val (.int (p3 &&& (3 : Int32))), .val (.long chs), .second, .val (.long (own_tk p3 half (q2 &&& (4611686018427387903 : Int64)))), .second, .val (.int (own_exp half chs)), .val (.ref b10), .val (.int (own_fit lim ((2 : Int64) * chs))), .unset] [(.long chs), (.ref b10)])) rfl (by rw [hml]; rfl) (Steps.refl _) (argsL := [(.long chs)]) (rest := []) (lenOf pd_2 rfl) rfl (by show 2 * 0 + _ ≤ _; exact Nat.le_of_eq rfl) (hb hby at_158) (fun _ _ => ⟨rfl, e17, (by decide : 3 + 0 ≤ _), (by decide : 7 + 0 ≤ _)⟩)
      dsimp only [Pt.U, Pt.locs, Pt.cells, Pt.slots] at X21 l21 y21 z21 st21 hQ21
      subst l21 y21 z21
      obtain ⟨rfl, N21q, e21⟩ := hQ21
      have N21 := Fr.app N17 N21q
      have c23 : ∀ t, Steps p.tables e below (T21.setTop (mkF m 167 #[.val (.long q0), .second, .val (.long q1), .second, .val (.long q2), .second, .val (.int p3), .val (.long lim), .second, .val (.long (4611686018427387903 : Int64)), .second, .val (.long half), .second, .val (.int (p3 &&& (3 : Int32))), .val (.long chs), .second, .val (.long (own_tk p3 half (q2 &&& (4611686018427387903 : Int64)))), .second, .val (.int (own_exp half chs)), .val (.ref b10), .val (.int (own_fit lim ((2 : Int64) * chs))), .val (.int (own_fit lim ((2 : Int64) * chs)))] [(.int (own_exp half chs)), (.int (own_fit lim ((2 : Int64) * chs)))])) t → Steps p.tables e below (T21.setTop (mkF m 161 #[.val (.long q0), .second, .val (.long q1), .second, .val (.long q2), .second, .val (.int p3), .val (.long lim), .second, .val (.long (4611686018427387903 : Int64)), .second, .val (.long half), .second, .val (.int (p3 &&& (3 : Int32))), .val (.long chs), .second, .val (.long (own_tk p3 half (q2 &&& (4611686018427387903 : Int64)))), .second, .val (.int (own_exp half chs)), .val (.ref b10), .val (.int (own_fit lim ((2 : Int64) * chs))), .unset] [(.int (own_fit lim ((2 : Int64) * chs)))])) t := by
        intro t kt
        show Steps p.tables e below (T21.setTop (mkF m 161 #[.val (.long q0), .second, .val (.long q1), .second, .val (.long q2), .second, .val (.int p3), .val (.long lim), .second, .val (.long (4611686018427387903 : Int64)), .second, .val (.long half), .second, .val (.int (p3 &&& (3 : Int32))), .val (.long chs), .second, .val (.long (own_tk p3 half (q2 &&& (4611686018427387903 : Int64)))), .second, .val (.int (own_exp half chs)), .val (.ref b10), .val (.int (own_fit lim ((2 : Int64) * chs))), .unset] [(.int (own_fit lim ((2 : Int64) * chs)))])) _
        refine XS.istore X21.here hx rfl (hb hby at_161) rfl (l' := #[.val (.long q0), .second, .val (.long q1), .second, .val (.long q2), .second, .val (.int p3), .val (.long lim), .second, .val (.long (4611686018427387903 : Int64)), .second, .val (.long half), .second, .val (.int (p3 &&& (3 : Int32))), .val (.long chs), .second, .val (.long (own_tk p3 half (q2 &&& (4611686018427387903 : Int64)))), .second, .val (.int (own_exp half chs)), .val (.ref b10), .val (.int (own_fit lim ((2 : Int64) * chs))), .val (.int (own_fit lim ((2 : Int64) * chs)))]) rfl ?_
        show Steps p.tables e below (T21.setTop (mkF m 163 #[.val (.long q0), .second, .val (.long q1), .second, .val (.long q2), .second, .val (.int p3), .val (.long lim), .second, .val (.long (4611686018427387903 : Int64)), .second, .val (.long half), .second, .val (.int (p3 &&& (3 : Int32))), .val (.long chs), .second, .val (.long (own_tk p3 half (q2 &&& (4611686018427387903 : Int64)))), .second, .val (.int (own_exp half chs)), .val (.ref b10), .val (.int (own_fit lim ((2 : Int64) * chs))), .val (.int (own_fit lim ((2 : Int64) * chs)))] [])) _
        refine XS.iload X21.here hx rfl (hb hby at_163) rfl ?_
        show Steps p.tables e below (T21.setTop (mkF m 165 #[.val (.long q0), .second, .val (.long q1), .second, .val (.long q2), .second, .val (.int p3), .val (.long lim), .second, .val (.long (4611686018427387903 : Int64)), .second, .val (.long half), .second, .val (.int (p3 &&& (3 : Int32))), .val (.long chs), .second, .val (.long (own_tk p3 half (q2 &&& (4611686018427387903 : Int64)))), .second, .val (.int (own_exp half chs)), .val (.ref b10), .val (.int (own_fit lim ((2 : Int64) * chs))), .val (.int (own_fit lim ((2 : Int64) * chs)))] [(.int (own_fit lim ((2 : Int64) * chs)))])) _
        refine XS.iload X21.here hx rfl (hb hby at_165) rfl ?_
        exact kt
      have hd22 : (own_fit lim ((2 : Int64) * chs)) = (own_exp half chs) := own_eq lim half chs hl0 hh hc.1 hc.2
      have c25 : ∀ t, Steps p.tables e below (T21.setTop (mkF m 174 #[.val (.long q0), .second, .val (.long q1), .second, .val (.long q2), .second, .val (.int p3), .val (.long lim), .second, .val (.long (4611686018427387903 : Int64)), .second, .val (.long half), .second, .val (.int (p3 &&& (3 : Int32))), .val (.long chs), .second, .val (.long (own_tk p3 half (q2 &&& (4611686018427387903 : Int64)))), .second, .val (.int (own_exp half chs)), .val (.ref b10), .val (.int (own_fit lim ((2 : Int64) * chs))), .val (.int (own_fit lim ((2 : Int64) * chs)))] [(.int (own_exp half chs)), (.int (own_fit lim ((2 : Int64) * chs)))])) t → Steps p.tables e below (T21.setTop (mkF m 167 #[.val (.long q0), .second, .val (.long q1), .second, .val (.long q2), .second, .val (.int p3), .val (.long lim), .second, .val (.long (4611686018427387903 : Int64)), .second, .val (.long half), .second, .val (.int (p3 &&& (3 : Int32))), .val (.long chs), .second, .val (.long (own_tk p3 half (q2 &&& (4611686018427387903 : Int64)))), .second, .val (.int (own_exp half chs)), .val (.ref b10), .val (.int (own_fit lim ((2 : Int64) * chs))), .val (.int (own_fit lim ((2 : Int64) * chs)))] [(.int (own_exp half chs)), (.int (own_fit lim ((2 : Int64) * chs)))])) t := by
        intro t kt
        show Steps p.tables e below (T21.setTop (mkF m 167 #[.val (.long q0), .second, .val (.long q1), .second, .val (.long q2), .second, .val (.int p3), .val (.long lim), .second, .val (.long (4611686018427387903 : Int64)), .second, .val (.long half), .second, .val (.int (p3 &&& (3 : Int32))), .val (.long chs), .second, .val (.long (own_tk p3 half (q2 &&& (4611686018427387903 : Int64)))), .second, .val (.int (own_exp half chs)), .val (.ref b10), .val (.int (own_fit lim ((2 : Int64) * chs))), .val (.int (own_fit lim ((2 : Int64) * chs)))] [(.int (own_exp half chs)), (.int (own_fit lim ((2 : Int64) * chs)))])) _
        refine XS.icmpNo X21.here hx rfl (hb hby at_167) rfl (teq (hd22)).2 ?_
        show Steps p.tables e below (T21.setTop (mkF m 170 #[.val (.long q0), .second, .val (.long q1), .second, .val (.long q2), .second, .val (.int p3), .val (.long lim), .second, .val (.long (4611686018427387903 : Int64)), .second, .val (.long half), .second, .val (.int (p3 &&& (3 : Int32))), .val (.long chs), .second, .val (.long (own_tk p3 half (q2 &&& (4611686018427387903 : Int64)))), .second, .val (.int (own_exp half chs)), .val (.ref b10), .val (.int (own_fit lim ((2 : Int64) * chs))), .val (.int (own_fit lim ((2 : Int64) * chs)))] [])) _
        refine XS.iload X21.here hx rfl (hb hby at_170) rfl ?_
        show Steps p.tables e below (T21.setTop (mkF m 172 #[.val (.long q0), .second, .val (.long q1), .second, .val (.long q2), .second, .val (.int p3), .val (.long lim), .second, .val (.long (4611686018427387903 : Int64)), .second, .val (.long half), .second, .val (.int (p3 &&& (3 : Int32))), .val (.long chs), .second, .val (.long (own_tk p3 half (q2 &&& (4611686018427387903 : Int64)))), .second, .val (.int (own_exp half chs)), .val (.ref b10), .val (.int (own_fit lim ((2 : Int64) * chs))), .val (.int (own_fit lim ((2 : Int64) * chs)))] [(.int (own_fit lim ((2 : Int64) * chs)))])) _
        refine XS.iload X21.here hx rfl (hb hby at_172) rfl ?_
        exact kt
      have hd24 : (own_fit lim ((2 : Int64) * chs)) = (own_exp half chs) := own_eq lim half chs hl0 hh hc.1 hc.2
      have c26 : ∀ t, Steps p.tables e below (T21.setTop (mkF m 182 #[.val (.long q0), .second, .val (.long q1), .second, .val (.long q2), .second, .val (.int p3), .val (.long lim), .second, .val (.long (4611686018427387903 : Int64)), .second, .val (.long half), .second, .val (.int (p3 &&& (3 : Int32))), .val (.long chs), .second, .val (.long (own_tk p3 half (q2 &&& (4611686018427387903 : Int64)))), .second, .val (.int (own_exp half chs)), .val (.ref b10), .val (.int (own_fit lim ((2 : Int64) * chs))), .val (.int (own_fit lim ((2 : Int64) * chs)))] [(.int (1 : Int32))])) t → Steps p.tables e below (T21.setTop (mkF m 174 #[.val (.long q0), .second, .val (.long q1), .second, .val (.long q2), .second, .val (.int p3), .val (.long lim), .second, .val (.long (4611686018427387903 : Int64)), .second, .val (.long half), .second, .val (.int (p3 &&& (3 : Int32))), .val (.long chs), .second, .val (.long (own_tk p3 half (q2 &&& (4611686018427387903 : Int64)))), .second, .val (.int (own_exp half chs)), .val (.ref b10), .val (.int (own_fit lim ((2 : Int64) * chs))), .val (.int (own_fit lim ((2 : Int64) * chs)))] [(.int (own_exp half chs)), (.int (own_fit lim ((2 : Int64) * chs)))])) t := by
        intro t kt
        show Steps p.tables e below (T21.setTop (mkF m 174 #[.val (.long q0), .second, .val (.long q1), .second, .val (.long q2), .second, .val (.int p3), .val (.long lim), .second, .val (.long (4611686018427387903 : Int64)), .second, .val (.long half), .second, .val (.int (p3 &&& (3 : Int32))), .val (.long chs), .second, .val (.long (own_tk p3 half (q2 &&& (4611686018427387903 : Int64)))), .second, .val (.int (own_exp half chs)), .val (.ref b10), .val (.int (own_fit lim ((2 : Int64) * chs))), .val (.int (own_fit lim ((2 : Int64) * chs)))] [(.int (own_exp half chs)), (.int (own_fit lim ((2 : Int64) * chs)))])) _
        refine XS.icmpNo X21.here hx rfl (hb hby at_174) rfl (teq (hd24)).2 ?_
        show Steps p.tables e below (T21.setTop (mkF m 177 #[.val (.long q0), .second, .val (.long q1), .second, .val (.long q2), .second, .val (.int p3), .val (.long lim), .second, .val (.long (4611686018427387903 : Int64)), .second, .val (.long half), .second, .val (.int (p3 &&& (3 : Int32))), .val (.long chs), .second, .val (.long (own_tk p3 half (q2 &&& (4611686018427387903 : Int64)))), .second, .val (.int (own_exp half chs)), .val (.ref b10), .val (.int (own_fit lim ((2 : Int64) * chs))), .val (.int (own_fit lim ((2 : Int64) * chs)))] [])) _
        refine XS.iconst X21.here hx rfl (hb hby at_177) ?_
        show Steps p.tables e below (T21.setTop (mkF m 178 #[.val (.long q0), .second, .val (.long q1), .second, .val (.long q2), .second, .val (.int p3), .val (.long lim), .second, .val (.long (4611686018427387903 : Int64)), .second, .val (.long half), .second, .val (.int (p3 &&& (3 : Int32))), .val (.long chs), .second, .val (.long (own_tk p3 half (q2 &&& (4611686018427387903 : Int64)))), .second, .val (.int (own_exp half chs)), .val (.ref b10), .val (.int (own_fit lim ((2 : Int64) * chs))), .val (.int (own_fit lim ((2 : Int64) * chs)))] [(.int (1 : Int32))])) _
        refine XS.goto X21.here hx rfl (pc0 := 178) (pc' := 182) rfl (hb hby at_178) (by decide) (by decide) ?_
        exact kt
      obtain ⟨fs, hr, hrun, hended, hW, hsame⟩ := X21.leave (v := some (.int (1 : Int32))) (fun h => by rw [Bd.returns] at h; cases h)
      refine ⟨_, _, pre0 _ (c1 _ (c2 _ (c3 _ (c4 _ (c5 _ (c6 _ (c7 _ (c8 _ (c9 _ (st10 _ (c11 _ (st13.trans (c14 _ (st17.trans (c18 _ (c19 _ (st21.trans (c23 _ (c25 _ (c26 _ (?_))))))))))))))))))))), hrun, hended, _, _, rfl, ?_, ⟨_, rfl⟩, hW, hsame.mono (by decide) (by decide)⟩
      · show Steps p.tables e below (T21.setTop (mkF m 182 #[.val (.long q0), .second, .val (.long q1), .second, .val (.long q2), .second, .val (.int p3), .val (.long lim), .second, .val (.long (4611686018427387903 : Int64)), .second, .val (.long half), .second, .val (.int (p3 &&& (3 : Int32))), .val (.long chs), .second, .val (.long (own_tk p3 half (q2 &&& (4611686018427387903 : Int64)))), .second, .val (.int (own_exp half chs)), .val (.ref b10), .val (.int (own_fit lim ((2 : Int64) * chs))), .val (.int (own_fit lim ((2 : Int64) * chs)))] [(.int (1 : Int32))])) _
        exact retN X21 hx (t := .boolean) Bd.returns (by simp) (hb hby at_182) hr
      · show Q0 Z q0 q1 q2 p3 h0 n0 _ T21.heap _
        rw [e21]
        exact ⟨congrArg (fun z => some (Value.int z)) (show (1 : Int32) = (1 : Int32) from by rfl), N21⟩
    · -- it isn't
      have c28 : ∀ t, Steps p.tables e below (T17.setTop (mkF m 150 #[.val (.long q0), .second, .val (.long q1), .second, .val (.long q2), .second, .val (.int p3), .val (.long lim), .second, .val (.long (4611686018427387903 : Int64)), .second, .val (.long half), .second, .val (.int (p3 &&& (3 : Int32))), .val (.long chs), .second, .val (.long (own_tk p3 half (q2 &&& (4611686018427387903 : Int64)))), .second, .val (.int (own_exp half chs)), .val (.ref b10), .val (.int (own_fit lim ((2 : Int64) * chs))), .unset] [(.long (own_tk p3 half (q2 &&& (4611686018427387903 : Int64)))), (.ref b10)])) t → Steps p.tables e below (T17.setTop (mkF m 143 #[.val (.long q0), .second, .val (.long q1), .second, .val (.long q2), .second, .val (.int p3), .val (.long lim), .second, .val (.long (4611686018427387903 : Int64)), .second, .val (.long half), .second, .val (.int (p3 &&& (3 : Int32))), .val (.long chs), .second, .val (.long (own_tk p3 half (q2 &&& (4611686018427387903 : Int64)))), .second, .val (.int (own_exp half chs)), .val (.ref b10), .val (.int (own_fit lim ((2 : Int64) * chs))), .unset] [(.int (p3 &&& (4 : Int32)))])) t := by
        intro t kt
        show Steps p.tables e below (T17.setTop (mkF m 143 #[.val (.long q0), .second, .val (.long q1), .second, .val (.long q2), .second, .val (.int p3), .val (.long lim), .second, .val (.long (4611686018427387903 : Int64)), .second, .val (.long half), .second, .val (.int (p3 &&& (3 : Int32))), .val (.long chs), .second, .val (.long (own_tk p3 half (q2 &&& (4611686018427387903 : Int64)))), .second, .val (.int (own_exp half chs)), .val (.ref b10), .val (.int (own_fit lim ((2 : Int64) * chs))), .unset] [(.int (p3 &&& (4 : Int32)))])) _
        refine XS.ifNo X17.here hx rfl (hb hby at_143) rfl ((if0 _ _).trans (feq hc143).1) ?_
        show Steps p.tables e below (T17.setTop (mkF m 146 #[.val (.long q0), .second, .val (.long q1), .second, .val (.long q2), .second, .val (.int p3), .val (.long lim), .second, .val (.long (4611686018427387903 : Int64)), .second, .val (.long half), .second, .val (.int (p3 &&& (3 : Int32))), .val (.long chs), .second, .val (.long (own_tk p3 half (q2 &&& (4611686018427387903 : Int64)))), .second, .val (.int (own_exp half chs)), .val (.ref b10), .val (.int (own_fit lim ((2 : Int64) * chs))), .unset] [])) _
        refine XS.aload X17.here hx rfl (hb hby at_146) rfl rfl ?_
        show Steps p.tables e below (T17.setTop (mkF m 148 #[.val (.long q0), .second, .val (.long q1), .second, .val (.long q2), .second, .val (.int p3), .val (.long lim), .second, .val (.long (4611686018427387903 : Int64)), .second, .val (.long half), .second, .val (.int (p3 &&& (3 : Int32))), .val (.long chs), .second, .val (.long (own_tk p3 half (q2 &&& (4611686018427387903 : Int64)))), .second, .val (.int (own_exp half chs)), .val (.ref b10), .val (.int (own_fit lim ((2 : Int64) * chs))), .unset] [(.ref b10)])) _
        refine XS.lload X17.here hx rfl (hb hby at_148) rfl ?_
        exact kt
      obtain ⟨cq29, kq29, q29a, q29b, q29c⟩ := isOf hZ e17 Eq13
      obtain ⟨_, _, ⟨T30, L30, k30, n30⟩, -, X30, ⟨Lc30, hQ30, l30, y30, z30⟩, st30⟩ := X17.virtualBack hx (y := (⟨"com/example/href/href/text/KeptRoom", "reserveText", "(J)Z"⟩ : MethodName)) (z := (⟨"com/example/href/href/text/KeptRoom", "reserveText", "(J)Z"⟩ : MethodName)) hown (mvT hZ (hw _ (List.mem_of_getElem? (i := 41) rfl))) (mvT hZ (hw _ (List.mem_of_getElem? (i := 42) rfl))) (notFace_of_selects (args := #[]) (mvT hZ (hw _ (List.mem_of_getElem? (i := 44) rfl)))) (mvT hZ (hw _ (List.mem_of_getElem? (i := 44) rfl))) (mvT hZ (hw _ (List.mem_of_getElem? (i := 43) rfl))) (by decide) (backOf (W := 0) (rm7 l Z a0 hw [] b10 (own_tk p3 half (q2 &&& (4611686018427387903 : Int64))) ot13 lim lim T13.heap n0 f15 Fq13 Fl13 Ff13 Et13 g_ot13 Uq13) hZ (hw _ (List.mem_of_getElem? (i := 45) rfl)) (hw _ (List.mem_of_getElem? (i := 9) rfl)) (by decide) (by decide)) q29a q29c (g := (mkF m 150 #[.val (.long q0), .second, .val (.long q1), .second, .val (.long q2), .second, .val (.int p3), .val (.long lim), .second, .val (.long (4611686018427387903 : Int64)), .second, .val (.long half), .second, .val (.int (p3 &&& (3 : Int32))), .val (.long chs), .second, .val (.long (own_tk p3 half (q2 &&& (4611686018427387903 : Int64)))), .second, .val (.int (own_exp half chs)), .val (.ref b10), .val (.int (own_fit lim ((2 : Int64) * chs))), .unset] [(.long (own_tk p3 half (q2 &&& (4611686018427387903 : Int64)))), (.ref b10)])) rfl (by rw [hml]; rfl) (Steps.refl _) (argsL := [(.long (own_tk p3 half (q2 &&& (4611686018427387903 : Int64))))]) (rest := []) (lenOf pd_2 rfl) rfl (by show 2 * 0 + _ ≤ _; exact Nat.le_of_eq rfl) (hb hby at_150) (fun _ _ => ⟨rfl, e17, (by decide : 3 + 0 ≤ _), (by decide : 7 + 0 ≤ _)⟩)
      dsimp only [Pt.U, Pt.locs, Pt.cells, Pt.slots] at X30 l30 y30 z30 st30 hQ30
      subst l30 y30 z30
      obtain ⟨zr30, rfl, N30q, Kq30, Fq30⟩ := hQ30
      have N30 := Fr.app N17 N30q
      have c31 : ∀ t, Steps p.tables e below (T30.setTop (mkF m 158 #[.val (.long q0), .second, .val (.long q1), .second, .val (.long q2), .second, .val (.int p3), .val (.long lim), .second, .val (.long (4611686018427387903 : Int64)), .second, .val (.long half), .second, .val (.int (p3 &&& (3 : Int32))), .val (.long chs), .second, .val (.long (own_tk p3 half (q2 &&& (4611686018427387903 : Int64)))), .second, .val (.int (own_exp half chs)), .val (.ref b10), .val (.int (own_fit lim ((2 : Int64) * chs))), .unset] [(.long chs), (.ref b10)])) t → Steps p.tables e below (T30.setTop (mkF m 153 #[.val (.long q0), .second, .val (.long q1), .second, .val (.long q2), .second, .val (.int p3), .val (.long lim), .second, .val (.long (4611686018427387903 : Int64)), .second, .val (.long half), .second, .val (.int (p3 &&& (3 : Int32))), .val (.long chs), .second, .val (.long (own_tk p3 half (q2 &&& (4611686018427387903 : Int64)))), .second, .val (.int (own_exp half chs)), .val (.ref b10), .val (.int (own_fit lim ((2 : Int64) * chs))), .unset] [(.int zr30)])) t := by
        intro t kt
        show Steps p.tables e below (T30.setTop (mkF m 153 #[.val (.long q0), .second, .val (.long q1), .second, .val (.long q2), .second, .val (.int p3), .val (.long lim), .second, .val (.long (4611686018427387903 : Int64)), .second, .val (.long half), .second, .val (.int (p3 &&& (3 : Int32))), .val (.long chs), .second, .val (.long (own_tk p3 half (q2 &&& (4611686018427387903 : Int64)))), .second, .val (.int (own_exp half chs)), .val (.ref b10), .val (.int (own_fit lim ((2 : Int64) * chs))), .unset] [(.int zr30)])) _
        refine XS.pop X30.here hx rfl (hb hby at_153) rfl rfl ?_
        show Steps p.tables e below (T30.setTop (mkF m 154 #[.val (.long q0), .second, .val (.long q1), .second, .val (.long q2), .second, .val (.int p3), .val (.long lim), .second, .val (.long (4611686018427387903 : Int64)), .second, .val (.long half), .second, .val (.int (p3 &&& (3 : Int32))), .val (.long chs), .second, .val (.long (own_tk p3 half (q2 &&& (4611686018427387903 : Int64)))), .second, .val (.int (own_exp half chs)), .val (.ref b10), .val (.int (own_fit lim ((2 : Int64) * chs))), .unset] [])) _
        refine XS.aload X30.here hx rfl (hb hby at_154) rfl rfl ?_
        show Steps p.tables e below (T30.setTop (mkF m 156 #[.val (.long q0), .second, .val (.long q1), .second, .val (.long q2), .second, .val (.int p3), .val (.long lim), .second, .val (.long (4611686018427387903 : Int64)), .second, .val (.long half), .second, .val (.int (p3 &&& (3 : Int32))), .val (.long chs), .second, .val (.long (own_tk p3 half (q2 &&& (4611686018427387903 : Int64)))), .second, .val (.int (own_exp half chs)), .val (.ref b10), .val (.int (own_fit lim ((2 : Int64) * chs))), .unset] [(.ref b10)])) _
        refine XS.lload X30.here hx rfl (hb hby at_156) rfl ?_
        exact kt
      have f32 := (Nat.le_trans f15 Kq30.1)
      have f33 := (Fq13.keep Kq30 (ninS ne13 nin0))
      have f34 := (Eq13.keep Kq30)
      obtain ⟨cq35, kq35, q35a, q35b, q35c⟩ := isOf hZ rfl f34
      obtain ⟨_, _, ⟨T36, L36, k36, n36⟩, -, X36, ⟨Lc36, hQ36, l36, y36, z36⟩, st36⟩ := X30.virtualBack hx (y := (⟨"com/example/href/href/text/KeptRoom", "fitsKeepLimit", "(J)Z"⟩ : MethodName)) (z := (⟨"com/example/href/href/text/KeptRoom", "fitsKeepLimit", "(J)Z"⟩ : MethodName)) hown (mvT hZ (hw _ (List.mem_of_getElem? (i := 31) rfl))) (mvT hZ (hw _ (List.mem_of_getElem? (i := 32) rfl))) (notFace_of_selects (args := #[]) (mvT hZ (hw _ (List.mem_of_getElem? (i := 34) rfl)))) (mvT hZ (hw _ (List.mem_of_getElem? (i := 34) rfl))) (mvT hZ (hw _ (List.mem_of_getElem? (i := 33) rfl))) (by decide) (backOf (W := 0) (rm5 l Z a0 hw [] b10 chs ot13 lim T30.heap n0 f32 f33 Fq30) hZ (hw _ (List.mem_of_getElem? (i := 35) rfl)) (hw _ (List.mem_of_getElem? (i := 9) rfl)) (by decide) (by decide)) q35a q35c (g := (mkF m 158 #[.val (.long q0), .second, .val (.long q1), .second, .val (.long q2), .second, .val (.int p3), .val (.long lim), .second, .val (.long (4611686018427387903 : Int64)), .second, .val (.long half), .second, .val (.int (p3 &&& (3 : Int32))), .val (.long chs), .second, .val (.long (own_tk p3 half (q2 &&& (4611686018427387903 : Int64)))), .second, .val (.int (own_exp half chs)), .val (.ref b10), .val (.int (own_fit lim ((2 : Int64) * chs))), .unset] [(.long chs), (.ref b10)])) rfl (by rw [hml]; rfl) (Steps.refl _) (argsL := [(.long chs)]) (rest := []) (lenOf pd_2 rfl) rfl (by show 2 * 0 + _ ≤ _; exact Nat.le_of_eq rfl) (hb hby at_158) (fun _ _ => ⟨rfl, rfl, (by decide : 3 + 0 ≤ _), (by decide : 7 + 0 ≤ _)⟩)
      dsimp only [Pt.U, Pt.locs, Pt.cells, Pt.slots] at X36 l36 y36 z36 st36 hQ36
      subst l36 y36 z36
      obtain ⟨rfl, N36q, e36⟩ := hQ36
      have N36 := Fr.app N30 N36q
      have c38 : ∀ t, Steps p.tables e below (T36.setTop (mkF m 167 #[.val (.long q0), .second, .val (.long q1), .second, .val (.long q2), .second, .val (.int p3), .val (.long lim), .second, .val (.long (4611686018427387903 : Int64)), .second, .val (.long half), .second, .val (.int (p3 &&& (3 : Int32))), .val (.long chs), .second, .val (.long (own_tk p3 half (q2 &&& (4611686018427387903 : Int64)))), .second, .val (.int (own_exp half chs)), .val (.ref b10), .val (.int (own_fit lim ((2 : Int64) * chs))), .val (.int (own_fit lim ((2 : Int64) * chs)))] [(.int (own_exp half chs)), (.int (own_fit lim ((2 : Int64) * chs)))])) t → Steps p.tables e below (T36.setTop (mkF m 161 #[.val (.long q0), .second, .val (.long q1), .second, .val (.long q2), .second, .val (.int p3), .val (.long lim), .second, .val (.long (4611686018427387903 : Int64)), .second, .val (.long half), .second, .val (.int (p3 &&& (3 : Int32))), .val (.long chs), .second, .val (.long (own_tk p3 half (q2 &&& (4611686018427387903 : Int64)))), .second, .val (.int (own_exp half chs)), .val (.ref b10), .val (.int (own_fit lim ((2 : Int64) * chs))), .unset] [(.int (own_fit lim ((2 : Int64) * chs)))])) t := by
        intro t kt
        show Steps p.tables e below (T36.setTop (mkF m 161 #[.val (.long q0), .second, .val (.long q1), .second, .val (.long q2), .second, .val (.int p3), .val (.long lim), .second, .val (.long (4611686018427387903 : Int64)), .second, .val (.long half), .second, .val (.int (p3 &&& (3 : Int32))), .val (.long chs), .second, .val (.long (own_tk p3 half (q2 &&& (4611686018427387903 : Int64)))), .second, .val (.int (own_exp half chs)), .val (.ref b10), .val (.int (own_fit lim ((2 : Int64) * chs))), .unset] [(.int (own_fit lim ((2 : Int64) * chs)))])) _
        refine XS.istore X36.here hx rfl (hb hby at_161) rfl (l' := #[.val (.long q0), .second, .val (.long q1), .second, .val (.long q2), .second, .val (.int p3), .val (.long lim), .second, .val (.long (4611686018427387903 : Int64)), .second, .val (.long half), .second, .val (.int (p3 &&& (3 : Int32))), .val (.long chs), .second, .val (.long (own_tk p3 half (q2 &&& (4611686018427387903 : Int64)))), .second, .val (.int (own_exp half chs)), .val (.ref b10), .val (.int (own_fit lim ((2 : Int64) * chs))), .val (.int (own_fit lim ((2 : Int64) * chs)))]) rfl ?_
        show Steps p.tables e below (T36.setTop (mkF m 163 #[.val (.long q0), .second, .val (.long q1), .second, .val (.long q2), .second, .val (.int p3), .val (.long lim), .second, .val (.long (4611686018427387903 : Int64)), .second, .val (.long half), .second, .val (.int (p3 &&& (3 : Int32))), .val (.long chs), .second, .val (.long (own_tk p3 half (q2 &&& (4611686018427387903 : Int64)))), .second, .val (.int (own_exp half chs)), .val (.ref b10), .val (.int (own_fit lim ((2 : Int64) * chs))), .val (.int (own_fit lim ((2 : Int64) * chs)))] [])) _
        refine XS.iload X36.here hx rfl (hb hby at_163) rfl ?_
        show Steps p.tables e below (T36.setTop (mkF m 165 #[.val (.long q0), .second, .val (.long q1), .second, .val (.long q2), .second, .val (.int p3), .val (.long lim), .second, .val (.long (4611686018427387903 : Int64)), .second, .val (.long half), .second, .val (.int (p3 &&& (3 : Int32))), .val (.long chs), .second, .val (.long (own_tk p3 half (q2 &&& (4611686018427387903 : Int64)))), .second, .val (.int (own_exp half chs)), .val (.ref b10), .val (.int (own_fit lim ((2 : Int64) * chs))), .val (.int (own_fit lim ((2 : Int64) * chs)))] [(.int (own_fit lim ((2 : Int64) * chs)))])) _
        refine XS.iload X36.here hx rfl (hb hby at_165) rfl ?_
        exact kt
      have hd37 : (own_fit lim ((2 : Int64) * chs)) = (own_exp half chs) := own_eq lim half chs hl0 hh hc.1 hc.2
      have c40 : ∀ t, Steps p.tables e below (T36.setTop (mkF m 174 #[.val (.long q0), .second, .val (.long q1), .second, .val (.long q2), .second, .val (.int p3), .val (.long lim), .second, .val (.long (4611686018427387903 : Int64)), .second, .val (.long half), .second, .val (.int (p3 &&& (3 : Int32))), .val (.long chs), .second, .val (.long (own_tk p3 half (q2 &&& (4611686018427387903 : Int64)))), .second, .val (.int (own_exp half chs)), .val (.ref b10), .val (.int (own_fit lim ((2 : Int64) * chs))), .val (.int (own_fit lim ((2 : Int64) * chs)))] [(.int (own_exp half chs)), (.int (own_fit lim ((2 : Int64) * chs)))])) t → Steps p.tables e below (T36.setTop (mkF m 167 #[.val (.long q0), .second, .val (.long q1), .second, .val (.long q2), .second, .val (.int p3), .val (.long lim), .second, .val (.long (4611686018427387903 : Int64)), .second, .val (.long half), .second, .val (.int (p3 &&& (3 : Int32))), .val (.long chs), .second, .val (.long (own_tk p3 half (q2 &&& (4611686018427387903 : Int64)))), .second, .val (.int (own_exp half chs)), .val (.ref b10), .val (.int (own_fit lim ((2 : Int64) * chs))), .val (.int (own_fit lim ((2 : Int64) * chs)))] [(.int (own_exp half chs)), (.int (own_fit lim ((2 : Int64) * chs)))])) t := by
        intro t kt
        show Steps p.tables e below (T36.setTop (mkF m 167 #[.val (.long q0), .second, .val (.long q1), .second, .val (.long q2), .second, .val (.int p3), .val (.long lim), .second, .val (.long (4611686018427387903 : Int64)), .second, .val (.long half), .second, .val (.int (p3 &&& (3 : Int32))), .val (.long chs), .second, .val (.long (own_tk p3 half (q2 &&& (4611686018427387903 : Int64)))), .second, .val (.int (own_exp half chs)), .val (.ref b10), .val (.int (own_fit lim ((2 : Int64) * chs))), .val (.int (own_fit lim ((2 : Int64) * chs)))] [(.int (own_exp half chs)), (.int (own_fit lim ((2 : Int64) * chs)))])) _
        refine XS.icmpNo X36.here hx rfl (hb hby at_167) rfl (teq (hd37)).2 ?_
        show Steps p.tables e below (T36.setTop (mkF m 170 #[.val (.long q0), .second, .val (.long q1), .second, .val (.long q2), .second, .val (.int p3), .val (.long lim), .second, .val (.long (4611686018427387903 : Int64)), .second, .val (.long half), .second, .val (.int (p3 &&& (3 : Int32))), .val (.long chs), .second, .val (.long (own_tk p3 half (q2 &&& (4611686018427387903 : Int64)))), .second, .val (.int (own_exp half chs)), .val (.ref b10), .val (.int (own_fit lim ((2 : Int64) * chs))), .val (.int (own_fit lim ((2 : Int64) * chs)))] [])) _
        refine XS.iload X36.here hx rfl (hb hby at_170) rfl ?_
        show Steps p.tables e below (T36.setTop (mkF m 172 #[.val (.long q0), .second, .val (.long q1), .second, .val (.long q2), .second, .val (.int p3), .val (.long lim), .second, .val (.long (4611686018427387903 : Int64)), .second, .val (.long half), .second, .val (.int (p3 &&& (3 : Int32))), .val (.long chs), .second, .val (.long (own_tk p3 half (q2 &&& (4611686018427387903 : Int64)))), .second, .val (.int (own_exp half chs)), .val (.ref b10), .val (.int (own_fit lim ((2 : Int64) * chs))), .val (.int (own_fit lim ((2 : Int64) * chs)))] [(.int (own_fit lim ((2 : Int64) * chs)))])) _
        refine XS.iload X36.here hx rfl (hb hby at_172) rfl ?_
        exact kt
      have hd39 : (own_fit lim ((2 : Int64) * chs)) = (own_exp half chs) := own_eq lim half chs hl0 hh hc.1 hc.2
      have c41 : ∀ t, Steps p.tables e below (T36.setTop (mkF m 182 #[.val (.long q0), .second, .val (.long q1), .second, .val (.long q2), .second, .val (.int p3), .val (.long lim), .second, .val (.long (4611686018427387903 : Int64)), .second, .val (.long half), .second, .val (.int (p3 &&& (3 : Int32))), .val (.long chs), .second, .val (.long (own_tk p3 half (q2 &&& (4611686018427387903 : Int64)))), .second, .val (.int (own_exp half chs)), .val (.ref b10), .val (.int (own_fit lim ((2 : Int64) * chs))), .val (.int (own_fit lim ((2 : Int64) * chs)))] [(.int (1 : Int32))])) t → Steps p.tables e below (T36.setTop (mkF m 174 #[.val (.long q0), .second, .val (.long q1), .second, .val (.long q2), .second, .val (.int p3), .val (.long lim), .second, .val (.long (4611686018427387903 : Int64)), .second, .val (.long half), .second, .val (.int (p3 &&& (3 : Int32))), .val (.long chs), .second, .val (.long (own_tk p3 half (q2 &&& (4611686018427387903 : Int64)))), .second, .val (.int (own_exp half chs)), .val (.ref b10), .val (.int (own_fit lim ((2 : Int64) * chs))), .val (.int (own_fit lim ((2 : Int64) * chs)))] [(.int (own_exp half chs)), (.int (own_fit lim ((2 : Int64) * chs)))])) t := by
        intro t kt
        show Steps p.tables e below (T36.setTop (mkF m 174 #[.val (.long q0), .second, .val (.long q1), .second, .val (.long q2), .second, .val (.int p3), .val (.long lim), .second, .val (.long (4611686018427387903 : Int64)), .second, .val (.long half), .second, .val (.int (p3 &&& (3 : Int32))), .val (.long chs), .second, .val (.long (own_tk p3 half (q2 &&& (4611686018427387903 : Int64)))), .second, .val (.int (own_exp half chs)), .val (.ref b10), .val (.int (own_fit lim ((2 : Int64) * chs))), .val (.int (own_fit lim ((2 : Int64) * chs)))] [(.int (own_exp half chs)), (.int (own_fit lim ((2 : Int64) * chs)))])) _
        refine XS.icmpNo X36.here hx rfl (hb hby at_174) rfl (teq (hd39)).2 ?_
        show Steps p.tables e below (T36.setTop (mkF m 177 #[.val (.long q0), .second, .val (.long q1), .second, .val (.long q2), .second, .val (.int p3), .val (.long lim), .second, .val (.long (4611686018427387903 : Int64)), .second, .val (.long half), .second, .val (.int (p3 &&& (3 : Int32))), .val (.long chs), .second, .val (.long (own_tk p3 half (q2 &&& (4611686018427387903 : Int64)))), .second, .val (.int (own_exp half chs)), .val (.ref b10), .val (.int (own_fit lim ((2 : Int64) * chs))), .val (.int (own_fit lim ((2 : Int64) * chs)))] [])) _
        refine XS.iconst X36.here hx rfl (hb hby at_177) ?_
        show Steps p.tables e below (T36.setTop (mkF m 178 #[.val (.long q0), .second, .val (.long q1), .second, .val (.long q2), .second, .val (.int p3), .val (.long lim), .second, .val (.long (4611686018427387903 : Int64)), .second, .val (.long half), .second, .val (.int (p3 &&& (3 : Int32))), .val (.long chs), .second, .val (.long (own_tk p3 half (q2 &&& (4611686018427387903 : Int64)))), .second, .val (.int (own_exp half chs)), .val (.ref b10), .val (.int (own_fit lim ((2 : Int64) * chs))), .val (.int (own_fit lim ((2 : Int64) * chs)))] [(.int (1 : Int32))])) _
        refine XS.goto X36.here hx rfl (pc0 := 178) (pc' := 182) rfl (hb hby at_178) (by decide) (by decide) ?_
        exact kt
      obtain ⟨fs, hr, hrun, hended, hW, hsame⟩ := X36.leave (v := some (.int (1 : Int32))) (fun h => by rw [Bd.returns] at h; cases h)
      refine ⟨_, _, pre0 _ (c1 _ (c2 _ (c3 _ (c4 _ (c5 _ (c6 _ (c7 _ (c8 _ (c9 _ (st10 _ (c11 _ (st13.trans (c14 _ (st17.trans (c18 _ (c28 _ (st30.trans (c31 _ (st36.trans (c38 _ (c40 _ (c41 _ (?_))))))))))))))))))))))), hrun, hended, _, _, rfl, ?_, ⟨_, rfl⟩, hW, hsame.mono (by decide) (by decide)⟩
      · show Steps p.tables e below (T36.setTop (mkF m 182 #[.val (.long q0), .second, .val (.long q1), .second, .val (.long q2), .second, .val (.int p3), .val (.long lim), .second, .val (.long (4611686018427387903 : Int64)), .second, .val (.long half), .second, .val (.int (p3 &&& (3 : Int32))), .val (.long chs), .second, .val (.long (own_tk p3 half (q2 &&& (4611686018427387903 : Int64)))), .second, .val (.int (own_exp half chs)), .val (.ref b10), .val (.int (own_fit lim ((2 : Int64) * chs))), .val (.int (own_fit lim ((2 : Int64) * chs)))] [(.int (1 : Int32))])) _
        exact retN X36 hx (t := .boolean) Bd.returns (by simp) (hb hby at_182) hr
      · show Q0 Z q0 q1 q2 p3 h0 n0 _ T36.heap _
        rw [e36]
        exact ⟨congrArg (fun z => some (Value.int z)) (show (1 : Int32) = (1 : Int32) from by rfl), N36⟩
  · -- it isn't
    have c43 : ∀ t, Steps p.tables e below (s₁.setTop (mkF m 41 #[.val (.long q0), .second, .val (.long q1), .second, .val (.long q2), .second, .val (.int p3), .val (.long lim), .second, .val (.long (4611686018427387903 : Int64)), .second, .val (.long half), .second, .val (.int (p3 &&& (3 : Int32))), .unset, .unset, .unset, .unset, .unset, .unset, .unset, .unset] [(.int (1 : Int32)), (.int (p3 &&& (3 : Int32)))])) t → Steps p.tables e below (s₁.setTop (mkF m 28 #[.val (.long q0), .second, .val (.long q1), .second, .val (.long q2), .second, .val (.int p3), .val (.long lim), .second, .val (.long (4611686018427387903 : Int64)), .second, .val (.long half), .second, .val (.int (p3 &&& (3 : Int32))), .unset, .unset, .unset, .unset, .unset, .unset, .unset, .unset] [(.int (p3 &&& (3 : Int32)))])) t := by
      intro t kt
      show Steps p.tables e below (s₁.setTop (mkF m 28 #[.val (.long q0), .second, .val (.long q1), .second, .val (.long q2), .second, .val (.int p3), .val (.long lim), .second, .val (.long (4611686018427387903 : Int64)), .second, .val (.long half), .second, .val (.int (p3 &&& (3 : Int32))), .unset, .unset, .unset, .unset, .unset, .unset, .unset, .unset] [(.int (p3 &&& (3 : Int32)))])) _
      refine XS.ifYes X0.here hx rfl (pc0 := 28) (pc' := 38) rfl (hb hby at_28) rfl ((if0 _ _).trans (feq hc28).2) (by decide) (by decide) ?_
      show Steps p.tables e below (s₁.setTop (mkF m 38 #[.val (.long q0), .second, .val (.long q1), .second, .val (.long q2), .second, .val (.int p3), .val (.long lim), .second, .val (.long (4611686018427387903 : Int64)), .second, .val (.long half), .second, .val (.int (p3 &&& (3 : Int32))), .unset, .unset, .unset, .unset, .unset, .unset, .unset, .unset] [])) _
      refine XS.iload X0.here hx rfl (hb hby at_38) rfl ?_
      show Steps p.tables e below (s₁.setTop (mkF m 40 #[.val (.long q0), .second, .val (.long q1), .second, .val (.long q2), .second, .val (.int p3), .val (.long lim), .second, .val (.long (4611686018427387903 : Int64)), .second, .val (.long half), .second, .val (.int (p3 &&& (3 : Int32))), .unset, .unset, .unset, .unset, .unset, .unset, .unset, .unset] [(.int (p3 &&& (3 : Int32)))])) _
      refine XS.iconst X0.here hx rfl (hb hby at_40) ?_
      exact kt
    by_cases hc41 : (p3 &&& (3 : Int32)) = (1 : Int32)
    · -- it is
      have c44 : ∀ t, Steps p.tables e below (s₁.setTop (mkF m 50 #[.val (.long q0), .second, .val (.long q1), .second, .val (.long q2), .second, .val (.int p3), .val (.long lim), .second, .val (.long (4611686018427387903 : Int64)), .second, .val (.long half), .second, .val (.int (p3 &&& (3 : Int32))), .unset, .unset, .unset, .unset, .unset, .unset, .unset, .unset] [(.long (4611686018427387903 : Int64)), (.long (half + (1 : Int64)))])) t → Steps p.tables e below (s₁.setTop (mkF m 41 #[.val (.long q0), .second, .val (.long q1), .second, .val (.long q2), .second, .val (.int p3), .val (.long lim), .second, .val (.long (4611686018427387903 : Int64)), .second, .val (.long half), .second, .val (.int (p3 &&& (3 : Int32))), .unset, .unset, .unset, .unset, .unset, .unset, .unset, .unset] [(.int (1 : Int32)), (.int (p3 &&& (3 : Int32)))])) t := by
        intro t kt
        show Steps p.tables e below (s₁.setTop (mkF m 41 #[.val (.long q0), .second, .val (.long q1), .second, .val (.long q2), .second, .val (.int p3), .val (.long lim), .second, .val (.long (4611686018427387903 : Int64)), .second, .val (.long half), .second, .val (.int (p3 &&& (3 : Int32))), .unset, .unset, .unset, .unset, .unset, .unset, .unset, .unset] [(.int (1 : Int32)), (.int (p3 &&& (3 : Int32)))])) _
        refine XS.icmpNo X0.here hx rfl (hb hby at_41) rfl (teq hc41).2 ?_
        show Steps p.tables e below (s₁.setTop (mkF m 44 #[.val (.long q0), .second, .val (.long q1), .second, .val (.long q2), .second, .val (.int p3), .val (.long lim), .second, .val (.long (4611686018427387903 : Int64)), .second, .val (.long half), .second, .val (.int (p3 &&& (3 : Int32))), .unset, .unset, .unset, .unset, .unset, .unset, .unset, .unset] [])) _
        refine XS.lload X0.here hx rfl (hb hby at_44) rfl ?_
        show Steps p.tables e below (s₁.setTop (mkF m 46 #[.val (.long q0), .second, .val (.long q1), .second, .val (.long q2), .second, .val (.int p3), .val (.long lim), .second, .val (.long (4611686018427387903 : Int64)), .second, .val (.long half), .second, .val (.int (p3 &&& (3 : Int32))), .unset, .unset, .unset, .unset, .unset, .unset, .unset, .unset] [(.long half)])) _
        refine XS.lconst X0.here hx rfl (hb hby at_46) ?_
        show Steps p.tables e below (s₁.setTop (mkF m 47 #[.val (.long q0), .second, .val (.long q1), .second, .val (.long q2), .second, .val (.int p3), .val (.long lim), .second, .val (.long (4611686018427387903 : Int64)), .second, .val (.long half), .second, .val (.int (p3 &&& (3 : Int32))), .unset, .unset, .unset, .unset, .unset, .unset, .unset, .unset] [(.long (1 : Int64)), (.long half)])) _
        refine XS.ladd X0.here hx rfl (hb hby at_47) rfl ?_
        show Steps p.tables e below (s₁.setTop (mkF m 48 #[.val (.long q0), .second, .val (.long q1), .second, .val (.long q2), .second, .val (.int p3), .val (.long lim), .second, .val (.long (4611686018427387903 : Int64)), .second, .val (.long half), .second, .val (.int (p3 &&& (3 : Int32))), .unset, .unset, .unset, .unset, .unset, .unset, .unset, .unset] [(.long (half + (1 : Int64)))])) _
        refine XS.lload X0.here hx rfl (hb hby at_48) rfl ?_
        exact kt
      obtain ⟨_, _, ⟨T45, L45, k45, n45⟩, -, X45, ⟨Lc45, hQ45, l45, y45, z45⟩, st45⟩ := Jvm.LawKit.callS X0 hx (y := (⟨"java/lang/Math", "min", "(JJ)J"⟩ : MethodName)) hown (mvT hZ (hw _ (List.mem_of_getElem? (i := 51) rfl))) (mvT hZ (hw _ (List.mem_of_getElem? (i := 52) rfl))) (mvT hZ (hw _ (List.mem_of_getElem? (i := 5) rfl))) (mvT hZ (hw _ (List.mem_of_getElem? (i := 53) rfl))) (by decide) (backOf (W := 0) (rm9 l Z a0 hw [] (half + (1 : Int64)) (4611686018427387903 : Int64)  h0 n0 Z0 ) hZ (hw _ (List.mem_of_getElem? (i := 53) rfl)) (hw _ (List.mem_of_getElem? (i := 5) rfl)) (by decide) (by decide)) (g := (mkF m 50 #[.val (.long q0), .second, .val (.long q1), .second, .val (.long q2), .second, .val (.int p3), .val (.long lim), .second, .val (.long (4611686018427387903 : Int64)), .second, .val (.long half), .second, .val (.int (p3 &&& (3 : Int32))), .unset, .unset, .unset, .unset, .unset, .unset, .unset, .unset] [(.long (4611686018427387903 : Int64)), (.long (half + (1 : Int64)))])) rfl (by rw [hml]; rfl) (argsL := [(.long (half + (1 : Int64))), (.long (4611686018427387903 : Int64))]) (rest := []) (lenOf pd_4 rfl) rfl (by show 2 * 0 + _ ≤ _; exact Nat.le_of_eq rfl) (hb hby at_50) (fun _ _ => ⟨rfl, e0, (by decide : 0 + 0 ≤ _), (by decide : 0 + 0 ≤ _)⟩)
      dsimp only [Pt.U, Pt.locs, Pt.cells, Pt.slots] at X45 l45 y45 z45 st45 hQ45
      subst l45 y45 z45
      obtain ⟨rfl, N45q, e45⟩ := hQ45
      have N45 := Fr.app N0 N45q
      have c46 : ∀ t, Steps p.tables e below (T45.setTop (mkF m 83 #[.val (.long q0), .second, .val (.long q1), .second, .val (.long q2), .second, .val (.int p3), .val (.long lim), .second, .val (.long (4611686018427387903 : Int64)), .second, .val (.long half), .second, .val (.int (p3 &&& (3 : Int32))), .val (.long (own_min (half + (1 : Int64)) (4611686018427387903 : Int64))), .second, .unset, .unset, .unset, .unset, .unset, .unset] [])) t → Steps p.tables e below (T45.setTop (mkF m 53 #[.val (.long q0), .second, .val (.long q1), .second, .val (.long q2), .second, .val (.int p3), .val (.long lim), .second, .val (.long (4611686018427387903 : Int64)), .second, .val (.long half), .second, .val (.int (p3 &&& (3 : Int32))), .unset, .unset, .unset, .unset, .unset, .unset, .unset, .unset] [(.long (own_min (half + (1 : Int64)) (4611686018427387903 : Int64)))])) t := by
        intro t kt
        show Steps p.tables e below (T45.setTop (mkF m 53 #[.val (.long q0), .second, .val (.long q1), .second, .val (.long q2), .second, .val (.int p3), .val (.long lim), .second, .val (.long (4611686018427387903 : Int64)), .second, .val (.long half), .second, .val (.int (p3 &&& (3 : Int32))), .unset, .unset, .unset, .unset, .unset, .unset, .unset, .unset] [(.long (own_min (half + (1 : Int64)) (4611686018427387903 : Int64)))])) _
        refine XS.lstore X45.here hx rfl (hb hby at_53) rfl (l' := #[.val (.long q0), .second, .val (.long q1), .second, .val (.long q2), .second, .val (.int p3), .val (.long lim), .second, .val (.long (4611686018427387903 : Int64)), .second, .val (.long half), .second, .val (.int (p3 &&& (3 : Int32))), .val (.long (own_min (half + (1 : Int64)) (4611686018427387903 : Int64))), .second, .unset, .unset, .unset, .unset, .unset, .unset]) rfl ?_
        show Steps p.tables e below (T45.setTop (mkF m 55 #[.val (.long q0), .second, .val (.long q1), .second, .val (.long q2), .second, .val (.int p3), .val (.long lim), .second, .val (.long (4611686018427387903 : Int64)), .second, .val (.long half), .second, .val (.int (p3 &&& (3 : Int32))), .val (.long (own_min (half + (1 : Int64)) (4611686018427387903 : Int64))), .second, .unset, .unset, .unset, .unset, .unset, .unset] [])) _
        refine XS.goto X45.here hx rfl (pc0 := 55) (pc' := 83) rfl (hb hby at_55) (by decide) (by decide) ?_
        exact kt
      obtain ⟨chs, hchs⟩ : ∃ z, z = (own_min (half + (1 : Int64)) (4611686018427387903 : Int64)) := ⟨_, rfl⟩
      have c47 : ∀ t, Steps p.tables e below (T45.setTop (mkF m 83 #[.val (.long q0), .second, .val (.long q1), .second, .val (.long q2), .second, .val (.int p3), .val (.long lim), .second, .val (.long (4611686018427387903 : Int64)), .second, .val (.long half), .second, .val (.int (p3 &&& (3 : Int32))), .val (.long chs), .second, .unset, .unset, .unset, .unset, .unset, .unset] [])) t → Steps p.tables e below (T45.setTop (mkF m 83 #[.val (.long q0), .second, .val (.long q1), .second, .val (.long q2), .second, .val (.int p3), .val (.long lim), .second, .val (.long (4611686018427387903 : Int64)), .second, .val (.long half), .second, .val (.int (p3 &&& (3 : Int32))), .val (.long (own_min (half + (1 : Int64)) (4611686018427387903 : Int64))), .second, .unset, .unset, .unset, .unset, .unset, .unset] [])) t := fun t kt => by rw [hchs] at kt; exact kt
      have hc : 0 ≤ chs.toInt ∧ chs.toInt ≤ 4611686018427387903 := by rw [hchs]; exact own_c1 half hh0 hh1
      have c48 : ∀ t, Steps p.tables e below (T45.setTop (mkF m 103 #[.val (.long q0), .second, .val (.long q1), .second, .val (.long q2), .second, .val (.int p3), .val (.long lim), .second, .val (.long (4611686018427387903 : Int64)), .second, .val (.long half), .second, .val (.int (p3 &&& (3 : Int32))), .val (.long chs), .second, .val (.long (own_tk p3 half (q2 &&& (4611686018427387903 : Int64)))), .second, .unset, .unset, .unset, .unset] [])) t → Steps p.tables e below (T45.setTop (mkF m 83 #[.val (.long q0), .second, .val (.long q1), .second, .val (.long q2), .second, .val (.int p3), .val (.long lim), .second, .val (.long (4611686018427387903 : Int64)), .second, .val (.long half), .second, .val (.int (p3 &&& (3 : Int32))), .val (.long chs), .second, .unset, .unset, .unset, .unset, .unset, .unset] [])) t := by
        intro t kt
        show Steps p.tables e below (T45.setTop (mkF m 83 #[.val (.long q0), .second, .val (.long q1), .second, .val (.long q2), .second, .val (.int p3), .val (.long lim), .second, .val (.long (4611686018427387903 : Int64)), .second, .val (.long half), .second, .val (.int (p3 &&& (3 : Int32))), .val (.long chs), .second, .unset, .unset, .unset, .unset, .unset, .unset] [])) _
        refine XS.iload X45.here hx rfl (hb hby at_83) rfl ?_
        show Steps p.tables e below (T45.setTop (mkF m 85 #[.val (.long q0), .second, .val (.long q1), .second, .val (.long q2), .second, .val (.int p3), .val (.long lim), .second, .val (.long (4611686018427387903 : Int64)), .second, .val (.long half), .second, .val (.int (p3 &&& (3 : Int32))), .val (.long chs), .second, .unset, .unset, .unset, .unset, .unset, .unset] [(.int p3)])) _
        refine XS.bipush X45.here hx rfl (hb hby at_85) ?_
        show Steps p.tables e below (T45.setTop (mkF m 87 #[.val (.long q0), .second, .val (.long q1), .second, .val (.long q2), .second, .val (.int p3), .val (.long lim), .second, .val (.long (4611686018427387903 : Int64)), .second, .val (.long half), .second, .val (.int (p3 &&& (3 : Int32))), .val (.long chs), .second, .unset, .unset, .unset, .unset, .unset, .unset] [(.int (8 : Int32)), (.int p3)])) _
        refine XS.iand X45.here hx rfl (hb hby at_87) rfl ?_
        by_cases hc88 : (p3 &&& (8 : Int32)) = (0 : Int32)
        · -- it is
          show Steps p.tables e below (T45.setTop (mkF m 88 #[.val (.long q0), .second, .val (.long q1), .second, .val (.long q2), .second, .val (.int p3), .val (.long lim), .second, .val (.long (4611686018427387903 : Int64)), .second, .val (.long half), .second, .val (.int (p3 &&& (3 : Int32))), .val (.long chs), .second, .unset, .unset, .unset, .unset, .unset, .unset] [(.int (p3 &&& (8 : Int32)))])) _
          refine XS.ifYes X45.here hx rfl (pc0 := 88) (pc' := 96) rfl (hb hby at_88) rfl ((if0 _ _).trans (teq hc88).1) (by decide) (by decide) ?_
          show Steps p.tables e below (T45.setTop (mkF m 96 #[.val (.long q0), .second, .val (.long q1), .second, .val (.long q2), .second, .val (.int p3), .val (.long lim), .second, .val (.long (4611686018427387903 : Int64)), .second, .val (.long half), .second, .val (.int (p3 &&& (3 : Int32))), .val (.long chs), .second, .unset, .unset, .unset, .unset, .unset, .unset] [])) _
          refine XS.lload X45.here hx rfl (hb hby at_96) rfl ?_
          show Steps p.tables e below (T45.setTop (mkF m 98 #[.val (.long q0), .second, .val (.long q1), .second, .val (.long q2), .second, .val (.int p3), .val (.long lim), .second, .val (.long (4611686018427387903 : Int64)), .second, .val (.long half), .second, .val (.int (p3 &&& (3 : Int32))), .val (.long chs), .second, .unset, .unset, .unset, .unset, .unset, .unset] [(.long q2)])) _
          refine XS.lload X45.here hx rfl (hb hby at_98) rfl ?_
          show Steps p.tables e below (T45.setTop (mkF m 100 #[.val (.long q0), .second, .val (.long q1), .second, .val (.long q2), .second, .val (.int p3), .val (.long lim), .second, .val (.long (4611686018427387903 : Int64)), .second, .val (.long half), .second, .val (.int (p3 &&& (3 : Int32))), .val (.long chs), .second, .unset, .unset, .unset, .unset, .unset, .unset] [(.long (4611686018427387903 : Int64)), (.long q2)])) _
          refine XS.land X45.here hx rfl (hb hby at_100) rfl ?_
          show Steps p.tables e below (T45.setTop (mkF m 101 #[.val (.long q0), .second, .val (.long q1), .second, .val (.long q2), .second, .val (.int p3), .val (.long lim), .second, .val (.long (4611686018427387903 : Int64)), .second, .val (.long half), .second, .val (.int (p3 &&& (3 : Int32))), .val (.long chs), .second, .unset, .unset, .unset, .unset, .unset, .unset] [(.long (q2 &&& (4611686018427387903 : Int64)))])) _
          refine XS.lstore X45.here hx rfl (hb hby at_101) rfl (l' := #[.val (.long q0), .second, .val (.long q1), .second, .val (.long q2), .second, .val (.int p3), .val (.long lim), .second, .val (.long (4611686018427387903 : Int64)), .second, .val (.long half), .second, .val (.int (p3 &&& (3 : Int32))), .val (.long chs), .second, .val (.long (q2 &&& (4611686018427387903 : Int64))), .second, .unset, .unset, .unset, .unset]) rfl ?_
          rw [show (own_tk p3 half (q2 &&& (4611686018427387903 : Int64))) = (q2 &&& (4611686018427387903 : Int64)) from by unfold own_tk; rw [if_pos hc88]] at kt
          exact kt
        · -- it isn't
          show Steps p.tables e below (T45.setTop (mkF m 88 #[.val (.long q0), .second, .val (.long q1), .second, .val (.long q2), .second, .val (.int p3), .val (.long lim), .second, .val (.long (4611686018427387903 : Int64)), .second, .val (.long half), .second, .val (.int (p3 &&& (3 : Int32))), .val (.long chs), .second, .unset, .unset, .unset, .unset, .unset, .unset] [(.int (p3 &&& (8 : Int32)))])) _
          refine XS.ifNo X45.here hx rfl (hb hby at_88) rfl ((if0 _ _).trans (feq hc88).1) ?_
          show Steps p.tables e below (T45.setTop (mkF m 91 #[.val (.long q0), .second, .val (.long q1), .second, .val (.long q2), .second, .val (.int p3), .val (.long lim), .second, .val (.long (4611686018427387903 : Int64)), .second, .val (.long half), .second, .val (.int (p3 &&& (3 : Int32))), .val (.long chs), .second, .unset, .unset, .unset, .unset, .unset, .unset] [])) _
          refine XS.lload X45.here hx rfl (hb hby at_91) rfl ?_
          show Steps p.tables e below (T45.setTop (mkF m 93 #[.val (.long q0), .second, .val (.long q1), .second, .val (.long q2), .second, .val (.int p3), .val (.long lim), .second, .val (.long (4611686018427387903 : Int64)), .second, .val (.long half), .second, .val (.int (p3 &&& (3 : Int32))), .val (.long chs), .second, .unset, .unset, .unset, .unset, .unset, .unset] [(.long half)])) _
          refine XS.goto X45.here hx rfl (pc0 := 93) (pc' := 101) rfl (hb hby at_93) (by decide) (by decide) ?_
          show Steps p.tables e below (T45.setTop (mkF m 101 #[.val (.long q0), .second, .val (.long q1), .second, .val (.long q2), .second, .val (.int p3), .val (.long lim), .second, .val (.long (4611686018427387903 : Int64)), .second, .val (.long half), .second, .val (.int (p3 &&& (3 : Int32))), .val (.long chs), .second, .unset, .unset, .unset, .unset, .unset, .unset] [(.long half)])) _
          refine XS.lstore X45.here hx rfl (hb hby at_101) rfl (l' := #[.val (.long q0), .second, .val (.long q1), .second, .val (.long q2), .second, .val (.int p3), .val (.long lim), .second, .val (.long (4611686018427387903 : Int64)), .second, .val (.long half), .second, .val (.int (p3 &&& (3 : Int32))), .val (.long chs), .second, .val (.long half), .second, .unset, .unset, .unset, .unset]) rfl ?_
          rw [show (own_tk p3 half (q2 &&& (4611686018427387903 : Int64))) = half from by unfold own_tk; rw [if_neg hc88]] at kt
          exact kt
      have c49 : ∀ t, Steps p.tables e below (T45.setTop (mkF m 118 #[.val (.long q0), .second, .val (.long q1), .second, .val (.long q2), .second, .val (.int p3), .val (.long lim), .second, .val (.long (4611686018427387903 : Int64)), .second, .val (.long half), .second, .val (.int (p3 &&& (3 : Int32))), .val (.long chs), .second, .val (.long (own_tk p3 half (q2 &&& (4611686018427387903 : Int64)))), .second, .val (.int (own_exp half chs)), .unset, .unset, .unset] [])) t → Steps p.tables e below (T45.setTop (mkF m 103 #[.val (.long q0), .second, .val (.long q1), .second, .val (.long q2), .second, .val (.int p3), .val (.long lim), .second, .val (.long (4611686018427387903 : Int64)), .second, .val (.long half), .second, .val (.int (p3 &&& (3 : Int32))), .val (.long chs), .second, .val (.long (own_tk p3 half (q2 &&& (4611686018427387903 : Int64)))), .second, .unset, .unset, .unset, .unset] [])) t := by
        intro t kt
        show Steps p.tables e below (T45.setTop (mkF m 103 #[.val (.long q0), .second, .val (.long q1), .second, .val (.long q2), .second, .val (.int p3), .val (.long lim), .second, .val (.long (4611686018427387903 : Int64)), .second, .val (.long half), .second, .val (.int (p3 &&& (3 : Int32))), .val (.long chs), .second, .val (.long (own_tk p3 half (q2 &&& (4611686018427387903 : Int64)))), .second, .unset, .unset, .unset, .unset] [])) _
        refine XS.lload X45.here hx rfl (hb hby at_103) rfl ?_
        show Steps p.tables e below (T45.setTop (mkF m 105 #[.val (.long q0), .second, .val (.long q1), .second, .val (.long q2), .second, .val (.int p3), .val (.long lim), .second, .val (.long (4611686018427387903 : Int64)), .second, .val (.long half), .second, .val (.int (p3 &&& (3 : Int32))), .val (.long chs), .second, .val (.long (own_tk p3 half (q2 &&& (4611686018427387903 : Int64)))), .second, .unset, .unset, .unset, .unset] [(.long chs)])) _
        refine XS.lload X45.here hx rfl (hb hby at_105) rfl ?_
        show Steps p.tables e below (T45.setTop (mkF m 107 #[.val (.long q0), .second, .val (.long q1), .second, .val (.long q2), .second, .val (.int p3), .val (.long lim), .second, .val (.long (4611686018427387903 : Int64)), .second, .val (.long half), .second, .val (.int (p3 &&& (3 : Int32))), .val (.long chs), .second, .val (.long (own_tk p3 half (q2 &&& (4611686018427387903 : Int64)))), .second, .unset, .unset, .unset, .unset] [(.long half), (.long chs)])) _
        refine XS.lcmp X45.here hx rfl (hb hby at_107) rfl ?_
        by_cases hc108 : half < chs
        · -- it is
          show Steps p.tables e below (T45.setTop (mkF m 108 #[.val (.long q0), .second, .val (.long q1), .second, .val (.long q2), .second, .val (.int p3), .val (.long lim), .second, .val (.long (4611686018427387903 : Int64)), .second, .val (.long half), .second, .val (.int (p3 &&& (3 : Int32))), .val (.long chs), .second, .val (.long (own_tk p3 half (q2 &&& (4611686018427387903 : Int64)))), .second, .unset, .unset, .unset, .unset] [(.int (lcmpW chs half))])) _
          refine XS.ifYes X45.here hx rfl (pc0 := 108) (pc' := 115) rfl (hb hby at_108) rfl ((if0 _ _).trans (tlt ((lw_gt _ _).mpr hc108)).2.2.1) (by decide) (by decide) ?_
          show Steps p.tables e below (T45.setTop (mkF m 115 #[.val (.long q0), .second, .val (.long q1), .second, .val (.long q2), .second, .val (.int p3), .val (.long lim), .second, .val (.long (4611686018427387903 : Int64)), .second, .val (.long half), .second, .val (.int (p3 &&& (3 : Int32))), .val (.long chs), .second, .val (.long (own_tk p3 half (q2 &&& (4611686018427387903 : Int64)))), .second, .unset, .unset, .unset, .unset] [])) _
          refine XS.iconst X45.here hx rfl (hb hby at_115) ?_
          show Steps p.tables e below (T45.setTop (mkF m 116 #[.val (.long q0), .second, .val (.long q1), .second, .val (.long q2), .second, .val (.int p3), .val (.long lim), .second, .val (.long (4611686018427387903 : Int64)), .second, .val (.long half), .second, .val (.int (p3 &&& (3 : Int32))), .val (.long chs), .second, .val (.long (own_tk p3 half (q2 &&& (4611686018427387903 : Int64)))), .second, .unset, .unset, .unset, .unset] [(.int (0 : Int32))])) _
          refine XS.istore X45.here hx rfl (hb hby at_116) rfl (l' := #[.val (.long q0), .second, .val (.long q1), .second, .val (.long q2), .second, .val (.int p3), .val (.long lim), .second, .val (.long (4611686018427387903 : Int64)), .second, .val (.long half), .second, .val (.int (p3 &&& (3 : Int32))), .val (.long chs), .second, .val (.long (own_tk p3 half (q2 &&& (4611686018427387903 : Int64)))), .second, .val (.int (0 : Int32)), .unset, .unset, .unset]) rfl ?_
          rw [show (own_exp half chs) = (0 : Int32) from by unfold own_exp; rw [if_pos hc108]] at kt
          exact kt
        · -- it isn't
          show Steps p.tables e below (T45.setTop (mkF m 108 #[.val (.long q0), .second, .val (.long q1), .second, .val (.long q2), .second, .val (.int p3), .val (.long lim), .second, .val (.long (4611686018427387903 : Int64)), .second, .val (.long half), .second, .val (.int (p3 &&& (3 : Int32))), .val (.long chs), .second, .val (.long (own_tk p3 half (q2 &&& (4611686018427387903 : Int64)))), .second, .unset, .unset, .unset, .unset] [(.int (lcmpW chs half))])) _
          refine XS.ifNo X45.here hx rfl (hb hby at_108) rfl ((if0 _ _).trans (flt (fun q => hc108 ((lw_gt _ _).mp q))).2.2.1) ?_
          show Steps p.tables e below (T45.setTop (mkF m 111 #[.val (.long q0), .second, .val (.long q1), .second, .val (.long q2), .second, .val (.int p3), .val (.long lim), .second, .val (.long (4611686018427387903 : Int64)), .second, .val (.long half), .second, .val (.int (p3 &&& (3 : Int32))), .val (.long chs), .second, .val (.long (own_tk p3 half (q2 &&& (4611686018427387903 : Int64)))), .second, .unset, .unset, .unset, .unset] [])) _
          refine XS.iconst X45.here hx rfl (hb hby at_111) ?_
          show Steps p.tables e below (T45.setTop (mkF m 112 #[.val (.long q0), .second, .val (.long q1), .second, .val (.long q2), .second, .val (.int p3), .val (.long lim), .second, .val (.long (4611686018427387903 : Int64)), .second, .val (.long half), .second, .val (.int (p3 &&& (3 : Int32))), .val (.long chs), .second, .val (.long (own_tk p3 half (q2 &&& (4611686018427387903 : Int64)))), .second, .unset, .unset, .unset, .unset] [(.int (1 : Int32))])) _
          refine XS.goto X45.here hx rfl (pc0 := 112) (pc' := 116) rfl (hb hby at_112) (by decide) (by decide) ?_
          show Steps p.tables e below (T45.setTop (mkF m 116 #[.val (.long q0), .second, .val (.long q1), .second, .val (.long q2), .second, .val (.int p3), .val (.long lim), .second, .val (.long (4611686018427387903 : Int64)), .second, .val (.long half), .second, .val (.int (p3 &&& (3 : Int32))), .val (.long chs), .second, .val (.long (own_tk p3 half (q2 &&& (4611686018427387903 : Int64)))), .second, .unset, .unset, .unset, .unset] [(.int (1 : Int32))])) _
          refine XS.istore X45.here hx rfl (hb hby at_116) rfl (l' := #[.val (.long q0), .second, .val (.long q1), .second, .val (.long q2), .second, .val (.int p3), .val (.long lim), .second, .val (.long (4611686018427387903 : Int64)), .second, .val (.long half), .second, .val (.int (p3 &&& (3 : Int32))), .val (.long chs), .second, .val (.long (own_tk p3 half (q2 &&& (4611686018427387903 : Int64)))), .second, .val (.int (1 : Int32)), .unset, .unset, .unset]) rfl ?_
          rw [show (own_exp half chs) = (1 : Int32) from by unfold own_exp; rw [if_neg hc108]] at kt
          exact kt
      obtain ⟨T50, h50, X50, e50, E50, A50, D50, U50, st50⟩ := newO X45 hx hZ hown (hw _ (List.mem_of_getElem? (i := 7) rfl)) (hw _ (List.mem_of_getElem? (i := 8) rfl)) (hw _ (List.mem_of_getElem? (i := 9) rfl)) e45 (g := (mkF m 118 #[.val (.long q0), .second, .val (.long q1), .second, .val (.long q2), .second, .val (.int p3), .val (.long lim), .second, .val (.long (4611686018427387903 : Int64)), .second, .val (.long half), .second, .val (.int (p3 &&& (3 : Int32))), .val (.long chs), .second, .val (.long (own_tk p3 half (q2 &&& (4611686018427387903 : Int64)))), .second, .val (.int (own_exp half chs)), .unset, .unset, .unset] [])) rfl (hb hby at_118) (by decide) (by decide)
      obtain ⟨b50, g50⟩ : ∃ z, z = h0.size := ⟨_, rfl⟩
      rw [← g50] at A50 D50 U50 st50
      have g_b50 : n0 ≤ b50 := Nat.le_trans Z0 (Nat.le_of_eq g50.symm)
      have sz_b50 : h0.size ≤ b50 := Nat.le_trans (Keep.refl h0 []).1 (Nat.le_of_eq g50.symm)
      have Un50 : Unt h50 b50 := U50
      have F50_texts : Fld Z h50 b50 "com/example/href/href/text/KeptRoom" "texts" "Lcom/example/href/href/text/KeptRoom$Room;" .null := D50 (Or.inr (hw _ (List.mem_of_getElem? (i := 28) rfl))) (ty := (.object "com/example/href/href/text/KeptRoom$Room")) (by decide)
      have F50_records : Fld Z h50 b50 "com/example/href/href/text/KeptRoom" "records" "Lcom/example/href/href/text/KeptRoom$Room;" .null := D50 (Or.inr (hw _ (List.mem_of_getElem? (i := 30) rfl))) (ty := (.object "com/example/href/href/text/KeptRoom$Room")) (by decide)
      have c51 : ∀ t, Steps p.tables e below (T50.setTop (mkF m 125 #[.val (.long q0), .second, .val (.long q1), .second, .val (.long q2), .second, .val (.int p3), .val (.long lim), .second, .val (.long (4611686018427387903 : Int64)), .second, .val (.long half), .second, .val (.int (p3 &&& (3 : Int32))), .val (.long chs), .second, .val (.long (own_tk p3 half (q2 &&& (4611686018427387903 : Int64)))), .second, .val (.int (own_exp half chs)), .unset, .unset, .unset] [(.long (0 : Int64)), (.long lim), (.ref b50), (.ref b50)])) t → Steps p.tables e below (T50.setTop (mkF m 121 #[.val (.long q0), .second, .val (.long q1), .second, .val (.long q2), .second, .val (.int p3), .val (.long lim), .second, .val (.long (4611686018427387903 : Int64)), .second, .val (.long half), .second, .val (.int (p3 &&& (3 : Int32))), .val (.long chs), .second, .val (.long (own_tk p3 half (q2 &&& (4611686018427387903 : Int64)))), .second, .val (.int (own_exp half chs)), .unset, .unset, .unset] [(.ref b50)])) t := by
        intro t kt
        show Steps p.tables e below (T50.setTop (mkF m 121 #[.val (.long q0), .second, .val (.long q1), .second, .val (.long q2), .second, .val (.int p3), .val (.long lim), .second, .val (.long (4611686018427387903 : Int64)), .second, .val (.long half), .second, .val (.int (p3 &&& (3 : Int32))), .val (.long chs), .second, .val (.long (own_tk p3 half (q2 &&& (4611686018427387903 : Int64)))), .second, .val (.int (own_exp half chs)), .unset, .unset, .unset] [(.ref b50)])) _
        refine XS.dup X50.here hx rfl (hb hby at_121) rfl rfl ?_
        show Steps p.tables e below (T50.setTop (mkF m 122 #[.val (.long q0), .second, .val (.long q1), .second, .val (.long q2), .second, .val (.int p3), .val (.long lim), .second, .val (.long (4611686018427387903 : Int64)), .second, .val (.long half), .second, .val (.int (p3 &&& (3 : Int32))), .val (.long chs), .second, .val (.long (own_tk p3 half (q2 &&& (4611686018427387903 : Int64)))), .second, .val (.int (own_exp half chs)), .unset, .unset, .unset] [(.ref b50), (.ref b50)])) _
        refine XS.lload X50.here hx rfl (hb hby at_122) rfl ?_
        show Steps p.tables e below (T50.setTop (mkF m 124 #[.val (.long q0), .second, .val (.long q1), .second, .val (.long q2), .second, .val (.int p3), .val (.long lim), .second, .val (.long (4611686018427387903 : Int64)), .second, .val (.long half), .second, .val (.int (p3 &&& (3 : Int32))), .val (.long chs), .second, .val (.long (own_tk p3 half (q2 &&& (4611686018427387903 : Int64)))), .second, .val (.int (own_exp half chs)), .unset, .unset, .unset] [(.long lim), (.ref b50), (.ref b50)])) _
        refine XS.lconst X50.here hx rfl (hb hby at_124) ?_
        exact kt
      have f52 := (Nat.le_trans Z0 E50.1)
      obtain ⟨_, _, ⟨T53, L53, k53, n53⟩, -, X53, ⟨Lc53, hQ53, l53, y53, z53⟩, st53⟩ := X50.specialBack hx (y := (⟨"com/example/href/href/text/KeptRoom", "<init>", "(JJ)V"⟩ : MethodName)) rfl hown (mvT hZ (hw _ (List.mem_of_getElem? (i := 10) rfl))) (mvT hZ (hw _ (List.mem_of_getElem? (i := 11) rfl))) (mvT hZ (hw _ (List.mem_of_getElem? (i := 12) rfl))) (by decide) (backOf (W := 1) (rm2 l Z a0 hw [] b50 lim (0 : Int64)  h50 n0 f52 F50_texts F50_records A50 g_b50) hZ (hw _ (List.mem_of_getElem? (i := 12) rfl)) (hw _ (List.mem_of_getElem? (i := 9) rfl)) (by decide) (by decide)) (g := (mkF m 125 #[.val (.long q0), .second, .val (.long q1), .second, .val (.long q2), .second, .val (.int p3), .val (.long lim), .second, .val (.long (4611686018427387903 : Int64)), .second, .val (.long half), .second, .val (.int (p3 &&& (3 : Int32))), .val (.long chs), .second, .val (.long (own_tk p3 half (q2 &&& (4611686018427387903 : Int64)))), .second, .val (.int (own_exp half chs)), .unset, .unset, .unset] [(.long (0 : Int64)), (.long lim), (.ref b50), (.ref b50)])) rfl (by rw [hml]; rfl) (Steps.refl _) (a := b50) (argsL := [(.long lim), (.long (0 : Int64))]) (rest := [(.ref b50)]) (lenOf pd_3 rfl) rfl (by show 2 * 0 + _ ≤ _; exact Nat.le_of_eq rfl) (hb hby at_125) (fun _ _ => ⟨rfl, e50, (by decide : 1 + 2 ≤ _), (by decide : 3 + 4 ≤ _)⟩)
      dsimp only [Pt.U, Pt.locs, Pt.cells, Pt.slots] at X53 l53 y53 z53 st53 hQ53
      subst l53 y53 z53
      obtain ⟨ot53, rfl, N53q, Kq53, Eq53, Fq53, g_ot53, Et53, Fl53, Ff53, Uq53⟩ := hQ53
      have N53 := Fr.app N45 N53q
      have ne53 : b50 ≠ ot53 := ne_exa Eq53 Et53 (by decide)
      have c54 : ∀ t, Steps p.tables e below (T53.setTop (mkF m 134 #[.val (.long q0), .second, .val (.long q1), .second, .val (.long q2), .second, .val (.int p3), .val (.long lim), .second, .val (.long (4611686018427387903 : Int64)), .second, .val (.long half), .second, .val (.int (p3 &&& (3 : Int32))), .val (.long chs), .second, .val (.long (own_tk p3 half (q2 &&& (4611686018427387903 : Int64)))), .second, .val (.int (own_exp half chs)), .val (.ref b50), .unset, .unset] [(.long chs), (.ref b50)])) t → Steps p.tables e below (T53.setTop (mkF m 128 #[.val (.long q0), .second, .val (.long q1), .second, .val (.long q2), .second, .val (.int p3), .val (.long lim), .second, .val (.long (4611686018427387903 : Int64)), .second, .val (.long half), .second, .val (.int (p3 &&& (3 : Int32))), .val (.long chs), .second, .val (.long (own_tk p3 half (q2 &&& (4611686018427387903 : Int64)))), .second, .val (.int (own_exp half chs)), .unset, .unset, .unset] [(.ref b50)])) t := by
        intro t kt
        show Steps p.tables e below (T53.setTop (mkF m 128 #[.val (.long q0), .second, .val (.long q1), .second, .val (.long q2), .second, .val (.int p3), .val (.long lim), .second, .val (.long (4611686018427387903 : Int64)), .second, .val (.long half), .second, .val (.int (p3 &&& (3 : Int32))), .val (.long chs), .second, .val (.long (own_tk p3 half (q2 &&& (4611686018427387903 : Int64)))), .second, .val (.int (own_exp half chs)), .unset, .unset, .unset] [(.ref b50)])) _
        refine XS.astore X53.here hx rfl (hb hby at_128) rfl rfl (l' := #[.val (.long q0), .second, .val (.long q1), .second, .val (.long q2), .second, .val (.int p3), .val (.long lim), .second, .val (.long (4611686018427387903 : Int64)), .second, .val (.long half), .second, .val (.int (p3 &&& (3 : Int32))), .val (.long chs), .second, .val (.long (own_tk p3 half (q2 &&& (4611686018427387903 : Int64)))), .second, .val (.int (own_exp half chs)), .val (.ref b50), .unset, .unset]) rfl ?_
        show Steps p.tables e below (T53.setTop (mkF m 130 #[.val (.long q0), .second, .val (.long q1), .second, .val (.long q2), .second, .val (.int p3), .val (.long lim), .second, .val (.long (4611686018427387903 : Int64)), .second, .val (.long half), .second, .val (.int (p3 &&& (3 : Int32))), .val (.long chs), .second, .val (.long (own_tk p3 half (q2 &&& (4611686018427387903 : Int64)))), .second, .val (.int (own_exp half chs)), .val (.ref b50), .unset, .unset] [])) _
        refine XS.aload X53.here hx rfl (hb hby at_130) rfl rfl ?_
        show Steps p.tables e below (T53.setTop (mkF m 132 #[.val (.long q0), .second, .val (.long q1), .second, .val (.long q2), .second, .val (.int p3), .val (.long lim), .second, .val (.long (4611686018427387903 : Int64)), .second, .val (.long half), .second, .val (.int (p3 &&& (3 : Int32))), .val (.long chs), .second, .val (.long (own_tk p3 half (q2 &&& (4611686018427387903 : Int64)))), .second, .val (.int (own_exp half chs)), .val (.ref b50), .unset, .unset] [(.ref b50)])) _
        refine XS.lload X53.here hx rfl (hb hby at_132) rfl ?_
        exact kt
      have f55 := (Nat.le_trans f52 Kq53.1)
      obtain ⟨cq56, kq56, q56a, q56b, q56c⟩ := isOf hZ rfl Eq53
      obtain ⟨_, _, ⟨T57, L57, k57, n57⟩, -, X57, ⟨Lc57, hQ57, l57, y57, z57⟩, st57⟩ := X53.virtualBack hx (y := (⟨"com/example/href/href/text/KeptRoom", "fitsKeepLimit", "(J)Z"⟩ : MethodName)) (z := (⟨"com/example/href/href/text/KeptRoom", "fitsKeepLimit", "(J)Z"⟩ : MethodName)) hown (mvT hZ (hw _ (List.mem_of_getElem? (i := 31) rfl))) (mvT hZ (hw _ (List.mem_of_getElem? (i := 32) rfl))) (notFace_of_selects (args := #[]) (mvT hZ (hw _ (List.mem_of_getElem? (i := 34) rfl)))) (mvT hZ (hw _ (List.mem_of_getElem? (i := 34) rfl))) (mvT hZ (hw _ (List.mem_of_getElem? (i := 33) rfl))) (by decide) (backOf (W := 0) (rm5 l Z a0 hw [] b50 chs ot53 lim T53.heap n0 f55 Fq53 Fl53) hZ (hw _ (List.mem_of_getElem? (i := 35) rfl)) (hw _ (List.mem_of_getElem? (i := 9) rfl)) (by decide) (by decide)) q56a q56c (g := (mkF m 134 #[.val (.long q0), .second, .val (.long q1), .second, .val (.long q2), .second, .val (.int p3), .val (.long lim), .second, .val (.long (4611686018427387903 : Int64)), .second, .val (.long half), .second, .val (.int (p3 &&& (3 : Int32))), .val (.long chs), .second, .val (.long (own_tk p3 half (q2 &&& (4611686018427387903 : Int64)))), .second, .val (.int (own_exp half chs)), .val (.ref b50), .unset, .unset] [(.long chs), (.ref b50)])) rfl (by rw [hml]; rfl) (Steps.refl _) (argsL := [(.long chs)]) (rest := []) (lenOf pd_2 rfl) rfl (by show 2 * 0 + _ ≤ _; exact Nat.le_of_eq rfl) (hb hby at_134) (fun _ _ => ⟨rfl, rfl, (by decide : 3 + 0 ≤ _), (by decide : 7 + 0 ≤ _)⟩)
      dsimp only [Pt.U, Pt.locs, Pt.cells, Pt.slots] at X57 l57 y57 z57 st57 hQ57
      subst l57 y57 z57
      obtain ⟨rfl, N57q, e57⟩ := hQ57
      have N57 := Fr.app N53 N57q
      have c58 : ∀ t, Steps p.tables e below (T57.setTop (mkF m 143 #[.val (.long q0), .second, .val (.long q1), .second, .val (.long q2), .second, .val (.int p3), .val (.long lim), .second, .val (.long (4611686018427387903 : Int64)), .second, .val (.long half), .second, .val (.int (p3 &&& (3 : Int32))), .val (.long chs), .second, .val (.long (own_tk p3 half (q2 &&& (4611686018427387903 : Int64)))), .second, .val (.int (own_exp half chs)), .val (.ref b50), .val (.int (own_fit lim ((2 : Int64) * chs))), .unset] [(.int (p3 &&& (4 : Int32)))])) t → Steps p.tables e below (T57.setTop (mkF m 137 #[.val (.long q0), .second, .val (.long q1), .second, .val (.long q2), .second, .val (.int p3), .val (.long lim), .second, .val (.long (4611686018427387903 : Int64)), .second, .val (.long half), .second, .val (.int (p3 &&& (3 : Int32))), .val (.long chs), .second, .val (.long (own_tk p3 half (q2 &&& (4611686018427387903 : Int64)))), .second, .val (.int (own_exp half chs)), .val (.ref b50), .unset, .unset] [(.int (own_fit lim ((2 : Int64) * chs)))])) t := by
        intro t kt
        show Steps p.tables e below (T57.setTop (mkF m 137 #[.val (.long q0), .second, .val (.long q1), .second, .val (.long q2), .second, .val (.int p3), .val (.long lim), .second, .val (.long (4611686018427387903 : Int64)), .second, .val (.long half), .second, .val (.int (p3 &&& (3 : Int32))), .val (.long chs), .second, .val (.long (own_tk p3 half (q2 &&& (4611686018427387903 : Int64)))), .second, .val (.int (own_exp half chs)), .val (.ref b50), .unset, .unset] [(.int (own_fit lim ((2 : Int64) * chs)))])) _
        refine XS.istore X57.here hx rfl (hb hby at_137) rfl (l' := #[.val (.long q0), .second, .val (.long q1), .second, .val (.long q2), .second, .val (.int p3), .val (.long lim), .second, .val (.long (4611686018427387903 : Int64)), .second, .val (.long half), .second, .val (.int (p3 &&& (3 : Int32))), .val (.long chs), .second, .val (.long (own_tk p3 half (q2 &&& (4611686018427387903 : Int64)))), .second, .val (.int (own_exp half chs)), .val (.ref b50), .val (.int (own_fit lim ((2 : Int64) * chs))), .unset]) rfl ?_
        show Steps p.tables e below (T57.setTop (mkF m 139 #[.val (.long q0), .second, .val (.long q1), .second, .val (.long q2), .second, .val (.int p3), .val (.long lim), .second, .val (.long (4611686018427387903 : Int64)), .second, .val (.long half), .second, .val (.int (p3 &&& (3 : Int32))), .val (.long chs), .second, .val (.long (own_tk p3 half (q2 &&& (4611686018427387903 : Int64)))), .second, .val (.int (own_exp half chs)), .val (.ref b50), .val (.int (own_fit lim ((2 : Int64) * chs))), .unset] [])) _
        refine XS.iload X57.here hx rfl (hb hby at_139) rfl ?_
        show Steps p.tables e below (T57.setTop (mkF m 141 #[.val (.long q0), .second, .val (.long q1), .second, .val (.long q2), .second, .val (.int p3), .val (.long lim), .second, .val (.long (4611686018427387903 : Int64)), .second, .val (.long half), .second, .val (.int (p3 &&& (3 : Int32))), .val (.long chs), .second, .val (.long (own_tk p3 half (q2 &&& (4611686018427387903 : Int64)))), .second, .val (.int (own_exp half chs)), .val (.ref b50), .val (.int (own_fit lim ((2 : Int64) * chs))), .unset] [(.int p3)])) _
        refine XS.iconst X57.here hx rfl (hb hby at_141) ?_
        show Steps p.tables e below (T57.setTop (mkF m 142 #[.val (.long q0), .second, .val (.long q1), .second, .val (.long q2), .second, .val (.int p3), .val (.long lim), .second, .val (.long (4611686018427387903 : Int64)), .second, .val (.long half), .second, .val (.int (p3 &&& (3 : Int32))), .val (.long chs), .second, .val (.long (own_tk p3 half (q2 &&& (4611686018427387903 : Int64)))), .second, .val (.int (own_exp half chs)), .val (.ref b50), .val (.int (own_fit lim ((2 : Int64) * chs))), .unset] [(.int (4 : Int32)), (.int p3)])) _
        refine XS.iand X57.here hx rfl (hb hby at_142) rfl ?_
        exact kt
      by_cases hc143 : (p3 &&& (4 : Int32)) = (0 : Int32)
      · -- it is
        have c59 : ∀ t, Steps p.tables e below (T57.setTop (mkF m 158 #[.val (.long q0), .second, .val (.long q1), .second, .val (.long q2), .second, .val (.int p3), .val (.long lim), .second, .val (.long (4611686018427387903 : Int64)), .second, .val (.long half), .second, .val (.int (p3 &&& (3 : Int32))), .val (.long chs), .second, .val (.long (own_tk p3 half (q2 &&& (4611686018427387903 : Int64)))), .second, .val (.int (own_exp half chs)), .val (.ref b50), .val (.int (own_fit lim ((2 : Int64) * chs))), .unset] [(.long chs), (.ref b50)])) t → Steps p.tables e below (T57.setTop (mkF m 143 #[.val (.long q0), .second, .val (.long q1), .second, .val (.long q2), .second, .val (.int p3), .val (.long lim), .second, .val (.long (4611686018427387903 : Int64)), .second, .val (.long half), .second, .val (.int (p3 &&& (3 : Int32))), .val (.long chs), .second, .val (.long (own_tk p3 half (q2 &&& (4611686018427387903 : Int64)))), .second, .val (.int (own_exp half chs)), .val (.ref b50), .val (.int (own_fit lim ((2 : Int64) * chs))), .unset] [(.int (p3 &&& (4 : Int32)))])) t := by
          intro t kt
          show Steps p.tables e below (T57.setTop (mkF m 143 #[.val (.long q0), .second, .val (.long q1), .second, .val (.long q2), .second, .val (.int p3), .val (.long lim), .second, .val (.long (4611686018427387903 : Int64)), .second, .val (.long half), .second, .val (.int (p3 &&& (3 : Int32))), .val (.long chs), .second, .val (.long (own_tk p3 half (q2 &&& (4611686018427387903 : Int64)))), .second, .val (.int (own_exp half chs)), .val (.ref b50), .val (.int (own_fit lim ((2 : Int64) * chs))), .unset] [(.int (p3 &&& (4 : Int32)))])) _
          refine XS.ifYes X57.here hx rfl (pc0 := 143) (pc' := 154) rfl (hb hby at_143) rfl ((if0 _ _).trans (teq hc143).1) (by decide) (by decide) ?_
          show Steps p.tables e below (T57.setTop (mkF m 154 #[.val (.long q0), .second, .val (.long q1), .second, .val (.long q2), .second, .val (.int p3), .val (.long lim), .second, .val (.long (4611686018427387903 : Int64)), .second, .val (.long half), .second, .val (.int (p3 &&& (3 : Int32))), .val (.long chs), .second, .val (.long (own_tk p3 half (q2 &&& (4611686018427387903 : Int64)))), .second, .val (.int (own_exp half chs)), .val (.ref b50), .val (.int (own_fit lim ((2 : Int64) * chs))), .unset] [])) _
          refine XS.aload X57.here hx rfl (hb hby at_154) rfl rfl ?_
          show Steps p.tables e below (T57.setTop (mkF m 156 #[.val (.long q0), .second, .val (.long q1), .second, .val (.long q2), .second, .val (.int p3), .val (.long lim), .second, .val (.long (4611686018427387903 : Int64)), .second, .val (.long half), .second, .val (.int (p3 &&& (3 : Int32))), .val (.long chs), .second, .val (.long (own_tk p3 half (q2 &&& (4611686018427387903 : Int64)))), .second, .val (.int (own_exp half chs)), .val (.ref b50), .val (.int (own_fit lim ((2 : Int64) * chs))), .unset] [(.ref b50)])) _
          refine XS.lload X57.here hx rfl (hb hby at_156) rfl ?_
          exact kt
        obtain ⟨cq60, kq60, q60a, q60b, q60c⟩ := isOf hZ e57 Eq53
        obtain ⟨_, _, ⟨T61, L61, k61, n61⟩, -, X61, ⟨Lc61, hQ61, l61, y61, z61⟩, st61⟩ := X57.virtualBack hx (y := (⟨"com/example/href/href/text/KeptRoom", "fitsKeepLimit", "(J)Z"⟩ : MethodName)) (z := (⟨"com/example/href/href/text/KeptRoom", "fitsKeepLimit", "(J)Z"⟩ : MethodName)) hown (mvT hZ (hw _ (List.mem_of_getElem? (i := 31) rfl))) (mvT hZ (hw _ (List.mem_of_getElem? (i := 32) rfl))) (notFace_of_selects (args := #[]) (mvT hZ (hw _ (List.mem_of_getElem? (i := 34) rfl)))) (mvT hZ (hw _ (List.mem_of_getElem? (i := 34) rfl))) (mvT hZ (hw _ (List.mem_of_getElem? (i := 33) rfl))) (by decide) (backOf (W := 0) (rm5 l Z a0 hw [] b50 chs ot53 lim T53.heap n0 f55 Fq53 Fl53) hZ (hw _ (List.mem_of_getElem? (i := 35) rfl)) (hw _ (List.mem_of_getElem? (i := 9) rfl)) (by decide) (by decide)) q60a q60c (g := (mkF m 158 #[.val (.long q0), .second, .val (.long q1), .second, .val (.long q2), .second, .val (.int p3), .val (.long lim), .second, .val (.long (4611686018427387903 : Int64)), .second, .val (.long half), .second, .val (.int (p3 &&& (3 : Int32))), .val (.long chs), .second, .val (.long (own_tk p3 half (q2 &&& (4611686018427387903 : Int64)))), .second, .val (.int (own_exp half chs)), .val (.ref b50), .val (.int (own_fit lim ((2 : Int64) * chs))), .unset] [(.long chs), (.ref b50)])) rfl (by rw [hml]; rfl) (Steps.refl _) (argsL := [(.long chs)]) (rest := []) (lenOf pd_2 rfl) rfl (by show 2 * 0 + _ ≤ _; exact Nat.le_of_eq rfl) (hb hby at_158) (fun _ _ => ⟨rfl, e57, (by decide : 3 + 0 ≤ _), (by decide : 7 + 0 ≤ _)⟩)
        dsimp only [Pt.U, Pt.locs, Pt.cells, Pt.slots] at X61 l61 y61 z61 st61 hQ61
        subst l61 y61 z61
        obtain ⟨rfl, N61q, e61⟩ := hQ61
        have N61 := Fr.app N57 N61q
        have c63 : ∀ t, Steps p.tables e below (T61.setTop (mkF m 167 #[.val (.long q0), .second, .val (.long q1), .second, .val (.long q2), .second, .val (.int p3), .val (.long lim), .second, .val (.long (4611686018427387903 : Int64)), .second, .val (.long half), .second, .val (.int (p3 &&& (3 : Int32))), .val (.long chs), .second, .val (.long (own_tk p3 half (q2 &&& (4611686018427387903 : Int64)))), .second, .val (.int (own_exp half chs)), .val (.ref b50), .val (.int (own_fit lim ((2 : Int64) * chs))), .val (.int (own_fit lim ((2 : Int64) * chs)))] [(.int (own_exp half chs)), (.int (own_fit lim ((2 : Int64) * chs)))])) t → Steps p.tables e below (T61.setTop (mkF m 161 #[.val (.long q0), .second, .val (.long q1), .second, .val (.long q2), .second, .val (.int p3), .val (.long lim), .second, .val (.long (4611686018427387903 : Int64)), .second, .val (.long half), .second, .val (.int (p3 &&& (3 : Int32))), .val (.long chs), .second, .val (.long (own_tk p3 half (q2 &&& (4611686018427387903 : Int64)))), .second, .val (.int (own_exp half chs)), .val (.ref b50), .val (.int (own_fit lim ((2 : Int64) * chs))), .unset] [(.int (own_fit lim ((2 : Int64) * chs)))])) t := by
          intro t kt
          show Steps p.tables e below (T61.setTop (mkF m 161 #[.val (.long q0), .second, .val (.long q1), .second, .val (.long q2), .second, .val (.int p3), .val (.long lim), .second, .val (.long (4611686018427387903 : Int64)), .second, .val (.long half), .second, .val (.int (p3 &&& (3 : Int32))), .val (.long chs), .second, .val (.long (own_tk p3 half (q2 &&& (4611686018427387903 : Int64)))), .second, .val (.int (own_exp half chs)), .val (.ref b50), .val (.int (own_fit lim ((2 : Int64) * chs))), .unset] [(.int (own_fit lim ((2 : Int64) * chs)))])) _
          refine XS.istore X61.here hx rfl (hb hby at_161) rfl (l' := #[.val (.long q0), .second, .val (.long q1), .second, .val (.long q2), .second, .val (.int p3), .val (.long lim), .second, .val (.long (4611686018427387903 : Int64)), .second, .val (.long half), .second, .val (.int (p3 &&& (3 : Int32))), .val (.long chs), .second, .val (.long (own_tk p3 half (q2 &&& (4611686018427387903 : Int64)))), .second, .val (.int (own_exp half chs)), .val (.ref b50), .val (.int (own_fit lim ((2 : Int64) * chs))), .val (.int (own_fit lim ((2 : Int64) * chs)))]) rfl ?_
          show Steps p.tables e below (T61.setTop (mkF m 163 #[.val (.long q0), .second, .val (.long q1), .second, .val (.long q2), .second, .val (.int p3), .val (.long lim), .second, .val (.long (4611686018427387903 : Int64)), .second, .val (.long half), .second, .val (.int (p3 &&& (3 : Int32))), .val (.long chs), .second, .val (.long (own_tk p3 half (q2 &&& (4611686018427387903 : Int64)))), .second, .val (.int (own_exp half chs)), .val (.ref b50), .val (.int (own_fit lim ((2 : Int64) * chs))), .val (.int (own_fit lim ((2 : Int64) * chs)))] [])) _
          refine XS.iload X61.here hx rfl (hb hby at_163) rfl ?_
          show Steps p.tables e below (T61.setTop (mkF m 165 #[.val (.long q0), .second, .val (.long q1), .second, .val (.long q2), .second, .val (.int p3), .val (.long lim), .second, .val (.long (4611686018427387903 : Int64)), .second, .val (.long half), .second, .val (.int (p3 &&& (3 : Int32))), .val (.long chs), .second, .val (.long (own_tk p3 half (q2 &&& (4611686018427387903 : Int64)))), .second, .val (.int (own_exp half chs)), .val (.ref b50), .val (.int (own_fit lim ((2 : Int64) * chs))), .val (.int (own_fit lim ((2 : Int64) * chs)))] [(.int (own_fit lim ((2 : Int64) * chs)))])) _
          refine XS.iload X61.here hx rfl (hb hby at_165) rfl ?_
          exact kt
        have hd62 : (own_fit lim ((2 : Int64) * chs)) = (own_exp half chs) := own_eq lim half chs hl0 hh hc.1 hc.2
        have c65 : ∀ t, Steps p.tables e below (T61.setTop (mkF m 174 #[.val (.long q0), .second, .val (.long q1), .second, .val (.long q2), .second, .val (.int p3), .val (.long lim), .second, .val (.long (4611686018427387903 : Int64)), .second, .val (.long half), .second, .val (.int (p3 &&& (3 : Int32))), .val (.long chs), .second, .val (.long (own_tk p3 half (q2 &&& (4611686018427387903 : Int64)))), .second, .val (.int (own_exp half chs)), .val (.ref b50), .val (.int (own_fit lim ((2 : Int64) * chs))), .val (.int (own_fit lim ((2 : Int64) * chs)))] [(.int (own_exp half chs)), (.int (own_fit lim ((2 : Int64) * chs)))])) t → Steps p.tables e below (T61.setTop (mkF m 167 #[.val (.long q0), .second, .val (.long q1), .second, .val (.long q2), .second, .val (.int p3), .val (.long lim), .second, .val (.long (4611686018427387903 : Int64)), .second, .val (.long half), .second, .val (.int (p3 &&& (3 : Int32))), .val (.long chs), .second, .val (.long (own_tk p3 half (q2 &&& (4611686018427387903 : Int64)))), .second, .val (.int (own_exp half chs)), .val (.ref b50), .val (.int (own_fit lim ((2 : Int64) * chs))), .val (.int (own_fit lim ((2 : Int64) * chs)))] [(.int (own_exp half chs)), (.int (own_fit lim ((2 : Int64) * chs)))])) t := by
          intro t kt
          show Steps p.tables e below (T61.setTop (mkF m 167 #[.val (.long q0), .second, .val (.long q1), .second, .val (.long q2), .second, .val (.int p3), .val (.long lim), .second, .val (.long (4611686018427387903 : Int64)), .second, .val (.long half), .second, .val (.int (p3 &&& (3 : Int32))), .val (.long chs), .second, .val (.long (own_tk p3 half (q2 &&& (4611686018427387903 : Int64)))), .second, .val (.int (own_exp half chs)), .val (.ref b50), .val (.int (own_fit lim ((2 : Int64) * chs))), .val (.int (own_fit lim ((2 : Int64) * chs)))] [(.int (own_exp half chs)), (.int (own_fit lim ((2 : Int64) * chs)))])) _
          refine XS.icmpNo X61.here hx rfl (hb hby at_167) rfl (teq (hd62)).2 ?_
          show Steps p.tables e below (T61.setTop (mkF m 170 #[.val (.long q0), .second, .val (.long q1), .second, .val (.long q2), .second, .val (.int p3), .val (.long lim), .second, .val (.long (4611686018427387903 : Int64)), .second, .val (.long half), .second, .val (.int (p3 &&& (3 : Int32))), .val (.long chs), .second, .val (.long (own_tk p3 half (q2 &&& (4611686018427387903 : Int64)))), .second, .val (.int (own_exp half chs)), .val (.ref b50), .val (.int (own_fit lim ((2 : Int64) * chs))), .val (.int (own_fit lim ((2 : Int64) * chs)))] [])) _
          refine XS.iload X61.here hx rfl (hb hby at_170) rfl ?_
          show Steps p.tables e below (T61.setTop (mkF m 172 #[.val (.long q0), .second, .val (.long q1), .second, .val (.long q2), .second, .val (.int p3), .val (.long lim), .second, .val (.long (4611686018427387903 : Int64)), .second, .val (.long half), .second, .val (.int (p3 &&& (3 : Int32))), .val (.long chs), .second, .val (.long (own_tk p3 half (q2 &&& (4611686018427387903 : Int64)))), .second, .val (.int (own_exp half chs)), .val (.ref b50), .val (.int (own_fit lim ((2 : Int64) * chs))), .val (.int (own_fit lim ((2 : Int64) * chs)))] [(.int (own_fit lim ((2 : Int64) * chs)))])) _
          refine XS.iload X61.here hx rfl (hb hby at_172) rfl ?_
          exact kt
        have hd64 : (own_fit lim ((2 : Int64) * chs)) = (own_exp half chs) := own_eq lim half chs hl0 hh hc.1 hc.2
        have c66 : ∀ t, Steps p.tables e below (T61.setTop (mkF m 182 #[.val (.long q0), .second, .val (.long q1), .second, .val (.long q2), .second, .val (.int p3), .val (.long lim), .second, .val (.long (4611686018427387903 : Int64)), .second, .val (.long half), .second, .val (.int (p3 &&& (3 : Int32))), .val (.long chs), .second, .val (.long (own_tk p3 half (q2 &&& (4611686018427387903 : Int64)))), .second, .val (.int (own_exp half chs)), .val (.ref b50), .val (.int (own_fit lim ((2 : Int64) * chs))), .val (.int (own_fit lim ((2 : Int64) * chs)))] [(.int (1 : Int32))])) t → Steps p.tables e below (T61.setTop (mkF m 174 #[.val (.long q0), .second, .val (.long q1), .second, .val (.long q2), .second, .val (.int p3), .val (.long lim), .second, .val (.long (4611686018427387903 : Int64)), .second, .val (.long half), .second, .val (.int (p3 &&& (3 : Int32))), .val (.long chs), .second, .val (.long (own_tk p3 half (q2 &&& (4611686018427387903 : Int64)))), .second, .val (.int (own_exp half chs)), .val (.ref b50), .val (.int (own_fit lim ((2 : Int64) * chs))), .val (.int (own_fit lim ((2 : Int64) * chs)))] [(.int (own_exp half chs)), (.int (own_fit lim ((2 : Int64) * chs)))])) t := by
          intro t kt
          show Steps p.tables e below (T61.setTop (mkF m 174 #[.val (.long q0), .second, .val (.long q1), .second, .val (.long q2), .second, .val (.int p3), .val (.long lim), .second, .val (.long (4611686018427387903 : Int64)), .second, .val (.long half), .second, .val (.int (p3 &&& (3 : Int32))), .val (.long chs), .second, .val (.long (own_tk p3 half (q2 &&& (4611686018427387903 : Int64)))), .second, .val (.int (own_exp half chs)), .val (.ref b50), .val (.int (own_fit lim ((2 : Int64) * chs))), .val (.int (own_fit lim ((2 : Int64) * chs)))] [(.int (own_exp half chs)), (.int (own_fit lim ((2 : Int64) * chs)))])) _
          refine XS.icmpNo X61.here hx rfl (hb hby at_174) rfl (teq (hd64)).2 ?_
          show Steps p.tables e below (T61.setTop (mkF m 177 #[.val (.long q0), .second, .val (.long q1), .second, .val (.long q2), .second, .val (.int p3), .val (.long lim), .second, .val (.long (4611686018427387903 : Int64)), .second, .val (.long half), .second, .val (.int (p3 &&& (3 : Int32))), .val (.long chs), .second, .val (.long (own_tk p3 half (q2 &&& (4611686018427387903 : Int64)))), .second, .val (.int (own_exp half chs)), .val (.ref b50), .val (.int (own_fit lim ((2 : Int64) * chs))), .val (.int (own_fit lim ((2 : Int64) * chs)))] [])) _
          refine XS.iconst X61.here hx rfl (hb hby at_177) ?_
          show Steps p.tables e below (T61.setTop (mkF m 178 #[.val (.long q0), .second, .val (.long q1), .second, .val (.long q2), .second, .val (.int p3), .val (.long lim), .second, .val (.long (4611686018427387903 : Int64)), .second, .val (.long half), .second, .val (.int (p3 &&& (3 : Int32))), .val (.long chs), .second, .val (.long (own_tk p3 half (q2 &&& (4611686018427387903 : Int64)))), .second, .val (.int (own_exp half chs)), .val (.ref b50), .val (.int (own_fit lim ((2 : Int64) * chs))), .val (.int (own_fit lim ((2 : Int64) * chs)))] [(.int (1 : Int32))])) _
          refine XS.goto X61.here hx rfl (pc0 := 178) (pc' := 182) rfl (hb hby at_178) (by decide) (by decide) ?_
          exact kt
        obtain ⟨fs, hr, hrun, hended, hW, hsame⟩ := X61.leave (v := some (.int (1 : Int32))) (fun h => by rw [Bd.returns] at h; cases h)
        refine ⟨_, _, pre0 _ (c1 _ (c2 _ (c3 _ (c4 _ (c5 _ (c43 _ (c44 _ (st45 _ (c46 _ (c47 _ (c48 _ (c49 _ (st50 _ (c51 _ (st53.trans (c54 _ (st57.trans (c58 _ (c59 _ (st61.trans (c63 _ (c65 _ (c66 _ (?_)))))))))))))))))))))))), hrun, hended, _, _, rfl, ?_, ⟨_, rfl⟩, hW, hsame.mono (by decide) (by decide)⟩
        · show Steps p.tables e below (T61.setTop (mkF m 182 #[.val (.long q0), .second, .val (.long q1), .second, .val (.long q2), .second, .val (.int p3), .val (.long lim), .second, .val (.long (4611686018427387903 : Int64)), .second, .val (.long half), .second, .val (.int (p3 &&& (3 : Int32))), .val (.long chs), .second, .val (.long (own_tk p3 half (q2 &&& (4611686018427387903 : Int64)))), .second, .val (.int (own_exp half chs)), .val (.ref b50), .val (.int (own_fit lim ((2 : Int64) * chs))), .val (.int (own_fit lim ((2 : Int64) * chs)))] [(.int (1 : Int32))])) _
          exact retN X61 hx (t := .boolean) Bd.returns (by simp) (hb hby at_182) hr
        · show Q0 Z q0 q1 q2 p3 h0 n0 _ T61.heap _
          rw [e61]
          exact ⟨congrArg (fun z => some (Value.int z)) (show (1 : Int32) = (1 : Int32) from by rfl), N61⟩
      · -- it isn't
        have c68 : ∀ t, Steps p.tables e below (T57.setTop (mkF m 150 #[.val (.long q0), .second, .val (.long q1), .second, .val (.long q2), .second, .val (.int p3), .val (.long lim), .second, .val (.long (4611686018427387903 : Int64)), .second, .val (.long half), .second, .val (.int (p3 &&& (3 : Int32))), .val (.long chs), .second, .val (.long (own_tk p3 half (q2 &&& (4611686018427387903 : Int64)))), .second, .val (.int (own_exp half chs)), .val (.ref b50), .val (.int (own_fit lim ((2 : Int64) * chs))), .unset] [(.long (own_tk p3 half (q2 &&& (4611686018427387903 : Int64)))), (.ref b50)])) t → Steps p.tables e below (T57.setTop (mkF m 143 #[.val (.long q0), .second, .val (.long q1), .second, .val (.long q2), .second, .val (.int p3), .val (.long lim), .second, .val (.long (4611686018427387903 : Int64)), .second, .val (.long half), .second, .val (.int (p3 &&& (3 : Int32))), .val (.long chs), .second, .val (.long (own_tk p3 half (q2 &&& (4611686018427387903 : Int64)))), .second, .val (.int (own_exp half chs)), .val (.ref b50), .val (.int (own_fit lim ((2 : Int64) * chs))), .unset] [(.int (p3 &&& (4 : Int32)))])) t := by
          intro t kt
          show Steps p.tables e below (T57.setTop (mkF m 143 #[.val (.long q0), .second, .val (.long q1), .second, .val (.long q2), .second, .val (.int p3), .val (.long lim), .second, .val (.long (4611686018427387903 : Int64)), .second, .val (.long half), .second, .val (.int (p3 &&& (3 : Int32))), .val (.long chs), .second, .val (.long (own_tk p3 half (q2 &&& (4611686018427387903 : Int64)))), .second, .val (.int (own_exp half chs)), .val (.ref b50), .val (.int (own_fit lim ((2 : Int64) * chs))), .unset] [(.int (p3 &&& (4 : Int32)))])) _
          refine XS.ifNo X57.here hx rfl (hb hby at_143) rfl ((if0 _ _).trans (feq hc143).1) ?_
          show Steps p.tables e below (T57.setTop (mkF m 146 #[.val (.long q0), .second, .val (.long q1), .second, .val (.long q2), .second, .val (.int p3), .val (.long lim), .second, .val (.long (4611686018427387903 : Int64)), .second, .val (.long half), .second, .val (.int (p3 &&& (3 : Int32))), .val (.long chs), .second, .val (.long (own_tk p3 half (q2 &&& (4611686018427387903 : Int64)))), .second, .val (.int (own_exp half chs)), .val (.ref b50), .val (.int (own_fit lim ((2 : Int64) * chs))), .unset] [])) _
          refine XS.aload X57.here hx rfl (hb hby at_146) rfl rfl ?_
          show Steps p.tables e below (T57.setTop (mkF m 148 #[.val (.long q0), .second, .val (.long q1), .second, .val (.long q2), .second, .val (.int p3), .val (.long lim), .second, .val (.long (4611686018427387903 : Int64)), .second, .val (.long half), .second, .val (.int (p3 &&& (3 : Int32))), .val (.long chs), .second, .val (.long (own_tk p3 half (q2 &&& (4611686018427387903 : Int64)))), .second, .val (.int (own_exp half chs)), .val (.ref b50), .val (.int (own_fit lim ((2 : Int64) * chs))), .unset] [(.ref b50)])) _
          refine XS.lload X57.here hx rfl (hb hby at_148) rfl ?_
          exact kt
        obtain ⟨cq69, kq69, q69a, q69b, q69c⟩ := isOf hZ e57 Eq53
        obtain ⟨_, _, ⟨T70, L70, k70, n70⟩, -, X70, ⟨Lc70, hQ70, l70, y70, z70⟩, st70⟩ := X57.virtualBack hx (y := (⟨"com/example/href/href/text/KeptRoom", "reserveText", "(J)Z"⟩ : MethodName)) (z := (⟨"com/example/href/href/text/KeptRoom", "reserveText", "(J)Z"⟩ : MethodName)) hown (mvT hZ (hw _ (List.mem_of_getElem? (i := 41) rfl))) (mvT hZ (hw _ (List.mem_of_getElem? (i := 42) rfl))) (notFace_of_selects (args := #[]) (mvT hZ (hw _ (List.mem_of_getElem? (i := 44) rfl)))) (mvT hZ (hw _ (List.mem_of_getElem? (i := 44) rfl))) (mvT hZ (hw _ (List.mem_of_getElem? (i := 43) rfl))) (by decide) (backOf (W := 0) (rm7 l Z a0 hw [] b50 (own_tk p3 half (q2 &&& (4611686018427387903 : Int64))) ot53 lim lim T53.heap n0 f55 Fq53 Fl53 Ff53 Et53 g_ot53 Uq53) hZ (hw _ (List.mem_of_getElem? (i := 45) rfl)) (hw _ (List.mem_of_getElem? (i := 9) rfl)) (by decide) (by decide)) q69a q69c (g := (mkF m 150 #[.val (.long q0), .second, .val (.long q1), .second, .val (.long q2), .second, .val (.int p3), .val (.long lim), .second, .val (.long (4611686018427387903 : Int64)), .second, .val (.long half), .second, .val (.int (p3 &&& (3 : Int32))), .val (.long chs), .second, .val (.long (own_tk p3 half (q2 &&& (4611686018427387903 : Int64)))), .second, .val (.int (own_exp half chs)), .val (.ref b50), .val (.int (own_fit lim ((2 : Int64) * chs))), .unset] [(.long (own_tk p3 half (q2 &&& (4611686018427387903 : Int64)))), (.ref b50)])) rfl (by rw [hml]; rfl) (Steps.refl _) (argsL := [(.long (own_tk p3 half (q2 &&& (4611686018427387903 : Int64))))]) (rest := []) (lenOf pd_2 rfl) rfl (by show 2 * 0 + _ ≤ _; exact Nat.le_of_eq rfl) (hb hby at_150) (fun _ _ => ⟨rfl, e57, (by decide : 3 + 0 ≤ _), (by decide : 7 + 0 ≤ _)⟩)
        dsimp only [Pt.U, Pt.locs, Pt.cells, Pt.slots] at X70 l70 y70 z70 st70 hQ70
        subst l70 y70 z70
        obtain ⟨zr70, rfl, N70q, Kq70, Fq70⟩ := hQ70
        have N70 := Fr.app N57 N70q
        have c71 : ∀ t, Steps p.tables e below (T70.setTop (mkF m 158 #[.val (.long q0), .second, .val (.long q1), .second, .val (.long q2), .second, .val (.int p3), .val (.long lim), .second, .val (.long (4611686018427387903 : Int64)), .second, .val (.long half), .second, .val (.int (p3 &&& (3 : Int32))), .val (.long chs), .second, .val (.long (own_tk p3 half (q2 &&& (4611686018427387903 : Int64)))), .second, .val (.int (own_exp half chs)), .val (.ref b50), .val (.int (own_fit lim ((2 : Int64) * chs))), .unset] [(.long chs), (.ref b50)])) t → Steps p.tables e below (T70.setTop (mkF m 153 #[.val (.long q0), .second, .val (.long q1), .second, .val (.long q2), .second, .val (.int p3), .val (.long lim), .second, .val (.long (4611686018427387903 : Int64)), .second, .val (.long half), .second, .val (.int (p3 &&& (3 : Int32))), .val (.long chs), .second, .val (.long (own_tk p3 half (q2 &&& (4611686018427387903 : Int64)))), .second, .val (.int (own_exp half chs)), .val (.ref b50), .val (.int (own_fit lim ((2 : Int64) * chs))), .unset] [(.int zr70)])) t := by
          intro t kt
          show Steps p.tables e below (T70.setTop (mkF m 153 #[.val (.long q0), .second, .val (.long q1), .second, .val (.long q2), .second, .val (.int p3), .val (.long lim), .second, .val (.long (4611686018427387903 : Int64)), .second, .val (.long half), .second, .val (.int (p3 &&& (3 : Int32))), .val (.long chs), .second, .val (.long (own_tk p3 half (q2 &&& (4611686018427387903 : Int64)))), .second, .val (.int (own_exp half chs)), .val (.ref b50), .val (.int (own_fit lim ((2 : Int64) * chs))), .unset] [(.int zr70)])) _
          refine XS.pop X70.here hx rfl (hb hby at_153) rfl rfl ?_
          show Steps p.tables e below (T70.setTop (mkF m 154 #[.val (.long q0), .second, .val (.long q1), .second, .val (.long q2), .second, .val (.int p3), .val (.long lim), .second, .val (.long (4611686018427387903 : Int64)), .second, .val (.long half), .second, .val (.int (p3 &&& (3 : Int32))), .val (.long chs), .second, .val (.long (own_tk p3 half (q2 &&& (4611686018427387903 : Int64)))), .second, .val (.int (own_exp half chs)), .val (.ref b50), .val (.int (own_fit lim ((2 : Int64) * chs))), .unset] [])) _
          refine XS.aload X70.here hx rfl (hb hby at_154) rfl rfl ?_
          show Steps p.tables e below (T70.setTop (mkF m 156 #[.val (.long q0), .second, .val (.long q1), .second, .val (.long q2), .second, .val (.int p3), .val (.long lim), .second, .val (.long (4611686018427387903 : Int64)), .second, .val (.long half), .second, .val (.int (p3 &&& (3 : Int32))), .val (.long chs), .second, .val (.long (own_tk p3 half (q2 &&& (4611686018427387903 : Int64)))), .second, .val (.int (own_exp half chs)), .val (.ref b50), .val (.int (own_fit lim ((2 : Int64) * chs))), .unset] [(.ref b50)])) _
          refine XS.lload X70.here hx rfl (hb hby at_156) rfl ?_
          exact kt
        have f72 := (Nat.le_trans f55 Kq70.1)
        have f73 := (Fq53.keep Kq70 (ninS ne53 nin0))
        have f74 := (Eq53.keep Kq70)
        obtain ⟨cq75, kq75, q75a, q75b, q75c⟩ := isOf hZ rfl f74
        obtain ⟨_, _, ⟨T76, L76, k76, n76⟩, -, X76, ⟨Lc76, hQ76, l76, y76, z76⟩, st76⟩ := X70.virtualBack hx (y := (⟨"com/example/href/href/text/KeptRoom", "fitsKeepLimit", "(J)Z"⟩ : MethodName)) (z := (⟨"com/example/href/href/text/KeptRoom", "fitsKeepLimit", "(J)Z"⟩ : MethodName)) hown (mvT hZ (hw _ (List.mem_of_getElem? (i := 31) rfl))) (mvT hZ (hw _ (List.mem_of_getElem? (i := 32) rfl))) (notFace_of_selects (args := #[]) (mvT hZ (hw _ (List.mem_of_getElem? (i := 34) rfl)))) (mvT hZ (hw _ (List.mem_of_getElem? (i := 34) rfl))) (mvT hZ (hw _ (List.mem_of_getElem? (i := 33) rfl))) (by decide) (backOf (W := 0) (rm5 l Z a0 hw [] b50 chs ot53 lim T70.heap n0 f72 f73 Fq70) hZ (hw _ (List.mem_of_getElem? (i := 35) rfl)) (hw _ (List.mem_of_getElem? (i := 9) rfl)) (by decide) (by decide)) q75a q75c (g := (mkF m 158 #[.val (.long q0), .second, .val (.long q1), .second, .val (.long q2), .second, .val (.int p3), .val (.long lim), .second, .val (.long (4611686018427387903 : Int64)), .second, .val (.long half), .second, .val (.int (p3 &&& (3 : Int32))), .val (.long chs), .second, .val (.long (own_tk p3 half (q2 &&& (4611686018427387903 : Int64)))), .second, .val (.int (own_exp half chs)), .val (.ref b50), .val (.int (own_fit lim ((2 : Int64) * chs))), .unset] [(.long chs), (.ref b50)])) rfl (by rw [hml]; rfl) (Steps.refl _) (argsL := [(.long chs)]) (rest := []) (lenOf pd_2 rfl) rfl (by show 2 * 0 + _ ≤ _; exact Nat.le_of_eq rfl) (hb hby at_158) (fun _ _ => ⟨rfl, rfl, (by decide : 3 + 0 ≤ _), (by decide : 7 + 0 ≤ _)⟩)
        dsimp only [Pt.U, Pt.locs, Pt.cells, Pt.slots] at X76 l76 y76 z76 st76 hQ76
        subst l76 y76 z76
        obtain ⟨rfl, N76q, e76⟩ := hQ76
        have N76 := Fr.app N70 N76q
        have c78 : ∀ t, Steps p.tables e below (T76.setTop (mkF m 167 #[.val (.long q0), .second, .val (.long q1), .second, .val (.long q2), .second, .val (.int p3), .val (.long lim), .second, .val (.long (4611686018427387903 : Int64)), .second, .val (.long half), .second, .val (.int (p3 &&& (3 : Int32))), .val (.long chs), .second, .val (.long (own_tk p3 half (q2 &&& (4611686018427387903 : Int64)))), .second, .val (.int (own_exp half chs)), .val (.ref b50), .val (.int (own_fit lim ((2 : Int64) * chs))), .val (.int (own_fit lim ((2 : Int64) * chs)))] [(.int (own_exp half chs)), (.int (own_fit lim ((2 : Int64) * chs)))])) t → Steps p.tables e below (T76.setTop (mkF m 161 #[.val (.long q0), .second, .val (.long q1), .second, .val (.long q2), .second, .val (.int p3), .val (.long lim), .second, .val (.long (4611686018427387903 : Int64)), .second, .val (.long half), .second, .val (.int (p3 &&& (3 : Int32))), .val (.long chs), .second, .val (.long (own_tk p3 half (q2 &&& (4611686018427387903 : Int64)))), .second, .val (.int (own_exp half chs)), .val (.ref b50), .val (.int (own_fit lim ((2 : Int64) * chs))), .unset] [(.int (own_fit lim ((2 : Int64) * chs)))])) t := by
          intro t kt
          show Steps p.tables e below (T76.setTop (mkF m 161 #[.val (.long q0), .second, .val (.long q1), .second, .val (.long q2), .second, .val (.int p3), .val (.long lim), .second, .val (.long (4611686018427387903 : Int64)), .second, .val (.long half), .second, .val (.int (p3 &&& (3 : Int32))), .val (.long chs), .second, .val (.long (own_tk p3 half (q2 &&& (4611686018427387903 : Int64)))), .second, .val (.int (own_exp half chs)), .val (.ref b50), .val (.int (own_fit lim ((2 : Int64) * chs))), .unset] [(.int (own_fit lim ((2 : Int64) * chs)))])) _
          refine XS.istore X76.here hx rfl (hb hby at_161) rfl (l' := #[.val (.long q0), .second, .val (.long q1), .second, .val (.long q2), .second, .val (.int p3), .val (.long lim), .second, .val (.long (4611686018427387903 : Int64)), .second, .val (.long half), .second, .val (.int (p3 &&& (3 : Int32))), .val (.long chs), .second, .val (.long (own_tk p3 half (q2 &&& (4611686018427387903 : Int64)))), .second, .val (.int (own_exp half chs)), .val (.ref b50), .val (.int (own_fit lim ((2 : Int64) * chs))), .val (.int (own_fit lim ((2 : Int64) * chs)))]) rfl ?_
          show Steps p.tables e below (T76.setTop (mkF m 163 #[.val (.long q0), .second, .val (.long q1), .second, .val (.long q2), .second, .val (.int p3), .val (.long lim), .second, .val (.long (4611686018427387903 : Int64)), .second, .val (.long half), .second, .val (.int (p3 &&& (3 : Int32))), .val (.long chs), .second, .val (.long (own_tk p3 half (q2 &&& (4611686018427387903 : Int64)))), .second, .val (.int (own_exp half chs)), .val (.ref b50), .val (.int (own_fit lim ((2 : Int64) * chs))), .val (.int (own_fit lim ((2 : Int64) * chs)))] [])) _
          refine XS.iload X76.here hx rfl (hb hby at_163) rfl ?_
          show Steps p.tables e below (T76.setTop (mkF m 165 #[.val (.long q0), .second, .val (.long q1), .second, .val (.long q2), .second, .val (.int p3), .val (.long lim), .second, .val (.long (4611686018427387903 : Int64)), .second, .val (.long half), .second, .val (.int (p3 &&& (3 : Int32))), .val (.long chs), .second, .val (.long (own_tk p3 half (q2 &&& (4611686018427387903 : Int64)))), .second, .val (.int (own_exp half chs)), .val (.ref b50), .val (.int (own_fit lim ((2 : Int64) * chs))), .val (.int (own_fit lim ((2 : Int64) * chs)))] [(.int (own_fit lim ((2 : Int64) * chs)))])) _
          refine XS.iload X76.here hx rfl (hb hby at_165) rfl ?_
          exact kt
        have hd77 : (own_fit lim ((2 : Int64) * chs)) = (own_exp half chs) := own_eq lim half chs hl0 hh hc.1 hc.2
        have c80 : ∀ t, Steps p.tables e below (T76.setTop (mkF m 174 #[.val (.long q0), .second, .val (.long q1), .second, .val (.long q2), .second, .val (.int p3), .val (.long lim), .second, .val (.long (4611686018427387903 : Int64)), .second, .val (.long half), .second, .val (.int (p3 &&& (3 : Int32))), .val (.long chs), .second, .val (.long (own_tk p3 half (q2 &&& (4611686018427387903 : Int64)))), .second, .val (.int (own_exp half chs)), .val (.ref b50), .val (.int (own_fit lim ((2 : Int64) * chs))), .val (.int (own_fit lim ((2 : Int64) * chs)))] [(.int (own_exp half chs)), (.int (own_fit lim ((2 : Int64) * chs)))])) t → Steps p.tables e below (T76.setTop (mkF m 167 #[.val (.long q0), .second, .val (.long q1), .second, .val (.long q2), .second, .val (.int p3), .val (.long lim), .second, .val (.long (4611686018427387903 : Int64)), .second, .val (.long half), .second, .val (.int (p3 &&& (3 : Int32))), .val (.long chs), .second, .val (.long (own_tk p3 half (q2 &&& (4611686018427387903 : Int64)))), .second, .val (.int (own_exp half chs)), .val (.ref b50), .val (.int (own_fit lim ((2 : Int64) * chs))), .val (.int (own_fit lim ((2 : Int64) * chs)))] [(.int (own_exp half chs)), (.int (own_fit lim ((2 : Int64) * chs)))])) t := by
          intro t kt
          show Steps p.tables e below (T76.setTop (mkF m 167 #[.val (.long q0), .second, .val (.long q1), .second, .val (.long q2), .second, .val (.int p3), .val (.long lim), .second, .val (.long (4611686018427387903 : Int64)), .second, .val (.long half), .second, .val (.int (p3 &&& (3 : Int32))), .val (.long chs), .second, .val (.long (own_tk p3 half (q2 &&& (4611686018427387903 : Int64)))), .second, .val (.int (own_exp half chs)), .val (.ref b50), .val (.int (own_fit lim ((2 : Int64) * chs))), .val (.int (own_fit lim ((2 : Int64) * chs)))] [(.int (own_exp half chs)), (.int (own_fit lim ((2 : Int64) * chs)))])) _
          refine XS.icmpNo X76.here hx rfl (hb hby at_167) rfl (teq (hd77)).2 ?_
          show Steps p.tables e below (T76.setTop (mkF m 170 #[.val (.long q0), .second, .val (.long q1), .second, .val (.long q2), .second, .val (.int p3), .val (.long lim), .second, .val (.long (4611686018427387903 : Int64)), .second, .val (.long half), .second, .val (.int (p3 &&& (3 : Int32))), .val (.long chs), .second, .val (.long (own_tk p3 half (q2 &&& (4611686018427387903 : Int64)))), .second, .val (.int (own_exp half chs)), .val (.ref b50), .val (.int (own_fit lim ((2 : Int64) * chs))), .val (.int (own_fit lim ((2 : Int64) * chs)))] [])) _
          refine XS.iload X76.here hx rfl (hb hby at_170) rfl ?_
          show Steps p.tables e below (T76.setTop (mkF m 172 #[.val (.long q0), .second, .val (.long q1), .second, .val (.long q2), .second, .val (.int p3), .val (.long lim), .second, .val (.long (4611686018427387903 : Int64)), .second, .val (.long half), .second, .val (.int (p3 &&& (3 : Int32))), .val (.long chs), .second, .val (.long (own_tk p3 half (q2 &&& (4611686018427387903 : Int64)))), .second, .val (.int (own_exp half chs)), .val (.ref b50), .val (.int (own_fit lim ((2 : Int64) * chs))), .val (.int (own_fit lim ((2 : Int64) * chs)))] [(.int (own_fit lim ((2 : Int64) * chs)))])) _
          refine XS.iload X76.here hx rfl (hb hby at_172) rfl ?_
          exact kt
        have hd79 : (own_fit lim ((2 : Int64) * chs)) = (own_exp half chs) := own_eq lim half chs hl0 hh hc.1 hc.2
        have c81 : ∀ t, Steps p.tables e below (T76.setTop (mkF m 182 #[.val (.long q0), .second, .val (.long q1), .second, .val (.long q2), .second, .val (.int p3), .val (.long lim), .second, .val (.long (4611686018427387903 : Int64)), .second, .val (.long half), .second, .val (.int (p3 &&& (3 : Int32))), .val (.long chs), .second, .val (.long (own_tk p3 half (q2 &&& (4611686018427387903 : Int64)))), .second, .val (.int (own_exp half chs)), .val (.ref b50), .val (.int (own_fit lim ((2 : Int64) * chs))), .val (.int (own_fit lim ((2 : Int64) * chs)))] [(.int (1 : Int32))])) t → Steps p.tables e below (T76.setTop (mkF m 174 #[.val (.long q0), .second, .val (.long q1), .second, .val (.long q2), .second, .val (.int p3), .val (.long lim), .second, .val (.long (4611686018427387903 : Int64)), .second, .val (.long half), .second, .val (.int (p3 &&& (3 : Int32))), .val (.long chs), .second, .val (.long (own_tk p3 half (q2 &&& (4611686018427387903 : Int64)))), .second, .val (.int (own_exp half chs)), .val (.ref b50), .val (.int (own_fit lim ((2 : Int64) * chs))), .val (.int (own_fit lim ((2 : Int64) * chs)))] [(.int (own_exp half chs)), (.int (own_fit lim ((2 : Int64) * chs)))])) t := by
          intro t kt
          show Steps p.tables e below (T76.setTop (mkF m 174 #[.val (.long q0), .second, .val (.long q1), .second, .val (.long q2), .second, .val (.int p3), .val (.long lim), .second, .val (.long (4611686018427387903 : Int64)), .second, .val (.long half), .second, .val (.int (p3 &&& (3 : Int32))), .val (.long chs), .second, .val (.long (own_tk p3 half (q2 &&& (4611686018427387903 : Int64)))), .second, .val (.int (own_exp half chs)), .val (.ref b50), .val (.int (own_fit lim ((2 : Int64) * chs))), .val (.int (own_fit lim ((2 : Int64) * chs)))] [(.int (own_exp half chs)), (.int (own_fit lim ((2 : Int64) * chs)))])) _
          refine XS.icmpNo X76.here hx rfl (hb hby at_174) rfl (teq (hd79)).2 ?_
          show Steps p.tables e below (T76.setTop (mkF m 177 #[.val (.long q0), .second, .val (.long q1), .second, .val (.long q2), .second, .val (.int p3), .val (.long lim), .second, .val (.long (4611686018427387903 : Int64)), .second, .val (.long half), .second, .val (.int (p3 &&& (3 : Int32))), .val (.long chs), .second, .val (.long (own_tk p3 half (q2 &&& (4611686018427387903 : Int64)))), .second, .val (.int (own_exp half chs)), .val (.ref b50), .val (.int (own_fit lim ((2 : Int64) * chs))), .val (.int (own_fit lim ((2 : Int64) * chs)))] [])) _
          refine XS.iconst X76.here hx rfl (hb hby at_177) ?_
          show Steps p.tables e below (T76.setTop (mkF m 178 #[.val (.long q0), .second, .val (.long q1), .second, .val (.long q2), .second, .val (.int p3), .val (.long lim), .second, .val (.long (4611686018427387903 : Int64)), .second, .val (.long half), .second, .val (.int (p3 &&& (3 : Int32))), .val (.long chs), .second, .val (.long (own_tk p3 half (q2 &&& (4611686018427387903 : Int64)))), .second, .val (.int (own_exp half chs)), .val (.ref b50), .val (.int (own_fit lim ((2 : Int64) * chs))), .val (.int (own_fit lim ((2 : Int64) * chs)))] [(.int (1 : Int32))])) _
          refine XS.goto X76.here hx rfl (pc0 := 178) (pc' := 182) rfl (hb hby at_178) (by decide) (by decide) ?_
          exact kt
        obtain ⟨fs, hr, hrun, hended, hW, hsame⟩ := X76.leave (v := some (.int (1 : Int32))) (fun h => by rw [Bd.returns] at h; cases h)
        refine ⟨_, _, pre0 _ (c1 _ (c2 _ (c3 _ (c4 _ (c5 _ (c43 _ (c44 _ (st45 _ (c46 _ (c47 _ (c48 _ (c49 _ (st50 _ (c51 _ (st53.trans (c54 _ (st57.trans (c58 _ (c68 _ (st70.trans (c71 _ (st76.trans (c78 _ (c80 _ (c81 _ (?_)))))))))))))))))))))))))), hrun, hended, _, _, rfl, ?_, ⟨_, rfl⟩, hW, hsame.mono (by decide) (by decide)⟩
        · show Steps p.tables e below (T76.setTop (mkF m 182 #[.val (.long q0), .second, .val (.long q1), .second, .val (.long q2), .second, .val (.int p3), .val (.long lim), .second, .val (.long (4611686018427387903 : Int64)), .second, .val (.long half), .second, .val (.int (p3 &&& (3 : Int32))), .val (.long chs), .second, .val (.long (own_tk p3 half (q2 &&& (4611686018427387903 : Int64)))), .second, .val (.int (own_exp half chs)), .val (.ref b50), .val (.int (own_fit lim ((2 : Int64) * chs))), .val (.int (own_fit lim ((2 : Int64) * chs)))] [(.int (1 : Int32))])) _
          exact retN X76 hx (t := .boolean) Bd.returns (by simp) (hb hby at_182) hr
        · show Q0 Z q0 q1 q2 p3 h0 n0 _ T76.heap _
          rw [e76]
          exact ⟨congrArg (fun z => some (Value.int z)) (show (1 : Int32) = (1 : Int32) from by rfl), N76⟩
    · -- it isn't
      have c83 : ∀ t, Steps p.tables e below (s₁.setTop (mkF m 61 #[.val (.long q0), .second, .val (.long q1), .second, .val (.long q2), .second, .val (.int p3), .val (.long lim), .second, .val (.long (4611686018427387903 : Int64)), .second, .val (.long half), .second, .val (.int (p3 &&& (3 : Int32))), .unset, .unset, .unset, .unset, .unset, .unset, .unset, .unset] [(.int (2 : Int32)), (.int (p3 &&& (3 : Int32)))])) t → Steps p.tables e below (s₁.setTop (mkF m 41 #[.val (.long q0), .second, .val (.long q1), .second, .val (.long q2), .second, .val (.int p3), .val (.long lim), .second, .val (.long (4611686018427387903 : Int64)), .second, .val (.long half), .second, .val (.int (p3 &&& (3 : Int32))), .unset, .unset, .unset, .unset, .unset, .unset, .unset, .unset] [(.int (1 : Int32)), (.int (p3 &&& (3 : Int32)))])) t := by
        intro t kt
        show Steps p.tables e below (s₁.setTop (mkF m 41 #[.val (.long q0), .second, .val (.long q1), .second, .val (.long q2), .second, .val (.int p3), .val (.long lim), .second, .val (.long (4611686018427387903 : Int64)), .second, .val (.long half), .second, .val (.int (p3 &&& (3 : Int32))), .unset, .unset, .unset, .unset, .unset, .unset, .unset, .unset] [(.int (1 : Int32)), (.int (p3 &&& (3 : Int32)))])) _
        refine XS.icmpYes X0.here hx rfl (pc0 := 41) (pc' := 58) rfl (hb hby at_41) rfl (feq hc41).2 (by decide) (by decide) ?_
        show Steps p.tables e below (s₁.setTop (mkF m 58 #[.val (.long q0), .second, .val (.long q1), .second, .val (.long q2), .second, .val (.int p3), .val (.long lim), .second, .val (.long (4611686018427387903 : Int64)), .second, .val (.long half), .second, .val (.int (p3 &&& (3 : Int32))), .unset, .unset, .unset, .unset, .unset, .unset, .unset, .unset] [])) _
        refine XS.iload X0.here hx rfl (hb hby at_58) rfl ?_
        show Steps p.tables e below (s₁.setTop (mkF m 60 #[.val (.long q0), .second, .val (.long q1), .second, .val (.long q2), .second, .val (.int p3), .val (.long lim), .second, .val (.long (4611686018427387903 : Int64)), .second, .val (.long half), .second, .val (.int (p3 &&& (3 : Int32))), .unset, .unset, .unset, .unset, .unset, .unset, .unset, .unset] [(.int (p3 &&& (3 : Int32)))])) _
        refine XS.iconst X0.here hx rfl (hb hby at_60) ?_
        exact kt
      by_cases hc61 : (p3 &&& (3 : Int32)) = (2 : Int32)
      · -- it is
        have c84 : ∀ t, Steps p.tables e below (s₁.setTop (mkF m 69 #[.val (.long q0), .second, .val (.long q1), .second, .val (.long q2), .second, .val (.int p3), .val (.long lim), .second, .val (.long (4611686018427387903 : Int64)), .second, .val (.long half), .second, .val (.int (p3 &&& (3 : Int32))), .unset, .unset, .unset, .unset, .unset, .unset, .unset, .unset] [(.long (0 : Int64)), (.long (half - (1 : Int64)))])) t → Steps p.tables e below (s₁.setTop (mkF m 61 #[.val (.long q0), .second, .val (.long q1), .second, .val (.long q2), .second, .val (.int p3), .val (.long lim), .second, .val (.long (4611686018427387903 : Int64)), .second, .val (.long half), .second, .val (.int (p3 &&& (3 : Int32))), .unset, .unset, .unset, .unset, .unset, .unset, .unset, .unset] [(.int (2 : Int32)), (.int (p3 &&& (3 : Int32)))])) t := by
          intro t kt
          show Steps p.tables e below (s₁.setTop (mkF m 61 #[.val (.long q0), .second, .val (.long q1), .second, .val (.long q2), .second, .val (.int p3), .val (.long lim), .second, .val (.long (4611686018427387903 : Int64)), .second, .val (.long half), .second, .val (.int (p3 &&& (3 : Int32))), .unset, .unset, .unset, .unset, .unset, .unset, .unset, .unset] [(.int (2 : Int32)), (.int (p3 &&& (3 : Int32)))])) _
          refine XS.icmpNo X0.here hx rfl (hb hby at_61) rfl (teq hc61).2 ?_
          show Steps p.tables e below (s₁.setTop (mkF m 64 #[.val (.long q0), .second, .val (.long q1), .second, .val (.long q2), .second, .val (.int p3), .val (.long lim), .second, .val (.long (4611686018427387903 : Int64)), .second, .val (.long half), .second, .val (.int (p3 &&& (3 : Int32))), .unset, .unset, .unset, .unset, .unset, .unset, .unset, .unset] [])) _
          refine XS.lload X0.here hx rfl (hb hby at_64) rfl ?_
          show Steps p.tables e below (s₁.setTop (mkF m 66 #[.val (.long q0), .second, .val (.long q1), .second, .val (.long q2), .second, .val (.int p3), .val (.long lim), .second, .val (.long (4611686018427387903 : Int64)), .second, .val (.long half), .second, .val (.int (p3 &&& (3 : Int32))), .unset, .unset, .unset, .unset, .unset, .unset, .unset, .unset] [(.long half)])) _
          refine XS.lconst X0.here hx rfl (hb hby at_66) ?_
          show Steps p.tables e below (s₁.setTop (mkF m 67 #[.val (.long q0), .second, .val (.long q1), .second, .val (.long q2), .second, .val (.int p3), .val (.long lim), .second, .val (.long (4611686018427387903 : Int64)), .second, .val (.long half), .second, .val (.int (p3 &&& (3 : Int32))), .unset, .unset, .unset, .unset, .unset, .unset, .unset, .unset] [(.long (1 : Int64)), (.long half)])) _
          refine XS.lsub X0.here hx rfl (hb hby at_67) rfl ?_
          show Steps p.tables e below (s₁.setTop (mkF m 68 #[.val (.long q0), .second, .val (.long q1), .second, .val (.long q2), .second, .val (.int p3), .val (.long lim), .second, .val (.long (4611686018427387903 : Int64)), .second, .val (.long half), .second, .val (.int (p3 &&& (3 : Int32))), .unset, .unset, .unset, .unset, .unset, .unset, .unset, .unset] [(.long (half - (1 : Int64)))])) _
          refine XS.lconst X0.here hx rfl (hb hby at_68) ?_
          exact kt
        obtain ⟨_, _, ⟨T85, L85, k85, n85⟩, -, X85, ⟨Lc85, hQ85, l85, y85, z85⟩, st85⟩ := Jvm.LawKit.callS X0 hx (y := (⟨"java/lang/Math", "max", "(JJ)J"⟩ : MethodName)) hown (mvT hZ (hw _ (List.mem_of_getElem? (i := 3) rfl))) (mvT hZ (hw _ (List.mem_of_getElem? (i := 4) rfl))) (mvT hZ (hw _ (List.mem_of_getElem? (i := 5) rfl))) (mvT hZ (hw _ (List.mem_of_getElem? (i := 6) rfl))) (by decide) (backOf (W := 0) (rm1 l Z a0 hw [] (half - (1 : Int64)) (0 : Int64)  h0 n0 Z0 ) hZ (hw _ (List.mem_of_getElem? (i := 6) rfl)) (hw _ (List.mem_of_getElem? (i := 5) rfl)) (by decide) (by decide)) (g := (mkF m 69 #[.val (.long q0), .second, .val (.long q1), .second, .val (.long q2), .second, .val (.int p3), .val (.long lim), .second, .val (.long (4611686018427387903 : Int64)), .second, .val (.long half), .second, .val (.int (p3 &&& (3 : Int32))), .unset, .unset, .unset, .unset, .unset, .unset, .unset, .unset] [(.long (0 : Int64)), (.long (half - (1 : Int64)))])) rfl (by rw [hml]; rfl) (argsL := [(.long (half - (1 : Int64))), (.long (0 : Int64))]) (rest := []) (lenOf pd_4 rfl) rfl (by show 2 * 0 + _ ≤ _; exact Nat.le_of_eq rfl) (hb hby at_69) (fun _ _ => ⟨rfl, e0, (by decide : 0 + 0 ≤ _), (by decide : 0 + 0 ≤ _)⟩)
        dsimp only [Pt.U, Pt.locs, Pt.cells, Pt.slots] at X85 l85 y85 z85 st85 hQ85
        subst l85 y85 z85
        obtain ⟨rfl, N85q, e85⟩ := hQ85
        have N85 := Fr.app N0 N85q
        have c86 : ∀ t, Steps p.tables e below (T85.setTop (mkF m 83 #[.val (.long q0), .second, .val (.long q1), .second, .val (.long q2), .second, .val (.int p3), .val (.long lim), .second, .val (.long (4611686018427387903 : Int64)), .second, .val (.long half), .second, .val (.int (p3 &&& (3 : Int32))), .val (.long (own_max (half - (1 : Int64)) (0 : Int64))), .second, .unset, .unset, .unset, .unset, .unset, .unset] [])) t → Steps p.tables e below (T85.setTop (mkF m 72 #[.val (.long q0), .second, .val (.long q1), .second, .val (.long q2), .second, .val (.int p3), .val (.long lim), .second, .val (.long (4611686018427387903 : Int64)), .second, .val (.long half), .second, .val (.int (p3 &&& (3 : Int32))), .unset, .unset, .unset, .unset, .unset, .unset, .unset, .unset] [(.long (own_max (half - (1 : Int64)) (0 : Int64)))])) t := by
          intro t kt
          show Steps p.tables e below (T85.setTop (mkF m 72 #[.val (.long q0), .second, .val (.long q1), .second, .val (.long q2), .second, .val (.int p3), .val (.long lim), .second, .val (.long (4611686018427387903 : Int64)), .second, .val (.long half), .second, .val (.int (p3 &&& (3 : Int32))), .unset, .unset, .unset, .unset, .unset, .unset, .unset, .unset] [(.long (own_max (half - (1 : Int64)) (0 : Int64)))])) _
          refine XS.lstore X85.here hx rfl (hb hby at_72) rfl (l' := #[.val (.long q0), .second, .val (.long q1), .second, .val (.long q2), .second, .val (.int p3), .val (.long lim), .second, .val (.long (4611686018427387903 : Int64)), .second, .val (.long half), .second, .val (.int (p3 &&& (3 : Int32))), .val (.long (own_max (half - (1 : Int64)) (0 : Int64))), .second, .unset, .unset, .unset, .unset, .unset, .unset]) rfl ?_
          show Steps p.tables e below (T85.setTop (mkF m 74 #[.val (.long q0), .second, .val (.long q1), .second, .val (.long q2), .second, .val (.int p3), .val (.long lim), .second, .val (.long (4611686018427387903 : Int64)), .second, .val (.long half), .second, .val (.int (p3 &&& (3 : Int32))), .val (.long (own_max (half - (1 : Int64)) (0 : Int64))), .second, .unset, .unset, .unset, .unset, .unset, .unset] [])) _
          refine XS.goto X85.here hx rfl (pc0 := 74) (pc' := 83) rfl (hb hby at_74) (by decide) (by decide) ?_
          exact kt
        obtain ⟨chs, hchs⟩ : ∃ z, z = (own_max (half - (1 : Int64)) (0 : Int64)) := ⟨_, rfl⟩
        have c87 : ∀ t, Steps p.tables e below (T85.setTop (mkF m 83 #[.val (.long q0), .second, .val (.long q1), .second, .val (.long q2), .second, .val (.int p3), .val (.long lim), .second, .val (.long (4611686018427387903 : Int64)), .second, .val (.long half), .second, .val (.int (p3 &&& (3 : Int32))), .val (.long chs), .second, .unset, .unset, .unset, .unset, .unset, .unset] [])) t → Steps p.tables e below (T85.setTop (mkF m 83 #[.val (.long q0), .second, .val (.long q1), .second, .val (.long q2), .second, .val (.int p3), .val (.long lim), .second, .val (.long (4611686018427387903 : Int64)), .second, .val (.long half), .second, .val (.int (p3 &&& (3 : Int32))), .val (.long (own_max (half - (1 : Int64)) (0 : Int64))), .second, .unset, .unset, .unset, .unset, .unset, .unset] [])) t := fun t kt => by rw [hchs] at kt; exact kt
        have hc : 0 ≤ chs.toInt ∧ chs.toInt ≤ 4611686018427387903 := by rw [hchs]; exact own_c2 half hh0 hh1
        have c88 : ∀ t, Steps p.tables e below (T85.setTop (mkF m 103 #[.val (.long q0), .second, .val (.long q1), .second, .val (.long q2), .second, .val (.int p3), .val (.long lim), .second, .val (.long (4611686018427387903 : Int64)), .second, .val (.long half), .second, .val (.int (p3 &&& (3 : Int32))), .val (.long chs), .second, .val (.long (own_tk p3 half (q2 &&& (4611686018427387903 : Int64)))), .second, .unset, .unset, .unset, .unset] [])) t → Steps p.tables e below (T85.setTop (mkF m 83 #[.val (.long q0), .second, .val (.long q1), .second, .val (.long q2), .second, .val (.int p3), .val (.long lim), .second, .val (.long (4611686018427387903 : Int64)), .second, .val (.long half), .second, .val (.int (p3 &&& (3 : Int32))), .val (.long chs), .second, .unset, .unset, .unset, .unset, .unset, .unset] [])) t := by
          intro t kt
          show Steps p.tables e below (T85.setTop (mkF m 83 #[.val (.long q0), .second, .val (.long q1), .second, .val (.long q2), .second, .val (.int p3), .val (.long lim), .second, .val (.long (4611686018427387903 : Int64)), .second, .val (.long half), .second, .val (.int (p3 &&& (3 : Int32))), .val (.long chs), .second, .unset, .unset, .unset, .unset, .unset, .unset] [])) _
          refine XS.iload X85.here hx rfl (hb hby at_83) rfl ?_
          show Steps p.tables e below (T85.setTop (mkF m 85 #[.val (.long q0), .second, .val (.long q1), .second, .val (.long q2), .second, .val (.int p3), .val (.long lim), .second, .val (.long (4611686018427387903 : Int64)), .second, .val (.long half), .second, .val (.int (p3 &&& (3 : Int32))), .val (.long chs), .second, .unset, .unset, .unset, .unset, .unset, .unset] [(.int p3)])) _
          refine XS.bipush X85.here hx rfl (hb hby at_85) ?_
          show Steps p.tables e below (T85.setTop (mkF m 87 #[.val (.long q0), .second, .val (.long q1), .second, .val (.long q2), .second, .val (.int p3), .val (.long lim), .second, .val (.long (4611686018427387903 : Int64)), .second, .val (.long half), .second, .val (.int (p3 &&& (3 : Int32))), .val (.long chs), .second, .unset, .unset, .unset, .unset, .unset, .unset] [(.int (8 : Int32)), (.int p3)])) _
          refine XS.iand X85.here hx rfl (hb hby at_87) rfl ?_
          by_cases hc88 : (p3 &&& (8 : Int32)) = (0 : Int32)
          · -- it is
            show Steps p.tables e below (T85.setTop (mkF m 88 #[.val (.long q0), .second, .val (.long q1), .second, .val (.long q2), .second, .val (.int p3), .val (.long lim), .second, .val (.long (4611686018427387903 : Int64)), .second, .val (.long half), .second, .val (.int (p3 &&& (3 : Int32))), .val (.long chs), .second, .unset, .unset, .unset, .unset, .unset, .unset] [(.int (p3 &&& (8 : Int32)))])) _
            refine XS.ifYes X85.here hx rfl (pc0 := 88) (pc' := 96) rfl (hb hby at_88) rfl ((if0 _ _).trans (teq hc88).1) (by decide) (by decide) ?_
            show Steps p.tables e below (T85.setTop (mkF m 96 #[.val (.long q0), .second, .val (.long q1), .second, .val (.long q2), .second, .val (.int p3), .val (.long lim), .second, .val (.long (4611686018427387903 : Int64)), .second, .val (.long half), .second, .val (.int (p3 &&& (3 : Int32))), .val (.long chs), .second, .unset, .unset, .unset, .unset, .unset, .unset] [])) _
            refine XS.lload X85.here hx rfl (hb hby at_96) rfl ?_
            show Steps p.tables e below (T85.setTop (mkF m 98 #[.val (.long q0), .second, .val (.long q1), .second, .val (.long q2), .second, .val (.int p3), .val (.long lim), .second, .val (.long (4611686018427387903 : Int64)), .second, .val (.long half), .second, .val (.int (p3 &&& (3 : Int32))), .val (.long chs), .second, .unset, .unset, .unset, .unset, .unset, .unset] [(.long q2)])) _
            refine XS.lload X85.here hx rfl (hb hby at_98) rfl ?_
            show Steps p.tables e below (T85.setTop (mkF m 100 #[.val (.long q0), .second, .val (.long q1), .second, .val (.long q2), .second, .val (.int p3), .val (.long lim), .second, .val (.long (4611686018427387903 : Int64)), .second, .val (.long half), .second, .val (.int (p3 &&& (3 : Int32))), .val (.long chs), .second, .unset, .unset, .unset, .unset, .unset, .unset] [(.long (4611686018427387903 : Int64)), (.long q2)])) _
            refine XS.land X85.here hx rfl (hb hby at_100) rfl ?_
            show Steps p.tables e below (T85.setTop (mkF m 101 #[.val (.long q0), .second, .val (.long q1), .second, .val (.long q2), .second, .val (.int p3), .val (.long lim), .second, .val (.long (4611686018427387903 : Int64)), .second, .val (.long half), .second, .val (.int (p3 &&& (3 : Int32))), .val (.long chs), .second, .unset, .unset, .unset, .unset, .unset, .unset] [(.long (q2 &&& (4611686018427387903 : Int64)))])) _
            refine XS.lstore X85.here hx rfl (hb hby at_101) rfl (l' := #[.val (.long q0), .second, .val (.long q1), .second, .val (.long q2), .second, .val (.int p3), .val (.long lim), .second, .val (.long (4611686018427387903 : Int64)), .second, .val (.long half), .second, .val (.int (p3 &&& (3 : Int32))), .val (.long chs), .second, .val (.long (q2 &&& (4611686018427387903 : Int64))), .second, .unset, .unset, .unset, .unset]) rfl ?_
            rw [show (own_tk p3 half (q2 &&& (4611686018427387903 : Int64))) = (q2 &&& (4611686018427387903 : Int64)) from by unfold own_tk; rw [if_pos hc88]] at kt
            exact kt
          · -- it isn't
            show Steps p.tables e below (T85.setTop (mkF m 88 #[.val (.long q0), .second, .val (.long q1), .second, .val (.long q2), .second, .val (.int p3), .val (.long lim), .second, .val (.long (4611686018427387903 : Int64)), .second, .val (.long half), .second, .val (.int (p3 &&& (3 : Int32))), .val (.long chs), .second, .unset, .unset, .unset, .unset, .unset, .unset] [(.int (p3 &&& (8 : Int32)))])) _
            refine XS.ifNo X85.here hx rfl (hb hby at_88) rfl ((if0 _ _).trans (feq hc88).1) ?_
            show Steps p.tables e below (T85.setTop (mkF m 91 #[.val (.long q0), .second, .val (.long q1), .second, .val (.long q2), .second, .val (.int p3), .val (.long lim), .second, .val (.long (4611686018427387903 : Int64)), .second, .val (.long half), .second, .val (.int (p3 &&& (3 : Int32))), .val (.long chs), .second, .unset, .unset, .unset, .unset, .unset, .unset] [])) _
            refine XS.lload X85.here hx rfl (hb hby at_91) rfl ?_
            show Steps p.tables e below (T85.setTop (mkF m 93 #[.val (.long q0), .second, .val (.long q1), .second, .val (.long q2), .second, .val (.int p3), .val (.long lim), .second, .val (.long (4611686018427387903 : Int64)), .second, .val (.long half), .second, .val (.int (p3 &&& (3 : Int32))), .val (.long chs), .second, .unset, .unset, .unset, .unset, .unset, .unset] [(.long half)])) _
            refine XS.goto X85.here hx rfl (pc0 := 93) (pc' := 101) rfl (hb hby at_93) (by decide) (by decide) ?_
            show Steps p.tables e below (T85.setTop (mkF m 101 #[.val (.long q0), .second, .val (.long q1), .second, .val (.long q2), .second, .val (.int p3), .val (.long lim), .second, .val (.long (4611686018427387903 : Int64)), .second, .val (.long half), .second, .val (.int (p3 &&& (3 : Int32))), .val (.long chs), .second, .unset, .unset, .unset, .unset, .unset, .unset] [(.long half)])) _
            refine XS.lstore X85.here hx rfl (hb hby at_101) rfl (l' := #[.val (.long q0), .second, .val (.long q1), .second, .val (.long q2), .second, .val (.int p3), .val (.long lim), .second, .val (.long (4611686018427387903 : Int64)), .second, .val (.long half), .second, .val (.int (p3 &&& (3 : Int32))), .val (.long chs), .second, .val (.long half), .second, .unset, .unset, .unset, .unset]) rfl ?_
            rw [show (own_tk p3 half (q2 &&& (4611686018427387903 : Int64))) = half from by unfold own_tk; rw [if_neg hc88]] at kt
            exact kt
        have c89 : ∀ t, Steps p.tables e below (T85.setTop (mkF m 118 #[.val (.long q0), .second, .val (.long q1), .second, .val (.long q2), .second, .val (.int p3), .val (.long lim), .second, .val (.long (4611686018427387903 : Int64)), .second, .val (.long half), .second, .val (.int (p3 &&& (3 : Int32))), .val (.long chs), .second, .val (.long (own_tk p3 half (q2 &&& (4611686018427387903 : Int64)))), .second, .val (.int (own_exp half chs)), .unset, .unset, .unset] [])) t → Steps p.tables e below (T85.setTop (mkF m 103 #[.val (.long q0), .second, .val (.long q1), .second, .val (.long q2), .second, .val (.int p3), .val (.long lim), .second, .val (.long (4611686018427387903 : Int64)), .second, .val (.long half), .second, .val (.int (p3 &&& (3 : Int32))), .val (.long chs), .second, .val (.long (own_tk p3 half (q2 &&& (4611686018427387903 : Int64)))), .second, .unset, .unset, .unset, .unset] [])) t := by
          intro t kt
          show Steps p.tables e below (T85.setTop (mkF m 103 #[.val (.long q0), .second, .val (.long q1), .second, .val (.long q2), .second, .val (.int p3), .val (.long lim), .second, .val (.long (4611686018427387903 : Int64)), .second, .val (.long half), .second, .val (.int (p3 &&& (3 : Int32))), .val (.long chs), .second, .val (.long (own_tk p3 half (q2 &&& (4611686018427387903 : Int64)))), .second, .unset, .unset, .unset, .unset] [])) _
          refine XS.lload X85.here hx rfl (hb hby at_103) rfl ?_
          show Steps p.tables e below (T85.setTop (mkF m 105 #[.val (.long q0), .second, .val (.long q1), .second, .val (.long q2), .second, .val (.int p3), .val (.long lim), .second, .val (.long (4611686018427387903 : Int64)), .second, .val (.long half), .second, .val (.int (p3 &&& (3 : Int32))), .val (.long chs), .second, .val (.long (own_tk p3 half (q2 &&& (4611686018427387903 : Int64)))), .second, .unset, .unset, .unset, .unset] [(.long chs)])) _
          refine XS.lload X85.here hx rfl (hb hby at_105) rfl ?_
          show Steps p.tables e below (T85.setTop (mkF m 107 #[.val (.long q0), .second, .val (.long q1), .second, .val (.long q2), .second, .val (.int p3), .val (.long lim), .second, .val (.long (4611686018427387903 : Int64)), .second, .val (.long half), .second, .val (.int (p3 &&& (3 : Int32))), .val (.long chs), .second, .val (.long (own_tk p3 half (q2 &&& (4611686018427387903 : Int64)))), .second, .unset, .unset, .unset, .unset] [(.long half), (.long chs)])) _
          refine XS.lcmp X85.here hx rfl (hb hby at_107) rfl ?_
          by_cases hc108 : half < chs
          · -- it is
            show Steps p.tables e below (T85.setTop (mkF m 108 #[.val (.long q0), .second, .val (.long q1), .second, .val (.long q2), .second, .val (.int p3), .val (.long lim), .second, .val (.long (4611686018427387903 : Int64)), .second, .val (.long half), .second, .val (.int (p3 &&& (3 : Int32))), .val (.long chs), .second, .val (.long (own_tk p3 half (q2 &&& (4611686018427387903 : Int64)))), .second, .unset, .unset, .unset, .unset] [(.int (lcmpW chs half))])) _
            refine XS.ifYes X85.here hx rfl (pc0 := 108) (pc' := 115) rfl (hb hby at_108) rfl ((if0 _ _).trans (tlt ((lw_gt _ _).mpr hc108)).2.2.1) (by decide) (by decide) ?_
            show Steps p.tables e below (T85.setTop (mkF m 115 #[.val (.long q0), .second, .val (.long q1), .second, .val (.long q2), .second, .val (.int p3), .val (.long lim), .second, .val (.long (4611686018427387903 : Int64)), .second, .val (.long half), .second, .val (.int (p3 &&& (3 : Int32))), .val (.long chs), .second, .val (.long (own_tk p3 half (q2 &&& (4611686018427387903 : Int64)))), .second, .unset, .unset, .unset, .unset] [])) _
            refine XS.iconst X85.here hx rfl (hb hby at_115) ?_
            show Steps p.tables e below (T85.setTop (mkF m 116 #[.val (.long q0), .second, .val (.long q1), .second, .val (.long q2), .second, .val (.int p3), .val (.long lim), .second, .val (.long (4611686018427387903 : Int64)), .second, .val (.long half), .second, .val (.int (p3 &&& (3 : Int32))), .val (.long chs), .second, .val (.long (own_tk p3 half (q2 &&& (4611686018427387903 : Int64)))), .second, .unset, .unset, .unset, .unset] [(.int (0 : Int32))])) _
            refine XS.istore X85.here hx rfl (hb hby at_116) rfl (l' := #[.val (.long q0), .second, .val (.long q1), .second, .val (.long q2), .second, .val (.int p3), .val (.long lim), .second, .val (.long (4611686018427387903 : Int64)), .second, .val (.long half), .second, .val (.int (p3 &&& (3 : Int32))), .val (.long chs), .second, .val (.long (own_tk p3 half (q2 &&& (4611686018427387903 : Int64)))), .second, .val (.int (0 : Int32)), .unset, .unset, .unset]) rfl ?_
            rw [show (own_exp half chs) = (0 : Int32) from by unfold own_exp; rw [if_pos hc108]] at kt
            exact kt
          · -- it isn't
            show Steps p.tables e below (T85.setTop (mkF m 108 #[.val (.long q0), .second, .val (.long q1), .second, .val (.long q2), .second, .val (.int p3), .val (.long lim), .second, .val (.long (4611686018427387903 : Int64)), .second, .val (.long half), .second, .val (.int (p3 &&& (3 : Int32))), .val (.long chs), .second, .val (.long (own_tk p3 half (q2 &&& (4611686018427387903 : Int64)))), .second, .unset, .unset, .unset, .unset] [(.int (lcmpW chs half))])) _
            refine XS.ifNo X85.here hx rfl (hb hby at_108) rfl ((if0 _ _).trans (flt (fun q => hc108 ((lw_gt _ _).mp q))).2.2.1) ?_
            show Steps p.tables e below (T85.setTop (mkF m 111 #[.val (.long q0), .second, .val (.long q1), .second, .val (.long q2), .second, .val (.int p3), .val (.long lim), .second, .val (.long (4611686018427387903 : Int64)), .second, .val (.long half), .second, .val (.int (p3 &&& (3 : Int32))), .val (.long chs), .second, .val (.long (own_tk p3 half (q2 &&& (4611686018427387903 : Int64)))), .second, .unset, .unset, .unset, .unset] [])) _
            refine XS.iconst X85.here hx rfl (hb hby at_111) ?_
            show Steps p.tables e below (T85.setTop (mkF m 112 #[.val (.long q0), .second, .val (.long q1), .second, .val (.long q2), .second, .val (.int p3), .val (.long lim), .second, .val (.long (4611686018427387903 : Int64)), .second, .val (.long half), .second, .val (.int (p3 &&& (3 : Int32))), .val (.long chs), .second, .val (.long (own_tk p3 half (q2 &&& (4611686018427387903 : Int64)))), .second, .unset, .unset, .unset, .unset] [(.int (1 : Int32))])) _
            refine XS.goto X85.here hx rfl (pc0 := 112) (pc' := 116) rfl (hb hby at_112) (by decide) (by decide) ?_
            show Steps p.tables e below (T85.setTop (mkF m 116 #[.val (.long q0), .second, .val (.long q1), .second, .val (.long q2), .second, .val (.int p3), .val (.long lim), .second, .val (.long (4611686018427387903 : Int64)), .second, .val (.long half), .second, .val (.int (p3 &&& (3 : Int32))), .val (.long chs), .second, .val (.long (own_tk p3 half (q2 &&& (4611686018427387903 : Int64)))), .second, .unset, .unset, .unset, .unset] [(.int (1 : Int32))])) _
            refine XS.istore X85.here hx rfl (hb hby at_116) rfl (l' := #[.val (.long q0), .second, .val (.long q1), .second, .val (.long q2), .second, .val (.int p3), .val (.long lim), .second, .val (.long (4611686018427387903 : Int64)), .second, .val (.long half), .second, .val (.int (p3 &&& (3 : Int32))), .val (.long chs), .second, .val (.long (own_tk p3 half (q2 &&& (4611686018427387903 : Int64)))), .second, .val (.int (1 : Int32)), .unset, .unset, .unset]) rfl ?_
            rw [show (own_exp half chs) = (1 : Int32) from by unfold own_exp; rw [if_neg hc108]] at kt
            exact kt
        obtain ⟨T90, h90, X90, e90, E90, A90, D90, U90, st90⟩ := newO X85 hx hZ hown (hw _ (List.mem_of_getElem? (i := 7) rfl)) (hw _ (List.mem_of_getElem? (i := 8) rfl)) (hw _ (List.mem_of_getElem? (i := 9) rfl)) e85 (g := (mkF m 118 #[.val (.long q0), .second, .val (.long q1), .second, .val (.long q2), .second, .val (.int p3), .val (.long lim), .second, .val (.long (4611686018427387903 : Int64)), .second, .val (.long half), .second, .val (.int (p3 &&& (3 : Int32))), .val (.long chs), .second, .val (.long (own_tk p3 half (q2 &&& (4611686018427387903 : Int64)))), .second, .val (.int (own_exp half chs)), .unset, .unset, .unset] [])) rfl (hb hby at_118) (by decide) (by decide)
        obtain ⟨b90, g90⟩ : ∃ z, z = h0.size := ⟨_, rfl⟩
        rw [← g90] at A90 D90 U90 st90
        have g_b90 : n0 ≤ b90 := Nat.le_trans Z0 (Nat.le_of_eq g90.symm)
        have sz_b90 : h0.size ≤ b90 := Nat.le_trans (Keep.refl h0 []).1 (Nat.le_of_eq g90.symm)
        have Un90 : Unt h90 b90 := U90
        have F90_texts : Fld Z h90 b90 "com/example/href/href/text/KeptRoom" "texts" "Lcom/example/href/href/text/KeptRoom$Room;" .null := D90 (Or.inr (hw _ (List.mem_of_getElem? (i := 28) rfl))) (ty := (.object "com/example/href/href/text/KeptRoom$Room")) (by decide)
        have F90_records : Fld Z h90 b90 "com/example/href/href/text/KeptRoom" "records" "Lcom/example/href/href/text/KeptRoom$Room;" .null := D90 (Or.inr (hw _ (List.mem_of_getElem? (i := 30) rfl))) (ty := (.object "com/example/href/href/text/KeptRoom$Room")) (by decide)
        have c91 : ∀ t, Steps p.tables e below (T90.setTop (mkF m 125 #[.val (.long q0), .second, .val (.long q1), .second, .val (.long q2), .second, .val (.int p3), .val (.long lim), .second, .val (.long (4611686018427387903 : Int64)), .second, .val (.long half), .second, .val (.int (p3 &&& (3 : Int32))), .val (.long chs), .second, .val (.long (own_tk p3 half (q2 &&& (4611686018427387903 : Int64)))), .second, .val (.int (own_exp half chs)), .unset, .unset, .unset] [(.long (0 : Int64)), (.long lim), (.ref b90), (.ref b90)])) t → Steps p.tables e below (T90.setTop (mkF m 121 #[.val (.long q0), .second, .val (.long q1), .second, .val (.long q2), .second, .val (.int p3), .val (.long lim), .second, .val (.long (4611686018427387903 : Int64)), .second, .val (.long half), .second, .val (.int (p3 &&& (3 : Int32))), .val (.long chs), .second, .val (.long (own_tk p3 half (q2 &&& (4611686018427387903 : Int64)))), .second, .val (.int (own_exp half chs)), .unset, .unset, .unset] [(.ref b90)])) t := by
          intro t kt
          show Steps p.tables e below (T90.setTop (mkF m 121 #[.val (.long q0), .second, .val (.long q1), .second, .val (.long q2), .second, .val (.int p3), .val (.long lim), .second, .val (.long (4611686018427387903 : Int64)), .second, .val (.long half), .second, .val (.int (p3 &&& (3 : Int32))), .val (.long chs), .second, .val (.long (own_tk p3 half (q2 &&& (4611686018427387903 : Int64)))), .second, .val (.int (own_exp half chs)), .unset, .unset, .unset] [(.ref b90)])) _
          refine XS.dup X90.here hx rfl (hb hby at_121) rfl rfl ?_
          show Steps p.tables e below (T90.setTop (mkF m 122 #[.val (.long q0), .second, .val (.long q1), .second, .val (.long q2), .second, .val (.int p3), .val (.long lim), .second, .val (.long (4611686018427387903 : Int64)), .second, .val (.long half), .second, .val (.int (p3 &&& (3 : Int32))), .val (.long chs), .second, .val (.long (own_tk p3 half (q2 &&& (4611686018427387903 : Int64)))), .second, .val (.int (own_exp half chs)), .unset, .unset, .unset] [(.ref b90), (.ref b90)])) _
          refine XS.lload X90.here hx rfl (hb hby at_122) rfl ?_
          show Steps p.tables e below (T90.setTop (mkF m 124 #[.val (.long q0), .second, .val (.long q1), .second, .val (.long q2), .second, .val (.int p3), .val (.long lim), .second, .val (.long (4611686018427387903 : Int64)), .second, .val (.long half), .second, .val (.int (p3 &&& (3 : Int32))), .val (.long chs), .second, .val (.long (own_tk p3 half (q2 &&& (4611686018427387903 : Int64)))), .second, .val (.int (own_exp half chs)), .unset, .unset, .unset] [(.long lim), (.ref b90), (.ref b90)])) _
          refine XS.lconst X90.here hx rfl (hb hby at_124) ?_
          exact kt
        have f92 := (Nat.le_trans Z0 E90.1)
        obtain ⟨_, _, ⟨T93, L93, k93, n93⟩, -, X93, ⟨Lc93, hQ93, l93, y93, z93⟩, st93⟩ := X90.specialBack hx (y := (⟨"com/example/href/href/text/KeptRoom", "<init>", "(JJ)V"⟩ : MethodName)) rfl hown (mvT hZ (hw _ (List.mem_of_getElem? (i := 10) rfl))) (mvT hZ (hw _ (List.mem_of_getElem? (i := 11) rfl))) (mvT hZ (hw _ (List.mem_of_getElem? (i := 12) rfl))) (by decide) (backOf (W := 1) (rm2 l Z a0 hw [] b90 lim (0 : Int64)  h90 n0 f92 F90_texts F90_records A90 g_b90) hZ (hw _ (List.mem_of_getElem? (i := 12) rfl)) (hw _ (List.mem_of_getElem? (i := 9) rfl)) (by decide) (by decide)) (g := (mkF m 125 #[.val (.long q0), .second, .val (.long q1), .second, .val (.long q2), .second, .val (.int p3), .val (.long lim), .second, .val (.long (4611686018427387903 : Int64)), .second, .val (.long half), .second, .val (.int (p3 &&& (3 : Int32))), .val (.long chs), .second, .val (.long (own_tk p3 half (q2 &&& (4611686018427387903 : Int64)))), .second, .val (.int (own_exp half chs)), .unset, .unset, .unset] [(.long (0 : Int64)), (.long lim), (.ref b90), (.ref b90)])) rfl (by rw [hml]; rfl) (Steps.refl _) (a := b90) (argsL := [(.long lim), (.long (0 : Int64))]) (rest := [(.ref b90)]) (lenOf pd_3 rfl) rfl (by show 2 * 0 + _ ≤ _; exact Nat.le_of_eq rfl) (hb hby at_125) (fun _ _ => ⟨rfl, e90, (by decide : 1 + 2 ≤ _), (by decide : 3 + 4 ≤ _)⟩)
        dsimp only [Pt.U, Pt.locs, Pt.cells, Pt.slots] at X93 l93 y93 z93 st93 hQ93
        subst l93 y93 z93
        obtain ⟨ot93, rfl, N93q, Kq93, Eq93, Fq93, g_ot93, Et93, Fl93, Ff93, Uq93⟩ := hQ93
        have N93 := Fr.app N85 N93q
        have ne93 : b90 ≠ ot93 := ne_exa Eq93 Et93 (by decide)
        have c94 : ∀ t, Steps p.tables e below (T93.setTop (mkF m 134 #[.val (.long q0), .second, .val (.long q1), .second, .val (.long q2), .second, .val (.int p3), .val (.long lim), .second, .val (.long (4611686018427387903 : Int64)), .second, .val (.long half), .second, .val (.int (p3 &&& (3 : Int32))), .val (.long chs), .second, .val (.long (own_tk p3 half (q2 &&& (4611686018427387903 : Int64)))), .second, .val (.int (own_exp half chs)), .val (.ref b90), .unset, .unset] [(.long chs), (.ref b90)])) t → Steps p.tables e below (T93.setTop (mkF m 128 #[.val (.long q0), .second, .val (.long q1), .second, .val (.long q2), .second, .val (.int p3), .val (.long lim), .second, .val (.long (4611686018427387903 : Int64)), .second, .val (.long half), .second, .val (.int (p3 &&& (3 : Int32))), .val (.long chs), .second, .val (.long (own_tk p3 half (q2 &&& (4611686018427387903 : Int64)))), .second, .val (.int (own_exp half chs)), .unset, .unset, .unset] [(.ref b90)])) t := by
          intro t kt
          show Steps p.tables e below (T93.setTop (mkF m 128 #[.val (.long q0), .second, .val (.long q1), .second, .val (.long q2), .second, .val (.int p3), .val (.long lim), .second, .val (.long (4611686018427387903 : Int64)), .second, .val (.long half), .second, .val (.int (p3 &&& (3 : Int32))), .val (.long chs), .second, .val (.long (own_tk p3 half (q2 &&& (4611686018427387903 : Int64)))), .second, .val (.int (own_exp half chs)), .unset, .unset, .unset] [(.ref b90)])) _
          refine XS.astore X93.here hx rfl (hb hby at_128) rfl rfl (l' := #[.val (.long q0), .second, .val (.long q1), .second, .val (.long q2), .second, .val (.int p3), .val (.long lim), .second, .val (.long (4611686018427387903 : Int64)), .second, .val (.long half), .second, .val (.int (p3 &&& (3 : Int32))), .val (.long chs), .second, .val (.long (own_tk p3 half (q2 &&& (4611686018427387903 : Int64)))), .second, .val (.int (own_exp half chs)), .val (.ref b90), .unset, .unset]) rfl ?_
          show Steps p.tables e below (T93.setTop (mkF m 130 #[.val (.long q0), .second, .val (.long q1), .second, .val (.long q2), .second, .val (.int p3), .val (.long lim), .second, .val (.long (4611686018427387903 : Int64)), .second, .val (.long half), .second, .val (.int (p3 &&& (3 : Int32))), .val (.long chs), .second, .val (.long (own_tk p3 half (q2 &&& (4611686018427387903 : Int64)))), .second, .val (.int (own_exp half chs)), .val (.ref b90), .unset, .unset] [])) _
          refine XS.aload X93.here hx rfl (hb hby at_130) rfl rfl ?_
          show Steps p.tables e below (T93.setTop (mkF m 132 #[.val (.long q0), .second, .val (.long q1), .second, .val (.long q2), .second, .val (.int p3), .val (.long lim), .second, .val (.long (4611686018427387903 : Int64)), .second, .val (.long half), .second, .val (.int (p3 &&& (3 : Int32))), .val (.long chs), .second, .val (.long (own_tk p3 half (q2 &&& (4611686018427387903 : Int64)))), .second, .val (.int (own_exp half chs)), .val (.ref b90), .unset, .unset] [(.ref b90)])) _
          refine XS.lload X93.here hx rfl (hb hby at_132) rfl ?_
          exact kt
        have f95 := (Nat.le_trans f92 Kq93.1)
        obtain ⟨cq96, kq96, q96a, q96b, q96c⟩ := isOf hZ rfl Eq93
        obtain ⟨_, _, ⟨T97, L97, k97, n97⟩, -, X97, ⟨Lc97, hQ97, l97, y97, z97⟩, st97⟩ := X93.virtualBack hx (y := (⟨"com/example/href/href/text/KeptRoom", "fitsKeepLimit", "(J)Z"⟩ : MethodName)) (z := (⟨"com/example/href/href/text/KeptRoom", "fitsKeepLimit", "(J)Z"⟩ : MethodName)) hown (mvT hZ (hw _ (List.mem_of_getElem? (i := 31) rfl))) (mvT hZ (hw _ (List.mem_of_getElem? (i := 32) rfl))) (notFace_of_selects (args := #[]) (mvT hZ (hw _ (List.mem_of_getElem? (i := 34) rfl)))) (mvT hZ (hw _ (List.mem_of_getElem? (i := 34) rfl))) (mvT hZ (hw _ (List.mem_of_getElem? (i := 33) rfl))) (by decide) (backOf (W := 0) (rm5 l Z a0 hw [] b90 chs ot93 lim T93.heap n0 f95 Fq93 Fl93) hZ (hw _ (List.mem_of_getElem? (i := 35) rfl)) (hw _ (List.mem_of_getElem? (i := 9) rfl)) (by decide) (by decide)) q96a q96c (g := (mkF m 134 #[.val (.long q0), .second, .val (.long q1), .second, .val (.long q2), .second, .val (.int p3), .val (.long lim), .second, .val (.long (4611686018427387903 : Int64)), .second, .val (.long half), .second, .val (.int (p3 &&& (3 : Int32))), .val (.long chs), .second, .val (.long (own_tk p3 half (q2 &&& (4611686018427387903 : Int64)))), .second, .val (.int (own_exp half chs)), .val (.ref b90), .unset, .unset] [(.long chs), (.ref b90)])) rfl (by rw [hml]; rfl) (Steps.refl _) (argsL := [(.long chs)]) (rest := []) (lenOf pd_2 rfl) rfl (by show 2 * 0 + _ ≤ _; exact Nat.le_of_eq rfl) (hb hby at_134) (fun _ _ => ⟨rfl, rfl, (by decide : 3 + 0 ≤ _), (by decide : 7 + 0 ≤ _)⟩)
        dsimp only [Pt.U, Pt.locs, Pt.cells, Pt.slots] at X97 l97 y97 z97 st97 hQ97
        subst l97 y97 z97
        obtain ⟨rfl, N97q, e97⟩ := hQ97
        have N97 := Fr.app N93 N97q
        have c98 : ∀ t, Steps p.tables e below (T97.setTop (mkF m 143 #[.val (.long q0), .second, .val (.long q1), .second, .val (.long q2), .second, .val (.int p3), .val (.long lim), .second, .val (.long (4611686018427387903 : Int64)), .second, .val (.long half), .second, .val (.int (p3 &&& (3 : Int32))), .val (.long chs), .second, .val (.long (own_tk p3 half (q2 &&& (4611686018427387903 : Int64)))), .second, .val (.int (own_exp half chs)), .val (.ref b90), .val (.int (own_fit lim ((2 : Int64) * chs))), .unset] [(.int (p3 &&& (4 : Int32)))])) t → Steps p.tables e below (T97.setTop (mkF m 137 #[.val (.long q0), .second, .val (.long q1), .second, .val (.long q2), .second, .val (.int p3), .val (.long lim), .second, .val (.long (4611686018427387903 : Int64)), .second, .val (.long half), .second, .val (.int (p3 &&& (3 : Int32))), .val (.long chs), .second, .val (.long (own_tk p3 half (q2 &&& (4611686018427387903 : Int64)))), .second, .val (.int (own_exp half chs)), .val (.ref b90), .unset, .unset] [(.int (own_fit lim ((2 : Int64) * chs)))])) t := by
          intro t kt
          show Steps p.tables e below (T97.setTop (mkF m 137 #[.val (.long q0), .second, .val (.long q1), .second, .val (.long q2), .second, .val (.int p3), .val (.long lim), .second, .val (.long (4611686018427387903 : Int64)), .second, .val (.long half), .second, .val (.int (p3 &&& (3 : Int32))), .val (.long chs), .second, .val (.long (own_tk p3 half (q2 &&& (4611686018427387903 : Int64)))), .second, .val (.int (own_exp half chs)), .val (.ref b90), .unset, .unset] [(.int (own_fit lim ((2 : Int64) * chs)))])) _
          refine XS.istore X97.here hx rfl (hb hby at_137) rfl (l' := #[.val (.long q0), .second, .val (.long q1), .second, .val (.long q2), .second, .val (.int p3), .val (.long lim), .second, .val (.long (4611686018427387903 : Int64)), .second, .val (.long half), .second, .val (.int (p3 &&& (3 : Int32))), .val (.long chs), .second, .val (.long (own_tk p3 half (q2 &&& (4611686018427387903 : Int64)))), .second, .val (.int (own_exp half chs)), .val (.ref b90), .val (.int (own_fit lim ((2 : Int64) * chs))), .unset]) rfl ?_
          show Steps p.tables e below (T97.setTop (mkF m 139 #[.val (.long q0), .second, .val (.long q1), .second, .val (.long q2), .second, .val (.int p3), .val (.long lim), .second, .val (.long (4611686018427387903 : Int64)), .second, .val (.long half), .second, .val (.int (p3 &&& (3 : Int32))), .val (.long chs), .second, .val (.long (own_tk p3 half (q2 &&& (4611686018427387903 : Int64)))), .second, .val (.int (own_exp half chs)), .val (.ref b90), .val (.int (own_fit lim ((2 : Int64) * chs))), .unset] [])) _
          refine XS.iload X97.here hx rfl (hb hby at_139) rfl ?_
          show Steps p.tables e below (T97.setTop (mkF m 141 #[.val (.long q0), .second, .val (.long q1), .second, .val (.long q2), .second, .val (.int p3), .val (.long lim), .second, .val (.long (4611686018427387903 : Int64)), .second, .val (.long half), .second, .val (.int (p3 &&& (3 : Int32))), .val (.long chs), .second, .val (.long (own_tk p3 half (q2 &&& (4611686018427387903 : Int64)))), .second, .val (.int (own_exp half chs)), .val (.ref b90), .val (.int (own_fit lim ((2 : Int64) * chs))), .unset] [(.int p3)])) _
          refine XS.iconst X97.here hx rfl (hb hby at_141) ?_
          show Steps p.tables e below (T97.setTop (mkF m 142 #[.val (.long q0), .second, .val (.long q1), .second, .val (.long q2), .second, .val (.int p3), .val (.long lim), .second, .val (.long (4611686018427387903 : Int64)), .second, .val (.long half), .second, .val (.int (p3 &&& (3 : Int32))), .val (.long chs), .second, .val (.long (own_tk p3 half (q2 &&& (4611686018427387903 : Int64)))), .second, .val (.int (own_exp half chs)), .val (.ref b90), .val (.int (own_fit lim ((2 : Int64) * chs))), .unset] [(.int (4 : Int32)), (.int p3)])) _
          refine XS.iand X97.here hx rfl (hb hby at_142) rfl ?_
          exact kt
        by_cases hc143 : (p3 &&& (4 : Int32)) = (0 : Int32)
        · -- it is
          have c99 : ∀ t, Steps p.tables e below (T97.setTop (mkF m 158 #[.val (.long q0), .second, .val (.long q1), .second, .val (.long q2), .second, .val (.int p3), .val (.long lim), .second, .val (.long (4611686018427387903 : Int64)), .second, .val (.long half), .second, .val (.int (p3 &&& (3 : Int32))), .val (.long chs), .second, .val (.long (own_tk p3 half (q2 &&& (4611686018427387903 : Int64)))), .second, .val (.int (own_exp half chs)), .val (.ref b90), .val (.int (own_fit lim ((2 : Int64) * chs))), .unset] [(.long chs), (.ref b90)])) t → Steps p.tables e below (T97.setTop (mkF m 143 #[.val (.long q0), .second, .val (.long q1), .second, .val (.long q2), .second, .val (.int p3), .val (.long lim), .second, .val (.long (4611686018427387903 : Int64)), .second, .val (.long half), .second, .val (.int (p3 &&& (3 : Int32))), .val (.long chs), .second, .val (.long (own_tk p3 half (q2 &&& (4611686018427387903 : Int64)))), .second, .val (.int (own_exp half chs)), .val (.ref b90), .val (.int (own_fit lim ((2 : Int64) * chs))), .unset] [(.int (p3 &&& (4 : Int32)))])) t := by
            intro t kt
            show Steps p.tables e below (T97.setTop (mkF m 143 #[.val (.long q0), .second, .val (.long q1), .second, .val (.long q2), .second, .val (.int p3), .val (.long lim), .second, .val (.long (4611686018427387903 : Int64)), .second, .val (.long half), .second, .val (.int (p3 &&& (3 : Int32))), .val (.long chs), .second, .val (.long (own_tk p3 half (q2 &&& (4611686018427387903 : Int64)))), .second, .val (.int (own_exp half chs)), .val (.ref b90), .val (.int (own_fit lim ((2 : Int64) * chs))), .unset] [(.int (p3 &&& (4 : Int32)))])) _
            refine XS.ifYes X97.here hx rfl (pc0 := 143) (pc' := 154) rfl (hb hby at_143) rfl ((if0 _ _).trans (teq hc143).1) (by decide) (by decide) ?_
            show Steps p.tables e below (T97.setTop (mkF m 154 #[.val (.long q0), .second, .val (.long q1), .second, .val (.long q2), .second, .val (.int p3), .val (.long lim), .second, .val (.long (4611686018427387903 : Int64)), .second, .val (.long half), .second, .val (.int (p3 &&& (3 : Int32))), .val (.long chs), .second, .val (.long (own_tk p3 half (q2 &&& (4611686018427387903 : Int64)))), .second, .val (.int (own_exp half chs)), .val (.ref b90), .val (.int (own_fit lim ((2 : Int64) * chs))), .unset] [])) _
            refine XS.aload X97.here hx rfl (hb hby at_154) rfl rfl ?_
            show Steps p.tables e below (T97.setTop (mkF m 156 #[.val (.long q0), .second, .val (.long q1), .second, .val (.long q2), .second, .val (.int p3), .val (.long lim), .second, .val (.long (4611686018427387903 : Int64)), .second, .val (.long half), .second, .val (.int (p3 &&& (3 : Int32))), .val (.long chs), .second, .val (.long (own_tk p3 half (q2 &&& (4611686018427387903 : Int64)))), .second, .val (.int (own_exp half chs)), .val (.ref b90), .val (.int (own_fit lim ((2 : Int64) * chs))), .unset] [(.ref b90)])) _
            refine XS.lload X97.here hx rfl (hb hby at_156) rfl ?_
            exact kt
          obtain ⟨cq100, kq100, q100a, q100b, q100c⟩ := isOf hZ e97 Eq93
          obtain ⟨_, _, ⟨T101, L101, k101, n101⟩, -, X101, ⟨Lc101, hQ101, l101, y101, z101⟩, st101⟩ := X97.virtualBack hx (y := (⟨"com/example/href/href/text/KeptRoom", "fitsKeepLimit", "(J)Z"⟩ : MethodName)) (z := (⟨"com/example/href/href/text/KeptRoom", "fitsKeepLimit", "(J)Z"⟩ : MethodName)) hown (mvT hZ (hw _ (List.mem_of_getElem? (i := 31) rfl))) (mvT hZ (hw _ (List.mem_of_getElem? (i := 32) rfl))) (notFace_of_selects (args := #[]) (mvT hZ (hw _ (List.mem_of_getElem? (i := 34) rfl)))) (mvT hZ (hw _ (List.mem_of_getElem? (i := 34) rfl))) (mvT hZ (hw _ (List.mem_of_getElem? (i := 33) rfl))) (by decide) (backOf (W := 0) (rm5 l Z a0 hw [] b90 chs ot93 lim T93.heap n0 f95 Fq93 Fl93) hZ (hw _ (List.mem_of_getElem? (i := 35) rfl)) (hw _ (List.mem_of_getElem? (i := 9) rfl)) (by decide) (by decide)) q100a q100c (g := (mkF m 158 #[.val (.long q0), .second, .val (.long q1), .second, .val (.long q2), .second, .val (.int p3), .val (.long lim), .second, .val (.long (4611686018427387903 : Int64)), .second, .val (.long half), .second, .val (.int (p3 &&& (3 : Int32))), .val (.long chs), .second, .val (.long (own_tk p3 half (q2 &&& (4611686018427387903 : Int64)))), .second, .val (.int (own_exp half chs)), .val (.ref b90), .val (.int (own_fit lim ((2 : Int64) * chs))), .unset] [(.long chs), (.ref b90)])) rfl (by rw [hml]; rfl) (Steps.refl _) (argsL := [(.long chs)]) (rest := []) (lenOf pd_2 rfl) rfl (by show 2 * 0 + _ ≤ _; exact Nat.le_of_eq rfl) (hb hby at_158) (fun _ _ => ⟨rfl, e97, (by decide : 3 + 0 ≤ _), (by decide : 7 + 0 ≤ _)⟩)
          dsimp only [Pt.U, Pt.locs, Pt.cells, Pt.slots] at X101 l101 y101 z101 st101 hQ101
          subst l101 y101 z101
          obtain ⟨rfl, N101q, e101⟩ := hQ101
          have N101 := Fr.app N97 N101q
          have c103 : ∀ t, Steps p.tables e below (T101.setTop (mkF m 167 #[.val (.long q0), .second, .val (.long q1), .second, .val (.long q2), .second, .val (.int p3), .val (.long lim), .second, .val (.long (4611686018427387903 : Int64)), .second, .val (.long half), .second, .val (.int (p3 &&& (3 : Int32))), .val (.long chs), .second, .val (.long (own_tk p3 half (q2 &&& (4611686018427387903 : Int64)))), .second, .val (.int (own_exp half chs)), .val (.ref b90), .val (.int (own_fit lim ((2 : Int64) * chs))), .val (.int (own_fit lim ((2 : Int64) * chs)))] [(.int (own_exp half chs)), (.int (own_fit lim ((2 : Int64) * chs)))])) t → Steps p.tables e below (T101.setTop (mkF m 161 #[.val (.long q0), .second, .val (.long q1), .second, .val (.long q2), .second, .val (.int p3), .val (.long lim), .second, .val (.long (4611686018427387903 : Int64)), .second, .val (.long half), .second, .val (.int (p3 &&& (3 : Int32))), .val (.long chs), .second, .val (.long (own_tk p3 half (q2 &&& (4611686018427387903 : Int64)))), .second, .val (.int (own_exp half chs)), .val (.ref b90), .val (.int (own_fit lim ((2 : Int64) * chs))), .unset] [(.int (own_fit lim ((2 : Int64) * chs)))])) t := by
            intro t kt
            show Steps p.tables e below (T101.setTop (mkF m 161 #[.val (.long q0), .second, .val (.long q1), .second, .val (.long q2), .second, .val (.int p3), .val (.long lim), .second, .val (.long (4611686018427387903 : Int64)), .second, .val (.long half), .second, .val (.int (p3 &&& (3 : Int32))), .val (.long chs), .second, .val (.long (own_tk p3 half (q2 &&& (4611686018427387903 : Int64)))), .second, .val (.int (own_exp half chs)), .val (.ref b90), .val (.int (own_fit lim ((2 : Int64) * chs))), .unset] [(.int (own_fit lim ((2 : Int64) * chs)))])) _
            refine XS.istore X101.here hx rfl (hb hby at_161) rfl (l' := #[.val (.long q0), .second, .val (.long q1), .second, .val (.long q2), .second, .val (.int p3), .val (.long lim), .second, .val (.long (4611686018427387903 : Int64)), .second, .val (.long half), .second, .val (.int (p3 &&& (3 : Int32))), .val (.long chs), .second, .val (.long (own_tk p3 half (q2 &&& (4611686018427387903 : Int64)))), .second, .val (.int (own_exp half chs)), .val (.ref b90), .val (.int (own_fit lim ((2 : Int64) * chs))), .val (.int (own_fit lim ((2 : Int64) * chs)))]) rfl ?_
            show Steps p.tables e below (T101.setTop (mkF m 163 #[.val (.long q0), .second, .val (.long q1), .second, .val (.long q2), .second, .val (.int p3), .val (.long lim), .second, .val (.long (4611686018427387903 : Int64)), .second, .val (.long half), .second, .val (.int (p3 &&& (3 : Int32))), .val (.long chs), .second, .val (.long (own_tk p3 half (q2 &&& (4611686018427387903 : Int64)))), .second, .val (.int (own_exp half chs)), .val (.ref b90), .val (.int (own_fit lim ((2 : Int64) * chs))), .val (.int (own_fit lim ((2 : Int64) * chs)))] [])) _
            refine XS.iload X101.here hx rfl (hb hby at_163) rfl ?_
            show Steps p.tables e below (T101.setTop (mkF m 165 #[.val (.long q0), .second, .val (.long q1), .second, .val (.long q2), .second, .val (.int p3), .val (.long lim), .second, .val (.long (4611686018427387903 : Int64)), .second, .val (.long half), .second, .val (.int (p3 &&& (3 : Int32))), .val (.long chs), .second, .val (.long (own_tk p3 half (q2 &&& (4611686018427387903 : Int64)))), .second, .val (.int (own_exp half chs)), .val (.ref b90), .val (.int (own_fit lim ((2 : Int64) * chs))), .val (.int (own_fit lim ((2 : Int64) * chs)))] [(.int (own_fit lim ((2 : Int64) * chs)))])) _
            refine XS.iload X101.here hx rfl (hb hby at_165) rfl ?_
            exact kt
          have hd102 : (own_fit lim ((2 : Int64) * chs)) = (own_exp half chs) := own_eq lim half chs hl0 hh hc.1 hc.2
          have c105 : ∀ t, Steps p.tables e below (T101.setTop (mkF m 174 #[.val (.long q0), .second, .val (.long q1), .second, .val (.long q2), .second, .val (.int p3), .val (.long lim), .second, .val (.long (4611686018427387903 : Int64)), .second, .val (.long half), .second, .val (.int (p3 &&& (3 : Int32))), .val (.long chs), .second, .val (.long (own_tk p3 half (q2 &&& (4611686018427387903 : Int64)))), .second, .val (.int (own_exp half chs)), .val (.ref b90), .val (.int (own_fit lim ((2 : Int64) * chs))), .val (.int (own_fit lim ((2 : Int64) * chs)))] [(.int (own_exp half chs)), (.int (own_fit lim ((2 : Int64) * chs)))])) t → Steps p.tables e below (T101.setTop (mkF m 167 #[.val (.long q0), .second, .val (.long q1), .second, .val (.long q2), .second, .val (.int p3), .val (.long lim), .second, .val (.long (4611686018427387903 : Int64)), .second, .val (.long half), .second, .val (.int (p3 &&& (3 : Int32))), .val (.long chs), .second, .val (.long (own_tk p3 half (q2 &&& (4611686018427387903 : Int64)))), .second, .val (.int (own_exp half chs)), .val (.ref b90), .val (.int (own_fit lim ((2 : Int64) * chs))), .val (.int (own_fit lim ((2 : Int64) * chs)))] [(.int (own_exp half chs)), (.int (own_fit lim ((2 : Int64) * chs)))])) t := by
            intro t kt
            show Steps p.tables e below (T101.setTop (mkF m 167 #[.val (.long q0), .second, .val (.long q1), .second, .val (.long q2), .second, .val (.int p3), .val (.long lim), .second, .val (.long (4611686018427387903 : Int64)), .second, .val (.long half), .second, .val (.int (p3 &&& (3 : Int32))), .val (.long chs), .second, .val (.long (own_tk p3 half (q2 &&& (4611686018427387903 : Int64)))), .second, .val (.int (own_exp half chs)), .val (.ref b90), .val (.int (own_fit lim ((2 : Int64) * chs))), .val (.int (own_fit lim ((2 : Int64) * chs)))] [(.int (own_exp half chs)), (.int (own_fit lim ((2 : Int64) * chs)))])) _
            refine XS.icmpNo X101.here hx rfl (hb hby at_167) rfl (teq (hd102)).2 ?_
            show Steps p.tables e below (T101.setTop (mkF m 170 #[.val (.long q0), .second, .val (.long q1), .second, .val (.long q2), .second, .val (.int p3), .val (.long lim), .second, .val (.long (4611686018427387903 : Int64)), .second, .val (.long half), .second, .val (.int (p3 &&& (3 : Int32))), .val (.long chs), .second, .val (.long (own_tk p3 half (q2 &&& (4611686018427387903 : Int64)))), .second, .val (.int (own_exp half chs)), .val (.ref b90), .val (.int (own_fit lim ((2 : Int64) * chs))), .val (.int (own_fit lim ((2 : Int64) * chs)))] [])) _
            refine XS.iload X101.here hx rfl (hb hby at_170) rfl ?_
            show Steps p.tables e below (T101.setTop (mkF m 172 #[.val (.long q0), .second, .val (.long q1), .second, .val (.long q2), .second, .val (.int p3), .val (.long lim), .second, .val (.long (4611686018427387903 : Int64)), .second, .val (.long half), .second, .val (.int (p3 &&& (3 : Int32))), .val (.long chs), .second, .val (.long (own_tk p3 half (q2 &&& (4611686018427387903 : Int64)))), .second, .val (.int (own_exp half chs)), .val (.ref b90), .val (.int (own_fit lim ((2 : Int64) * chs))), .val (.int (own_fit lim ((2 : Int64) * chs)))] [(.int (own_fit lim ((2 : Int64) * chs)))])) _
            refine XS.iload X101.here hx rfl (hb hby at_172) rfl ?_
            exact kt
          have hd104 : (own_fit lim ((2 : Int64) * chs)) = (own_exp half chs) := own_eq lim half chs hl0 hh hc.1 hc.2
          have c106 : ∀ t, Steps p.tables e below (T101.setTop (mkF m 182 #[.val (.long q0), .second, .val (.long q1), .second, .val (.long q2), .second, .val (.int p3), .val (.long lim), .second, .val (.long (4611686018427387903 : Int64)), .second, .val (.long half), .second, .val (.int (p3 &&& (3 : Int32))), .val (.long chs), .second, .val (.long (own_tk p3 half (q2 &&& (4611686018427387903 : Int64)))), .second, .val (.int (own_exp half chs)), .val (.ref b90), .val (.int (own_fit lim ((2 : Int64) * chs))), .val (.int (own_fit lim ((2 : Int64) * chs)))] [(.int (1 : Int32))])) t → Steps p.tables e below (T101.setTop (mkF m 174 #[.val (.long q0), .second, .val (.long q1), .second, .val (.long q2), .second, .val (.int p3), .val (.long lim), .second, .val (.long (4611686018427387903 : Int64)), .second, .val (.long half), .second, .val (.int (p3 &&& (3 : Int32))), .val (.long chs), .second, .val (.long (own_tk p3 half (q2 &&& (4611686018427387903 : Int64)))), .second, .val (.int (own_exp half chs)), .val (.ref b90), .val (.int (own_fit lim ((2 : Int64) * chs))), .val (.int (own_fit lim ((2 : Int64) * chs)))] [(.int (own_exp half chs)), (.int (own_fit lim ((2 : Int64) * chs)))])) t := by
            intro t kt
            show Steps p.tables e below (T101.setTop (mkF m 174 #[.val (.long q0), .second, .val (.long q1), .second, .val (.long q2), .second, .val (.int p3), .val (.long lim), .second, .val (.long (4611686018427387903 : Int64)), .second, .val (.long half), .second, .val (.int (p3 &&& (3 : Int32))), .val (.long chs), .second, .val (.long (own_tk p3 half (q2 &&& (4611686018427387903 : Int64)))), .second, .val (.int (own_exp half chs)), .val (.ref b90), .val (.int (own_fit lim ((2 : Int64) * chs))), .val (.int (own_fit lim ((2 : Int64) * chs)))] [(.int (own_exp half chs)), (.int (own_fit lim ((2 : Int64) * chs)))])) _
            refine XS.icmpNo X101.here hx rfl (hb hby at_174) rfl (teq (hd104)).2 ?_
            show Steps p.tables e below (T101.setTop (mkF m 177 #[.val (.long q0), .second, .val (.long q1), .second, .val (.long q2), .second, .val (.int p3), .val (.long lim), .second, .val (.long (4611686018427387903 : Int64)), .second, .val (.long half), .second, .val (.int (p3 &&& (3 : Int32))), .val (.long chs), .second, .val (.long (own_tk p3 half (q2 &&& (4611686018427387903 : Int64)))), .second, .val (.int (own_exp half chs)), .val (.ref b90), .val (.int (own_fit lim ((2 : Int64) * chs))), .val (.int (own_fit lim ((2 : Int64) * chs)))] [])) _
            refine XS.iconst X101.here hx rfl (hb hby at_177) ?_
            show Steps p.tables e below (T101.setTop (mkF m 178 #[.val (.long q0), .second, .val (.long q1), .second, .val (.long q2), .second, .val (.int p3), .val (.long lim), .second, .val (.long (4611686018427387903 : Int64)), .second, .val (.long half), .second, .val (.int (p3 &&& (3 : Int32))), .val (.long chs), .second, .val (.long (own_tk p3 half (q2 &&& (4611686018427387903 : Int64)))), .second, .val (.int (own_exp half chs)), .val (.ref b90), .val (.int (own_fit lim ((2 : Int64) * chs))), .val (.int (own_fit lim ((2 : Int64) * chs)))] [(.int (1 : Int32))])) _
            refine XS.goto X101.here hx rfl (pc0 := 178) (pc' := 182) rfl (hb hby at_178) (by decide) (by decide) ?_
            exact kt
          obtain ⟨fs, hr, hrun, hended, hW, hsame⟩ := X101.leave (v := some (.int (1 : Int32))) (fun h => by rw [Bd.returns] at h; cases h)
          refine ⟨_, _, pre0 _ (c1 _ (c2 _ (c3 _ (c4 _ (c5 _ (c43 _ (c83 _ (c84 _ (st85 _ (c86 _ (c87 _ (c88 _ (c89 _ (st90 _ (c91 _ (st93.trans (c94 _ (st97.trans (c98 _ (c99 _ (st101.trans (c103 _ (c105 _ (c106 _ (?_))))))))))))))))))))))))), hrun, hended, _, _, rfl, ?_, ⟨_, rfl⟩, hW, hsame.mono (by decide) (by decide)⟩
          · show Steps p.tables e below (T101.setTop (mkF m 182 #[.val (.long q0), .second, .val (.long q1), .second, .val (.long q2), .second, .val (.int p3), .val (.long lim), .second, .val (.long (4611686018427387903 : Int64)), .second, .val (.long half), .second, .val (.int (p3 &&& (3 : Int32))), .val (.long chs), .second, .val (.long (own_tk p3 half (q2 &&& (4611686018427387903 : Int64)))), .second, .val (.int (own_exp half chs)), .val (.ref b90), .val (.int (own_fit lim ((2 : Int64) * chs))), .val (.int (own_fit lim ((2 : Int64) * chs)))] [(.int (1 : Int32))])) _
            exact retN X101 hx (t := .boolean) Bd.returns (by simp) (hb hby at_182) hr
          · show Q0 Z q0 q1 q2 p3 h0 n0 _ T101.heap _
            rw [e101]
            exact ⟨congrArg (fun z => some (Value.int z)) (show (1 : Int32) = (1 : Int32) from by rfl), N101⟩
        · -- it isn't
          have c108 : ∀ t, Steps p.tables e below (T97.setTop (mkF m 150 #[.val (.long q0), .second, .val (.long q1), .second, .val (.long q2), .second, .val (.int p3), .val (.long lim), .second, .val (.long (4611686018427387903 : Int64)), .second, .val (.long half), .second, .val (.int (p3 &&& (3 : Int32))), .val (.long chs), .second, .val (.long (own_tk p3 half (q2 &&& (4611686018427387903 : Int64)))), .second, .val (.int (own_exp half chs)), .val (.ref b90), .val (.int (own_fit lim ((2 : Int64) * chs))), .unset] [(.long (own_tk p3 half (q2 &&& (4611686018427387903 : Int64)))), (.ref b90)])) t → Steps p.tables e below (T97.setTop (mkF m 143 #[.val (.long q0), .second, .val (.long q1), .second, .val (.long q2), .second, .val (.int p3), .val (.long lim), .second, .val (.long (4611686018427387903 : Int64)), .second, .val (.long half), .second, .val (.int (p3 &&& (3 : Int32))), .val (.long chs), .second, .val (.long (own_tk p3 half (q2 &&& (4611686018427387903 : Int64)))), .second, .val (.int (own_exp half chs)), .val (.ref b90), .val (.int (own_fit lim ((2 : Int64) * chs))), .unset] [(.int (p3 &&& (4 : Int32)))])) t := by
            intro t kt
            show Steps p.tables e below (T97.setTop (mkF m 143 #[.val (.long q0), .second, .val (.long q1), .second, .val (.long q2), .second, .val (.int p3), .val (.long lim), .second, .val (.long (4611686018427387903 : Int64)), .second, .val (.long half), .second, .val (.int (p3 &&& (3 : Int32))), .val (.long chs), .second, .val (.long (own_tk p3 half (q2 &&& (4611686018427387903 : Int64)))), .second, .val (.int (own_exp half chs)), .val (.ref b90), .val (.int (own_fit lim ((2 : Int64) * chs))), .unset] [(.int (p3 &&& (4 : Int32)))])) _
            refine XS.ifNo X97.here hx rfl (hb hby at_143) rfl ((if0 _ _).trans (feq hc143).1) ?_
            show Steps p.tables e below (T97.setTop (mkF m 146 #[.val (.long q0), .second, .val (.long q1), .second, .val (.long q2), .second, .val (.int p3), .val (.long lim), .second, .val (.long (4611686018427387903 : Int64)), .second, .val (.long half), .second, .val (.int (p3 &&& (3 : Int32))), .val (.long chs), .second, .val (.long (own_tk p3 half (q2 &&& (4611686018427387903 : Int64)))), .second, .val (.int (own_exp half chs)), .val (.ref b90), .val (.int (own_fit lim ((2 : Int64) * chs))), .unset] [])) _
            refine XS.aload X97.here hx rfl (hb hby at_146) rfl rfl ?_
            show Steps p.tables e below (T97.setTop (mkF m 148 #[.val (.long q0), .second, .val (.long q1), .second, .val (.long q2), .second, .val (.int p3), .val (.long lim), .second, .val (.long (4611686018427387903 : Int64)), .second, .val (.long half), .second, .val (.int (p3 &&& (3 : Int32))), .val (.long chs), .second, .val (.long (own_tk p3 half (q2 &&& (4611686018427387903 : Int64)))), .second, .val (.int (own_exp half chs)), .val (.ref b90), .val (.int (own_fit lim ((2 : Int64) * chs))), .unset] [(.ref b90)])) _
            refine XS.lload X97.here hx rfl (hb hby at_148) rfl ?_
            exact kt
          obtain ⟨cq109, kq109, q109a, q109b, q109c⟩ := isOf hZ e97 Eq93
          obtain ⟨_, _, ⟨T110, L110, k110, n110⟩, -, X110, ⟨Lc110, hQ110, l110, y110, z110⟩, st110⟩ := X97.virtualBack hx (y := (⟨"com/example/href/href/text/KeptRoom", "reserveText", "(J)Z"⟩ : MethodName)) (z := (⟨"com/example/href/href/text/KeptRoom", "reserveText", "(J)Z"⟩ : MethodName)) hown (mvT hZ (hw _ (List.mem_of_getElem? (i := 41) rfl))) (mvT hZ (hw _ (List.mem_of_getElem? (i := 42) rfl))) (notFace_of_selects (args := #[]) (mvT hZ (hw _ (List.mem_of_getElem? (i := 44) rfl)))) (mvT hZ (hw _ (List.mem_of_getElem? (i := 44) rfl))) (mvT hZ (hw _ (List.mem_of_getElem? (i := 43) rfl))) (by decide) (backOf (W := 0) (rm7 l Z a0 hw [] b90 (own_tk p3 half (q2 &&& (4611686018427387903 : Int64))) ot93 lim lim T93.heap n0 f95 Fq93 Fl93 Ff93 Et93 g_ot93 Uq93) hZ (hw _ (List.mem_of_getElem? (i := 45) rfl)) (hw _ (List.mem_of_getElem? (i := 9) rfl)) (by decide) (by decide)) q109a q109c (g := (mkF m 150 #[.val (.long q0), .second, .val (.long q1), .second, .val (.long q2), .second, .val (.int p3), .val (.long lim), .second, .val (.long (4611686018427387903 : Int64)), .second, .val (.long half), .second, .val (.int (p3 &&& (3 : Int32))), .val (.long chs), .second, .val (.long (own_tk p3 half (q2 &&& (4611686018427387903 : Int64)))), .second, .val (.int (own_exp half chs)), .val (.ref b90), .val (.int (own_fit lim ((2 : Int64) * chs))), .unset] [(.long (own_tk p3 half (q2 &&& (4611686018427387903 : Int64)))), (.ref b90)])) rfl (by rw [hml]; rfl) (Steps.refl _) (argsL := [(.long (own_tk p3 half (q2 &&& (4611686018427387903 : Int64))))]) (rest := []) (lenOf pd_2 rfl) rfl (by show 2 * 0 + _ ≤ _; exact Nat.le_of_eq rfl) (hb hby at_150) (fun _ _ => ⟨rfl, e97, (by decide : 3 + 0 ≤ _), (by decide : 7 + 0 ≤ _)⟩)
          dsimp only [Pt.U, Pt.locs, Pt.cells, Pt.slots] at X110 l110 y110 z110 st110 hQ110
          subst l110 y110 z110
          obtain ⟨zr110, rfl, N110q, Kq110, Fq110⟩ := hQ110
          have N110 := Fr.app N97 N110q
          have c111 : ∀ t, Steps p.tables e below (T110.setTop (mkF m 158 #[.val (.long q0), .second, .val (.long q1), .second, .val (.long q2), .second, .val (.int p3), .val (.long lim), .second, .val (.long (4611686018427387903 : Int64)), .second, .val (.long half), .second, .val (.int (p3 &&& (3 : Int32))), .val (.long chs), .second, .val (.long (own_tk p3 half (q2 &&& (4611686018427387903 : Int64)))), .second, .val (.int (own_exp half chs)), .val (.ref b90), .val (.int (own_fit lim ((2 : Int64) * chs))), .unset] [(.long chs), (.ref b90)])) t → Steps p.tables e below (T110.setTop (mkF m 153 #[.val (.long q0), .second, .val (.long q1), .second, .val (.long q2), .second, .val (.int p3), .val (.long lim), .second, .val (.long (4611686018427387903 : Int64)), .second, .val (.long half), .second, .val (.int (p3 &&& (3 : Int32))), .val (.long chs), .second, .val (.long (own_tk p3 half (q2 &&& (4611686018427387903 : Int64)))), .second, .val (.int (own_exp half chs)), .val (.ref b90), .val (.int (own_fit lim ((2 : Int64) * chs))), .unset] [(.int zr110)])) t := by
            intro t kt
            show Steps p.tables e below (T110.setTop (mkF m 153 #[.val (.long q0), .second, .val (.long q1), .second, .val (.long q2), .second, .val (.int p3), .val (.long lim), .second, .val (.long (4611686018427387903 : Int64)), .second, .val (.long half), .second, .val (.int (p3 &&& (3 : Int32))), .val (.long chs), .second, .val (.long (own_tk p3 half (q2 &&& (4611686018427387903 : Int64)))), .second, .val (.int (own_exp half chs)), .val (.ref b90), .val (.int (own_fit lim ((2 : Int64) * chs))), .unset] [(.int zr110)])) _
            refine XS.pop X110.here hx rfl (hb hby at_153) rfl rfl ?_
            show Steps p.tables e below (T110.setTop (mkF m 154 #[.val (.long q0), .second, .val (.long q1), .second, .val (.long q2), .second, .val (.int p3), .val (.long lim), .second, .val (.long (4611686018427387903 : Int64)), .second, .val (.long half), .second, .val (.int (p3 &&& (3 : Int32))), .val (.long chs), .second, .val (.long (own_tk p3 half (q2 &&& (4611686018427387903 : Int64)))), .second, .val (.int (own_exp half chs)), .val (.ref b90), .val (.int (own_fit lim ((2 : Int64) * chs))), .unset] [])) _
            refine XS.aload X110.here hx rfl (hb hby at_154) rfl rfl ?_
            show Steps p.tables e below (T110.setTop (mkF m 156 #[.val (.long q0), .second, .val (.long q1), .second, .val (.long q2), .second, .val (.int p3), .val (.long lim), .second, .val (.long (4611686018427387903 : Int64)), .second, .val (.long half), .second, .val (.int (p3 &&& (3 : Int32))), .val (.long chs), .second, .val (.long (own_tk p3 half (q2 &&& (4611686018427387903 : Int64)))), .second, .val (.int (own_exp half chs)), .val (.ref b90), .val (.int (own_fit lim ((2 : Int64) * chs))), .unset] [(.ref b90)])) _
            refine XS.lload X110.here hx rfl (hb hby at_156) rfl ?_
            exact kt
          have f112 := (Nat.le_trans f95 Kq110.1)
          have f113 := (Fq93.keep Kq110 (ninS ne93 nin0))
          have f114 := (Eq93.keep Kq110)
          obtain ⟨cq115, kq115, q115a, q115b, q115c⟩ := isOf hZ rfl f114
          obtain ⟨_, _, ⟨T116, L116, k116, n116⟩, -, X116, ⟨Lc116, hQ116, l116, y116, z116⟩, st116⟩ := X110.virtualBack hx (y := (⟨"com/example/href/href/text/KeptRoom", "fitsKeepLimit", "(J)Z"⟩ : MethodName)) (z := (⟨"com/example/href/href/text/KeptRoom", "fitsKeepLimit", "(J)Z"⟩ : MethodName)) hown (mvT hZ (hw _ (List.mem_of_getElem? (i := 31) rfl))) (mvT hZ (hw _ (List.mem_of_getElem? (i := 32) rfl))) (notFace_of_selects (args := #[]) (mvT hZ (hw _ (List.mem_of_getElem? (i := 34) rfl)))) (mvT hZ (hw _ (List.mem_of_getElem? (i := 34) rfl))) (mvT hZ (hw _ (List.mem_of_getElem? (i := 33) rfl))) (by decide) (backOf (W := 0) (rm5 l Z a0 hw [] b90 chs ot93 lim T110.heap n0 f112 f113 Fq110) hZ (hw _ (List.mem_of_getElem? (i := 35) rfl)) (hw _ (List.mem_of_getElem? (i := 9) rfl)) (by decide) (by decide)) q115a q115c (g := (mkF m 158 #[.val (.long q0), .second, .val (.long q1), .second, .val (.long q2), .second, .val (.int p3), .val (.long lim), .second, .val (.long (4611686018427387903 : Int64)), .second, .val (.long half), .second, .val (.int (p3 &&& (3 : Int32))), .val (.long chs), .second, .val (.long (own_tk p3 half (q2 &&& (4611686018427387903 : Int64)))), .second, .val (.int (own_exp half chs)), .val (.ref b90), .val (.int (own_fit lim ((2 : Int64) * chs))), .unset] [(.long chs), (.ref b90)])) rfl (by rw [hml]; rfl) (Steps.refl _) (argsL := [(.long chs)]) (rest := []) (lenOf pd_2 rfl) rfl (by show 2 * 0 + _ ≤ _; exact Nat.le_of_eq rfl) (hb hby at_158) (fun _ _ => ⟨rfl, rfl, (by decide : 3 + 0 ≤ _), (by decide : 7 + 0 ≤ _)⟩)
          dsimp only [Pt.U, Pt.locs, Pt.cells, Pt.slots] at X116 l116 y116 z116 st116 hQ116
          subst l116 y116 z116
          obtain ⟨rfl, N116q, e116⟩ := hQ116
          have N116 := Fr.app N110 N116q
          have c118 : ∀ t, Steps p.tables e below (T116.setTop (mkF m 167 #[.val (.long q0), .second, .val (.long q1), .second, .val (.long q2), .second, .val (.int p3), .val (.long lim), .second, .val (.long (4611686018427387903 : Int64)), .second, .val (.long half), .second, .val (.int (p3 &&& (3 : Int32))), .val (.long chs), .second, .val (.long (own_tk p3 half (q2 &&& (4611686018427387903 : Int64)))), .second, .val (.int (own_exp half chs)), .val (.ref b90), .val (.int (own_fit lim ((2 : Int64) * chs))), .val (.int (own_fit lim ((2 : Int64) * chs)))] [(.int (own_exp half chs)), (.int (own_fit lim ((2 : Int64) * chs)))])) t → Steps p.tables e below (T116.setTop (mkF m 161 #[.val (.long q0), .second, .val (.long q1), .second, .val (.long q2), .second, .val (.int p3), .val (.long lim), .second, .val (.long (4611686018427387903 : Int64)), .second, .val (.long half), .second, .val (.int (p3 &&& (3 : Int32))), .val (.long chs), .second, .val (.long (own_tk p3 half (q2 &&& (4611686018427387903 : Int64)))), .second, .val (.int (own_exp half chs)), .val (.ref b90), .val (.int (own_fit lim ((2 : Int64) * chs))), .unset] [(.int (own_fit lim ((2 : Int64) * chs)))])) t := by
            intro t kt
            show Steps p.tables e below (T116.setTop (mkF m 161 #[.val (.long q0), .second, .val (.long q1), .second, .val (.long q2), .second, .val (.int p3), .val (.long lim), .second, .val (.long (4611686018427387903 : Int64)), .second, .val (.long half), .second, .val (.int (p3 &&& (3 : Int32))), .val (.long chs), .second, .val (.long (own_tk p3 half (q2 &&& (4611686018427387903 : Int64)))), .second, .val (.int (own_exp half chs)), .val (.ref b90), .val (.int (own_fit lim ((2 : Int64) * chs))), .unset] [(.int (own_fit lim ((2 : Int64) * chs)))])) _
            refine XS.istore X116.here hx rfl (hb hby at_161) rfl (l' := #[.val (.long q0), .second, .val (.long q1), .second, .val (.long q2), .second, .val (.int p3), .val (.long lim), .second, .val (.long (4611686018427387903 : Int64)), .second, .val (.long half), .second, .val (.int (p3 &&& (3 : Int32))), .val (.long chs), .second, .val (.long (own_tk p3 half (q2 &&& (4611686018427387903 : Int64)))), .second, .val (.int (own_exp half chs)), .val (.ref b90), .val (.int (own_fit lim ((2 : Int64) * chs))), .val (.int (own_fit lim ((2 : Int64) * chs)))]) rfl ?_
            show Steps p.tables e below (T116.setTop (mkF m 163 #[.val (.long q0), .second, .val (.long q1), .second, .val (.long q2), .second, .val (.int p3), .val (.long lim), .second, .val (.long (4611686018427387903 : Int64)), .second, .val (.long half), .second, .val (.int (p3 &&& (3 : Int32))), .val (.long chs), .second, .val (.long (own_tk p3 half (q2 &&& (4611686018427387903 : Int64)))), .second, .val (.int (own_exp half chs)), .val (.ref b90), .val (.int (own_fit lim ((2 : Int64) * chs))), .val (.int (own_fit lim ((2 : Int64) * chs)))] [])) _
            refine XS.iload X116.here hx rfl (hb hby at_163) rfl ?_
            show Steps p.tables e below (T116.setTop (mkF m 165 #[.val (.long q0), .second, .val (.long q1), .second, .val (.long q2), .second, .val (.int p3), .val (.long lim), .second, .val (.long (4611686018427387903 : Int64)), .second, .val (.long half), .second, .val (.int (p3 &&& (3 : Int32))), .val (.long chs), .second, .val (.long (own_tk p3 half (q2 &&& (4611686018427387903 : Int64)))), .second, .val (.int (own_exp half chs)), .val (.ref b90), .val (.int (own_fit lim ((2 : Int64) * chs))), .val (.int (own_fit lim ((2 : Int64) * chs)))] [(.int (own_fit lim ((2 : Int64) * chs)))])) _
            refine XS.iload X116.here hx rfl (hb hby at_165) rfl ?_
            exact kt
          have hd117 : (own_fit lim ((2 : Int64) * chs)) = (own_exp half chs) := own_eq lim half chs hl0 hh hc.1 hc.2
          have c120 : ∀ t, Steps p.tables e below (T116.setTop (mkF m 174 #[.val (.long q0), .second, .val (.long q1), .second, .val (.long q2), .second, .val (.int p3), .val (.long lim), .second, .val (.long (4611686018427387903 : Int64)), .second, .val (.long half), .second, .val (.int (p3 &&& (3 : Int32))), .val (.long chs), .second, .val (.long (own_tk p3 half (q2 &&& (4611686018427387903 : Int64)))), .second, .val (.int (own_exp half chs)), .val (.ref b90), .val (.int (own_fit lim ((2 : Int64) * chs))), .val (.int (own_fit lim ((2 : Int64) * chs)))] [(.int (own_exp half chs)), (.int (own_fit lim ((2 : Int64) * chs)))])) t → Steps p.tables e below (T116.setTop (mkF m 167 #[.val (.long q0), .second, .val (.long q1), .second, .val (.long q2), .second, .val (.int p3), .val (.long lim), .second, .val (.long (4611686018427387903 : Int64)), .second, .val (.long half), .second, .val (.int (p3 &&& (3 : Int32))), .val (.long chs), .second, .val (.long (own_tk p3 half (q2 &&& (4611686018427387903 : Int64)))), .second, .val (.int (own_exp half chs)), .val (.ref b90), .val (.int (own_fit lim ((2 : Int64) * chs))), .val (.int (own_fit lim ((2 : Int64) * chs)))] [(.int (own_exp half chs)), (.int (own_fit lim ((2 : Int64) * chs)))])) t := by
            intro t kt
            show Steps p.tables e below (T116.setTop (mkF m 167 #[.val (.long q0), .second, .val (.long q1), .second, .val (.long q2), .second, .val (.int p3), .val (.long lim), .second, .val (.long (4611686018427387903 : Int64)), .second, .val (.long half), .second, .val (.int (p3 &&& (3 : Int32))), .val (.long chs), .second, .val (.long (own_tk p3 half (q2 &&& (4611686018427387903 : Int64)))), .second, .val (.int (own_exp half chs)), .val (.ref b90), .val (.int (own_fit lim ((2 : Int64) * chs))), .val (.int (own_fit lim ((2 : Int64) * chs)))] [(.int (own_exp half chs)), (.int (own_fit lim ((2 : Int64) * chs)))])) _
            refine XS.icmpNo X116.here hx rfl (hb hby at_167) rfl (teq (hd117)).2 ?_
            show Steps p.tables e below (T116.setTop (mkF m 170 #[.val (.long q0), .second, .val (.long q1), .second, .val (.long q2), .second, .val (.int p3), .val (.long lim), .second, .val (.long (4611686018427387903 : Int64)), .second, .val (.long half), .second, .val (.int (p3 &&& (3 : Int32))), .val (.long chs), .second, .val (.long (own_tk p3 half (q2 &&& (4611686018427387903 : Int64)))), .second, .val (.int (own_exp half chs)), .val (.ref b90), .val (.int (own_fit lim ((2 : Int64) * chs))), .val (.int (own_fit lim ((2 : Int64) * chs)))] [])) _
            refine XS.iload X116.here hx rfl (hb hby at_170) rfl ?_
            show Steps p.tables e below (T116.setTop (mkF m 172 #[.val (.long q0), .second, .val (.long q1), .second, .val (.long q2), .second, .val (.int p3), .val (.long lim), .second, .val (.long (4611686018427387903 : Int64)), .second, .val (.long half), .second, .val (.int (p3 &&& (3 : Int32))), .val (.long chs), .second, .val (.long (own_tk p3 half (q2 &&& (4611686018427387903 : Int64)))), .second, .val (.int (own_exp half chs)), .val (.ref b90), .val (.int (own_fit lim ((2 : Int64) * chs))), .val (.int (own_fit lim ((2 : Int64) * chs)))] [(.int (own_fit lim ((2 : Int64) * chs)))])) _
            refine XS.iload X116.here hx rfl (hb hby at_172) rfl ?_
            exact kt
          have hd119 : (own_fit lim ((2 : Int64) * chs)) = (own_exp half chs) := own_eq lim half chs hl0 hh hc.1 hc.2
          have c121 : ∀ t, Steps p.tables e below (T116.setTop (mkF m 182 #[.val (.long q0), .second, .val (.long q1), .second, .val (.long q2), .second, .val (.int p3), .val (.long lim), .second, .val (.long (4611686018427387903 : Int64)), .second, .val (.long half), .second, .val (.int (p3 &&& (3 : Int32))), .val (.long chs), .second, .val (.long (own_tk p3 half (q2 &&& (4611686018427387903 : Int64)))), .second, .val (.int (own_exp half chs)), .val (.ref b90), .val (.int (own_fit lim ((2 : Int64) * chs))), .val (.int (own_fit lim ((2 : Int64) * chs)))] [(.int (1 : Int32))])) t → Steps p.tables e below (T116.setTop (mkF m 174 #[.val (.long q0), .second, .val (.long q1), .second, .val (.long q2), .second, .val (.int p3), .val (.long lim), .second, .val (.long (4611686018427387903 : Int64)), .second, .val (.long half), .second, .val (.int (p3 &&& (3 : Int32))), .val (.long chs), .second, .val (.long (own_tk p3 half (q2 &&& (4611686018427387903 : Int64)))), .second, .val (.int (own_exp half chs)), .val (.ref b90), .val (.int (own_fit lim ((2 : Int64) * chs))), .val (.int (own_fit lim ((2 : Int64) * chs)))] [(.int (own_exp half chs)), (.int (own_fit lim ((2 : Int64) * chs)))])) t := by
            intro t kt
            show Steps p.tables e below (T116.setTop (mkF m 174 #[.val (.long q0), .second, .val (.long q1), .second, .val (.long q2), .second, .val (.int p3), .val (.long lim), .second, .val (.long (4611686018427387903 : Int64)), .second, .val (.long half), .second, .val (.int (p3 &&& (3 : Int32))), .val (.long chs), .second, .val (.long (own_tk p3 half (q2 &&& (4611686018427387903 : Int64)))), .second, .val (.int (own_exp half chs)), .val (.ref b90), .val (.int (own_fit lim ((2 : Int64) * chs))), .val (.int (own_fit lim ((2 : Int64) * chs)))] [(.int (own_exp half chs)), (.int (own_fit lim ((2 : Int64) * chs)))])) _
            refine XS.icmpNo X116.here hx rfl (hb hby at_174) rfl (teq (hd119)).2 ?_
            show Steps p.tables e below (T116.setTop (mkF m 177 #[.val (.long q0), .second, .val (.long q1), .second, .val (.long q2), .second, .val (.int p3), .val (.long lim), .second, .val (.long (4611686018427387903 : Int64)), .second, .val (.long half), .second, .val (.int (p3 &&& (3 : Int32))), .val (.long chs), .second, .val (.long (own_tk p3 half (q2 &&& (4611686018427387903 : Int64)))), .second, .val (.int (own_exp half chs)), .val (.ref b90), .val (.int (own_fit lim ((2 : Int64) * chs))), .val (.int (own_fit lim ((2 : Int64) * chs)))] [])) _
            refine XS.iconst X116.here hx rfl (hb hby at_177) ?_
            show Steps p.tables e below (T116.setTop (mkF m 178 #[.val (.long q0), .second, .val (.long q1), .second, .val (.long q2), .second, .val (.int p3), .val (.long lim), .second, .val (.long (4611686018427387903 : Int64)), .second, .val (.long half), .second, .val (.int (p3 &&& (3 : Int32))), .val (.long chs), .second, .val (.long (own_tk p3 half (q2 &&& (4611686018427387903 : Int64)))), .second, .val (.int (own_exp half chs)), .val (.ref b90), .val (.int (own_fit lim ((2 : Int64) * chs))), .val (.int (own_fit lim ((2 : Int64) * chs)))] [(.int (1 : Int32))])) _
            refine XS.goto X116.here hx rfl (pc0 := 178) (pc' := 182) rfl (hb hby at_178) (by decide) (by decide) ?_
            exact kt
          obtain ⟨fs, hr, hrun, hended, hW, hsame⟩ := X116.leave (v := some (.int (1 : Int32))) (fun h => by rw [Bd.returns] at h; cases h)
          refine ⟨_, _, pre0 _ (c1 _ (c2 _ (c3 _ (c4 _ (c5 _ (c43 _ (c83 _ (c84 _ (st85 _ (c86 _ (c87 _ (c88 _ (c89 _ (st90 _ (c91 _ (st93.trans (c94 _ (st97.trans (c98 _ (c108 _ (st110.trans (c111 _ (st116.trans (c118 _ (c120 _ (c121 _ (?_))))))))))))))))))))))))))), hrun, hended, _, _, rfl, ?_, ⟨_, rfl⟩, hW, hsame.mono (by decide) (by decide)⟩
          · show Steps p.tables e below (T116.setTop (mkF m 182 #[.val (.long q0), .second, .val (.long q1), .second, .val (.long q2), .second, .val (.int p3), .val (.long lim), .second, .val (.long (4611686018427387903 : Int64)), .second, .val (.long half), .second, .val (.int (p3 &&& (3 : Int32))), .val (.long chs), .second, .val (.long (own_tk p3 half (q2 &&& (4611686018427387903 : Int64)))), .second, .val (.int (own_exp half chs)), .val (.ref b90), .val (.int (own_fit lim ((2 : Int64) * chs))), .val (.int (own_fit lim ((2 : Int64) * chs)))] [(.int (1 : Int32))])) _
            exact retN X116 hx (t := .boolean) Bd.returns (by simp) (hb hby at_182) hr
          · show Q0 Z q0 q1 q2 p3 h0 n0 _ T116.heap _
            rw [e116]
            exact ⟨congrArg (fun z => some (Value.int z)) (show (1 : Int32) = (1 : Int32) from by rfl), N116⟩
      · -- it isn't
        have c123 : ∀ t, Steps p.tables e below (s₁.setTop (mkF m 83 #[.val (.long q0), .second, .val (.long q1), .second, .val (.long q2), .second, .val (.int p3), .val (.long lim), .second, .val (.long (4611686018427387903 : Int64)), .second, .val (.long half), .second, .val (.int (p3 &&& (3 : Int32))), .val (.long (q1 &&& (4611686018427387903 : Int64))), .second, .unset, .unset, .unset, .unset, .unset, .unset] [])) t → Steps p.tables e below (s₁.setTop (mkF m 61 #[.val (.long q0), .second, .val (.long q1), .second, .val (.long q2), .second, .val (.int p3), .val (.long lim), .second, .val (.long (4611686018427387903 : Int64)), .second, .val (.long half), .second, .val (.int (p3 &&& (3 : Int32))), .unset, .unset, .unset, .unset, .unset, .unset, .unset, .unset] [(.int (2 : Int32)), (.int (p3 &&& (3 : Int32)))])) t := by
          intro t kt
          show Steps p.tables e below (s₁.setTop (mkF m 61 #[.val (.long q0), .second, .val (.long q1), .second, .val (.long q2), .second, .val (.int p3), .val (.long lim), .second, .val (.long (4611686018427387903 : Int64)), .second, .val (.long half), .second, .val (.int (p3 &&& (3 : Int32))), .unset, .unset, .unset, .unset, .unset, .unset, .unset, .unset] [(.int (2 : Int32)), (.int (p3 &&& (3 : Int32)))])) _
          refine XS.icmpYes X0.here hx rfl (pc0 := 61) (pc' := 77) rfl (hb hby at_61) rfl (feq hc61).2 (by decide) (by decide) ?_
          show Steps p.tables e below (s₁.setTop (mkF m 77 #[.val (.long q0), .second, .val (.long q1), .second, .val (.long q2), .second, .val (.int p3), .val (.long lim), .second, .val (.long (4611686018427387903 : Int64)), .second, .val (.long half), .second, .val (.int (p3 &&& (3 : Int32))), .unset, .unset, .unset, .unset, .unset, .unset, .unset, .unset] [])) _
          refine XS.lloadN X0.here hx rfl (hb hby at_77) rfl ?_
          show Steps p.tables e below (s₁.setTop (mkF m 78 #[.val (.long q0), .second, .val (.long q1), .second, .val (.long q2), .second, .val (.int p3), .val (.long lim), .second, .val (.long (4611686018427387903 : Int64)), .second, .val (.long half), .second, .val (.int (p3 &&& (3 : Int32))), .unset, .unset, .unset, .unset, .unset, .unset, .unset, .unset] [(.long q1)])) _
          refine XS.lload X0.here hx rfl (hb hby at_78) rfl ?_
          show Steps p.tables e below (s₁.setTop (mkF m 80 #[.val (.long q0), .second, .val (.long q1), .second, .val (.long q2), .second, .val (.int p3), .val (.long lim), .second, .val (.long (4611686018427387903 : Int64)), .second, .val (.long half), .second, .val (.int (p3 &&& (3 : Int32))), .unset, .unset, .unset, .unset, .unset, .unset, .unset, .unset] [(.long (4611686018427387903 : Int64)), (.long q1)])) _
          refine XS.land X0.here hx rfl (hb hby at_80) rfl ?_
          show Steps p.tables e below (s₁.setTop (mkF m 81 #[.val (.long q0), .second, .val (.long q1), .second, .val (.long q2), .second, .val (.int p3), .val (.long lim), .second, .val (.long (4611686018427387903 : Int64)), .second, .val (.long half), .second, .val (.int (p3 &&& (3 : Int32))), .unset, .unset, .unset, .unset, .unset, .unset, .unset, .unset] [(.long (q1 &&& (4611686018427387903 : Int64)))])) _
          refine XS.lstore X0.here hx rfl (hb hby at_81) rfl (l' := #[.val (.long q0), .second, .val (.long q1), .second, .val (.long q2), .second, .val (.int p3), .val (.long lim), .second, .val (.long (4611686018427387903 : Int64)), .second, .val (.long half), .second, .val (.int (p3 &&& (3 : Int32))), .val (.long (q1 &&& (4611686018427387903 : Int64))), .second, .unset, .unset, .unset, .unset, .unset, .unset]) rfl ?_
          exact kt
        obtain ⟨chs, hchs⟩ : ∃ z, z = (q1 &&& (4611686018427387903 : Int64)) := ⟨_, rfl⟩
        have c124 : ∀ t, Steps p.tables e below (s₁.setTop (mkF m 83 #[.val (.long q0), .second, .val (.long q1), .second, .val (.long q2), .second, .val (.int p3), .val (.long lim), .second, .val (.long (4611686018427387903 : Int64)), .second, .val (.long half), .second, .val (.int (p3 &&& (3 : Int32))), .val (.long chs), .second, .unset, .unset, .unset, .unset, .unset, .unset] [])) t → Steps p.tables e below (s₁.setTop (mkF m 83 #[.val (.long q0), .second, .val (.long q1), .second, .val (.long q2), .second, .val (.int p3), .val (.long lim), .second, .val (.long (4611686018427387903 : Int64)), .second, .val (.long half), .second, .val (.int (p3 &&& (3 : Int32))), .val (.long (q1 &&& (4611686018427387903 : Int64))), .second, .unset, .unset, .unset, .unset, .unset, .unset] [])) t := fun t kt => by rw [hchs] at kt; exact kt
        have hc : 0 ≤ chs.toInt ∧ chs.toInt ≤ 4611686018427387903 := by rw [hchs]; exact own_cap _
        have c125 : ∀ t, Steps p.tables e below (s₁.setTop (mkF m 103 #[.val (.long q0), .second, .val (.long q1), .second, .val (.long q2), .second, .val (.int p3), .val (.long lim), .second, .val (.long (4611686018427387903 : Int64)), .second, .val (.long half), .second, .val (.int (p3 &&& (3 : Int32))), .val (.long chs), .second, .val (.long (own_tk p3 half (q2 &&& (4611686018427387903 : Int64)))), .second, .unset, .unset, .unset, .unset] [])) t → Steps p.tables e below (s₁.setTop (mkF m 83 #[.val (.long q0), .second, .val (.long q1), .second, .val (.long q2), .second, .val (.int p3), .val (.long lim), .second, .val (.long (4611686018427387903 : Int64)), .second, .val (.long half), .second, .val (.int (p3 &&& (3 : Int32))), .val (.long chs), .second, .unset, .unset, .unset, .unset, .unset, .unset] [])) t := by
          intro t kt
          show Steps p.tables e below (s₁.setTop (mkF m 83 #[.val (.long q0), .second, .val (.long q1), .second, .val (.long q2), .second, .val (.int p3), .val (.long lim), .second, .val (.long (4611686018427387903 : Int64)), .second, .val (.long half), .second, .val (.int (p3 &&& (3 : Int32))), .val (.long chs), .second, .unset, .unset, .unset, .unset, .unset, .unset] [])) _
          refine XS.iload X0.here hx rfl (hb hby at_83) rfl ?_
          show Steps p.tables e below (s₁.setTop (mkF m 85 #[.val (.long q0), .second, .val (.long q1), .second, .val (.long q2), .second, .val (.int p3), .val (.long lim), .second, .val (.long (4611686018427387903 : Int64)), .second, .val (.long half), .second, .val (.int (p3 &&& (3 : Int32))), .val (.long chs), .second, .unset, .unset, .unset, .unset, .unset, .unset] [(.int p3)])) _
          refine XS.bipush X0.here hx rfl (hb hby at_85) ?_
          show Steps p.tables e below (s₁.setTop (mkF m 87 #[.val (.long q0), .second, .val (.long q1), .second, .val (.long q2), .second, .val (.int p3), .val (.long lim), .second, .val (.long (4611686018427387903 : Int64)), .second, .val (.long half), .second, .val (.int (p3 &&& (3 : Int32))), .val (.long chs), .second, .unset, .unset, .unset, .unset, .unset, .unset] [(.int (8 : Int32)), (.int p3)])) _
          refine XS.iand X0.here hx rfl (hb hby at_87) rfl ?_
          by_cases hc88 : (p3 &&& (8 : Int32)) = (0 : Int32)
          · -- it is
            show Steps p.tables e below (s₁.setTop (mkF m 88 #[.val (.long q0), .second, .val (.long q1), .second, .val (.long q2), .second, .val (.int p3), .val (.long lim), .second, .val (.long (4611686018427387903 : Int64)), .second, .val (.long half), .second, .val (.int (p3 &&& (3 : Int32))), .val (.long chs), .second, .unset, .unset, .unset, .unset, .unset, .unset] [(.int (p3 &&& (8 : Int32)))])) _
            refine XS.ifYes X0.here hx rfl (pc0 := 88) (pc' := 96) rfl (hb hby at_88) rfl ((if0 _ _).trans (teq hc88).1) (by decide) (by decide) ?_
            show Steps p.tables e below (s₁.setTop (mkF m 96 #[.val (.long q0), .second, .val (.long q1), .second, .val (.long q2), .second, .val (.int p3), .val (.long lim), .second, .val (.long (4611686018427387903 : Int64)), .second, .val (.long half), .second, .val (.int (p3 &&& (3 : Int32))), .val (.long chs), .second, .unset, .unset, .unset, .unset, .unset, .unset] [])) _
            refine XS.lload X0.here hx rfl (hb hby at_96) rfl ?_
            show Steps p.tables e below (s₁.setTop (mkF m 98 #[.val (.long q0), .second, .val (.long q1), .second, .val (.long q2), .second, .val (.int p3), .val (.long lim), .second, .val (.long (4611686018427387903 : Int64)), .second, .val (.long half), .second, .val (.int (p3 &&& (3 : Int32))), .val (.long chs), .second, .unset, .unset, .unset, .unset, .unset, .unset] [(.long q2)])) _
            refine XS.lload X0.here hx rfl (hb hby at_98) rfl ?_
            show Steps p.tables e below (s₁.setTop (mkF m 100 #[.val (.long q0), .second, .val (.long q1), .second, .val (.long q2), .second, .val (.int p3), .val (.long lim), .second, .val (.long (4611686018427387903 : Int64)), .second, .val (.long half), .second, .val (.int (p3 &&& (3 : Int32))), .val (.long chs), .second, .unset, .unset, .unset, .unset, .unset, .unset] [(.long (4611686018427387903 : Int64)), (.long q2)])) _
            refine XS.land X0.here hx rfl (hb hby at_100) rfl ?_
            show Steps p.tables e below (s₁.setTop (mkF m 101 #[.val (.long q0), .second, .val (.long q1), .second, .val (.long q2), .second, .val (.int p3), .val (.long lim), .second, .val (.long (4611686018427387903 : Int64)), .second, .val (.long half), .second, .val (.int (p3 &&& (3 : Int32))), .val (.long chs), .second, .unset, .unset, .unset, .unset, .unset, .unset] [(.long (q2 &&& (4611686018427387903 : Int64)))])) _
            refine XS.lstore X0.here hx rfl (hb hby at_101) rfl (l' := #[.val (.long q0), .second, .val (.long q1), .second, .val (.long q2), .second, .val (.int p3), .val (.long lim), .second, .val (.long (4611686018427387903 : Int64)), .second, .val (.long half), .second, .val (.int (p3 &&& (3 : Int32))), .val (.long chs), .second, .val (.long (q2 &&& (4611686018427387903 : Int64))), .second, .unset, .unset, .unset, .unset]) rfl ?_
            rw [show (own_tk p3 half (q2 &&& (4611686018427387903 : Int64))) = (q2 &&& (4611686018427387903 : Int64)) from by unfold own_tk; rw [if_pos hc88]] at kt
            exact kt
          · -- it isn't
            show Steps p.tables e below (s₁.setTop (mkF m 88 #[.val (.long q0), .second, .val (.long q1), .second, .val (.long q2), .second, .val (.int p3), .val (.long lim), .second, .val (.long (4611686018427387903 : Int64)), .second, .val (.long half), .second, .val (.int (p3 &&& (3 : Int32))), .val (.long chs), .second, .unset, .unset, .unset, .unset, .unset, .unset] [(.int (p3 &&& (8 : Int32)))])) _
            refine XS.ifNo X0.here hx rfl (hb hby at_88) rfl ((if0 _ _).trans (feq hc88).1) ?_
            show Steps p.tables e below (s₁.setTop (mkF m 91 #[.val (.long q0), .second, .val (.long q1), .second, .val (.long q2), .second, .val (.int p3), .val (.long lim), .second, .val (.long (4611686018427387903 : Int64)), .second, .val (.long half), .second, .val (.int (p3 &&& (3 : Int32))), .val (.long chs), .second, .unset, .unset, .unset, .unset, .unset, .unset] [])) _
            refine XS.lload X0.here hx rfl (hb hby at_91) rfl ?_
            show Steps p.tables e below (s₁.setTop (mkF m 93 #[.val (.long q0), .second, .val (.long q1), .second, .val (.long q2), .second, .val (.int p3), .val (.long lim), .second, .val (.long (4611686018427387903 : Int64)), .second, .val (.long half), .second, .val (.int (p3 &&& (3 : Int32))), .val (.long chs), .second, .unset, .unset, .unset, .unset, .unset, .unset] [(.long half)])) _
            refine XS.goto X0.here hx rfl (pc0 := 93) (pc' := 101) rfl (hb hby at_93) (by decide) (by decide) ?_
            show Steps p.tables e below (s₁.setTop (mkF m 101 #[.val (.long q0), .second, .val (.long q1), .second, .val (.long q2), .second, .val (.int p3), .val (.long lim), .second, .val (.long (4611686018427387903 : Int64)), .second, .val (.long half), .second, .val (.int (p3 &&& (3 : Int32))), .val (.long chs), .second, .unset, .unset, .unset, .unset, .unset, .unset] [(.long half)])) _
            refine XS.lstore X0.here hx rfl (hb hby at_101) rfl (l' := #[.val (.long q0), .second, .val (.long q1), .second, .val (.long q2), .second, .val (.int p3), .val (.long lim), .second, .val (.long (4611686018427387903 : Int64)), .second, .val (.long half), .second, .val (.int (p3 &&& (3 : Int32))), .val (.long chs), .second, .val (.long half), .second, .unset, .unset, .unset, .unset]) rfl ?_
            rw [show (own_tk p3 half (q2 &&& (4611686018427387903 : Int64))) = half from by unfold own_tk; rw [if_neg hc88]] at kt
            exact kt
        have c126 : ∀ t, Steps p.tables e below (s₁.setTop (mkF m 118 #[.val (.long q0), .second, .val (.long q1), .second, .val (.long q2), .second, .val (.int p3), .val (.long lim), .second, .val (.long (4611686018427387903 : Int64)), .second, .val (.long half), .second, .val (.int (p3 &&& (3 : Int32))), .val (.long chs), .second, .val (.long (own_tk p3 half (q2 &&& (4611686018427387903 : Int64)))), .second, .val (.int (own_exp half chs)), .unset, .unset, .unset] [])) t → Steps p.tables e below (s₁.setTop (mkF m 103 #[.val (.long q0), .second, .val (.long q1), .second, .val (.long q2), .second, .val (.int p3), .val (.long lim), .second, .val (.long (4611686018427387903 : Int64)), .second, .val (.long half), .second, .val (.int (p3 &&& (3 : Int32))), .val (.long chs), .second, .val (.long (own_tk p3 half (q2 &&& (4611686018427387903 : Int64)))), .second, .unset, .unset, .unset, .unset] [])) t := by
          intro t kt
          show Steps p.tables e below (s₁.setTop (mkF m 103 #[.val (.long q0), .second, .val (.long q1), .second, .val (.long q2), .second, .val (.int p3), .val (.long lim), .second, .val (.long (4611686018427387903 : Int64)), .second, .val (.long half), .second, .val (.int (p3 &&& (3 : Int32))), .val (.long chs), .second, .val (.long (own_tk p3 half (q2 &&& (4611686018427387903 : Int64)))), .second, .unset, .unset, .unset, .unset] [])) _
          refine XS.lload X0.here hx rfl (hb hby at_103) rfl ?_
          show Steps p.tables e below (s₁.setTop (mkF m 105 #[.val (.long q0), .second, .val (.long q1), .second, .val (.long q2), .second, .val (.int p3), .val (.long lim), .second, .val (.long (4611686018427387903 : Int64)), .second, .val (.long half), .second, .val (.int (p3 &&& (3 : Int32))), .val (.long chs), .second, .val (.long (own_tk p3 half (q2 &&& (4611686018427387903 : Int64)))), .second, .unset, .unset, .unset, .unset] [(.long chs)])) _
          refine XS.lload X0.here hx rfl (hb hby at_105) rfl ?_
          show Steps p.tables e below (s₁.setTop (mkF m 107 #[.val (.long q0), .second, .val (.long q1), .second, .val (.long q2), .second, .val (.int p3), .val (.long lim), .second, .val (.long (4611686018427387903 : Int64)), .second, .val (.long half), .second, .val (.int (p3 &&& (3 : Int32))), .val (.long chs), .second, .val (.long (own_tk p3 half (q2 &&& (4611686018427387903 : Int64)))), .second, .unset, .unset, .unset, .unset] [(.long half), (.long chs)])) _
          refine XS.lcmp X0.here hx rfl (hb hby at_107) rfl ?_
          by_cases hc108 : half < chs
          · -- it is
            show Steps p.tables e below (s₁.setTop (mkF m 108 #[.val (.long q0), .second, .val (.long q1), .second, .val (.long q2), .second, .val (.int p3), .val (.long lim), .second, .val (.long (4611686018427387903 : Int64)), .second, .val (.long half), .second, .val (.int (p3 &&& (3 : Int32))), .val (.long chs), .second, .val (.long (own_tk p3 half (q2 &&& (4611686018427387903 : Int64)))), .second, .unset, .unset, .unset, .unset] [(.int (lcmpW chs half))])) _
            refine XS.ifYes X0.here hx rfl (pc0 := 108) (pc' := 115) rfl (hb hby at_108) rfl ((if0 _ _).trans (tlt ((lw_gt _ _).mpr hc108)).2.2.1) (by decide) (by decide) ?_
            show Steps p.tables e below (s₁.setTop (mkF m 115 #[.val (.long q0), .second, .val (.long q1), .second, .val (.long q2), .second, .val (.int p3), .val (.long lim), .second, .val (.long (4611686018427387903 : Int64)), .second, .val (.long half), .second, .val (.int (p3 &&& (3 : Int32))), .val (.long chs), .second, .val (.long (own_tk p3 half (q2 &&& (4611686018427387903 : Int64)))), .second, .unset, .unset, .unset, .unset] [])) _
            refine XS.iconst X0.here hx rfl (hb hby at_115) ?_
            show Steps p.tables e below (s₁.setTop (mkF m 116 #[.val (.long q0), .second, .val (.long q1), .second, .val (.long q2), .second, .val (.int p3), .val (.long lim), .second, .val (.long (4611686018427387903 : Int64)), .second, .val (.long half), .second, .val (.int (p3 &&& (3 : Int32))), .val (.long chs), .second, .val (.long (own_tk p3 half (q2 &&& (4611686018427387903 : Int64)))), .second, .unset, .unset, .unset, .unset] [(.int (0 : Int32))])) _
            refine XS.istore X0.here hx rfl (hb hby at_116) rfl (l' := #[.val (.long q0), .second, .val (.long q1), .second, .val (.long q2), .second, .val (.int p3), .val (.long lim), .second, .val (.long (4611686018427387903 : Int64)), .second, .val (.long half), .second, .val (.int (p3 &&& (3 : Int32))), .val (.long chs), .second, .val (.long (own_tk p3 half (q2 &&& (4611686018427387903 : Int64)))), .second, .val (.int (0 : Int32)), .unset, .unset, .unset]) rfl ?_
            rw [show (own_exp half chs) = (0 : Int32) from by unfold own_exp; rw [if_pos hc108]] at kt
            exact kt
          · -- it isn't
            show Steps p.tables e below (s₁.setTop (mkF m 108 #[.val (.long q0), .second, .val (.long q1), .second, .val (.long q2), .second, .val (.int p3), .val (.long lim), .second, .val (.long (4611686018427387903 : Int64)), .second, .val (.long half), .second, .val (.int (p3 &&& (3 : Int32))), .val (.long chs), .second, .val (.long (own_tk p3 half (q2 &&& (4611686018427387903 : Int64)))), .second, .unset, .unset, .unset, .unset] [(.int (lcmpW chs half))])) _
            refine XS.ifNo X0.here hx rfl (hb hby at_108) rfl ((if0 _ _).trans (flt (fun q => hc108 ((lw_gt _ _).mp q))).2.2.1) ?_
            show Steps p.tables e below (s₁.setTop (mkF m 111 #[.val (.long q0), .second, .val (.long q1), .second, .val (.long q2), .second, .val (.int p3), .val (.long lim), .second, .val (.long (4611686018427387903 : Int64)), .second, .val (.long half), .second, .val (.int (p3 &&& (3 : Int32))), .val (.long chs), .second, .val (.long (own_tk p3 half (q2 &&& (4611686018427387903 : Int64)))), .second, .unset, .unset, .unset, .unset] [])) _
            refine XS.iconst X0.here hx rfl (hb hby at_111) ?_
            show Steps p.tables e below (s₁.setTop (mkF m 112 #[.val (.long q0), .second, .val (.long q1), .second, .val (.long q2), .second, .val (.int p3), .val (.long lim), .second, .val (.long (4611686018427387903 : Int64)), .second, .val (.long half), .second, .val (.int (p3 &&& (3 : Int32))), .val (.long chs), .second, .val (.long (own_tk p3 half (q2 &&& (4611686018427387903 : Int64)))), .second, .unset, .unset, .unset, .unset] [(.int (1 : Int32))])) _
            refine XS.goto X0.here hx rfl (pc0 := 112) (pc' := 116) rfl (hb hby at_112) (by decide) (by decide) ?_
            show Steps p.tables e below (s₁.setTop (mkF m 116 #[.val (.long q0), .second, .val (.long q1), .second, .val (.long q2), .second, .val (.int p3), .val (.long lim), .second, .val (.long (4611686018427387903 : Int64)), .second, .val (.long half), .second, .val (.int (p3 &&& (3 : Int32))), .val (.long chs), .second, .val (.long (own_tk p3 half (q2 &&& (4611686018427387903 : Int64)))), .second, .unset, .unset, .unset, .unset] [(.int (1 : Int32))])) _
            refine XS.istore X0.here hx rfl (hb hby at_116) rfl (l' := #[.val (.long q0), .second, .val (.long q1), .second, .val (.long q2), .second, .val (.int p3), .val (.long lim), .second, .val (.long (4611686018427387903 : Int64)), .second, .val (.long half), .second, .val (.int (p3 &&& (3 : Int32))), .val (.long chs), .second, .val (.long (own_tk p3 half (q2 &&& (4611686018427387903 : Int64)))), .second, .val (.int (1 : Int32)), .unset, .unset, .unset]) rfl ?_
            rw [show (own_exp half chs) = (1 : Int32) from by unfold own_exp; rw [if_neg hc108]] at kt
            exact kt
        obtain ⟨T127, h127, X127, e127, E127, A127, D127, U127, st127⟩ := newO X0 hx hZ hown (hw _ (List.mem_of_getElem? (i := 7) rfl)) (hw _ (List.mem_of_getElem? (i := 8) rfl)) (hw _ (List.mem_of_getElem? (i := 9) rfl)) e0 (g := (mkF m 118 #[.val (.long q0), .second, .val (.long q1), .second, .val (.long q2), .second, .val (.int p3), .val (.long lim), .second, .val (.long (4611686018427387903 : Int64)), .second, .val (.long half), .second, .val (.int (p3 &&& (3 : Int32))), .val (.long chs), .second, .val (.long (own_tk p3 half (q2 &&& (4611686018427387903 : Int64)))), .second, .val (.int (own_exp half chs)), .unset, .unset, .unset] [])) rfl (hb hby at_118) (by decide) (by decide)
        obtain ⟨b127, g127⟩ : ∃ z, z = h0.size := ⟨_, rfl⟩
        rw [← g127] at A127 D127 U127 st127
        have g_b127 : n0 ≤ b127 := Nat.le_trans Z0 (Nat.le_of_eq g127.symm)
        have sz_b127 : h0.size ≤ b127 := Nat.le_trans (Keep.refl h0 []).1 (Nat.le_of_eq g127.symm)
        have Un127 : Unt h127 b127 := U127
        have F127_texts : Fld Z h127 b127 "com/example/href/href/text/KeptRoom" "texts" "Lcom/example/href/href/text/KeptRoom$Room;" .null := D127 (Or.inr (hw _ (List.mem_of_getElem? (i := 28) rfl))) (ty := (.object "com/example/href/href/text/KeptRoom$Room")) (by decide)
        have F127_records : Fld Z h127 b127 "com/example/href/href/text/KeptRoom" "records" "Lcom/example/href/href/text/KeptRoom$Room;" .null := D127 (Or.inr (hw _ (List.mem_of_getElem? (i := 30) rfl))) (ty := (.object "com/example/href/href/text/KeptRoom$Room")) (by decide)
        have c128 : ∀ t, Steps p.tables e below (T127.setTop (mkF m 125 #[.val (.long q0), .second, .val (.long q1), .second, .val (.long q2), .second, .val (.int p3), .val (.long lim), .second, .val (.long (4611686018427387903 : Int64)), .second, .val (.long half), .second, .val (.int (p3 &&& (3 : Int32))), .val (.long chs), .second, .val (.long (own_tk p3 half (q2 &&& (4611686018427387903 : Int64)))), .second, .val (.int (own_exp half chs)), .unset, .unset, .unset] [(.long (0 : Int64)), (.long lim), (.ref b127), (.ref b127)])) t → Steps p.tables e below (T127.setTop (mkF m 121 #[.val (.long q0), .second, .val (.long q1), .second, .val (.long q2), .second, .val (.int p3), .val (.long lim), .second, .val (.long (4611686018427387903 : Int64)), .second, .val (.long half), .second, .val (.int (p3 &&& (3 : Int32))), .val (.long chs), .second, .val (.long (own_tk p3 half (q2 &&& (4611686018427387903 : Int64)))), .second, .val (.int (own_exp half chs)), .unset, .unset, .unset] [(.ref b127)])) t := by
          intro t kt
          show Steps p.tables e below (T127.setTop (mkF m 121 #[.val (.long q0), .second, .val (.long q1), .second, .val (.long q2), .second, .val (.int p3), .val (.long lim), .second, .val (.long (4611686018427387903 : Int64)), .second, .val (.long half), .second, .val (.int (p3 &&& (3 : Int32))), .val (.long chs), .second, .val (.long (own_tk p3 half (q2 &&& (4611686018427387903 : Int64)))), .second, .val (.int (own_exp half chs)), .unset, .unset, .unset] [(.ref b127)])) _
          refine XS.dup X127.here hx rfl (hb hby at_121) rfl rfl ?_
          show Steps p.tables e below (T127.setTop (mkF m 122 #[.val (.long q0), .second, .val (.long q1), .second, .val (.long q2), .second, .val (.int p3), .val (.long lim), .second, .val (.long (4611686018427387903 : Int64)), .second, .val (.long half), .second, .val (.int (p3 &&& (3 : Int32))), .val (.long chs), .second, .val (.long (own_tk p3 half (q2 &&& (4611686018427387903 : Int64)))), .second, .val (.int (own_exp half chs)), .unset, .unset, .unset] [(.ref b127), (.ref b127)])) _
          refine XS.lload X127.here hx rfl (hb hby at_122) rfl ?_
          show Steps p.tables e below (T127.setTop (mkF m 124 #[.val (.long q0), .second, .val (.long q1), .second, .val (.long q2), .second, .val (.int p3), .val (.long lim), .second, .val (.long (4611686018427387903 : Int64)), .second, .val (.long half), .second, .val (.int (p3 &&& (3 : Int32))), .val (.long chs), .second, .val (.long (own_tk p3 half (q2 &&& (4611686018427387903 : Int64)))), .second, .val (.int (own_exp half chs)), .unset, .unset, .unset] [(.long lim), (.ref b127), (.ref b127)])) _
          refine XS.lconst X127.here hx rfl (hb hby at_124) ?_
          exact kt
        have f129 := (Nat.le_trans Z0 E127.1)
        obtain ⟨_, _, ⟨T130, L130, k130, n130⟩, -, X130, ⟨Lc130, hQ130, l130, y130, z130⟩, st130⟩ := X127.specialBack hx (y := (⟨"com/example/href/href/text/KeptRoom", "<init>", "(JJ)V"⟩ : MethodName)) rfl hown (mvT hZ (hw _ (List.mem_of_getElem? (i := 10) rfl))) (mvT hZ (hw _ (List.mem_of_getElem? (i := 11) rfl))) (mvT hZ (hw _ (List.mem_of_getElem? (i := 12) rfl))) (by decide) (backOf (W := 1) (rm2 l Z a0 hw [] b127 lim (0 : Int64)  h127 n0 f129 F127_texts F127_records A127 g_b127) hZ (hw _ (List.mem_of_getElem? (i := 12) rfl)) (hw _ (List.mem_of_getElem? (i := 9) rfl)) (by decide) (by decide)) (g := (mkF m 125 #[.val (.long q0), .second, .val (.long q1), .second, .val (.long q2), .second, .val (.int p3), .val (.long lim), .second, .val (.long (4611686018427387903 : Int64)), .second, .val (.long half), .second, .val (.int (p3 &&& (3 : Int32))), .val (.long chs), .second, .val (.long (own_tk p3 half (q2 &&& (4611686018427387903 : Int64)))), .second, .val (.int (own_exp half chs)), .unset, .unset, .unset] [(.long (0 : Int64)), (.long lim), (.ref b127), (.ref b127)])) rfl (by rw [hml]; rfl) (Steps.refl _) (a := b127) (argsL := [(.long lim), (.long (0 : Int64))]) (rest := [(.ref b127)]) (lenOf pd_3 rfl) rfl (by show 2 * 0 + _ ≤ _; exact Nat.le_of_eq rfl) (hb hby at_125) (fun _ _ => ⟨rfl, e127, (by decide : 1 + 2 ≤ _), (by decide : 3 + 4 ≤ _)⟩)
        dsimp only [Pt.U, Pt.locs, Pt.cells, Pt.slots] at X130 l130 y130 z130 st130 hQ130
        subst l130 y130 z130
        obtain ⟨ot130, rfl, N130q, Kq130, Eq130, Fq130, g_ot130, Et130, Fl130, Ff130, Uq130⟩ := hQ130
        have N130 := Fr.app N0 N130q
        have ne130 : b127 ≠ ot130 := ne_exa Eq130 Et130 (by decide)
        have c131 : ∀ t, Steps p.tables e below (T130.setTop (mkF m 134 #[.val (.long q0), .second, .val (.long q1), .second, .val (.long q2), .second, .val (.int p3), .val (.long lim), .second, .val (.long (4611686018427387903 : Int64)), .second, .val (.long half), .second, .val (.int (p3 &&& (3 : Int32))), .val (.long chs), .second, .val (.long (own_tk p3 half (q2 &&& (4611686018427387903 : Int64)))), .second, .val (.int (own_exp half chs)), .val (.ref b127), .unset, .unset] [(.long chs), (.ref b127)])) t → Steps p.tables e below (T130.setTop (mkF m 128 #[.val (.long q0), .second, .val (.long q1), .second, .val (.long q2), .second, .val (.int p3), .val (.long lim), .second, .val (.long (4611686018427387903 : Int64)), .second, .val (.long half), .second, .val (.int (p3 &&& (3 : Int32))), .val (.long chs), .second, .val (.long (own_tk p3 half (q2 &&& (4611686018427387903 : Int64)))), .second, .val (.int (own_exp half chs)), .unset, .unset, .unset] [(.ref b127)])) t := by
          intro t kt
          show Steps p.tables e below (T130.setTop (mkF m 128 #[.val (.long q0), .second, .val (.long q1), .second, .val (.long q2), .second, .val (.int p3), .val (.long lim), .second, .val (.long (4611686018427387903 : Int64)), .second, .val (.long half), .second, .val (.int (p3 &&& (3 : Int32))), .val (.long chs), .second, .val (.long (own_tk p3 half (q2 &&& (4611686018427387903 : Int64)))), .second, .val (.int (own_exp half chs)), .unset, .unset, .unset] [(.ref b127)])) _
          refine XS.astore X130.here hx rfl (hb hby at_128) rfl rfl (l' := #[.val (.long q0), .second, .val (.long q1), .second, .val (.long q2), .second, .val (.int p3), .val (.long lim), .second, .val (.long (4611686018427387903 : Int64)), .second, .val (.long half), .second, .val (.int (p3 &&& (3 : Int32))), .val (.long chs), .second, .val (.long (own_tk p3 half (q2 &&& (4611686018427387903 : Int64)))), .second, .val (.int (own_exp half chs)), .val (.ref b127), .unset, .unset]) rfl ?_
          show Steps p.tables e below (T130.setTop (mkF m 130 #[.val (.long q0), .second, .val (.long q1), .second, .val (.long q2), .second, .val (.int p3), .val (.long lim), .second, .val (.long (4611686018427387903 : Int64)), .second, .val (.long half), .second, .val (.int (p3 &&& (3 : Int32))), .val (.long chs), .second, .val (.long (own_tk p3 half (q2 &&& (4611686018427387903 : Int64)))), .second, .val (.int (own_exp half chs)), .val (.ref b127), .unset, .unset] [])) _
          refine XS.aload X130.here hx rfl (hb hby at_130) rfl rfl ?_
          show Steps p.tables e below (T130.setTop (mkF m 132 #[.val (.long q0), .second, .val (.long q1), .second, .val (.long q2), .second, .val (.int p3), .val (.long lim), .second, .val (.long (4611686018427387903 : Int64)), .second, .val (.long half), .second, .val (.int (p3 &&& (3 : Int32))), .val (.long chs), .second, .val (.long (own_tk p3 half (q2 &&& (4611686018427387903 : Int64)))), .second, .val (.int (own_exp half chs)), .val (.ref b127), .unset, .unset] [(.ref b127)])) _
          refine XS.lload X130.here hx rfl (hb hby at_132) rfl ?_
          exact kt
        have f132 := (Nat.le_trans f129 Kq130.1)
        obtain ⟨cq133, kq133, q133a, q133b, q133c⟩ := isOf hZ rfl Eq130
        obtain ⟨_, _, ⟨T134, L134, k134, n134⟩, -, X134, ⟨Lc134, hQ134, l134, y134, z134⟩, st134⟩ := X130.virtualBack hx (y := (⟨"com/example/href/href/text/KeptRoom", "fitsKeepLimit", "(J)Z"⟩ : MethodName)) (z := (⟨"com/example/href/href/text/KeptRoom", "fitsKeepLimit", "(J)Z"⟩ : MethodName)) hown (mvT hZ (hw _ (List.mem_of_getElem? (i := 31) rfl))) (mvT hZ (hw _ (List.mem_of_getElem? (i := 32) rfl))) (notFace_of_selects (args := #[]) (mvT hZ (hw _ (List.mem_of_getElem? (i := 34) rfl)))) (mvT hZ (hw _ (List.mem_of_getElem? (i := 34) rfl))) (mvT hZ (hw _ (List.mem_of_getElem? (i := 33) rfl))) (by decide) (backOf (W := 0) (rm5 l Z a0 hw [] b127 chs ot130 lim T130.heap n0 f132 Fq130 Fl130) hZ (hw _ (List.mem_of_getElem? (i := 35) rfl)) (hw _ (List.mem_of_getElem? (i := 9) rfl)) (by decide) (by decide)) q133a q133c (g := (mkF m 134 #[.val (.long q0), .second, .val (.long q1), .second, .val (.long q2), .second, .val (.int p3), .val (.long lim), .second, .val (.long (4611686018427387903 : Int64)), .second, .val (.long half), .second, .val (.int (p3 &&& (3 : Int32))), .val (.long chs), .second, .val (.long (own_tk p3 half (q2 &&& (4611686018427387903 : Int64)))), .second, .val (.int (own_exp half chs)), .val (.ref b127), .unset, .unset] [(.long chs), (.ref b127)])) rfl (by rw [hml]; rfl) (Steps.refl _) (argsL := [(.long chs)]) (rest := []) (lenOf pd_2 rfl) rfl (by show 2 * 0 + _ ≤ _; exact Nat.le_of_eq rfl) (hb hby at_134) (fun _ _ => ⟨rfl, rfl, (by decide : 3 + 0 ≤ _), (by decide : 7 + 0 ≤ _)⟩)
        dsimp only [Pt.U, Pt.locs, Pt.cells, Pt.slots] at X134 l134 y134 z134 st134 hQ134
        subst l134 y134 z134
        obtain ⟨rfl, N134q, e134⟩ := hQ134
        have N134 := Fr.app N130 N134q
        have c135 : ∀ t, Steps p.tables e below (T134.setTop (mkF m 143 #[.val (.long q0), .second, .val (.long q1), .second, .val (.long q2), .second, .val (.int p3), .val (.long lim), .second, .val (.long (4611686018427387903 : Int64)), .second, .val (.long half), .second, .val (.int (p3 &&& (3 : Int32))), .val (.long chs), .second, .val (.long (own_tk p3 half (q2 &&& (4611686018427387903 : Int64)))), .second, .val (.int (own_exp half chs)), .val (.ref b127), .val (.int (own_fit lim ((2 : Int64) * chs))), .unset] [(.int (p3 &&& (4 : Int32)))])) t → Steps p.tables e below (T134.setTop (mkF m 137 #[.val (.long q0), .second, .val (.long q1), .second, .val (.long q2), .second, .val (.int p3), .val (.long lim), .second, .val (.long (4611686018427387903 : Int64)), .second, .val (.long half), .second, .val (.int (p3 &&& (3 : Int32))), .val (.long chs), .second, .val (.long (own_tk p3 half (q2 &&& (4611686018427387903 : Int64)))), .second, .val (.int (own_exp half chs)), .val (.ref b127), .unset, .unset] [(.int (own_fit lim ((2 : Int64) * chs)))])) t := by
          intro t kt
          show Steps p.tables e below (T134.setTop (mkF m 137 #[.val (.long q0), .second, .val (.long q1), .second, .val (.long q2), .second, .val (.int p3), .val (.long lim), .second, .val (.long (4611686018427387903 : Int64)), .second, .val (.long half), .second, .val (.int (p3 &&& (3 : Int32))), .val (.long chs), .second, .val (.long (own_tk p3 half (q2 &&& (4611686018427387903 : Int64)))), .second, .val (.int (own_exp half chs)), .val (.ref b127), .unset, .unset] [(.int (own_fit lim ((2 : Int64) * chs)))])) _
          refine XS.istore X134.here hx rfl (hb hby at_137) rfl (l' := #[.val (.long q0), .second, .val (.long q1), .second, .val (.long q2), .second, .val (.int p3), .val (.long lim), .second, .val (.long (4611686018427387903 : Int64)), .second, .val (.long half), .second, .val (.int (p3 &&& (3 : Int32))), .val (.long chs), .second, .val (.long (own_tk p3 half (q2 &&& (4611686018427387903 : Int64)))), .second, .val (.int (own_exp half chs)), .val (.ref b127), .val (.int (own_fit lim ((2 : Int64) * chs))), .unset]) rfl ?_
          show Steps p.tables e below (T134.setTop (mkF m 139 #[.val (.long q0), .second, .val (.long q1), .second, .val (.long q2), .second, .val (.int p3), .val (.long lim), .second, .val (.long (4611686018427387903 : Int64)), .second, .val (.long half), .second, .val (.int (p3 &&& (3 : Int32))), .val (.long chs), .second, .val (.long (own_tk p3 half (q2 &&& (4611686018427387903 : Int64)))), .second, .val (.int (own_exp half chs)), .val (.ref b127), .val (.int (own_fit lim ((2 : Int64) * chs))), .unset] [])) _
          refine XS.iload X134.here hx rfl (hb hby at_139) rfl ?_
          show Steps p.tables e below (T134.setTop (mkF m 141 #[.val (.long q0), .second, .val (.long q1), .second, .val (.long q2), .second, .val (.int p3), .val (.long lim), .second, .val (.long (4611686018427387903 : Int64)), .second, .val (.long half), .second, .val (.int (p3 &&& (3 : Int32))), .val (.long chs), .second, .val (.long (own_tk p3 half (q2 &&& (4611686018427387903 : Int64)))), .second, .val (.int (own_exp half chs)), .val (.ref b127), .val (.int (own_fit lim ((2 : Int64) * chs))), .unset] [(.int p3)])) _
          refine XS.iconst X134.here hx rfl (hb hby at_141) ?_
          show Steps p.tables e below (T134.setTop (mkF m 142 #[.val (.long q0), .second, .val (.long q1), .second, .val (.long q2), .second, .val (.int p3), .val (.long lim), .second, .val (.long (4611686018427387903 : Int64)), .second, .val (.long half), .second, .val (.int (p3 &&& (3 : Int32))), .val (.long chs), .second, .val (.long (own_tk p3 half (q2 &&& (4611686018427387903 : Int64)))), .second, .val (.int (own_exp half chs)), .val (.ref b127), .val (.int (own_fit lim ((2 : Int64) * chs))), .unset] [(.int (4 : Int32)), (.int p3)])) _
          refine XS.iand X134.here hx rfl (hb hby at_142) rfl ?_
          exact kt
        by_cases hc143 : (p3 &&& (4 : Int32)) = (0 : Int32)
        · -- it is
          have c136 : ∀ t, Steps p.tables e below (T134.setTop (mkF m 158 #[.val (.long q0), .second, .val (.long q1), .second, .val (.long q2), .second, .val (.int p3), .val (.long lim), .second, .val (.long (4611686018427387903 : Int64)), .second, .val (.long half), .second, .val (.int (p3 &&& (3 : Int32))), .val (.long chs), .second, .val (.long (own_tk p3 half (q2 &&& (4611686018427387903 : Int64)))), .second, .val (.int (own_exp half chs)), .val (.ref b127), .val (.int (own_fit lim ((2 : Int64) * chs))), .unset] [(.long chs), (.ref b127)])) t → Steps p.tables e below (T134.setTop (mkF m 143 #[.val (.long q0), .second, .val (.long q1), .second, .val (.long q2), .second, .val (.int p3), .val (.long lim), .second, .val (.long (4611686018427387903 : Int64)), .second, .val (.long half), .second, .val (.int (p3 &&& (3 : Int32))), .val (.long chs), .second, .val (.long (own_tk p3 half (q2 &&& (4611686018427387903 : Int64)))), .second, .val (.int (own_exp half chs)), .val (.ref b127), .val (.int (own_fit lim ((2 : Int64) * chs))), .unset] [(.int (p3 &&& (4 : Int32)))])) t := by
            intro t kt
            show Steps p.tables e below (T134.setTop (mkF m 143 #[.val (.long q0), .second, .val (.long q1), .second, .val (.long q2), .second, .val (.int p3), .val (.long lim), .second, .val (.long (4611686018427387903 : Int64)), .second, .val (.long half), .second, .val (.int (p3 &&& (3 : Int32))), .val (.long chs), .second, .val (.long (own_tk p3 half (q2 &&& (4611686018427387903 : Int64)))), .second, .val (.int (own_exp half chs)), .val (.ref b127), .val (.int (own_fit lim ((2 : Int64) * chs))), .unset] [(.int (p3 &&& (4 : Int32)))])) _
            refine XS.ifYes X134.here hx rfl (pc0 := 143) (pc' := 154) rfl (hb hby at_143) rfl ((if0 _ _).trans (teq hc143).1) (by decide) (by decide) ?_
            show Steps p.tables e below (T134.setTop (mkF m 154 #[.val (.long q0), .second, .val (.long q1), .second, .val (.long q2), .second, .val (.int p3), .val (.long lim), .second, .val (.long (4611686018427387903 : Int64)), .second, .val (.long half), .second, .val (.int (p3 &&& (3 : Int32))), .val (.long chs), .second, .val (.long (own_tk p3 half (q2 &&& (4611686018427387903 : Int64)))), .second, .val (.int (own_exp half chs)), .val (.ref b127), .val (.int (own_fit lim ((2 : Int64) * chs))), .unset] [])) _
            refine XS.aload X134.here hx rfl (hb hby at_154) rfl rfl ?_
            show Steps p.tables e below (T134.setTop (mkF m 156 #[.val (.long q0), .second, .val (.long q1), .second, .val (.long q2), .second, .val (.int p3), .val (.long lim), .second, .val (.long (4611686018427387903 : Int64)), .second, .val (.long half), .second, .val (.int (p3 &&& (3 : Int32))), .val (.long chs), .second, .val (.long (own_tk p3 half (q2 &&& (4611686018427387903 : Int64)))), .second, .val (.int (own_exp half chs)), .val (.ref b127), .val (.int (own_fit lim ((2 : Int64) * chs))), .unset] [(.ref b127)])) _
            refine XS.lload X134.here hx rfl (hb hby at_156) rfl ?_
            exact kt
          obtain ⟨cq137, kq137, q137a, q137b, q137c⟩ := isOf hZ e134 Eq130
          obtain ⟨_, _, ⟨T138, L138, k138, n138⟩, -, X138, ⟨Lc138, hQ138, l138, y138, z138⟩, st138⟩ := X134.virtualBack hx (y := (⟨"com/example/href/href/text/KeptRoom", "fitsKeepLimit", "(J)Z"⟩ : MethodName)) (z := (⟨"com/example/href/href/text/KeptRoom", "fitsKeepLimit", "(J)Z"⟩ : MethodName)) hown (mvT hZ (hw _ (List.mem_of_getElem? (i := 31) rfl))) (mvT hZ (hw _ (List.mem_of_getElem? (i := 32) rfl))) (notFace_of_selects (args := #[]) (mvT hZ (hw _ (List.mem_of_getElem? (i := 34) rfl)))) (mvT hZ (hw _ (List.mem_of_getElem? (i := 34) rfl))) (mvT hZ (hw _ (List.mem_of_getElem? (i := 33) rfl))) (by decide) (backOf (W := 0) (rm5 l Z a0 hw [] b127 chs ot130 lim T130.heap n0 f132 Fq130 Fl130) hZ (hw _ (List.mem_of_getElem? (i := 35) rfl)) (hw _ (List.mem_of_getElem? (i := 9) rfl)) (by decide) (by decide)) q137a q137c (g := (mkF m 158 #[.val (.long q0), .second, .val (.long q1), .second, .val (.long q2), .second, .val (.int p3), .val (.long lim), .second, .val (.long (4611686018427387903 : Int64)), .second, .val (.long half), .second, .val (.int (p3 &&& (3 : Int32))), .val (.long chs), .second, .val (.long (own_tk p3 half (q2 &&& (4611686018427387903 : Int64)))), .second, .val (.int (own_exp half chs)), .val (.ref b127), .val (.int (own_fit lim ((2 : Int64) * chs))), .unset] [(.long chs), (.ref b127)])) rfl (by rw [hml]; rfl) (Steps.refl _) (argsL := [(.long chs)]) (rest := []) (lenOf pd_2 rfl) rfl (by show 2 * 0 + _ ≤ _; exact Nat.le_of_eq rfl) (hb hby at_158) (fun _ _ => ⟨rfl, e134, (by decide : 3 + 0 ≤ _), (by decide : 7 + 0 ≤ _)⟩)
          dsimp only [Pt.U, Pt.locs, Pt.cells, Pt.slots] at X138 l138 y138 z138 st138 hQ138
          subst l138 y138 z138
          obtain ⟨rfl, N138q, e138⟩ := hQ138
          have N138 := Fr.app N134 N138q
          have c140 : ∀ t, Steps p.tables e below (T138.setTop (mkF m 167 #[.val (.long q0), .second, .val (.long q1), .second, .val (.long q2), .second, .val (.int p3), .val (.long lim), .second, .val (.long (4611686018427387903 : Int64)), .second, .val (.long half), .second, .val (.int (p3 &&& (3 : Int32))), .val (.long chs), .second, .val (.long (own_tk p3 half (q2 &&& (4611686018427387903 : Int64)))), .second, .val (.int (own_exp half chs)), .val (.ref b127), .val (.int (own_fit lim ((2 : Int64) * chs))), .val (.int (own_fit lim ((2 : Int64) * chs)))] [(.int (own_exp half chs)), (.int (own_fit lim ((2 : Int64) * chs)))])) t → Steps p.tables e below (T138.setTop (mkF m 161 #[.val (.long q0), .second, .val (.long q1), .second, .val (.long q2), .second, .val (.int p3), .val (.long lim), .second, .val (.long (4611686018427387903 : Int64)), .second, .val (.long half), .second, .val (.int (p3 &&& (3 : Int32))), .val (.long chs), .second, .val (.long (own_tk p3 half (q2 &&& (4611686018427387903 : Int64)))), .second, .val (.int (own_exp half chs)), .val (.ref b127), .val (.int (own_fit lim ((2 : Int64) * chs))), .unset] [(.int (own_fit lim ((2 : Int64) * chs)))])) t := by
            intro t kt
            show Steps p.tables e below (T138.setTop (mkF m 161 #[.val (.long q0), .second, .val (.long q1), .second, .val (.long q2), .second, .val (.int p3), .val (.long lim), .second, .val (.long (4611686018427387903 : Int64)), .second, .val (.long half), .second, .val (.int (p3 &&& (3 : Int32))), .val (.long chs), .second, .val (.long (own_tk p3 half (q2 &&& (4611686018427387903 : Int64)))), .second, .val (.int (own_exp half chs)), .val (.ref b127), .val (.int (own_fit lim ((2 : Int64) * chs))), .unset] [(.int (own_fit lim ((2 : Int64) * chs)))])) _
            refine XS.istore X138.here hx rfl (hb hby at_161) rfl (l' := #[.val (.long q0), .second, .val (.long q1), .second, .val (.long q2), .second, .val (.int p3), .val (.long lim), .second, .val (.long (4611686018427387903 : Int64)), .second, .val (.long half), .second, .val (.int (p3 &&& (3 : Int32))), .val (.long chs), .second, .val (.long (own_tk p3 half (q2 &&& (4611686018427387903 : Int64)))), .second, .val (.int (own_exp half chs)), .val (.ref b127), .val (.int (own_fit lim ((2 : Int64) * chs))), .val (.int (own_fit lim ((2 : Int64) * chs)))]) rfl ?_
            show Steps p.tables e below (T138.setTop (mkF m 163 #[.val (.long q0), .second, .val (.long q1), .second, .val (.long q2), .second, .val (.int p3), .val (.long lim), .second, .val (.long (4611686018427387903 : Int64)), .second, .val (.long half), .second, .val (.int (p3 &&& (3 : Int32))), .val (.long chs), .second, .val (.long (own_tk p3 half (q2 &&& (4611686018427387903 : Int64)))), .second, .val (.int (own_exp half chs)), .val (.ref b127), .val (.int (own_fit lim ((2 : Int64) * chs))), .val (.int (own_fit lim ((2 : Int64) * chs)))] [])) _
            refine XS.iload X138.here hx rfl (hb hby at_163) rfl ?_
            show Steps p.tables e below (T138.setTop (mkF m 165 #[.val (.long q0), .second, .val (.long q1), .second, .val (.long q2), .second, .val (.int p3), .val (.long lim), .second, .val (.long (4611686018427387903 : Int64)), .second, .val (.long half), .second, .val (.int (p3 &&& (3 : Int32))), .val (.long chs), .second, .val (.long (own_tk p3 half (q2 &&& (4611686018427387903 : Int64)))), .second, .val (.int (own_exp half chs)), .val (.ref b127), .val (.int (own_fit lim ((2 : Int64) * chs))), .val (.int (own_fit lim ((2 : Int64) * chs)))] [(.int (own_fit lim ((2 : Int64) * chs)))])) _
            refine XS.iload X138.here hx rfl (hb hby at_165) rfl ?_
            exact kt
          have hd139 : (own_fit lim ((2 : Int64) * chs)) = (own_exp half chs) := own_eq lim half chs hl0 hh hc.1 hc.2
          have c142 : ∀ t, Steps p.tables e below (T138.setTop (mkF m 174 #[.val (.long q0), .second, .val (.long q1), .second, .val (.long q2), .second, .val (.int p3), .val (.long lim), .second, .val (.long (4611686018427387903 : Int64)), .second, .val (.long half), .second, .val (.int (p3 &&& (3 : Int32))), .val (.long chs), .second, .val (.long (own_tk p3 half (q2 &&& (4611686018427387903 : Int64)))), .second, .val (.int (own_exp half chs)), .val (.ref b127), .val (.int (own_fit lim ((2 : Int64) * chs))), .val (.int (own_fit lim ((2 : Int64) * chs)))] [(.int (own_exp half chs)), (.int (own_fit lim ((2 : Int64) * chs)))])) t → Steps p.tables e below (T138.setTop (mkF m 167 #[.val (.long q0), .second, .val (.long q1), .second, .val (.long q2), .second, .val (.int p3), .val (.long lim), .second, .val (.long (4611686018427387903 : Int64)), .second, .val (.long half), .second, .val (.int (p3 &&& (3 : Int32))), .val (.long chs), .second, .val (.long (own_tk p3 half (q2 &&& (4611686018427387903 : Int64)))), .second, .val (.int (own_exp half chs)), .val (.ref b127), .val (.int (own_fit lim ((2 : Int64) * chs))), .val (.int (own_fit lim ((2 : Int64) * chs)))] [(.int (own_exp half chs)), (.int (own_fit lim ((2 : Int64) * chs)))])) t := by
            intro t kt
            show Steps p.tables e below (T138.setTop (mkF m 167 #[.val (.long q0), .second, .val (.long q1), .second, .val (.long q2), .second, .val (.int p3), .val (.long lim), .second, .val (.long (4611686018427387903 : Int64)), .second, .val (.long half), .second, .val (.int (p3 &&& (3 : Int32))), .val (.long chs), .second, .val (.long (own_tk p3 half (q2 &&& (4611686018427387903 : Int64)))), .second, .val (.int (own_exp half chs)), .val (.ref b127), .val (.int (own_fit lim ((2 : Int64) * chs))), .val (.int (own_fit lim ((2 : Int64) * chs)))] [(.int (own_exp half chs)), (.int (own_fit lim ((2 : Int64) * chs)))])) _
            refine XS.icmpNo X138.here hx rfl (hb hby at_167) rfl (teq (hd139)).2 ?_
            show Steps p.tables e below (T138.setTop (mkF m 170 #[.val (.long q0), .second, .val (.long q1), .second, .val (.long q2), .second, .val (.int p3), .val (.long lim), .second, .val (.long (4611686018427387903 : Int64)), .second, .val (.long half), .second, .val (.int (p3 &&& (3 : Int32))), .val (.long chs), .second, .val (.long (own_tk p3 half (q2 &&& (4611686018427387903 : Int64)))), .second, .val (.int (own_exp half chs)), .val (.ref b127), .val (.int (own_fit lim ((2 : Int64) * chs))), .val (.int (own_fit lim ((2 : Int64) * chs)))] [])) _
            refine XS.iload X138.here hx rfl (hb hby at_170) rfl ?_
            show Steps p.tables e below (T138.setTop (mkF m 172 #[.val (.long q0), .second, .val (.long q1), .second, .val (.long q2), .second, .val (.int p3), .val (.long lim), .second, .val (.long (4611686018427387903 : Int64)), .second, .val (.long half), .second, .val (.int (p3 &&& (3 : Int32))), .val (.long chs), .second, .val (.long (own_tk p3 half (q2 &&& (4611686018427387903 : Int64)))), .second, .val (.int (own_exp half chs)), .val (.ref b127), .val (.int (own_fit lim ((2 : Int64) * chs))), .val (.int (own_fit lim ((2 : Int64) * chs)))] [(.int (own_fit lim ((2 : Int64) * chs)))])) _
            refine XS.iload X138.here hx rfl (hb hby at_172) rfl ?_
            exact kt
          have hd141 : (own_fit lim ((2 : Int64) * chs)) = (own_exp half chs) := own_eq lim half chs hl0 hh hc.1 hc.2
          have c143 : ∀ t, Steps p.tables e below (T138.setTop (mkF m 182 #[.val (.long q0), .second, .val (.long q1), .second, .val (.long q2), .second, .val (.int p3), .val (.long lim), .second, .val (.long (4611686018427387903 : Int64)), .second, .val (.long half), .second, .val (.int (p3 &&& (3 : Int32))), .val (.long chs), .second, .val (.long (own_tk p3 half (q2 &&& (4611686018427387903 : Int64)))), .second, .val (.int (own_exp half chs)), .val (.ref b127), .val (.int (own_fit lim ((2 : Int64) * chs))), .val (.int (own_fit lim ((2 : Int64) * chs)))] [(.int (1 : Int32))])) t → Steps p.tables e below (T138.setTop (mkF m 174 #[.val (.long q0), .second, .val (.long q1), .second, .val (.long q2), .second, .val (.int p3), .val (.long lim), .second, .val (.long (4611686018427387903 : Int64)), .second, .val (.long half), .second, .val (.int (p3 &&& (3 : Int32))), .val (.long chs), .second, .val (.long (own_tk p3 half (q2 &&& (4611686018427387903 : Int64)))), .second, .val (.int (own_exp half chs)), .val (.ref b127), .val (.int (own_fit lim ((2 : Int64) * chs))), .val (.int (own_fit lim ((2 : Int64) * chs)))] [(.int (own_exp half chs)), (.int (own_fit lim ((2 : Int64) * chs)))])) t := by
            intro t kt
            show Steps p.tables e below (T138.setTop (mkF m 174 #[.val (.long q0), .second, .val (.long q1), .second, .val (.long q2), .second, .val (.int p3), .val (.long lim), .second, .val (.long (4611686018427387903 : Int64)), .second, .val (.long half), .second, .val (.int (p3 &&& (3 : Int32))), .val (.long chs), .second, .val (.long (own_tk p3 half (q2 &&& (4611686018427387903 : Int64)))), .second, .val (.int (own_exp half chs)), .val (.ref b127), .val (.int (own_fit lim ((2 : Int64) * chs))), .val (.int (own_fit lim ((2 : Int64) * chs)))] [(.int (own_exp half chs)), (.int (own_fit lim ((2 : Int64) * chs)))])) _
            refine XS.icmpNo X138.here hx rfl (hb hby at_174) rfl (teq (hd141)).2 ?_
            show Steps p.tables e below (T138.setTop (mkF m 177 #[.val (.long q0), .second, .val (.long q1), .second, .val (.long q2), .second, .val (.int p3), .val (.long lim), .second, .val (.long (4611686018427387903 : Int64)), .second, .val (.long half), .second, .val (.int (p3 &&& (3 : Int32))), .val (.long chs), .second, .val (.long (own_tk p3 half (q2 &&& (4611686018427387903 : Int64)))), .second, .val (.int (own_exp half chs)), .val (.ref b127), .val (.int (own_fit lim ((2 : Int64) * chs))), .val (.int (own_fit lim ((2 : Int64) * chs)))] [])) _
            refine XS.iconst X138.here hx rfl (hb hby at_177) ?_
            show Steps p.tables e below (T138.setTop (mkF m 178 #[.val (.long q0), .second, .val (.long q1), .second, .val (.long q2), .second, .val (.int p3), .val (.long lim), .second, .val (.long (4611686018427387903 : Int64)), .second, .val (.long half), .second, .val (.int (p3 &&& (3 : Int32))), .val (.long chs), .second, .val (.long (own_tk p3 half (q2 &&& (4611686018427387903 : Int64)))), .second, .val (.int (own_exp half chs)), .val (.ref b127), .val (.int (own_fit lim ((2 : Int64) * chs))), .val (.int (own_fit lim ((2 : Int64) * chs)))] [(.int (1 : Int32))])) _
            refine XS.goto X138.here hx rfl (pc0 := 178) (pc' := 182) rfl (hb hby at_178) (by decide) (by decide) ?_
            exact kt
          obtain ⟨fs, hr, hrun, hended, hW, hsame⟩ := X138.leave (v := some (.int (1 : Int32))) (fun h => by rw [Bd.returns] at h; cases h)
          refine ⟨_, _, pre0 _ (c1 _ (c2 _ (c3 _ (c4 _ (c5 _ (c43 _ (c83 _ (c123 _ (c124 _ (c125 _ (c126 _ (st127 _ (c128 _ (st130.trans (c131 _ (st134.trans (c135 _ (c136 _ (st138.trans (c140 _ (c142 _ (c143 _ (?_))))))))))))))))))))))), hrun, hended, _, _, rfl, ?_, ⟨_, rfl⟩, hW, hsame.mono (by decide) (by decide)⟩
          · show Steps p.tables e below (T138.setTop (mkF m 182 #[.val (.long q0), .second, .val (.long q1), .second, .val (.long q2), .second, .val (.int p3), .val (.long lim), .second, .val (.long (4611686018427387903 : Int64)), .second, .val (.long half), .second, .val (.int (p3 &&& (3 : Int32))), .val (.long chs), .second, .val (.long (own_tk p3 half (q2 &&& (4611686018427387903 : Int64)))), .second, .val (.int (own_exp half chs)), .val (.ref b127), .val (.int (own_fit lim ((2 : Int64) * chs))), .val (.int (own_fit lim ((2 : Int64) * chs)))] [(.int (1 : Int32))])) _
            exact retN X138 hx (t := .boolean) Bd.returns (by simp) (hb hby at_182) hr
          · show Q0 Z q0 q1 q2 p3 h0 n0 _ T138.heap _
            rw [e138]
            exact ⟨congrArg (fun z => some (Value.int z)) (show (1 : Int32) = (1 : Int32) from by rfl), N138⟩
        · -- it isn't
          have c145 : ∀ t, Steps p.tables e below (T134.setTop (mkF m 150 #[.val (.long q0), .second, .val (.long q1), .second, .val (.long q2), .second, .val (.int p3), .val (.long lim), .second, .val (.long (4611686018427387903 : Int64)), .second, .val (.long half), .second, .val (.int (p3 &&& (3 : Int32))), .val (.long chs), .second, .val (.long (own_tk p3 half (q2 &&& (4611686018427387903 : Int64)))), .second, .val (.int (own_exp half chs)), .val (.ref b127), .val (.int (own_fit lim ((2 : Int64) * chs))), .unset] [(.long (own_tk p3 half (q2 &&& (4611686018427387903 : Int64)))), (.ref b127)])) t → Steps p.tables e below (T134.setTop (mkF m 143 #[.val (.long q0), .second, .val (.long q1), .second, .val (.long q2), .second, .val (.int p3), .val (.long lim), .second, .val (.long (4611686018427387903 : Int64)), .second, .val (.long half), .second, .val (.int (p3 &&& (3 : Int32))), .val (.long chs), .second, .val (.long (own_tk p3 half (q2 &&& (4611686018427387903 : Int64)))), .second, .val (.int (own_exp half chs)), .val (.ref b127), .val (.int (own_fit lim ((2 : Int64) * chs))), .unset] [(.int (p3 &&& (4 : Int32)))])) t := by
            intro t kt
            show Steps p.tables e below (T134.setTop (mkF m 143 #[.val (.long q0), .second, .val (.long q1), .second, .val (.long q2), .second, .val (.int p3), .val (.long lim), .second, .val (.long (4611686018427387903 : Int64)), .second, .val (.long half), .second, .val (.int (p3 &&& (3 : Int32))), .val (.long chs), .second, .val (.long (own_tk p3 half (q2 &&& (4611686018427387903 : Int64)))), .second, .val (.int (own_exp half chs)), .val (.ref b127), .val (.int (own_fit lim ((2 : Int64) * chs))), .unset] [(.int (p3 &&& (4 : Int32)))])) _
            refine XS.ifNo X134.here hx rfl (hb hby at_143) rfl ((if0 _ _).trans (feq hc143).1) ?_
            show Steps p.tables e below (T134.setTop (mkF m 146 #[.val (.long q0), .second, .val (.long q1), .second, .val (.long q2), .second, .val (.int p3), .val (.long lim), .second, .val (.long (4611686018427387903 : Int64)), .second, .val (.long half), .second, .val (.int (p3 &&& (3 : Int32))), .val (.long chs), .second, .val (.long (own_tk p3 half (q2 &&& (4611686018427387903 : Int64)))), .second, .val (.int (own_exp half chs)), .val (.ref b127), .val (.int (own_fit lim ((2 : Int64) * chs))), .unset] [])) _
            refine XS.aload X134.here hx rfl (hb hby at_146) rfl rfl ?_
            show Steps p.tables e below (T134.setTop (mkF m 148 #[.val (.long q0), .second, .val (.long q1), .second, .val (.long q2), .second, .val (.int p3), .val (.long lim), .second, .val (.long (4611686018427387903 : Int64)), .second, .val (.long half), .second, .val (.int (p3 &&& (3 : Int32))), .val (.long chs), .second, .val (.long (own_tk p3 half (q2 &&& (4611686018427387903 : Int64)))), .second, .val (.int (own_exp half chs)), .val (.ref b127), .val (.int (own_fit lim ((2 : Int64) * chs))), .unset] [(.ref b127)])) _
            refine XS.lload X134.here hx rfl (hb hby at_148) rfl ?_
            exact kt
          obtain ⟨cq146, kq146, q146a, q146b, q146c⟩ := isOf hZ e134 Eq130
          obtain ⟨_, _, ⟨T147, L147, k147, n147⟩, -, X147, ⟨Lc147, hQ147, l147, y147, z147⟩, st147⟩ := X134.virtualBack hx (y := (⟨"com/example/href/href/text/KeptRoom", "reserveText", "(J)Z"⟩ : MethodName)) (z := (⟨"com/example/href/href/text/KeptRoom", "reserveText", "(J)Z"⟩ : MethodName)) hown (mvT hZ (hw _ (List.mem_of_getElem? (i := 41) rfl))) (mvT hZ (hw _ (List.mem_of_getElem? (i := 42) rfl))) (notFace_of_selects (args := #[]) (mvT hZ (hw _ (List.mem_of_getElem? (i := 44) rfl)))) (mvT hZ (hw _ (List.mem_of_getElem? (i := 44) rfl))) (mvT hZ (hw _ (List.mem_of_getElem? (i := 43) rfl))) (by decide) (backOf (W := 0) (rm7 l Z a0 hw [] b127 (own_tk p3 half (q2 &&& (4611686018427387903 : Int64))) ot130 lim lim T130.heap n0 f132 Fq130 Fl130 Ff130 Et130 g_ot130 Uq130) hZ (hw _ (List.mem_of_getElem? (i := 45) rfl)) (hw _ (List.mem_of_getElem? (i := 9) rfl)) (by decide) (by decide)) q146a q146c (g := (mkF m 150 #[.val (.long q0), .second, .val (.long q1), .second, .val (.long q2), .second, .val (.int p3), .val (.long lim), .second, .val (.long (4611686018427387903 : Int64)), .second, .val (.long half), .second, .val (.int (p3 &&& (3 : Int32))), .val (.long chs), .second, .val (.long (own_tk p3 half (q2 &&& (4611686018427387903 : Int64)))), .second, .val (.int (own_exp half chs)), .val (.ref b127), .val (.int (own_fit lim ((2 : Int64) * chs))), .unset] [(.long (own_tk p3 half (q2 &&& (4611686018427387903 : Int64)))), (.ref b127)])) rfl (by rw [hml]; rfl) (Steps.refl _) (argsL := [(.long (own_tk p3 half (q2 &&& (4611686018427387903 : Int64))))]) (rest := []) (lenOf pd_2 rfl) rfl (by show 2 * 0 + _ ≤ _; exact Nat.le_of_eq rfl) (hb hby at_150) (fun _ _ => ⟨rfl, e134, (by decide : 3 + 0 ≤ _), (by decide : 7 + 0 ≤ _)⟩)
          dsimp only [Pt.U, Pt.locs, Pt.cells, Pt.slots] at X147 l147 y147 z147 st147 hQ147
          subst l147 y147 z147
          obtain ⟨zr147, rfl, N147q, Kq147, Fq147⟩ := hQ147
          have N147 := Fr.app N134 N147q
          have c148 : ∀ t, Steps p.tables e below (T147.setTop (mkF m 158 #[.val (.long q0), .second, .val (.long q1), .second, .val (.long q2), .second, .val (.int p3), .val (.long lim), .second, .val (.long (4611686018427387903 : Int64)), .second, .val (.long half), .second, .val (.int (p3 &&& (3 : Int32))), .val (.long chs), .second, .val (.long (own_tk p3 half (q2 &&& (4611686018427387903 : Int64)))), .second, .val (.int (own_exp half chs)), .val (.ref b127), .val (.int (own_fit lim ((2 : Int64) * chs))), .unset] [(.long chs), (.ref b127)])) t → Steps p.tables e below (T147.setTop (mkF m 153 #[.val (.long q0), .second, .val (.long q1), .second, .val (.long q2), .second, .val (.int p3), .val (.long lim), .second, .val (.long (4611686018427387903 : Int64)), .second, .val (.long half), .second, .val (.int (p3 &&& (3 : Int32))), .val (.long chs), .second, .val (.long (own_tk p3 half (q2 &&& (4611686018427387903 : Int64)))), .second, .val (.int (own_exp half chs)), .val (.ref b127), .val (.int (own_fit lim ((2 : Int64) * chs))), .unset] [(.int zr147)])) t := by
            intro t kt
            show Steps p.tables e below (T147.setTop (mkF m 153 #[.val (.long q0), .second, .val (.long q1), .second, .val (.long q2), .second, .val (.int p3), .val (.long lim), .second, .val (.long (4611686018427387903 : Int64)), .second, .val (.long half), .second, .val (.int (p3 &&& (3 : Int32))), .val (.long chs), .second, .val (.long (own_tk p3 half (q2 &&& (4611686018427387903 : Int64)))), .second, .val (.int (own_exp half chs)), .val (.ref b127), .val (.int (own_fit lim ((2 : Int64) * chs))), .unset] [(.int zr147)])) _
            refine XS.pop X147.here hx rfl (hb hby at_153) rfl rfl ?_
            show Steps p.tables e below (T147.setTop (mkF m 154 #[.val (.long q0), .second, .val (.long q1), .second, .val (.long q2), .second, .val (.int p3), .val (.long lim), .second, .val (.long (4611686018427387903 : Int64)), .second, .val (.long half), .second, .val (.int (p3 &&& (3 : Int32))), .val (.long chs), .second, .val (.long (own_tk p3 half (q2 &&& (4611686018427387903 : Int64)))), .second, .val (.int (own_exp half chs)), .val (.ref b127), .val (.int (own_fit lim ((2 : Int64) * chs))), .unset] [])) _
            refine XS.aload X147.here hx rfl (hb hby at_154) rfl rfl ?_
            show Steps p.tables e below (T147.setTop (mkF m 156 #[.val (.long q0), .second, .val (.long q1), .second, .val (.long q2), .second, .val (.int p3), .val (.long lim), .second, .val (.long (4611686018427387903 : Int64)), .second, .val (.long half), .second, .val (.int (p3 &&& (3 : Int32))), .val (.long chs), .second, .val (.long (own_tk p3 half (q2 &&& (4611686018427387903 : Int64)))), .second, .val (.int (own_exp half chs)), .val (.ref b127), .val (.int (own_fit lim ((2 : Int64) * chs))), .unset] [(.ref b127)])) _
            refine XS.lload X147.here hx rfl (hb hby at_156) rfl ?_
            exact kt
          have f149 := (Nat.le_trans f132 Kq147.1)
          have f150 := (Fq130.keep Kq147 (ninS ne130 nin0))
          have f151 := (Eq130.keep Kq147)
          obtain ⟨cq152, kq152, q152a, q152b, q152c⟩ := isOf hZ rfl f151
          obtain ⟨_, _, ⟨T153, L153, k153, n153⟩, -, X153, ⟨Lc153, hQ153, l153, y153, z153⟩, st153⟩ := X147.virtualBack hx (y := (⟨"com/example/href/href/text/KeptRoom", "fitsKeepLimit", "(J)Z"⟩ : MethodName)) (z := (⟨"com/example/href/href/text/KeptRoom", "fitsKeepLimit", "(J)Z"⟩ : MethodName)) hown (mvT hZ (hw _ (List.mem_of_getElem? (i := 31) rfl))) (mvT hZ (hw _ (List.mem_of_getElem? (i := 32) rfl))) (notFace_of_selects (args := #[]) (mvT hZ (hw _ (List.mem_of_getElem? (i := 34) rfl)))) (mvT hZ (hw _ (List.mem_of_getElem? (i := 34) rfl))) (mvT hZ (hw _ (List.mem_of_getElem? (i := 33) rfl))) (by decide) (backOf (W := 0) (rm5 l Z a0 hw [] b127 chs ot130 lim T147.heap n0 f149 f150 Fq147) hZ (hw _ (List.mem_of_getElem? (i := 35) rfl)) (hw _ (List.mem_of_getElem? (i := 9) rfl)) (by decide) (by decide)) q152a q152c (g := (mkF m 158 #[.val (.long q0), .second, .val (.long q1), .second, .val (.long q2), .second, .val (.int p3), .val (.long lim), .second, .val (.long (4611686018427387903 : Int64)), .second, .val (.long half), .second, .val (.int (p3 &&& (3 : Int32))), .val (.long chs), .second, .val (.long (own_tk p3 half (q2 &&& (4611686018427387903 : Int64)))), .second, .val (.int (own_exp half chs)), .val (.ref b127), .val (.int (own_fit lim ((2 : Int64) * chs))), .unset] [(.long chs), (.ref b127)])) rfl (by rw [hml]; rfl) (Steps.refl _) (argsL := [(.long chs)]) (rest := []) (lenOf pd_2 rfl) rfl (by show 2 * 0 + _ ≤ _; exact Nat.le_of_eq rfl) (hb hby at_158) (fun _ _ => ⟨rfl, rfl, (by decide : 3 + 0 ≤ _), (by decide : 7 + 0 ≤ _)⟩)
          dsimp only [Pt.U, Pt.locs, Pt.cells, Pt.slots] at X153 l153 y153 z153 st153 hQ153
          subst l153 y153 z153
          obtain ⟨rfl, N153q, e153⟩ := hQ153
          have N153 := Fr.app N147 N153q
          have c155 : ∀ t, Steps p.tables e below (T153.setTop (mkF m 167 #[.val (.long q0), .second, .val (.long q1), .second, .val (.long q2), .second, .val (.int p3), .val (.long lim), .second, .val (.long (4611686018427387903 : Int64)), .second, .val (.long half), .second, .val (.int (p3 &&& (3 : Int32))), .val (.long chs), .second, .val (.long (own_tk p3 half (q2 &&& (4611686018427387903 : Int64)))), .second, .val (.int (own_exp half chs)), .val (.ref b127), .val (.int (own_fit lim ((2 : Int64) * chs))), .val (.int (own_fit lim ((2 : Int64) * chs)))] [(.int (own_exp half chs)), (.int (own_fit lim ((2 : Int64) * chs)))])) t → Steps p.tables e below (T153.setTop (mkF m 161 #[.val (.long q0), .second, .val (.long q1), .second, .val (.long q2), .second, .val (.int p3), .val (.long lim), .second, .val (.long (4611686018427387903 : Int64)), .second, .val (.long half), .second, .val (.int (p3 &&& (3 : Int32))), .val (.long chs), .second, .val (.long (own_tk p3 half (q2 &&& (4611686018427387903 : Int64)))), .second, .val (.int (own_exp half chs)), .val (.ref b127), .val (.int (own_fit lim ((2 : Int64) * chs))), .unset] [(.int (own_fit lim ((2 : Int64) * chs)))])) t := by
            intro t kt
            show Steps p.tables e below (T153.setTop (mkF m 161 #[.val (.long q0), .second, .val (.long q1), .second, .val (.long q2), .second, .val (.int p3), .val (.long lim), .second, .val (.long (4611686018427387903 : Int64)), .second, .val (.long half), .second, .val (.int (p3 &&& (3 : Int32))), .val (.long chs), .second, .val (.long (own_tk p3 half (q2 &&& (4611686018427387903 : Int64)))), .second, .val (.int (own_exp half chs)), .val (.ref b127), .val (.int (own_fit lim ((2 : Int64) * chs))), .unset] [(.int (own_fit lim ((2 : Int64) * chs)))])) _
            refine XS.istore X153.here hx rfl (hb hby at_161) rfl (l' := #[.val (.long q0), .second, .val (.long q1), .second, .val (.long q2), .second, .val (.int p3), .val (.long lim), .second, .val (.long (4611686018427387903 : Int64)), .second, .val (.long half), .second, .val (.int (p3 &&& (3 : Int32))), .val (.long chs), .second, .val (.long (own_tk p3 half (q2 &&& (4611686018427387903 : Int64)))), .second, .val (.int (own_exp half chs)), .val (.ref b127), .val (.int (own_fit lim ((2 : Int64) * chs))), .val (.int (own_fit lim ((2 : Int64) * chs)))]) rfl ?_
            show Steps p.tables e below (T153.setTop (mkF m 163 #[.val (.long q0), .second, .val (.long q1), .second, .val (.long q2), .second, .val (.int p3), .val (.long lim), .second, .val (.long (4611686018427387903 : Int64)), .second, .val (.long half), .second, .val (.int (p3 &&& (3 : Int32))), .val (.long chs), .second, .val (.long (own_tk p3 half (q2 &&& (4611686018427387903 : Int64)))), .second, .val (.int (own_exp half chs)), .val (.ref b127), .val (.int (own_fit lim ((2 : Int64) * chs))), .val (.int (own_fit lim ((2 : Int64) * chs)))] [])) _
            refine XS.iload X153.here hx rfl (hb hby at_163) rfl ?_
            show Steps p.tables e below (T153.setTop (mkF m 165 #[.val (.long q0), .second, .val (.long q1), .second, .val (.long q2), .second, .val (.int p3), .val (.long lim), .second, .val (.long (4611686018427387903 : Int64)), .second, .val (.long half), .second, .val (.int (p3 &&& (3 : Int32))), .val (.long chs), .second, .val (.long (own_tk p3 half (q2 &&& (4611686018427387903 : Int64)))), .second, .val (.int (own_exp half chs)), .val (.ref b127), .val (.int (own_fit lim ((2 : Int64) * chs))), .val (.int (own_fit lim ((2 : Int64) * chs)))] [(.int (own_fit lim ((2 : Int64) * chs)))])) _
            refine XS.iload X153.here hx rfl (hb hby at_165) rfl ?_
            exact kt
          have hd154 : (own_fit lim ((2 : Int64) * chs)) = (own_exp half chs) := own_eq lim half chs hl0 hh hc.1 hc.2
          have c157 : ∀ t, Steps p.tables e below (T153.setTop (mkF m 174 #[.val (.long q0), .second, .val (.long q1), .second, .val (.long q2), .second, .val (.int p3), .val (.long lim), .second, .val (.long (4611686018427387903 : Int64)), .second, .val (.long half), .second, .val (.int (p3 &&& (3 : Int32))), .val (.long chs), .second, .val (.long (own_tk p3 half (q2 &&& (4611686018427387903 : Int64)))), .second, .val (.int (own_exp half chs)), .val (.ref b127), .val (.int (own_fit lim ((2 : Int64) * chs))), .val (.int (own_fit lim ((2 : Int64) * chs)))] [(.int (own_exp half chs)), (.int (own_fit lim ((2 : Int64) * chs)))])) t → Steps p.tables e below (T153.setTop (mkF m 167 #[.val (.long q0), .second, .val (.long q1), .second, .val (.long q2), .second, .val (.int p3), .val (.long lim), .second, .val (.long (4611686018427387903 : Int64)), .second, .val (.long half), .second, .val (.int (p3 &&& (3 : Int32))), .val (.long chs), .second, .val (.long (own_tk p3 half (q2 &&& (4611686018427387903 : Int64)))), .second, .val (.int (own_exp half chs)), .val (.ref b127), .val (.int (own_fit lim ((2 : Int64) * chs))), .val (.int (own_fit lim ((2 : Int64) * chs)))] [(.int (own_exp half chs)), (.int (own_fit lim ((2 : Int64) * chs)))])) t := by
            intro t kt
            show Steps p.tables e below (T153.setTop (mkF m 167 #[.val (.long q0), .second, .val (.long q1), .second, .val (.long q2), .second, .val (.int p3), .val (.long lim), .second, .val (.long (4611686018427387903 : Int64)), .second, .val (.long half), .second, .val (.int (p3 &&& (3 : Int32))), .val (.long chs), .second, .val (.long (own_tk p3 half (q2 &&& (4611686018427387903 : Int64)))), .second, .val (.int (own_exp half chs)), .val (.ref b127), .val (.int (own_fit lim ((2 : Int64) * chs))), .val (.int (own_fit lim ((2 : Int64) * chs)))] [(.int (own_exp half chs)), (.int (own_fit lim ((2 : Int64) * chs)))])) _
            refine XS.icmpNo X153.here hx rfl (hb hby at_167) rfl (teq (hd154)).2 ?_
            show Steps p.tables e below (T153.setTop (mkF m 170 #[.val (.long q0), .second, .val (.long q1), .second, .val (.long q2), .second, .val (.int p3), .val (.long lim), .second, .val (.long (4611686018427387903 : Int64)), .second, .val (.long half), .second, .val (.int (p3 &&& (3 : Int32))), .val (.long chs), .second, .val (.long (own_tk p3 half (q2 &&& (4611686018427387903 : Int64)))), .second, .val (.int (own_exp half chs)), .val (.ref b127), .val (.int (own_fit lim ((2 : Int64) * chs))), .val (.int (own_fit lim ((2 : Int64) * chs)))] [])) _
            refine XS.iload X153.here hx rfl (hb hby at_170) rfl ?_
            show Steps p.tables e below (T153.setTop (mkF m 172 #[.val (.long q0), .second, .val (.long q1), .second, .val (.long q2), .second, .val (.int p3), .val (.long lim), .second, .val (.long (4611686018427387903 : Int64)), .second, .val (.long half), .second, .val (.int (p3 &&& (3 : Int32))), .val (.long chs), .second, .val (.long (own_tk p3 half (q2 &&& (4611686018427387903 : Int64)))), .second, .val (.int (own_exp half chs)), .val (.ref b127), .val (.int (own_fit lim ((2 : Int64) * chs))), .val (.int (own_fit lim ((2 : Int64) * chs)))] [(.int (own_fit lim ((2 : Int64) * chs)))])) _
            refine XS.iload X153.here hx rfl (hb hby at_172) rfl ?_
            exact kt
          have hd156 : (own_fit lim ((2 : Int64) * chs)) = (own_exp half chs) := own_eq lim half chs hl0 hh hc.1 hc.2
          have c158 : ∀ t, Steps p.tables e below (T153.setTop (mkF m 182 #[.val (.long q0), .second, .val (.long q1), .second, .val (.long q2), .second, .val (.int p3), .val (.long lim), .second, .val (.long (4611686018427387903 : Int64)), .second, .val (.long half), .second, .val (.int (p3 &&& (3 : Int32))), .val (.long chs), .second, .val (.long (own_tk p3 half (q2 &&& (4611686018427387903 : Int64)))), .second, .val (.int (own_exp half chs)), .val (.ref b127), .val (.int (own_fit lim ((2 : Int64) * chs))), .val (.int (own_fit lim ((2 : Int64) * chs)))] [(.int (1 : Int32))])) t → Steps p.tables e below (T153.setTop (mkF m 174 #[.val (.long q0), .second, .val (.long q1), .second, .val (.long q2), .second, .val (.int p3), .val (.long lim), .second, .val (.long (4611686018427387903 : Int64)), .second, .val (.long half), .second, .val (.int (p3 &&& (3 : Int32))), .val (.long chs), .second, .val (.long (own_tk p3 half (q2 &&& (4611686018427387903 : Int64)))), .second, .val (.int (own_exp half chs)), .val (.ref b127), .val (.int (own_fit lim ((2 : Int64) * chs))), .val (.int (own_fit lim ((2 : Int64) * chs)))] [(.int (own_exp half chs)), (.int (own_fit lim ((2 : Int64) * chs)))])) t := by
            intro t kt
            show Steps p.tables e below (T153.setTop (mkF m 174 #[.val (.long q0), .second, .val (.long q1), .second, .val (.long q2), .second, .val (.int p3), .val (.long lim), .second, .val (.long (4611686018427387903 : Int64)), .second, .val (.long half), .second, .val (.int (p3 &&& (3 : Int32))), .val (.long chs), .second, .val (.long (own_tk p3 half (q2 &&& (4611686018427387903 : Int64)))), .second, .val (.int (own_exp half chs)), .val (.ref b127), .val (.int (own_fit lim ((2 : Int64) * chs))), .val (.int (own_fit lim ((2 : Int64) * chs)))] [(.int (own_exp half chs)), (.int (own_fit lim ((2 : Int64) * chs)))])) _
            refine XS.icmpNo X153.here hx rfl (hb hby at_174) rfl (teq (hd156)).2 ?_
            show Steps p.tables e below (T153.setTop (mkF m 177 #[.val (.long q0), .second, .val (.long q1), .second, .val (.long q2), .second, .val (.int p3), .val (.long lim), .second, .val (.long (4611686018427387903 : Int64)), .second, .val (.long half), .second, .val (.int (p3 &&& (3 : Int32))), .val (.long chs), .second, .val (.long (own_tk p3 half (q2 &&& (4611686018427387903 : Int64)))), .second, .val (.int (own_exp half chs)), .val (.ref b127), .val (.int (own_fit lim ((2 : Int64) * chs))), .val (.int (own_fit lim ((2 : Int64) * chs)))] [])) _
            refine XS.iconst X153.here hx rfl (hb hby at_177) ?_
            show Steps p.tables e below (T153.setTop (mkF m 178 #[.val (.long q0), .second, .val (.long q1), .second, .val (.long q2), .second, .val (.int p3), .val (.long lim), .second, .val (.long (4611686018427387903 : Int64)), .second, .val (.long half), .second, .val (.int (p3 &&& (3 : Int32))), .val (.long chs), .second, .val (.long (own_tk p3 half (q2 &&& (4611686018427387903 : Int64)))), .second, .val (.int (own_exp half chs)), .val (.ref b127), .val (.int (own_fit lim ((2 : Int64) * chs))), .val (.int (own_fit lim ((2 : Int64) * chs)))] [(.int (1 : Int32))])) _
            refine XS.goto X153.here hx rfl (pc0 := 178) (pc' := 182) rfl (hb hby at_178) (by decide) (by decide) ?_
            exact kt
          obtain ⟨fs, hr, hrun, hended, hW, hsame⟩ := X153.leave (v := some (.int (1 : Int32))) (fun h => by rw [Bd.returns] at h; cases h)
          refine ⟨_, _, pre0 _ (c1 _ (c2 _ (c3 _ (c4 _ (c5 _ (c43 _ (c83 _ (c123 _ (c124 _ (c125 _ (c126 _ (st127 _ (c128 _ (st130.trans (c131 _ (st134.trans (c135 _ (c145 _ (st147.trans (c148 _ (st153.trans (c155 _ (c157 _ (c158 _ (?_))))))))))))))))))))))))), hrun, hended, _, _, rfl, ?_, ⟨_, rfl⟩, hW, hsame.mono (by decide) (by decide)⟩
          · show Steps p.tables e below (T153.setTop (mkF m 182 #[.val (.long q0), .second, .val (.long q1), .second, .val (.long q2), .second, .val (.int p3), .val (.long lim), .second, .val (.long (4611686018427387903 : Int64)), .second, .val (.long half), .second, .val (.int (p3 &&& (3 : Int32))), .val (.long chs), .second, .val (.long (own_tk p3 half (q2 &&& (4611686018427387903 : Int64)))), .second, .val (.int (own_exp half chs)), .val (.ref b127), .val (.int (own_fit lim ((2 : Int64) * chs))), .val (.int (own_fit lim ((2 : Int64) * chs)))] [(.int (1 : Int32))])) _
            exact retN X153 hx (t := .boolean) Bd.returns (by simp) (hb hby at_182) hr
          · show Q0 Z q0 q1 q2 p3 h0 n0 _ T153.heap _
            rw [e153]
            exact ⟨congrArg (fun z => some (Value.int z)) (show (1 : Int32) = (1 : Int32) from by rfl), N153⟩
set_option maxRecDepth 65536 in
set_option maxHeartbeats 40000000 in
theorem comes_1 {Post : Tables → Env → Array Value → State → Outcome → State → Prop} (hpost : ∀ tb e args s v u, (limb_1_1.after args s (.returned v) u = true ∧ limb_1_2.after args s (.returned v) u = true ∧ True) → FrameEnd s (.returned v) u (Jvm.fieldLocs frame_1_writes args s ++ Jvm.arrayLocs frame_1_arrays args s ++ Jvm.staticLocs frame_1_statics s) 16 128 → Post tb e args s (.returned v) u) :
    ArmFor flags0 classFile x code maxLocals ret World_1 tables_1 room_1 Calls_1 rest_1 Pre_1 Post := by
  intro l hfl _ _ p e ha hc hk s m args below hf hA hF happ hP
  obtain ⟨hcalls, hrest, hpre⟩ := hP
  obtain ⟨-, -, -, hnamed, -, -, -, hat⟩ := (Spec.applies_iff hf).mp happ
  obtain ⟨hg, hn⟩ := and_e (Cond.before_iff.mp (show (Jvm.Cond.and given_1 narrow_1).before args s = true from hpre))
  obtain ⟨g1, g2⟩ := and_e hg
  obtain ⟨g3, g4⟩ := and_e g2
  obtain ⟨g5, g6⟩ := and_e g4
  obtain ⟨g7, g8⟩ := and_e g6
  obtain ⟨w0, w1, w2, w3, rfl⟩ : ∃ w0 w1 w2 w3 : Value, args = #[w0, w1, w2, w3] := by
    have hs : args.size = 4 := by simpa [Cond.value, given_1] using g1
    obtain ⟨L⟩ := args
    match L, hs with
    | [w0, w1, w2, w3], _ => exact ⟨w0, w1, w2, w3, rfl⟩
  have hw := fun d (hd : d ∈ tables_1) => atoms_spec (ws := Jvm.Cond.code x code maxLocals ret :: tables_1) hat d (List.mem_cons_of_mem _ hd)
  have hfit : Fit s := fun {y c} hc i hi => by
    obtain ⟨ha, rfl⟩ := Array.getElem?_eq_some_iff.mp hc
    have q := List.all_eq_true.mp ((Array.all_eq_true_iff_forall_mem.mp hF) _ (Array.getElem_mem ha)) i (List.mem_range.mpr hi)
    simpa [Array.getElem?_eq_getElem hi] using q
  obtain ⟨i0, ei0⟩ := isL_v g3
  obtain rfl : w0 = (.long i0) := Option.some.inj ei0
  obtain ⟨i1, ei1⟩ := isL_v g5
  obtain rfl : w1 = (.long i1) := Option.some.inj ei1
  obtain ⟨i2, ei2⟩ := isL_v g7
  obtain rfl : w2 = (.long i2) := Option.some.inj ei2
  obtain ⟨i3, ei3⟩ := is_v g8
  obtain rfl : w3 = (.int i3) := Option.some.inj ei3
  obtain ⟨n, o, h1, h2, h3, _, L, rfl, ⟨rfl, N⟩, hq⟩ := rm0 l s _ hw tables_1 i0 i1 i2 i3  s.heap s.heap.size (Nat.le_refl _)  p e ha hc hk s m _ below hf ((Spec.applies_iff_loose hf).mp happ).1 ⟨rfl, State.Warmed39.refl s, rfl⟩ trivial
  refine ⟨n, _, h1, h2, h3, hpost _ _ _ _ _ _ ⟨Cond.after_iff.mpr rfl, Cond.after_iff.mpr (eq_i res_at (Term.int_eval (1)) rfl), trivial⟩ ⟨hq.1, hq.2.1, (hq.2.2.sift fun y hy => Or.inr (N y hy)).mono (by decide) (by decide)⟩⟩
theorem main_1_1 : Claimed_1_1 := comes_1 fun _ _ _ _ _ _ h hF => ⟨h.1, hF⟩
theorem main_1_2 : Claimed_1_2 := comes_1 fun _ _ _ _ _ _ h hF => ⟨h.2.1, hF⟩
end Jvm.Pilot.@@N@@
namespace Jvm.Pilot.@@N@@
open Jvm Jvm.ClassFile Sem Op Lib Jvm.Free Jvm.Stand Jvm.Pilot.@@N@@.Jvm.D
/-! MADE BY PROGRAM (witnessworld.py) out of the Statement's table words and the real class files: 11 classes; the members and pool entries that the words name. The judged class is class 1, her method 1. -/
namespace start1
open Jvm.ClassFile
def u (s : String) : CpInfo := .utf8 (stringToUtf16 s)
/-- a pool by its gaps: so many unusable entries, then the entry; so many at the end -/
def gap : Nat → List CpInfo → List CpInfo
  | 0, r => r
  | n + 1, r => .unusable :: gap n r
def poolList (es : List (Nat × CpInfo)) (last : Nat) : List CpInfo := es.foldr (fun e r => gap e.1 (e.2 :: r)) (gap last [])
def pool (es : List (Nat × CpInfo)) (last : Nat) : Array CpInfo := ⟨poolList es last⟩
def fileOf (pool : Array CpInfo) (this : Nat) (attrs : Array Attribute := #[]) (ms : Array MethodInfo := #[]) (fl : Nat := 33) (sup : Nat := 0) (ifs : Array Nat := #[]) (fds : Array FieldInfo := #[]) : ClassFile where
  minorVersion := 0
  majorVersion := 65
  constantPool := pool
  accessFlags := fl
  thisClass := this
  superClass := sup
  interfaces := ifs
  fields := fds
  methods := ms
  attributes := attrs
def plain (name : String) (sup : Option ClassId) : Class where
  name := name
  kind := .ordinary
  loader := none
  accessFlags := 33
  super := sup
  interfaces := #[]
  cf := none
  fields := #[]
  methods := #[]
  instanceTypes := #[]
  staticTypes := #[]
  resolved := #[]
  callSites := []
  init := .initialized
  statics := none
  mirror := none

def pool0 : Array CpInfo := pool [(5, u "<init>"), (0, u "()V"), (1, .class_ 10), (1, u "java/lang/Object")] 113

def k0c0 : Code := { maxStack := 0, maxLocals := 1, code := object_method_1_code, exceptionTable := #[], attributes := #[] }
def k0m0 : Method := { name := "<init>", desc := "()V", sig := { parameters := [], returnType := none }, accessFlags := 1, code := some k0c0 }
/-- java/lang/Object -/
def k0 : Class := { plain "java/lang/Object" none with
  accessFlags := 33
  interfaces := #[]
  cf := some (fileOf pool0 8 #[] #[{ accessFlags := 1, nameIndex := 5, descriptorIndex := 6, attributes := #[] }] 33 0 #[] #[])
  fields := #[]
  methods := #[k0m0]
  instanceTypes := #[]
  staticTypes := #[]
  resolved := Array.replicate 124 none
  statics := none }

def pool1 : Array CpInfo := pool [(2, .class_ 4), (1, u "java/lang/Object"), (0, u "<init>"), (0, u "()V"), (2, .long 9223372036854775807), (1, .long 4611686018427387903), (1, .long 2), (1, .methodref 16 17), (0, .class_ 18), (0, .nameAndType 19 20), (0, u "java/lang/Math"), (0, u "min"), (0, u "(JJ)J"), (0, .methodref 16 22), (0, .nameAndType 23 20), (0, u "max"), (0, .class_ 25), (0, u "com/example/href/href/text/KeptRoom"), (0, .methodref 24 27), (0, .nameAndType 5 28), (0, u "(JJ)V"), (0, .methodref 24 30), (0, .nameAndType 31 32), (0, u "fitsKeepLimit"), (0, u "(J)Z"), (0, .methodref 24 34), (0, .nameAndType 35 32), (0, u "reserveText"), (0, .class_ 37), (0, u "com/example/href/href/text/KeptRoomFitsKeepLimitPinLaw"), (2, u "law"), (0, u "(JJJI)Z")] 3

def k1m0 : Method := { name := "<init>", desc := "()V", sig := { parameters := [], returnType := none }, accessFlags := 1, code := none }
def k1c1 : Code := { maxStack := 6, maxLocals := 22, code := code, exceptionTable := #[], attributes := #[] }
def k1m1 : Method := { name := "law", desc := "(JJJI)Z", sig := { parameters := [.long, .long, .long, .int], returnType := some .boolean }, accessFlags := 9, code := some k1c1 }
/-- com/example/href/href/text/KeptRoomFitsKeepLimitPinLaw -/
def k1 : Class := { plain "com/example/href/href/text/KeptRoomFitsKeepLimitPinLaw" (some 0) with
  accessFlags := 49
  interfaces := #[]
  cf := some (fileOf pool1 36 #[] #[{ accessFlags := 1, nameIndex := 5, descriptorIndex := 6, attributes := #[] }, { accessFlags := 9, nameIndex := 40, descriptorIndex := 41, attributes := #[] }] 49 2 #[] #[])
  fields := #[]
  methods := #[k1m0, k1m1]
  instanceTypes := #[]
  staticTypes := #[]
  resolved := Array.replicate 45 none
  statics := none }

def pool2 : Array CpInfo := pool [(1, .class_ 2), (0, u "java/lang/Math"), (1, .class_ 6), (1, u "java/lang/Object"), (0, u "<init>"), (0, u "()V"), (89, .class_ 100), (1, u "java/lang/Math$RandomNumberGeneratorHolder"), (20, u "(JJ)J"), (50, u "negativeZeroFloatBits"), (0, u "J"), (2, u "negativeZeroDoubleBits"), (21, u "max"), (2, u "min"), (43, u "$assertionsDisabled"), (0, u "Z"), (91, u "twoToTheDoubleScaleDown"), (0, u "D"), (4, u "twoToTheDoubleScaleUp"), (9, u "E"), (3, u "PI"), (2, u "TAU"), (2, u "DEGREES_TO_RADIANS"), (0, u "RADIANS_TO_DEGREES")] 94

def k2m0 : Method := { name := "<init>", desc := "()V", sig := { parameters := [], returnType := none }, accessFlags := 2, code := none }
def k2c1 : Code := { maxStack := 4, maxLocals := 4, code := jdk_29_method_66_code, exceptionTable := #[], attributes := #[] }
def k2m1 : Method := { name := "max", desc := "(JJ)J", sig := { parameters := [.long, .long], returnType := some .long }, accessFlags := 9, code := some k2c1 }
def k2c2 : Code := { maxStack := 4, maxLocals := 4, code := jdk_29_method_70_code, exceptionTable := #[], attributes := #[] }
def k2m2 : Method := { name := "min", desc := "(JJ)J", sig := { parameters := [.long, .long], returnType := some .long }, accessFlags := 9, code := some k2c2 }
/-- java/lang/Math -/
def k2 : Class := { plain "java/lang/Math" (some 0) with
  accessFlags := 49
  interfaces := #[]
  cf := some (fileOf pool2 1 #[.nestMembers #[98]] #[{ accessFlags := 2, nameIndex := 7, descriptorIndex := 8, attributes := #[] }, { accessFlags := 9, nameIndex := 198, descriptorIndex := 121, attributes := #[] }, { accessFlags := 9, nameIndex := 201, descriptorIndex := 121, attributes := #[] }] 49 4 #[] #[{ accessFlags := 25, nameIndex := 354, descriptorIndex := 339, attributes := #[] }, { accessFlags := 25, nameIndex := 358, descriptorIndex := 339, attributes := #[] }, { accessFlags := 25, nameIndex := 361, descriptorIndex := 339, attributes := #[] }, { accessFlags := 26, nameIndex := 364, descriptorIndex := 339, attributes := #[] }, { accessFlags := 26, nameIndex := 365, descriptorIndex := 339, attributes := #[] }, { accessFlags := 26, nameIndex := 172, descriptorIndex := 173, attributes := #[] }, { accessFlags := 26, nameIndex := 176, descriptorIndex := 173, attributes := #[] }, { accessFlags := 8, nameIndex := 344, descriptorIndex := 339, attributes := #[] }, { accessFlags := 8, nameIndex := 338, descriptorIndex := 339, attributes := #[] }, { accessFlags := 4120, nameIndex := 245, descriptorIndex := 246, attributes := #[] }])
  fields := #[{ name := "E", type := .double, accessFlags := 25, slot := 0, constantValue := 0 }, { name := "PI", type := .double, accessFlags := 25, slot := 1, constantValue := 0 }, { name := "TAU", type := .double, accessFlags := 25, slot := 2, constantValue := 0 }, { name := "DEGREES_TO_RADIANS", type := .double, accessFlags := 26, slot := 3, constantValue := 0 }, { name := "RADIANS_TO_DEGREES", type := .double, accessFlags := 26, slot := 4, constantValue := 0 }, { name := "negativeZeroFloatBits", type := .long, accessFlags := 26, slot := 5, constantValue := 0 }, { name := "negativeZeroDoubleBits", type := .long, accessFlags := 26, slot := 6, constantValue := 0 }, { name := "twoToTheDoubleScaleUp", type := .double, accessFlags := 8, slot := 7, constantValue := 0 }, { name := "twoToTheDoubleScaleDown", type := .double, accessFlags := 8, slot := 8, constantValue := 0 }, { name := "$assertionsDisabled", type := .boolean, accessFlags := 4120, slot := 9, constantValue := 0 }]
  methods := #[k2m0, k2m1, k2m2]
  instanceTypes := #[]
  staticTypes := #[.double, .double, .double, .double, .double, .long, .long, .double, .double, .boolean]
  resolved := Array.replicate 460 none
  statics := none }

def pool3 : Array CpInfo := pool [(1, .methodref 2 3), (0, .class_ 4), (0, .nameAndType 5 6), (0, u "java/lang/Object"), (0, u "<init>"), (0, u "()V"), (0, .class_ 8), (0, u "com/example/href/href/text/KeptRoom$Room"), (0, .methodref 7 10), (0, .nameAndType 5 11), (0, u "(J)V"), (0, .fieldref 13 14), (0, .class_ 15), (0, .nameAndType 16 17), (0, u "com/example/href/href/text/KeptRoom"), (0, u "texts"), (0, u "Lcom/example/href/href/text/KeptRoom$Room;"), (0, .fieldref 13 19), (0, .nameAndType 20 17), (0, u "records"), (0, .long 2), (2, .class_ 26), (1, u "com/example/href/href/text/KeptRoom$KeptFailure"), (8, .methodref 13 36), (0, .nameAndType 37 38), (0, u "charBytes"), (0, u "(J)J"), (49, u "STACK"), (0, u "Ljava/lang/StackWalker;"), (31, .fieldref 7 122), (0, .nameAndType 123 124), (0, u "limit"), (0, u "J"), (6, u "full"), (0, u "Z"), (0, .methodref 7 134), (0, .nameAndType 135 136), (0, u "reserve"), (0, u "(J)Z"), (33, u "RECORD_BYTES"), (0, u "I"), (2, u "CAUSE_BYTES"), (1, u "FRAME_BYTES"), (1, u "(JJ)V"), (12, u "fitsKeepLimit"), (0, u "reserveText")] 42

def k3c0 : Code := { maxStack := 5, maxLocals := 5, code := prog_33_method_1_code, exceptionTable := #[], attributes := #[] }
def k3m0 : Method := { name := "<init>", desc := "(JJ)V", sig := { parameters := [.long, .long], returnType := none }, accessFlags := 0, code := some k3c0 }
def k3c1 : Code := { maxStack := 4, maxLocals := 2, code := prog_33_method_2_code, exceptionTable := #[], attributes := #[] }
def k3m1 : Method := { name := "charBytes", desc := "(J)J", sig := { parameters := [.long], returnType := some .long }, accessFlags := 8, code := some k3c1 }
def k3c2 : Code := { maxStack := 4, maxLocals := 3, code := prog_33_method_12_code, exceptionTable := #[], attributes := #[] }
def k3m2 : Method := { name := "fitsKeepLimit", desc := "(J)Z", sig := { parameters := [.long], returnType := some .boolean }, accessFlags := 0, code := some k3c2 }
def k3c3 : Code := { maxStack := 3, maxLocals := 3, code := prog_33_method_13_code, exceptionTable := #[], attributes := #[] }
def k3m3 : Method := { name := "reserveText", desc := "(J)Z", sig := { parameters := [.long], returnType := some .boolean }, accessFlags := 0, code := some k3c3 }
/-- com/example/href/href/text/KeptRoom -/
def k3 : Class := { plain "com/example/href/href/text/KeptRoom" (some 0) with
  accessFlags := 32
  interfaces := #[]
  cf := some (fileOf pool3 13 #[.nestMembers #[24, 7]] #[{ accessFlags := 0, nameIndex := 5, descriptorIndex := 178, attributes := #[] }, { accessFlags := 8, nameIndex := 37, descriptorIndex := 38, attributes := #[] }, { accessFlags := 0, nameIndex := 191, descriptorIndex := 136, attributes := #[] }, { accessFlags := 0, nameIndex := 192, descriptorIndex := 136, attributes := #[] }] 32 2 #[] #[{ accessFlags := 26, nameIndex := 170, descriptorIndex := 171, attributes := #[] }, { accessFlags := 26, nameIndex := 174, descriptorIndex := 171, attributes := #[] }, { accessFlags := 26, nameIndex := 176, descriptorIndex := 171, attributes := #[] }, { accessFlags := 26, nameIndex := 88, descriptorIndex := 89, attributes := #[] }, { accessFlags := 18, nameIndex := 16, descriptorIndex := 17, attributes := #[] }, { accessFlags := 18, nameIndex := 20, descriptorIndex := 17, attributes := #[] }, { accessFlags := 66, nameIndex := 131, descriptorIndex := 132, attributes := #[] }])
  fields := #[{ name := "RECORD_BYTES", type := .int, accessFlags := 26, slot := 0, constantValue := 0 }, { name := "CAUSE_BYTES", type := .int, accessFlags := 26, slot := 1, constantValue := 0 }, { name := "FRAME_BYTES", type := .int, accessFlags := 26, slot := 2, constantValue := 0 }, { name := "STACK", type := (.object "java/lang/StackWalker"), accessFlags := 26, slot := 3, constantValue := 0 }, { name := "texts", type := (.object "com/example/href/href/text/KeptRoom$Room"), accessFlags := 18, slot := 0, constantValue := 0 }, { name := "records", type := (.object "com/example/href/href/text/KeptRoom$Room"), accessFlags := 18, slot := 1, constantValue := 0 }, { name := "full", type := .boolean, accessFlags := 66, slot := 2, constantValue := 0 }]
  methods := #[k3m0, k3m1, k3m2, k3m3]
  instanceTypes := #[(.object "com/example/href/href/text/KeptRoom$Room"), (.object "com/example/href/href/text/KeptRoom$Room"), .boolean]
  staticTypes := #[.int, .int, .int, (.object "java/lang/StackWalker")]
  resolved := (Array.replicate 235 none).set! 121 (some (.field 4 0))
  statics := none }

def pool4 : Array CpInfo := pool [(1, .methodref 2 3), (0, .class_ 4), (0, .nameAndType 5 6), (0, u "java/lang/Object"), (0, u "<init>"), (0, u "()V"), (0, .fieldref 8 9), (0, .class_ 10), (0, .nameAndType 11 12), (0, u "com/example/href/href/text/KeptRoom$Room"), (0, u "limit"), (0, u "J"), (0, .fieldref 8 14), (0, .nameAndType 15 12), (0, u "left"), (0, u "(J)V"), (3, u "(J)Z"), (1, u "reserve"), (6, .class_ 30), (0, u "com/example/href/href/text/KeptRoom")] 2

def k4c0 : Code := { maxStack := 3, maxLocals := 3, code := prog_35_method_1_code, exceptionTable := #[], attributes := #[] }
def k4m0 : Method := { name := "<init>", desc := "(J)V", sig := { parameters := [.long], returnType := none }, accessFlags := 0, code := some k4c0 }
def k4c1 : Code := { maxStack := 5, maxLocals := 3, code := ⟨#[0x1f, 0x2a, 0xb4, 0x00, 0x0d, 0x94, 0x9e, 0x00, 0x05, 0x03, 0xac, 0x2a, 0x59, 0xb4, 0x00, 0x0d, 0x1f, 0x65, 0xb5, 0x00, 0x0d, 0x04, 0xac]⟩, exceptionTable := #[], attributes := #[] }
def k4m1 : Method := { name := "reserve", desc := "(J)Z", sig := { parameters := [.long], returnType := some .boolean }, accessFlags := 32, code := some k4c1 }
/-- com/example/href/href/text/KeptRoom$Room -/
def k4 : Class := { plain "com/example/href/href/text/KeptRoom$Room" (some 0) with
  accessFlags := 32
  interfaces := #[]
  cf := some (fileOf pool4 8 #[.nestHost 29] #[{ accessFlags := 0, nameIndex := 5, descriptorIndex := 16, attributes := #[] }, { accessFlags := 32, nameIndex := 22, descriptorIndex := 20, attributes := #[] }] 32 2 #[] #[{ accessFlags := 18, nameIndex := 11, descriptorIndex := 12, attributes := #[] }, { accessFlags := 2, nameIndex := 15, descriptorIndex := 12, attributes := #[] }])
  fields := #[{ name := "limit", type := .long, accessFlags := 18, slot := 0, constantValue := 0 }, { name := "left", type := .long, accessFlags := 2, slot := 1, constantValue := 0 }]
  methods := #[k4m0, k4m1]
  instanceTypes := #[.long, .long]
  staticTypes := #[]
  resolved := Array.replicate 33 none
  statics := none }

def pool5 : Array CpInfo := pool [(1, u "java/lang/Cloneable"), (0, .class_ 1), (0, u "java/lang/Object"), (0, .class_ 3)] 3

/-- java/lang/Cloneable -/
def k5 : Class := { plain "java/lang/Cloneable" (some 0) with
  accessFlags := 1537
  interfaces := #[]
  cf := some (fileOf pool5 2 #[] #[] 1537 4 #[] #[])
  fields := #[]
  methods := #[]
  instanceTypes := #[]
  staticTypes := #[]
  resolved := Array.replicate 8 none
  statics := none }

def pool6 : Array CpInfo := pool [(1, u "java/io/Serializable"), (0, .class_ 1), (0, u "java/lang/Object"), (0, .class_ 3)] 3

/-- java/io/Serializable -/
def k6 : Class := { plain "java/io/Serializable" (some 0) with
  accessFlags := 1537
  interfaces := #[]
  cf := some (fileOf pool6 2 #[] #[] 1537 4 #[] #[])
  fields := #[]
  methods := #[]
  instanceTypes := #[]
  staticTypes := #[]
  resolved := Array.replicate 8 none
  statics := none }

/-- the primitive byte -/
def k7 : Class := { plain "byte" none with kind := .primitive 'B', accessFlags := 0x411 }
/-- [B -/
def k8 : Class := { plain "[B" (some 0) with kind := .array 7 .byte, interfaces := #[5, 6], accessFlags := 1041 }

/-- the primitive int -/
def k9 : Class := { plain "int" none with kind := .primitive 'I', accessFlags := 0x411 }
/-- [I -/
def k10 : Class := { plain "[I" (some 0) with kind := .array 9 .int, interfaces := #[5, 6], accessFlags := 1041 }

def heap : Heap := #[]
def classes : Array Class := #[k0, k1, k2, k3, k4, k5, k6, k7, k8, k9, k10]
def interned : List (Array UInt16 × Addr) := []
def slotsUsed : Nat := 0
def theMethod : MethodId := ⟨1, 1⟩
def args0 : Array Value := #[.long 5, .long 5, .long 5, .int 5]
def aboutOver (below : List Frame) : State where
  vm := { classes := classes, interned := interned.toArray }
  heap := heap
  slotsUsed := slotsUsed
  threads := #[{ frames := .invoking theMethod args0 :: below }]
def below0 : List Frame := [.native { method := ⟨0, 0⟩, args := #[] }]
def about1 : State := aboutOver below0
def p0 : Program := .bare "" "" ""
def e0 : Env := launch0.env 0 0 0
theorem w_frames : about1.frames = Frame.invoking theMethod args0 :: below0 := rfl
set_option maxRecDepth 65536 in
theorem w_args : argsFit about1.vm theMethod args0 = true := by decide +kernel
set_option maxRecDepth 65536 in
theorem w_heap : heapFits about1 = true := by decide +kernel
set_option maxRecDepth 65536 in
theorem w_runnable : about1.curStatus? = some .runnable := by decide +kernel
set_option maxRecDepth 65536 in
theorem w_alone : about1.alone = true := by decide +kernel
set_option maxRecDepth 65536 in
theorem w_named : about1.methodNamed? x = some theMethod := by decide +kernel
set_option maxRecDepth 65536 in
theorem w_hears : about1.hears theMethod below0 = true := by decide +kernel
set_option maxRecDepth 65536 in
theorem w_ripe : about1.ripe theMethod args0 below0 = true := by decide +kernel
theorem w_running : about1.status = .running := rfl
set_option maxRecDepth 65536 in
theorem w_room : about1.hasRoom e0.platform room_1 = true :=
  launch0.hasRoom_least _ room_1 (by decide +kernel) (by decide +kernel) (by decide +kernel) (by decide +kernel) (by decide +kernel) (by decide +kernel)
theorem allAtoms_all (ts : List Jvm.Cond) (a : Array Jvm.Value) (st : Jvm.State) : (allAtoms ts).before a st = ts.all (fun c => c.before a st) := by
  induction ts with
  | nil => rfl
  | cons c t ih =>
    show (Jvm.Cond.and c (allAtoms t)).before a st = _
    rw [Jvm.Cond.before_and, ih, List.all_cons]
def words1 : List Jvm.Cond := Jvm.Cond.code x code maxLocals ret :: tables_1
/-- a 'code' word, met by the world's own term for the bytes: nothing is compared byte by byte -/
theorem code_word {y : MethodName} {bytes : ByteArray} {mx : Nat} {rt : Option FieldType} {a : Array Value} {s : State} {m : MethodId} {meth : Method} {c : Code} (h1 : s.methodNamed? y = some m) (h2 : s.vm.method? m = some meth) (h3 : meth.code = some c) (h4 : c.code = bytes)
    (h5 : (c.maxLocals == mx && c.exceptionTable.isEmpty && decide (c.maxStack ≤ mostOperands) && decide (meth.sig.returnType = rt) && !meth.locks && decide (parseMethodDescriptor y.desc = some meth.sig)) = true) : (Jvm.Cond.code y bytes mx rt).before a s = true := by
  simp only [Bool.and_eq_true, beq_iff_eq, Bool.not_eq_true', decide_eq_true_eq] at h5
  obtain ⟨⟨⟨⟨⟨g1, g2⟩, g3⟩, g4⟩, g5⟩, g6⟩ := h5
  simp [Cond.before, Cond.holds, Cond.value, h1, h2, h3, h4, g1, g2, g3, g4, g5, g6]
def isCode : Jvm.Cond → Bool
  | .code _ _ _ _ => true
  | _ => false
theorem all_split {L : List Jvm.Cond} {P : Jvm.Cond → Bool} (h1 : L.all (fun c => isCode c || P c) = true) (h2 : ∀ c ∈ L.filter isCode, P c = true) : L.all P = true := by
  refine List.all_eq_true.mpr fun c hc => ?_
  have h := List.all_eq_true.mp h1 c hc
  rcases Bool.eq_false_or_eq_true (isCode c) with hi | hi
  · exact h2 c (List.mem_filter.mpr ⟨hc, hi⟩)
  · simpa [hi] using h
set_option maxRecDepth 65536 in
theorem w_c0 : (Jvm.Cond.code x code maxLocals ret).before args0 about1 = true := code_word (m := ⟨1, 1⟩) (meth := k1m1) (c := k1c1) (by decide +kernel) rfl rfl rfl (by decide +kernel)
set_option maxRecDepth 65536 in
theorem w_c1 : (Jvm.Cond.code ({ cls := "java/lang/Math", name := "max", desc := "(JJ)J" } : Jvm.MethodName) jdk_29_method_66_code (4 : Nat) (Option.some Jvm.ClassFile.FieldType.long)).before args0 about1 = true := code_word (m := ⟨2, 1⟩) (meth := k2m1) (c := k2c1) (by decide +kernel) rfl rfl rfl (by decide +kernel)
set_option maxRecDepth 65536 in
theorem w_c2 : (Jvm.Cond.code ({ cls := "com/example/href/href/text/KeptRoom", name := "<init>", desc := "(JJ)V" } : Jvm.MethodName) prog_33_method_1_code (5 : Nat) (Option.none : Option Jvm.ClassFile.FieldType)).before args0 about1 = true := code_word (m := ⟨3, 0⟩) (meth := k3m0) (c := k3c0) (by decide +kernel) rfl rfl rfl (by decide +kernel)
set_option maxRecDepth 65536 in
theorem w_c3 : (Jvm.Cond.code ({ cls := "java/lang/Object", name := "<init>", desc := "()V" } : Jvm.MethodName) object_method_1_code (1 : Nat) (Option.none : Option Jvm.ClassFile.FieldType)).before args0 about1 = true := code_word (m := ⟨0, 0⟩) (meth := k0m0) (c := k0c0) (by decide +kernel) rfl rfl rfl (by decide +kernel)
set_option maxRecDepth 65536 in
theorem w_c4 : (Jvm.Cond.code ({ cls := "com/example/href/href/text/KeptRoom$Room", name := "<init>", desc := "(J)V" } : Jvm.MethodName) prog_35_method_1_code (3 : Nat) (Option.none : Option Jvm.ClassFile.FieldType)).before args0 about1 = true := code_word (m := ⟨4, 0⟩) (meth := k4m0) (c := k4c0) (by decide +kernel) rfl rfl rfl (by decide +kernel)
set_option maxRecDepth 65536 in
theorem w_c5 : (Jvm.Cond.code ({ cls := "com/example/href/href/text/KeptRoom", name := "fitsKeepLimit", desc := "(J)Z" } : Jvm.MethodName) prog_33_method_12_code (3 : Nat) (Option.some Jvm.ClassFile.FieldType.boolean)).before args0 about1 = true := code_word (m := ⟨3, 2⟩) (meth := k3m2) (c := k3c2) (by decide +kernel) rfl rfl rfl (by decide +kernel)
set_option maxRecDepth 65536 in
theorem w_c6 : (Jvm.Cond.code ({ cls := "com/example/href/href/text/KeptRoom", name := "charBytes", desc := "(J)J" } : Jvm.MethodName) prog_33_method_2_code (2 : Nat) (Option.some Jvm.ClassFile.FieldType.long)).before args0 about1 = true := code_word (m := ⟨3, 1⟩) (meth := k3m1) (c := k3c1) (by decide +kernel) rfl rfl rfl (by decide +kernel)
set_option maxRecDepth 65536 in
theorem w_c7 : (Jvm.Cond.code ({ cls := "com/example/href/href/text/KeptRoom", name := "reserveText", desc := "(J)Z" } : Jvm.MethodName) prog_33_method_13_code (3 : Nat) (Option.some Jvm.ClassFile.FieldType.boolean)).before args0 about1 = true := code_word (m := ⟨3, 3⟩) (meth := k3m3) (c := k3c3) (by decide +kernel) rfl rfl rfl (by decide +kernel)
set_option maxRecDepth 65536 in
theorem w_c8 : (Jvm.Cond.code ({ cls := "java/lang/Math", name := "min", desc := "(JJ)J" } : Jvm.MethodName) jdk_29_method_70_code (4 : Nat) (Option.some Jvm.ClassFile.FieldType.long)).before args0 about1 = true := code_word (m := ⟨2, 2⟩) (meth := k2m2) (c := k2c2) (by decide +kernel) rfl rfl rfl (by decide +kernel)
def codes1 : List Jvm.Cond := [Jvm.Cond.code x code maxLocals ret, Jvm.Cond.code ({ cls := "java/lang/Math", name := "max", desc := "(JJ)J" } : Jvm.MethodName) jdk_29_method_66_code (4 : Nat) (Option.some Jvm.ClassFile.FieldType.long), Jvm.Cond.code ({ cls := "com/example/href/href/text/KeptRoom", name := "<init>", desc := "(JJ)V" } : Jvm.MethodName) prog_33_method_1_code (5 : Nat) (Option.none : Option Jvm.ClassFile.FieldType), Jvm.Cond.code ({ cls := "java/lang/Object", name := "<init>", desc := "()V" } : Jvm.MethodName) object_method_1_code (1 : Nat) (Option.none : Option Jvm.ClassFile.FieldType), Jvm.Cond.code ({ cls := "com/example/href/href/text/KeptRoom$Room", name := "<init>", desc := "(J)V" } : Jvm.MethodName) prog_35_method_1_code (3 : Nat) (Option.none : Option Jvm.ClassFile.FieldType), Jvm.Cond.code ({ cls := "com/example/href/href/text/KeptRoom", name := "fitsKeepLimit", desc := "(J)Z" } : Jvm.MethodName) prog_33_method_12_code (3 : Nat) (Option.some Jvm.ClassFile.FieldType.boolean), Jvm.Cond.code ({ cls := "com/example/href/href/text/KeptRoom", name := "charBytes", desc := "(J)J" } : Jvm.MethodName) prog_33_method_2_code (2 : Nat) (Option.some Jvm.ClassFile.FieldType.long), Jvm.Cond.code ({ cls := "com/example/href/href/text/KeptRoom", name := "reserveText", desc := "(J)Z" } : Jvm.MethodName) prog_33_method_13_code (3 : Nat) (Option.some Jvm.ClassFile.FieldType.boolean), Jvm.Cond.code ({ cls := "java/lang/Math", name := "min", desc := "(JJ)J" } : Jvm.MethodName) jdk_29_method_70_code (4 : Nat) (Option.some Jvm.ClassFile.FieldType.long)]
set_option maxRecDepth 65536 in
theorem codes_eq : words1.filter isCode = codes1 := rfl
theorem w_codes : ∀ c ∈ words1.filter isCode, c.before args0 about1 = true := by
  rw [codes_eq]
  intro c hc
  simp only [codes1, List.mem_cons, List.not_mem_nil, or_false] at hc
  rcases hc with rfl | rfl | rfl | rfl | rfl | rfl | rfl | rfl | rfl
  · exact w_c0
  · exact w_c1
  · exact w_c2
  · exact w_c3
  · exact w_c4
  · exact w_c5
  · exact w_c6
  · exact w_c7
  · exact w_c8
set_option maxRecDepth 65536 in
theorem w_t1 : (words1.take 24).all (fun c => isCode c || c.before args0 about1) = true := by decide +kernel
set_option maxRecDepth 65536 in
theorem w_t2 : ((words1.drop 24).take 24).all (fun c => isCode c || c.before args0 about1) = true := by decide +kernel
set_option maxRecDepth 65536 in
theorem w_t3 : ((words1.drop 24).drop 24).all (fun c => isCode c || c.before args0 about1) = true := by decide +kernel
theorem w_tables : (allAtoms (Jvm.Cond.code x code maxLocals ret :: tables_1)).before args0 about1 = true := by
  rw [allAtoms_all]
  show words1.all (fun c => c.before args0 about1) = true
  refine all_split ?_ w_codes
  rw [← List.take_append_drop 24 words1, List.all_append, w_t1, ← List.take_append_drop 24 (words1.drop 24), List.all_append, w_t2, w_t3]
  rfl
set_option maxRecDepth 65536 in
theorem w_case : (Jvm.Cond.and given_1 narrow_1).before args0 about1 = true := by decide +kernel
theorem w_applies : (headSpec (Jvm.Cond.code x code maxLocals ret :: tables_1) room_1).applies x e0.platform about1 = true :=
  (Spec.applies_iff w_frames).mpr ⟨w_running, w_runnable, w_alone, w_named, w_hears, w_ripe, w_room, w_tables⟩
theorem atStart : AtStart classFile x code maxLocals ret World_1 tables_1 room_1 Calls_1 rest_1 Pre_1 launch0 p0 e0 about1 theMethod args0 below0 :=
  ⟨lists_1, trivial, launch0.admits_env _ _ _, launch0.least_env, fairChoices_fair.cas, fairChoices_fair.clock, w_frames, w_args, w_heap, w_applies, trivial, trivial, w_case⟩
end start1
theorem witness_1 : WitnessClaimed_1 := ⟨start1.p0, start1.e0, start1.about1, start1.theMethod, start1.args0, start1.below0, start1.atStart⟩
end Jvm.Pilot.@@N@@
