import JvmDerived
import JvmDerived.Pilot.@@N@@Statement
import JvmDerived.Pilot.@@N@@Code
set_option linter.unusedVariables false
set_option linter.unusedSimpArgs false

namespace Jvm.RoadKit
open Sem ClassFile Op Lib Jvm.Stand Jvm.Free Jvm.LawKit
section New
variable {p : Program} {l : Launch} {e : Env} {R : Room} {s : State} {m : MethodId} {args : Array Value} {below : List Frame} {meth : Method} {c : Code} {T : State} {locs : List Loc} {cells slots : Nat}
theorem retI (X : Stand p l e R s m args below meth c T locs cells slots) (hx : p.tables.exec = Jvm.exec) {pc : Nat} {Ls : Array Slot} {z : Int32} {rest : List Value} (hret : meth.sig.returnType = some .int) (hd : decode c.code pc = .ok (.ireturn, 1)) {fs : List Frame}
    (hl : ∀ (f : JFrame) (acts : List Action), f.method = m → f.locked = none → f.entered = [] → (doReturn e (T.setTop f) acts (some (.int z))).1 = T.setFrames fs) : Steps p.tables e below (T.setTop (mkF m pc Ls (.int z :: rest))) (T.setFrames fs) := by
  have hm' : T.vm.method? m = some meth := X.method'
  have hn : narrow .int (.int z) = .int z := rfl
  show Steps p.tables e below (T.setTop { method := m, pc := pc, locals := Ls, stack := _ :: rest, locked := none }) _
  jvm_step X.here [X.here.top, hx, hd, hm', hret, hn]
  first | (intro acts; rw [hl _ acts rfl rfl rfl]) | rw [hl _ _ rfl rfl rfl]
  exact Steps.refl _
theorem own_lrem {g : JFrame} {target : State} (X : Stand p l e R s m args below meth c T locs cells slots) (hx : p.tables.exec = Jvm.exec) (hg : g.method = m) {x y : Int64} {rest : List Value} (hd : decode c.code g.pc = .ok (.lrem, 1)) (hs : g.stack = .long y :: .long x :: rest) (hy : y ≠ 0)
    (hr : Steps p.tables e below (T.setTop { g with pc := g.pc + 1, stack := .long (x % y) :: rest }) target) : Steps p.tables e below (T.setTop g) target := by
  have q : x - x / y * y = x % y := lrem_mod x y
  exact XS.lrem X.here hx hg hd hs hy (by rw [q]; exact hr)
end New
end Jvm.RoadKit

namespace Jvm.Pilot.@@N@@
open Jvm Jvm.ClassFile Sem Op Lib Jvm.Free Jvm.Stand Jvm.LawKit Jvm.RoadKit Bundle Jvm.Pilot.@@N@@.Jvm.D
def own_off (g h m : Int32) : Int32 := (if g = (45 : Int32) then (-1 : Int32) else (1 : Int32)) * ((h * (3600 : Int32)) + (m * (60 : Int32)))
theorem own_rng (a : Int32) (d : Int32) (k : Int) (hk : d.toInt = k) (h0 : 0 < k) : 0 ≤ ((a &&& (2147483647 : Int32)) % d).toInt ∧ ((a &&& (2147483647 : Int32)) % d).toInt < k := by
  have h1 := c_mask a 2147483647 31 (by decide) (by decide)
  have h2 := (c_irem (a &&& (2147483647 : Int32)) d k hk).1
  have h3 := Int.emod_nonneg (a &&& (2147483647 : Int32)).toInt (b := k) (by omega)
  have h4 := Int.emod_lt_of_pos (a &&& (2147483647 : Int32)).toInt h0
  omega
theorem own_sum (h m : Int32) (h0 : 0 ≤ h.toInt) (h1 : h.toInt < 24) (m0 : 0 ≤ m.toInt) (m1 : m.toInt < 60) : ((h * (3600 : Int32)) + (m * (60 : Int32))).toInt = h.toInt * 3600 + m.toInt * 60 := by
  have a1 := c_imul h 3600
  have a2 := c_imul m 60
  have a3 := c_iadd (h * (3600 : Int32)) (m * (60 : Int32))
  have r1 := rng32 (h * (3600 : Int32))
  have r2 := rng32 (m * (60 : Int32))
  have r3 := rng32 ((h * (3600 : Int32)) + (m * (60 : Int32)))
  simp only [Int32.reduceToInt] at a1 a2
  omega
theorem own_neg (h m : Int32) (h0 : 0 ≤ h.toInt) (h1 : h.toInt < 24) (m0 : 0 ≤ m.toInt) (m1 : m.toInt < 60) : (own_off 45 h m).toInt = -(h.toInt * 3600 + m.toInt * 60) := by
  have k := own_sum h m h0 h1 m0 m1
  have a := c_imul (-1) ((h * (3600 : Int32)) + (m * (60 : Int32)))
  have r := rng32 ((-1 : Int32) * ((h * (3600 : Int32)) + (m * (60 : Int32))))
  rw [k] at a
  simp only [Int32.reduceToInt] at a
  show ((-1 : Int32) * ((h * (3600 : Int32)) + (m * (60 : Int32)))).toInt = _
  omega
theorem own_posi (h m : Int32) (h0 : 0 ≤ h.toInt) (h1 : h.toInt < 24) (m0 : 0 ≤ m.toInt) (m1 : m.toInt < 60) : (own_off 43 h m).toInt = (h.toInt * 3600 + m.toInt * 60) := by
  have k := own_sum h m h0 h1 m0 m1
  have a := c_imul (1) ((h * (3600 : Int32)) + (m * (60 : Int32)))
  have r := rng32 ((1 : Int32) * ((h * (3600 : Int32)) + (m * (60 : Int32))))
  rw [k] at a
  simp only [Int32.reduceToInt] at a
  show ((1 : Int32) * ((h * (3600 : Int32)) + (m * (60 : Int32)))).toInt = _
  omega
theorem own_negr (r : Int32) (k : Int) (h : r.toInt = -k) (h0 : 0 ≤ k) (h1 : k < 86400) : (-r).toInt = k := by
  have a := c_ineg r
  have b := rng32 (-r)
  omega
theorem own_mag (g h m : Int32) (hg : g.toInt = h.toInt * 3600 + m.toInt * 60) (h0 : 0 ≤ h.toInt) (h1 : h.toInt < 24) (m0 : 0 ≤ m.toInt) (m1 : m.toInt < 60) :
    ¬ (g < (0 : Int32)) ∧ g < (86400 : Int32) ∧ (g % (60 : Int32)) = (0 : Int32) ∧ (g / (3600 : Int32)) = h ∧ ((g % (3600 : Int32)) / (60 : Int32)) = m := by
  have a1 := (c_irem g 60 60 rfl).1 (by omega)
  have a2 := (c_idiv g 3600 3600 rfl (by decide)).1 (by omega)
  have a3 := (c_irem g 3600 3600 rfl).1 (by omega)
  have a4 := (c_idiv (g % 3600) 60 60 rfl (by decide)).1 (by omega)
  simp only [Int32.lt_iff_toInt_lt, ← Int32.toInt_inj, a1, a2, a4, a3, Int32.reduceToInt]
  omega
theorem pd_0 : parseMethodDescriptor "(CII)I" = some ⟨[.char, .int, .int], some .int⟩ := by decide +kernel
theorem d1_0 : decode prog_20_method_7_code 0 = .ok (.iload_n 1, 1) := by decide +kernel
theorem d1_1 : decode prog_20_method_7_code 1 = .ok (.bipush 23, 2) := by decide +kernel
theorem d1_3 : decode prog_20_method_7_code 3 = .ok (.if_icmp .gt 9, 3) := by decide +kernel
theorem d1_6 : decode prog_20_method_7_code 6 = .ok (.iload_n 2, 1) := by decide +kernel
theorem d1_7 : decode prog_20_method_7_code 7 = .ok (.bipush 59, 2) := by decide +kernel
theorem d1_9 : decode prog_20_method_7_code 9 = .ok (.if_icmp .le 13, 3) := by decide +kernel
theorem d1_22 : decode prog_20_method_7_code 22 = .ok (.iload_n 0, 1) := by decide +kernel
theorem d1_23 : decode prog_20_method_7_code 23 = .ok (.bipush 45, 2) := by decide +kernel
theorem d1_25 : decode prog_20_method_7_code 25 = .ok (.if_icmp .ne 7, 3) := by decide +kernel
theorem d1_28 : decode prog_20_method_7_code 28 = .ok (.iconst (-1), 1) := by decide +kernel
theorem d1_29 : decode prog_20_method_7_code 29 = .ok (.goto 4, 3) := by decide +kernel
theorem d1_32 : decode prog_20_method_7_code 32 = .ok (.iconst 1, 1) := by decide +kernel
theorem d1_33 : decode prog_20_method_7_code 33 = .ok (.iload_n 1, 1) := by decide +kernel
theorem d1_34 : decode prog_20_method_7_code 34 = .ok (.sipush 3600, 3) := by decide +kernel
theorem d1_37 : decode prog_20_method_7_code 37 = .ok (.imul, 1) := by decide +kernel
theorem d1_38 : decode prog_20_method_7_code 38 = .ok (.iload_n 2, 1) := by decide +kernel
theorem d1_39 : decode prog_20_method_7_code 39 = .ok (.bipush 60, 2) := by decide +kernel
theorem d1_41 : decode prog_20_method_7_code 41 = .ok (.imul, 1) := by decide +kernel
theorem d1_42 : decode prog_20_method_7_code 42 = .ok (.iadd, 1) := by decide +kernel
theorem d1_43 : decode prog_20_method_7_code 43 = .ok (.imul, 1) := by decide +kernel
theorem d1_44 : decode prog_20_method_7_code 44 = .ok (.ireturn, 1) := by decide +kernel
theorem pn_1 : plainName "com/example/millrace/millrace/model/DateTimeText" = true := by first | (simp [plainName, overriddenIn]; done) | decide +kernel
theorem ef_1 (m : MethodId) (x0 : Int32) (x1 : Int32) (x2 : Int32) : entryFrame m #[(.int x0), (.int x1), (.int x2)] 3 = mkF m 0 #[.val (.int x0), .val (.int x1), .val (.int x2)] [] := by first | (simp [entryFrame, mkF, argsToLocals, Value.category]; done) | rfl
def Q1 (Z : State) (p0 : Int32) (p1 : Int32) (p2 : Int32) (h0 : Heap) (n0 : Nat) (v : Option Value) (h : Heap) (L : List Loc) : Prop := v = some (.int (own_off p0 p1 p2)) ∧ Fr n0 L ∧ h = h0
set_option maxRecDepth 65536 in
set_option maxHeartbeats 40000000 in
theorem rm1 (l : Launch) (Z : State) (a0 : Array Value) (hw : ∀ d ∈ tables_1, d.before a0 Z = true) (ws : List Jvm.Cond) (p0 : Int32) (p1 : Int32) (p2 : Int32)  (h0 : Heap) (n0 : Nat) (Z0 : n0 ≤ h0.size) (hp1 : ¬ (23 : Int32) < p1) (hp2 : ¬ (59 : Int32) < p2) :
    MetFree l (⟨"com/example/millrace/millrace/model/DateTimeText", "offset", "(CII)I"⟩ : MethodName) (head1 (Jvm.Cond.code (⟨"com/example/millrace/millrace/model/DateTimeText", "offset", "(CII)I"⟩ : MethodName) prog_20_method_7_code 3 (some .int) :: ws) ({ frames := 0, cells := 0, slots := 0, locals := 0 } : Room)) (fun a U => a = #[(.int p0), (.int p1), (.int p2)] ∧ Z.Warmed39 U.vm ∧ U.heap = h0) (fun _ _ _ _ _ => True) (fun _ U o U' => ∃ v L, o = .returned v ∧ Q1 Z p0 p1 p2 h0 n0 v U'.heap L ∧ FrameEnd U o U' L ({ frames := 0, cells := 0, slots := 0, locals := 0 } : Room).cells ({ frames := 0, cells := 0, slots := 0, locals := 0 } : Room).slots) := by
  refine MetFree.of_bodySF (plainFor_of_name pn_1) hisR ?_
  intro p e s m args below meth c s₁ Bd hml0 hP hK
  obtain ⟨rfl, hZ, hh⟩ := hP
  have hx := Bd.exec
  have hby := Bd.bytes
  have hml : c.maxLocals = 3 := hml0
  have hown : s.vm.findClass "com/example/millrace/millrace/model/DateTimeText" = some m.cls := findClass_of_methodNamed Bd.named
  have hnm := (name_of_methodNamed Bd.named Bd.method).1
  have X0 : Stand p l e ({ frames := 0, cells := 0, slots := 0, locals := 0 } : Room) s m #[(.int p0), (.int p1), (.int p2)] below meth c s₁ [] 0 0 := Stand.of_body Bd
  have e0 : s₁.heap = h0 := by rw [← hh, Bd.state]; rfl
  have N0 := Fr.nil n0
  have pre0 : ∀ t, Steps p.tables e below (s₁.setTop (mkF m 0 #[.val (.int p0), .val (.int p1), .val (.int p2)] [])) t → Steps p.tables e below (s₁.setTop (entryFrame m #[(.int p0), (.int p1), (.int p2)] 3)) t := fun t k => castTop (ef_1 m p0 p1 p2) k
  have c2 : ∀ t, Steps p.tables e below (s₁.setTop (mkF m 3 #[.val (.int p0), .val (.int p1), .val (.int p2)] [(.int (23 : Int32)), (.int p1)])) t → Steps p.tables e below (s₁.setTop (mkF m 0 #[.val (.int p0), .val (.int p1), .val (.int p2)] [])) t := by
    intro t kt
    show Steps p.tables e below (s₁.setTop (mkF m 0 #[.val (.int p0), .val (.int p1), .val (.int p2)] [])) _
    refine XS.iloadN X0.here hx rfl (hb hby d1_0) rfl ?_
    show Steps p.tables e below (s₁.setTop (mkF m 1 #[.val (.int p0), .val (.int p1), .val (.int p2)] [(.int p1)])) _
    refine XS.bipush X0.here hx rfl (hb hby d1_1) ?_
    exact kt
  have hd1 : ¬ ((23 : Int32) < p1) := hp1
  have c4 : ∀ t, Steps p.tables e below (s₁.setTop (mkF m 9 #[.val (.int p0), .val (.int p1), .val (.int p2)] [(.int (59 : Int32)), (.int p2)])) t → Steps p.tables e below (s₁.setTop (mkF m 3 #[.val (.int p0), .val (.int p1), .val (.int p2)] [(.int (23 : Int32)), (.int p1)])) t := by
    intro t kt
    show Steps p.tables e below (s₁.setTop (mkF m 3 #[.val (.int p0), .val (.int p1), .val (.int p2)] [(.int (23 : Int32)), (.int p1)])) _
    refine XS.icmpNo X0.here hx rfl (hb hby d1_3) rfl (flt hd1).2.2.1 ?_
    show Steps p.tables e below (s₁.setTop (mkF m 6 #[.val (.int p0), .val (.int p1), .val (.int p2)] [])) _
    refine XS.iloadN X0.here hx rfl (hb hby d1_6) rfl ?_
    show Steps p.tables e below (s₁.setTop (mkF m 7 #[.val (.int p0), .val (.int p1), .val (.int p2)] [(.int p2)])) _
    refine XS.bipush X0.here hx rfl (hb hby d1_7) ?_
    exact kt
  have hd3 : ¬ ((59 : Int32) < p2) := hp2
  have c5 : ∀ t, Steps p.tables e below (s₁.setTop (mkF m 25 #[.val (.int p0), .val (.int p1), .val (.int p2)] [(.int (45 : Int32)), (.int p0)])) t → Steps p.tables e below (s₁.setTop (mkF m 9 #[.val (.int p0), .val (.int p1), .val (.int p2)] [(.int (59 : Int32)), (.int p2)])) t := by
    intro t kt
    show Steps p.tables e below (s₁.setTop (mkF m 9 #[.val (.int p0), .val (.int p1), .val (.int p2)] [(.int (59 : Int32)), (.int p2)])) _
    refine XS.icmpYes X0.here hx rfl (pc0 := 9) (pc' := 22) rfl (hb hby d1_9) rfl (flt hd3).2.2.2 (by decide) (by decide) ?_
    show Steps p.tables e below (s₁.setTop (mkF m 22 #[.val (.int p0), .val (.int p1), .val (.int p2)] [])) _
    refine XS.iloadN X0.here hx rfl (hb hby d1_22) rfl ?_
    show Steps p.tables e below (s₁.setTop (mkF m 23 #[.val (.int p0), .val (.int p1), .val (.int p2)] [(.int p0)])) _
    refine XS.bipush X0.here hx rfl (hb hby d1_23) ?_
    exact kt
  by_cases hc25 : p0 = (45 : Int32)
  · -- it is
    have c6 : ∀ t, Steps p.tables e below (s₁.setTop (mkF m 44 #[.val (.int p0), .val (.int p1), .val (.int p2)] [(.int ((-1 : Int32) * ((p1 * (3600 : Int32)) + (p2 * (60 : Int32)))))])) t → Steps p.tables e below (s₁.setTop (mkF m 25 #[.val (.int p0), .val (.int p1), .val (.int p2)] [(.int (45 : Int32)), (.int p0)])) t := by
      intro t kt
      show Steps p.tables e below (s₁.setTop (mkF m 25 #[.val (.int p0), .val (.int p1), .val (.int p2)] [(.int (45 : Int32)), (.int p0)])) _
      refine XS.icmpNo X0.here hx rfl (hb hby d1_25) rfl (teq hc25).2 ?_
      show Steps p.tables e below (s₁.setTop (mkF m 28 #[.val (.int p0), .val (.int p1), .val (.int p2)] [])) _
      refine XS.iconst X0.here hx rfl (hb hby d1_28) ?_
      show Steps p.tables e below (s₁.setTop (mkF m 29 #[.val (.int p0), .val (.int p1), .val (.int p2)] [(.int (-1 : Int32))])) _
      refine XS.goto X0.here hx rfl (pc0 := 29) (pc' := 33) rfl (hb hby d1_29) (by decide) (by decide) ?_
      show Steps p.tables e below (s₁.setTop (mkF m 33 #[.val (.int p0), .val (.int p1), .val (.int p2)] [(.int (-1 : Int32))])) _
      refine XS.iloadN X0.here hx rfl (hb hby d1_33) rfl ?_
      show Steps p.tables e below (s₁.setTop (mkF m 34 #[.val (.int p0), .val (.int p1), .val (.int p2)] [(.int p1), (.int (-1 : Int32))])) _
      refine XS.sipush X0.here hx rfl (hb hby d1_34) ?_
      show Steps p.tables e below (s₁.setTop (mkF m 37 #[.val (.int p0), .val (.int p1), .val (.int p2)] [(.int (3600 : Int32)), (.int p1), (.int (-1 : Int32))])) _
      refine XS.imul X0.here hx rfl (hb hby d1_37) rfl ?_
      show Steps p.tables e below (s₁.setTop (mkF m 38 #[.val (.int p0), .val (.int p1), .val (.int p2)] [(.int (p1 * (3600 : Int32))), (.int (-1 : Int32))])) _
      refine XS.iloadN X0.here hx rfl (hb hby d1_38) rfl ?_
      show Steps p.tables e below (s₁.setTop (mkF m 39 #[.val (.int p0), .val (.int p1), .val (.int p2)] [(.int p2), (.int (p1 * (3600 : Int32))), (.int (-1 : Int32))])) _
      refine XS.bipush X0.here hx rfl (hb hby d1_39) ?_
      show Steps p.tables e below (s₁.setTop (mkF m 41 #[.val (.int p0), .val (.int p1), .val (.int p2)] [(.int (60 : Int32)), (.int p2), (.int (p1 * (3600 : Int32))), (.int (-1 : Int32))])) _
      refine XS.imul X0.here hx rfl (hb hby d1_41) rfl ?_
      show Steps p.tables e below (s₁.setTop (mkF m 42 #[.val (.int p0), .val (.int p1), .val (.int p2)] [(.int (p2 * (60 : Int32))), (.int (p1 * (3600 : Int32))), (.int (-1 : Int32))])) _
      refine XS.iadd X0.here hx rfl (hb hby d1_42) rfl ?_
      show Steps p.tables e below (s₁.setTop (mkF m 43 #[.val (.int p0), .val (.int p1), .val (.int p2)] [(.int ((p1 * (3600 : Int32)) + (p2 * (60 : Int32)))), (.int (-1 : Int32))])) _
      refine XS.imul X0.here hx rfl (hb hby d1_43) rfl ?_
      exact kt
    obtain ⟨fs, hr, hrun, hended, hW, hsame⟩ := X0.leave (v := some (.int ((-1 : Int32) * ((p1 * (3600 : Int32)) + (p2 * (60 : Int32)))))) (fun h => by rw [Bd.returns] at h; cases h)
    refine ⟨_, _, pre0 _ (c2 _ (c4 _ (c5 _ (c6 _ (?_))))), hrun, hended, _, _, rfl, ?_, ⟨_, rfl⟩, hW, hsame.mono (by decide) (by decide)⟩
    · show Steps p.tables e below (s₁.setTop (mkF m 44 #[.val (.int p0), .val (.int p1), .val (.int p2)] [(.int ((-1 : Int32) * ((p1 * (3600 : Int32)) + (p2 * (60 : Int32)))))])) _
      exact retI X0 hx Bd.returns (hb hby d1_44) hr
    · show Q1 Z p0 p1 p2 h0 n0 _ s₁.heap _
      rw [e0]
      exact ⟨congrArg (fun z => some (Value.int z)) (show ((-1 : Int32) * ((p1 * (3600 : Int32)) + (p2 * (60 : Int32)))) = (own_off p0 p1 p2) from by simp [own_off, hc25]), N0, rfl⟩
  · -- it isn't
    have c8 : ∀ t, Steps p.tables e below (s₁.setTop (mkF m 44 #[.val (.int p0), .val (.int p1), .val (.int p2)] [(.int ((1 : Int32) * ((p1 * (3600 : Int32)) + (p2 * (60 : Int32)))))])) t → Steps p.tables e below (s₁.setTop (mkF m 25 #[.val (.int p0), .val (.int p1), .val (.int p2)] [(.int (45 : Int32)), (.int p0)])) t := by
      intro t kt
      show Steps p.tables e below (s₁.setTop (mkF m 25 #[.val (.int p0), .val (.int p1), .val (.int p2)] [(.int (45 : Int32)), (.int p0)])) _
      refine XS.icmpYes X0.here hx rfl (pc0 := 25) (pc' := 32) rfl (hb hby d1_25) rfl (feq hc25).2 (by decide) (by decide) ?_
      show Steps p.tables e below (s₁.setTop (mkF m 32 #[.val (.int p0), .val (.int p1), .val (.int p2)] [])) _
      refine XS.iconst X0.here hx rfl (hb hby d1_32) ?_
      show Steps p.tables e below (s₁.setTop (mkF m 33 #[.val (.int p0), .val (.int p1), .val (.int p2)] [(.int (1 : Int32))])) _
      refine XS.iloadN X0.here hx rfl (hb hby d1_33) rfl ?_
      show Steps p.tables e below (s₁.setTop (mkF m 34 #[.val (.int p0), .val (.int p1), .val (.int p2)] [(.int p1), (.int (1 : Int32))])) _
      refine XS.sipush X0.here hx rfl (hb hby d1_34) ?_
      show Steps p.tables e below (s₁.setTop (mkF m 37 #[.val (.int p0), .val (.int p1), .val (.int p2)] [(.int (3600 : Int32)), (.int p1), (.int (1 : Int32))])) _
      refine XS.imul X0.here hx rfl (hb hby d1_37) rfl ?_
      show Steps p.tables e below (s₁.setTop (mkF m 38 #[.val (.int p0), .val (.int p1), .val (.int p2)] [(.int (p1 * (3600 : Int32))), (.int (1 : Int32))])) _
      refine XS.iloadN X0.here hx rfl (hb hby d1_38) rfl ?_
      show Steps p.tables e below (s₁.setTop (mkF m 39 #[.val (.int p0), .val (.int p1), .val (.int p2)] [(.int p2), (.int (p1 * (3600 : Int32))), (.int (1 : Int32))])) _
      refine XS.bipush X0.here hx rfl (hb hby d1_39) ?_
      show Steps p.tables e below (s₁.setTop (mkF m 41 #[.val (.int p0), .val (.int p1), .val (.int p2)] [(.int (60 : Int32)), (.int p2), (.int (p1 * (3600 : Int32))), (.int (1 : Int32))])) _
      refine XS.imul X0.here hx rfl (hb hby d1_41) rfl ?_
      show Steps p.tables e below (s₁.setTop (mkF m 42 #[.val (.int p0), .val (.int p1), .val (.int p2)] [(.int (p2 * (60 : Int32))), (.int (p1 * (3600 : Int32))), (.int (1 : Int32))])) _
      refine XS.iadd X0.here hx rfl (hb hby d1_42) rfl ?_
      show Steps p.tables e below (s₁.setTop (mkF m 43 #[.val (.int p0), .val (.int p1), .val (.int p2)] [(.int ((p1 * (3600 : Int32)) + (p2 * (60 : Int32)))), (.int (1 : Int32))])) _
      refine XS.imul X0.here hx rfl (hb hby d1_43) rfl ?_
      exact kt
    obtain ⟨fs, hr, hrun, hended, hW, hsame⟩ := X0.leave (v := some (.int ((1 : Int32) * ((p1 * (3600 : Int32)) + (p2 * (60 : Int32)))))) (fun h => by rw [Bd.returns] at h; cases h)
    refine ⟨_, _, pre0 _ (c2 _ (c4 _ (c5 _ (c8 _ (?_))))), hrun, hended, _, _, rfl, ?_, ⟨_, rfl⟩, hW, hsame.mono (by decide) (by decide)⟩
    · show Steps p.tables e below (s₁.setTop (mkF m 44 #[.val (.int p0), .val (.int p1), .val (.int p2)] [(.int ((1 : Int32) * ((p1 * (3600 : Int32)) + (p2 * (60 : Int32)))))])) _
      exact retI X0 hx Bd.returns (hb hby d1_44) hr
    · show Q1 Z p0 p1 p2 h0 n0 _ s₁.heap _
      rw [e0]
      exact ⟨congrArg (fun z => some (Value.int z)) (show ((1 : Int32) * ((p1 * (3600 : Int32)) + (p2 * (60 : Int32)))) = (own_off p0 p1 p2) from by simp [own_off, hc25]), N0, rfl⟩
theorem pn_0 : plainName "com/example/millrace/millrace/model/DateTimeTextOffsetPinLaw" = true := by first | (simp [plainName, overriddenIn]; done) | decide +kernel
theorem ef_0 (m : MethodId) (x0 : Int32) (x1 : Int32) (x2 : Int32) : entryFrame m #[(.int x0), (.int x1), (.int x2)] maxLocals = mkF m 0 #[.val (.int x0), .val (.int x1), .val (.int x2), .unset, .unset, .unset, .unset, .unset, .unset] [] := by first | (simp [entryFrame, mkF, argsToLocals, Value.category, maxLocals]; done) | rfl
def Q0 (Z : State) (p0 : Int32) (p1 : Int32) (p2 : Int32) (h0 : Heap) (n0 : Nat) (v : Option Value) (h : Heap) (L : List Loc) : Prop := v = some (.int 1) ∧ Fr n0 L
set_option maxRecDepth 65536 in
set_option maxHeartbeats 40000000 in
theorem rm0 (l : Launch) (Z : State) (a0 : Array Value) (hw : ∀ d ∈ tables_1, d.before a0 Z = true) (ws : List Jvm.Cond) (p0 : Int32) (p1 : Int32) (p2 : Int32)  (h0 : Heap) (n0 : Nat) (Z0 : n0 ≤ h0.size) :
    MetFree l x (head1 (Jvm.Cond.code x code maxLocals ret :: ws) room_1) (fun a U => a = #[(.int p0), (.int p1), (.int p2)] ∧ Z.Warmed39 U.vm ∧ U.heap = h0) (fun _ _ _ _ _ => True) (fun _ U o U' => ∃ v L, o = .returned v ∧ Q0 Z p0 p1 p2 h0 n0 v U'.heap L ∧ FrameEnd U o U' L room_1.cells room_1.slots) := by
  refine MetFree.of_bodySF (plainFor_of_name pn_0) hisR ?_
  intro p e s m args below meth c s₁ Bd hml0 hP hK
  obtain ⟨rfl, hZ, hh⟩ := hP
  have hx := Bd.exec
  have hby := Bd.bytes
  have hml : c.maxLocals = 9 := hml0
  have hown : s.vm.findClass "com/example/millrace/millrace/model/DateTimeTextOffsetPinLaw" = some m.cls := findClass_of_methodNamed Bd.named
  have hnm := (name_of_methodNamed Bd.named Bd.method).1
  have X0 : Stand p l e room_1 s m #[(.int p0), (.int p1), (.int p2)] below meth c s₁ [] 0 0 := Stand.of_body Bd
  have e0 : s₁.heap = h0 := by rw [← hh, Bd.state]; rfl
  have N0 := Fr.nil n0
  have pre0 : ∀ t, Steps p.tables e below (s₁.setTop (mkF m 0 #[.val (.int p0), .val (.int p1), .val (.int p2), .unset, .unset, .unset, .unset, .unset, .unset] [])) t → Steps p.tables e below (s₁.setTop (entryFrame m #[(.int p0), (.int p1), (.int p2)] maxLocals)) t := fun t k => castTop (ef_0 m p0 p1 p2) k
  have c1 : ∀ t, Steps p.tables e below (s₁.setTop (mkF m 8 #[.val (.int p0), .val (.int p1), .val (.int p2), .val (.int ((p0 &&& (2147483647 : Int32)) % (24 : Int32))), .unset, .unset, .unset, .unset, .unset] [])) t → Steps p.tables e below (s₁.setTop (mkF m 0 #[.val (.int p0), .val (.int p1), .val (.int p2), .unset, .unset, .unset, .unset, .unset, .unset] [])) t := by
    intro t kt
    show Steps p.tables e below (s₁.setTop (mkF m 0 #[.val (.int p0), .val (.int p1), .val (.int p2), .unset, .unset, .unset, .unset, .unset, .unset] [])) _
    refine XS.iloadN X0.here hx rfl (hb hby at_0) rfl ?_
    show Steps p.tables e below (s₁.setTop (mkF m 1 #[.val (.int p0), .val (.int p1), .val (.int p2), .unset, .unset, .unset, .unset, .unset, .unset] [(.int p0)])) _
    refine X0.ldcInt hx hown (mvT hZ (hw _ (List.mem_of_getElem? (i := 0) rfl))) (g := (mkF m 1 #[.val (.int p0), .val (.int p1), .val (.int p2), .unset, .unset, .unset, .unset, .unset, .unset] [(.int p0)])) rfl (hb hby at_1) _ ?_
    show Steps p.tables e below (s₁.setTop (mkF m 3 #[.val (.int p0), .val (.int p1), .val (.int p2), .unset, .unset, .unset, .unset, .unset, .unset] [(.int (2147483647 : Int32)), (.int p0)])) _
    refine XS.iand X0.here hx rfl (hb hby at_3) rfl ?_
    show Steps p.tables e below (s₁.setTop (mkF m 4 #[.val (.int p0), .val (.int p1), .val (.int p2), .unset, .unset, .unset, .unset, .unset, .unset] [(.int (p0 &&& (2147483647 : Int32)))])) _
    refine XS.bipush X0.here hx rfl (hb hby at_4) ?_
    show Steps p.tables e below (s₁.setTop (mkF m 6 #[.val (.int p0), .val (.int p1), .val (.int p2), .unset, .unset, .unset, .unset, .unset, .unset] [(.int (24 : Int32)), (.int (p0 &&& (2147483647 : Int32)))])) _
    refine iremM X0 hx rfl (hb hby at_6) rfl (by decide) ?_
    show Steps p.tables e below (s₁.setTop (mkF m 7 #[.val (.int p0), .val (.int p1), .val (.int p2), .unset, .unset, .unset, .unset, .unset, .unset] [(.int ((p0 &&& (2147483647 : Int32)) % (24 : Int32)))])) _
    refine XS.istoreN X0.here hx rfl (hb hby at_7) rfl (l' := #[.val (.int p0), .val (.int p1), .val (.int p2), .val (.int ((p0 &&& (2147483647 : Int32)) % (24 : Int32))), .unset, .unset, .unset, .unset, .unset]) rfl ?_
    exact kt
  obtain ⟨hh, hhh⟩ : ∃ z, z = ((p0 &&& (2147483647 : Int32)) % (24 : Int32)) := ⟨_, rfl⟩
  have c2 : ∀ t, Steps p.tables e below (s₁.setTop (mkF m 8 #[.val (.int p0), .val (.int p1), .val (.int p2), .val (.int hh), .unset, .unset, .unset, .unset, .unset] [])) t → Steps p.tables e below (s₁.setTop (mkF m 8 #[.val (.int p0), .val (.int p1), .val (.int p2), .val (.int ((p0 &&& (2147483647 : Int32)) % (24 : Int32))), .unset, .unset, .unset, .unset, .unset] [])) t := fun t kt => by rw [hhh] at kt; exact kt
  obtain ⟨kh0, kh1⟩ : 0 ≤ hh.toInt ∧ hh.toInt < 24 := by rw [hhh]; exact own_rng _ _ 24 rfl (by decide)
  have c3 : ∀ t, Steps p.tables e below (s₁.setTop (mkF m 17 #[.val (.int p0), .val (.int p1), .val (.int p2), .val (.int hh), .val (.int ((p1 &&& (2147483647 : Int32)) % (60 : Int32))), .unset, .unset, .unset, .unset] [])) t → Steps p.tables e below (s₁.setTop (mkF m 8 #[.val (.int p0), .val (.int p1), .val (.int p2), .val (.int hh), .unset, .unset, .unset, .unset, .unset] [])) t := by
    intro t kt
    show Steps p.tables e below (s₁.setTop (mkF m 8 #[.val (.int p0), .val (.int p1), .val (.int p2), .val (.int hh), .unset, .unset, .unset, .unset, .unset] [])) _
    refine XS.iloadN X0.here hx rfl (hb hby at_8) rfl ?_
    show Steps p.tables e below (s₁.setTop (mkF m 9 #[.val (.int p0), .val (.int p1), .val (.int p2), .val (.int hh), .unset, .unset, .unset, .unset, .unset] [(.int p1)])) _
    refine X0.ldcInt hx hown (mvT hZ (hw _ (List.mem_of_getElem? (i := 0) rfl))) (g := (mkF m 9 #[.val (.int p0), .val (.int p1), .val (.int p2), .val (.int hh), .unset, .unset, .unset, .unset, .unset] [(.int p1)])) rfl (hb hby at_9) _ ?_
    show Steps p.tables e below (s₁.setTop (mkF m 11 #[.val (.int p0), .val (.int p1), .val (.int p2), .val (.int hh), .unset, .unset, .unset, .unset, .unset] [(.int (2147483647 : Int32)), (.int p1)])) _
    refine XS.iand X0.here hx rfl (hb hby at_11) rfl ?_
    show Steps p.tables e below (s₁.setTop (mkF m 12 #[.val (.int p0), .val (.int p1), .val (.int p2), .val (.int hh), .unset, .unset, .unset, .unset, .unset] [(.int (p1 &&& (2147483647 : Int32)))])) _
    refine XS.bipush X0.here hx rfl (hb hby at_12) ?_
    show Steps p.tables e below (s₁.setTop (mkF m 14 #[.val (.int p0), .val (.int p1), .val (.int p2), .val (.int hh), .unset, .unset, .unset, .unset, .unset] [(.int (60 : Int32)), (.int (p1 &&& (2147483647 : Int32)))])) _
    refine iremM X0 hx rfl (hb hby at_14) rfl (by decide) ?_
    show Steps p.tables e below (s₁.setTop (mkF m 15 #[.val (.int p0), .val (.int p1), .val (.int p2), .val (.int hh), .unset, .unset, .unset, .unset, .unset] [(.int ((p1 &&& (2147483647 : Int32)) % (60 : Int32)))])) _
    refine XS.istore X0.here hx rfl (hb hby at_15) rfl (l' := #[.val (.int p0), .val (.int p1), .val (.int p2), .val (.int hh), .val (.int ((p1 &&& (2147483647 : Int32)) % (60 : Int32))), .unset, .unset, .unset, .unset]) rfl ?_
    exact kt
  obtain ⟨mm, hmm⟩ : ∃ z, z = ((p1 &&& (2147483647 : Int32)) % (60 : Int32)) := ⟨_, rfl⟩
  have c4 : ∀ t, Steps p.tables e below (s₁.setTop (mkF m 17 #[.val (.int p0), .val (.int p1), .val (.int p2), .val (.int hh), .val (.int mm), .unset, .unset, .unset, .unset] [])) t → Steps p.tables e below (s₁.setTop (mkF m 17 #[.val (.int p0), .val (.int p1), .val (.int p2), .val (.int hh), .val (.int ((p1 &&& (2147483647 : Int32)) % (60 : Int32))), .unset, .unset, .unset, .unset] [])) t := fun t kt => by rw [hmm] at kt; exact kt
  obtain ⟨km0, km1⟩ : 0 ≤ mm.toInt ∧ mm.toInt < 60 := by rw [hmm]; exact own_rng _ _ 60 rfl (by decide)
  have c5 : ∀ t, Steps p.tables e below (s₁.setTop (mkF m 20 #[.val (.int p0), .val (.int p1), .val (.int p2), .val (.int hh), .val (.int mm), .unset, .unset, .unset, .unset] [(.int (p2 &&& (1 : Int32)))])) t → Steps p.tables e below (s₁.setTop (mkF m 17 #[.val (.int p0), .val (.int p1), .val (.int p2), .val (.int hh), .val (.int mm), .unset, .unset, .unset, .unset] [])) t := by
    intro t kt
    show Steps p.tables e below (s₁.setTop (mkF m 17 #[.val (.int p0), .val (.int p1), .val (.int p2), .val (.int hh), .val (.int mm), .unset, .unset, .unset, .unset] [])) _
    refine XS.iloadN X0.here hx rfl (hb hby at_17) rfl ?_
    show Steps p.tables e below (s₁.setTop (mkF m 18 #[.val (.int p0), .val (.int p1), .val (.int p2), .val (.int hh), .val (.int mm), .unset, .unset, .unset, .unset] [(.int p2)])) _
    refine XS.iconst X0.here hx rfl (hb hby at_18) ?_
    show Steps p.tables e below (s₁.setTop (mkF m 19 #[.val (.int p0), .val (.int p1), .val (.int p2), .val (.int hh), .val (.int mm), .unset, .unset, .unset, .unset] [(.int (1 : Int32)), (.int p2)])) _
    refine XS.iand X0.here hx rfl (hb hby at_19) rfl ?_
    exact kt
  by_cases hc20 : (p2 &&& (1 : Int32)) = (0 : Int32)
  · -- it is
    have c6 : ∀ t, Steps p.tables e below (s₁.setTop (mkF m 49 #[.val (.int p0), .val (.int p1), .val (.int p2), .val (.int hh), .val (.int mm), .val (.int (0 : Int32)), .val (.int (43 : Int32)), .unset, .unset] [(.int mm), (.int hh), (.int (43 : Int32))])) t → Steps p.tables e below (s₁.setTop (mkF m 20 #[.val (.int p0), .val (.int p1), .val (.int p2), .val (.int hh), .val (.int mm), .unset, .unset, .unset, .unset] [(.int (p2 &&& (1 : Int32)))])) t := by
      intro t kt
      show Steps p.tables e below (s₁.setTop (mkF m 20 #[.val (.int p0), .val (.int p1), .val (.int p2), .val (.int hh), .val (.int mm), .unset, .unset, .unset, .unset] [(.int (p2 &&& (1 : Int32)))])) _
      refine XS.ifYes X0.here hx rfl (pc0 := 20) (pc' := 27) rfl (hb hby at_20) rfl ((if0 _ _).trans (teq hc20).1) (by decide) (by decide) ?_
      show Steps p.tables e below (s₁.setTop (mkF m 27 #[.val (.int p0), .val (.int p1), .val (.int p2), .val (.int hh), .val (.int mm), .unset, .unset, .unset, .unset] [])) _
      refine XS.iconst X0.here hx rfl (hb hby at_27) ?_
      show Steps p.tables e below (s₁.setTop (mkF m 28 #[.val (.int p0), .val (.int p1), .val (.int p2), .val (.int hh), .val (.int mm), .unset, .unset, .unset, .unset] [(.int (0 : Int32))])) _
      refine XS.istore X0.here hx rfl (hb hby at_28) rfl (l' := #[.val (.int p0), .val (.int p1), .val (.int p2), .val (.int hh), .val (.int mm), .val (.int (0 : Int32)), .unset, .unset, .unset]) rfl ?_
      show Steps p.tables e below (s₁.setTop (mkF m 30 #[.val (.int p0), .val (.int p1), .val (.int p2), .val (.int hh), .val (.int mm), .val (.int (0 : Int32)), .unset, .unset, .unset] [])) _
      refine XS.iload X0.here hx rfl (hb hby at_30) rfl ?_
      show Steps p.tables e below (s₁.setTop (mkF m 32 #[.val (.int p0), .val (.int p1), .val (.int p2), .val (.int hh), .val (.int mm), .val (.int (0 : Int32)), .unset, .unset, .unset] [(.int (0 : Int32))])) _
      refine XS.ifYes X0.here hx rfl (pc0 := 32) (pc' := 40) rfl (hb hby at_32) rfl ((if0 _ _).trans (teq (by decide : (0 : Int32) = (0 : Int32))).1) (by decide) (by decide) ?_
      show Steps p.tables e below (s₁.setTop (mkF m 40 #[.val (.int p0), .val (.int p1), .val (.int p2), .val (.int hh), .val (.int mm), .val (.int (0 : Int32)), .unset, .unset, .unset] [])) _
      refine XS.bipush X0.here hx rfl (hb hby at_40) ?_
      show Steps p.tables e below (s₁.setTop (mkF m 42 #[.val (.int p0), .val (.int p1), .val (.int p2), .val (.int hh), .val (.int mm), .val (.int (0 : Int32)), .unset, .unset, .unset] [(.int (43 : Int32))])) _
      refine XS.istore X0.here hx rfl (hb hby at_42) rfl (l' := #[.val (.int p0), .val (.int p1), .val (.int p2), .val (.int hh), .val (.int mm), .val (.int (0 : Int32)), .val (.int (43 : Int32)), .unset, .unset]) rfl ?_
      show Steps p.tables e below (s₁.setTop (mkF m 44 #[.val (.int p0), .val (.int p1), .val (.int p2), .val (.int hh), .val (.int mm), .val (.int (0 : Int32)), .val (.int (43 : Int32)), .unset, .unset] [])) _
      refine XS.iload X0.here hx rfl (hb hby at_44) rfl ?_
      show Steps p.tables e below (s₁.setTop (mkF m 46 #[.val (.int p0), .val (.int p1), .val (.int p2), .val (.int hh), .val (.int mm), .val (.int (0 : Int32)), .val (.int (43 : Int32)), .unset, .unset] [(.int (43 : Int32))])) _
      refine XS.iloadN X0.here hx rfl (hb hby at_46) rfl ?_
      show Steps p.tables e below (s₁.setTop (mkF m 47 #[.val (.int p0), .val (.int p1), .val (.int p2), .val (.int hh), .val (.int mm), .val (.int (0 : Int32)), .val (.int (43 : Int32)), .unset, .unset] [(.int hh), (.int (43 : Int32))])) _
      refine XS.iload X0.here hx rfl (hb hby at_47) rfl ?_
      exact kt
    obtain ⟨_, _, ⟨T7, L7, k7, n7⟩, -, X7, ⟨Lc7, hQ7, l7, y7, z7⟩, st7⟩ := Jvm.LawKit.callS X0 hx (y := (⟨"com/example/millrace/millrace/model/DateTimeText", "offset", "(CII)I"⟩ : MethodName)) hown (mvT hZ (hw _ (List.mem_of_getElem? (i := 1) rfl))) (mvT hZ (hw _ (List.mem_of_getElem? (i := 2) rfl))) (mvT hZ (hw _ (List.mem_of_getElem? (i := 3) rfl))) (mvT hZ (hw _ (List.mem_of_getElem? (i := 4) rfl))) (by decide) (backOf (W := 0) (rm1 l Z a0 hw [] (43 : Int32) hh mm  h0 n0 Z0 (by rw [Int32.lt_iff_toInt_lt]; simp only [Int32.reduceToInt]; omega) (by rw [Int32.lt_iff_toInt_lt]; simp only [Int32.reduceToInt]; omega)) hZ (hw _ (List.mem_of_getElem? (i := 4) rfl)) (hw _ (List.mem_of_getElem? (i := 3) rfl)) (by decide) (by decide)) (g := (mkF m 49 #[.val (.int p0), .val (.int p1), .val (.int p2), .val (.int hh), .val (.int mm), .val (.int (0 : Int32)), .val (.int (43 : Int32)), .unset, .unset] [(.int mm), (.int hh), (.int (43 : Int32))])) rfl (by rw [hml]; rfl) (argsL := [(.int (43 : Int32)), (.int hh), (.int mm)]) (rest := []) (lenOf pd_0 rfl) rfl (by show 2 * 0 + _ ≤ _; exact Nat.le_of_eq rfl) (hb hby at_49) (fun _ _ => ⟨rfl, e0, (by decide : 0 + 0 ≤ _), (by decide : 0 + 0 ≤ _)⟩)
    dsimp only [Pt.U, Pt.locs, Pt.cells, Pt.slots] at X7 l7 y7 z7 st7 hQ7
    subst l7 y7 z7
    obtain ⟨rfl, N7q, e7⟩ := hQ7
    have N7 := Fr.app N0 N7q
    have c8 : ∀ t, Steps p.tables e below (T7.setTop (mkF m 54 #[.val (.int p0), .val (.int p1), .val (.int p2), .val (.int hh), .val (.int mm), .val (.int (0 : Int32)), .val (.int (43 : Int32)), .val (.int (own_off (43 : Int32) hh mm)), .unset] [])) t → Steps p.tables e below (T7.setTop (mkF m 52 #[.val (.int p0), .val (.int p1), .val (.int p2), .val (.int hh), .val (.int mm), .val (.int (0 : Int32)), .val (.int (43 : Int32)), .unset, .unset] [(.int (own_off (43 : Int32) hh mm))])) t := by
      intro t kt
      show Steps p.tables e below (T7.setTop (mkF m 52 #[.val (.int p0), .val (.int p1), .val (.int p2), .val (.int hh), .val (.int mm), .val (.int (0 : Int32)), .val (.int (43 : Int32)), .unset, .unset] [(.int (own_off (43 : Int32) hh mm))])) _
      refine XS.istore X7.here hx rfl (hb hby at_52) rfl (l' := #[.val (.int p0), .val (.int p1), .val (.int p2), .val (.int hh), .val (.int mm), .val (.int (0 : Int32)), .val (.int (43 : Int32)), .val (.int (own_off (43 : Int32) hh mm)), .unset]) rfl ?_
      exact kt
    obtain ⟨rr, hrr⟩ : ∃ z, z = (own_off (43 : Int32) hh mm) := ⟨_, rfl⟩
    have c9 : ∀ t, Steps p.tables e below (T7.setTop (mkF m 54 #[.val (.int p0), .val (.int p1), .val (.int p2), .val (.int hh), .val (.int mm), .val (.int (0 : Int32)), .val (.int (43 : Int32)), .val (.int rr), .unset] [])) t → Steps p.tables e below (T7.setTop (mkF m 54 #[.val (.int p0), .val (.int p1), .val (.int p2), .val (.int hh), .val (.int mm), .val (.int (0 : Int32)), .val (.int (43 : Int32)), .val (.int (own_off (43 : Int32) hh mm)), .unset] [])) t := fun t kt => by rw [hrr] at kt; exact kt
    have kr : rr.toInt = (hh.toInt * 3600 + mm.toInt * 60) := by rw [hrr]; exact own_posi hh mm kh0 kh1 km0 km1
    have c10 : ∀ t, Steps p.tables e below (T7.setTop (mkF m 69 #[.val (.int p0), .val (.int p1), .val (.int p2), .val (.int hh), .val (.int mm), .val (.int (0 : Int32)), .val (.int (43 : Int32)), .val (.int rr), .val (.int rr)] [])) t → Steps p.tables e below (T7.setTop (mkF m 54 #[.val (.int p0), .val (.int p1), .val (.int p2), .val (.int hh), .val (.int mm), .val (.int (0 : Int32)), .val (.int (43 : Int32)), .val (.int rr), .unset] [])) t := by
      intro t kt
      show Steps p.tables e below (T7.setTop (mkF m 54 #[.val (.int p0), .val (.int p1), .val (.int p2), .val (.int hh), .val (.int mm), .val (.int (0 : Int32)), .val (.int (43 : Int32)), .val (.int rr), .unset] [])) _
      refine XS.iload X7.here hx rfl (hb hby at_54) rfl ?_
      show Steps p.tables e below (T7.setTop (mkF m 56 #[.val (.int p0), .val (.int p1), .val (.int p2), .val (.int hh), .val (.int mm), .val (.int (0 : Int32)), .val (.int (43 : Int32)), .val (.int rr), .unset] [(.int (0 : Int32))])) _
      refine XS.ifYes X7.here hx rfl (pc0 := 56) (pc' := 65) rfl (hb hby at_56) rfl ((if0 _ _).trans (teq (by decide : (0 : Int32) = (0 : Int32))).1) (by decide) (by decide) ?_
      show Steps p.tables e below (T7.setTop (mkF m 65 #[.val (.int p0), .val (.int p1), .val (.int p2), .val (.int hh), .val (.int mm), .val (.int (0 : Int32)), .val (.int (43 : Int32)), .val (.int rr), .unset] [])) _
      refine XS.iload X7.here hx rfl (hb hby at_65) rfl ?_
      show Steps p.tables e below (T7.setTop (mkF m 67 #[.val (.int p0), .val (.int p1), .val (.int p2), .val (.int hh), .val (.int mm), .val (.int (0 : Int32)), .val (.int (43 : Int32)), .val (.int rr), .unset] [(.int rr)])) _
      refine XS.istore X7.here hx rfl (hb hby at_67) rfl (l' := #[.val (.int p0), .val (.int p1), .val (.int p2), .val (.int hh), .val (.int mm), .val (.int (0 : Int32)), .val (.int (43 : Int32)), .val (.int rr), .val (.int rr)]) rfl ?_
      exact kt
    obtain ⟨mg, hmg⟩ : ∃ z, z = rr := ⟨_, rfl⟩
    have c11 : ∀ t, Steps p.tables e below (T7.setTop (mkF m 69 #[.val (.int p0), .val (.int p1), .val (.int p2), .val (.int hh), .val (.int mm), .val (.int (0 : Int32)), .val (.int (43 : Int32)), .val (.int rr), .val (.int mg)] [])) t → Steps p.tables e below (T7.setTop (mkF m 69 #[.val (.int p0), .val (.int p1), .val (.int p2), .val (.int hh), .val (.int mm), .val (.int (0 : Int32)), .val (.int (43 : Int32)), .val (.int rr), .val (.int rr)] [])) t := fun t kt => by rw [hmg] at kt; exact kt
    have kg : mg.toInt = hh.toInt * 3600 + mm.toInt * 60 := by rw [hmg]; exact kr
    obtain ⟨d1, d2, d3, d4, d5⟩ := own_mag mg hh mm kg kh0 kh1 km0 km1
    have c13 : ∀ t, Steps p.tables e below (T7.setTop (mkF m 71 #[.val (.int p0), .val (.int p1), .val (.int p2), .val (.int hh), .val (.int mm), .val (.int (0 : Int32)), .val (.int (43 : Int32)), .val (.int rr), .val (.int mg)] [(.int mg)])) t → Steps p.tables e below (T7.setTop (mkF m 69 #[.val (.int p0), .val (.int p1), .val (.int p2), .val (.int hh), .val (.int mm), .val (.int (0 : Int32)), .val (.int (43 : Int32)), .val (.int rr), .val (.int mg)] [])) t := by
      intro t kt
      show Steps p.tables e below (T7.setTop (mkF m 69 #[.val (.int p0), .val (.int p1), .val (.int p2), .val (.int hh), .val (.int mm), .val (.int (0 : Int32)), .val (.int (43 : Int32)), .val (.int rr), .val (.int mg)] [])) _
      refine XS.iload X7.here hx rfl (hb hby at_69) rfl ?_
      exact kt
    have hd12 : ¬ (mg < (0 : Int32)) := d1
    have c15 : ∀ t, Steps p.tables e below (T7.setTop (mkF m 78 #[.val (.int p0), .val (.int p1), .val (.int p2), .val (.int hh), .val (.int mm), .val (.int (0 : Int32)), .val (.int (43 : Int32)), .val (.int rr), .val (.int mg)] [(.int (86400 : Int32)), (.int mg)])) t → Steps p.tables e below (T7.setTop (mkF m 71 #[.val (.int p0), .val (.int p1), .val (.int p2), .val (.int hh), .val (.int mm), .val (.int (0 : Int32)), .val (.int (43 : Int32)), .val (.int rr), .val (.int mg)] [(.int mg)])) t := by
      intro t kt
      show Steps p.tables e below (T7.setTop (mkF m 71 #[.val (.int p0), .val (.int p1), .val (.int p2), .val (.int hh), .val (.int mm), .val (.int (0 : Int32)), .val (.int (43 : Int32)), .val (.int rr), .val (.int mg)] [(.int mg)])) _
      refine XS.ifNo X7.here hx rfl (hb hby at_71) rfl ((if0 _ _).trans (flt hd12).1) ?_
      show Steps p.tables e below (T7.setTop (mkF m 74 #[.val (.int p0), .val (.int p1), .val (.int p2), .val (.int hh), .val (.int mm), .val (.int (0 : Int32)), .val (.int (43 : Int32)), .val (.int rr), .val (.int mg)] [])) _
      refine XS.iload X7.here hx rfl (hb hby at_74) rfl ?_
      show Steps p.tables e below (T7.setTop (mkF m 76 #[.val (.int p0), .val (.int p1), .val (.int p2), .val (.int hh), .val (.int mm), .val (.int (0 : Int32)), .val (.int (43 : Int32)), .val (.int rr), .val (.int mg)] [(.int mg)])) _
      refine X7.ldcInt hx hown (mvT hZ (hw _ (List.mem_of_getElem? (i := 5) rfl))) (g := (mkF m 76 #[.val (.int p0), .val (.int p1), .val (.int p2), .val (.int hh), .val (.int mm), .val (.int (0 : Int32)), .val (.int (43 : Int32)), .val (.int rr), .val (.int mg)] [(.int mg)])) rfl (hb hby at_76) _ ?_
      exact kt
    have hd14 : mg < (86400 : Int32) := d2
    have c17 : ∀ t, Steps p.tables e below (T7.setTop (mkF m 88 #[.val (.int p0), .val (.int p1), .val (.int p2), .val (.int hh), .val (.int mm), .val (.int (0 : Int32)), .val (.int (43 : Int32)), .val (.int rr), .val (.int mg)] [(.int (mg % (60 : Int32)))])) t → Steps p.tables e below (T7.setTop (mkF m 78 #[.val (.int p0), .val (.int p1), .val (.int p2), .val (.int hh), .val (.int mm), .val (.int (0 : Int32)), .val (.int (43 : Int32)), .val (.int rr), .val (.int mg)] [(.int (86400 : Int32)), (.int mg)])) t := by
      intro t kt
      show Steps p.tables e below (T7.setTop (mkF m 78 #[.val (.int p0), .val (.int p1), .val (.int p2), .val (.int hh), .val (.int mm), .val (.int (0 : Int32)), .val (.int (43 : Int32)), .val (.int rr), .val (.int mg)] [(.int (86400 : Int32)), (.int mg)])) _
      refine XS.icmpYes X7.here hx rfl (pc0 := 78) (pc' := 83) rfl (hb hby at_78) rfl (tlt hd14).1 (by decide) (by decide) ?_
      show Steps p.tables e below (T7.setTop (mkF m 83 #[.val (.int p0), .val (.int p1), .val (.int p2), .val (.int hh), .val (.int mm), .val (.int (0 : Int32)), .val (.int (43 : Int32)), .val (.int rr), .val (.int mg)] [])) _
      refine XS.iload X7.here hx rfl (hb hby at_83) rfl ?_
      show Steps p.tables e below (T7.setTop (mkF m 85 #[.val (.int p0), .val (.int p1), .val (.int p2), .val (.int hh), .val (.int mm), .val (.int (0 : Int32)), .val (.int (43 : Int32)), .val (.int rr), .val (.int mg)] [(.int mg)])) _
      refine XS.bipush X7.here hx rfl (hb hby at_85) ?_
      show Steps p.tables e below (T7.setTop (mkF m 87 #[.val (.int p0), .val (.int p1), .val (.int p2), .val (.int hh), .val (.int mm), .val (.int (0 : Int32)), .val (.int (43 : Int32)), .val (.int rr), .val (.int mg)] [(.int (60 : Int32)), (.int mg)])) _
      refine iremM X7 hx rfl (hb hby at_87) rfl (by decide) ?_
      exact kt
    have hd16 : (mg % (60 : Int32)) = (0 : Int32) := d3
    have c19 : ∀ t, Steps p.tables e below (T7.setTop (mkF m 100 #[.val (.int p0), .val (.int p1), .val (.int p2), .val (.int hh), .val (.int mm), .val (.int (0 : Int32)), .val (.int (43 : Int32)), .val (.int rr), .val (.int mg)] [(.int hh), (.int (mg / (3600 : Int32)))])) t → Steps p.tables e below (T7.setTop (mkF m 88 #[.val (.int p0), .val (.int p1), .val (.int p2), .val (.int hh), .val (.int mm), .val (.int (0 : Int32)), .val (.int (43 : Int32)), .val (.int rr), .val (.int mg)] [(.int (mg % (60 : Int32)))])) t := by
      intro t kt
      show Steps p.tables e below (T7.setTop (mkF m 88 #[.val (.int p0), .val (.int p1), .val (.int p2), .val (.int hh), .val (.int mm), .val (.int (0 : Int32)), .val (.int (43 : Int32)), .val (.int rr), .val (.int mg)] [(.int (mg % (60 : Int32)))])) _
      refine XS.ifYes X7.here hx rfl (pc0 := 88) (pc' := 93) rfl (hb hby at_88) rfl ((if0 _ _).trans (teq hd16).1) (by decide) (by decide) ?_
      show Steps p.tables e below (T7.setTop (mkF m 93 #[.val (.int p0), .val (.int p1), .val (.int p2), .val (.int hh), .val (.int mm), .val (.int (0 : Int32)), .val (.int (43 : Int32)), .val (.int rr), .val (.int mg)] [])) _
      refine XS.iload X7.here hx rfl (hb hby at_93) rfl ?_
      show Steps p.tables e below (T7.setTop (mkF m 95 #[.val (.int p0), .val (.int p1), .val (.int p2), .val (.int hh), .val (.int mm), .val (.int (0 : Int32)), .val (.int (43 : Int32)), .val (.int rr), .val (.int mg)] [(.int mg)])) _
      refine XS.sipush X7.here hx rfl (hb hby at_95) ?_
      show Steps p.tables e below (T7.setTop (mkF m 98 #[.val (.int p0), .val (.int p1), .val (.int p2), .val (.int hh), .val (.int mm), .val (.int (0 : Int32)), .val (.int (43 : Int32)), .val (.int rr), .val (.int mg)] [(.int (3600 : Int32)), (.int mg)])) _
      refine XS.idiv X7.here hx rfl (hb hby at_98) rfl (by decide) ?_
      show Steps p.tables e below (T7.setTop (mkF m 99 #[.val (.int p0), .val (.int p1), .val (.int p2), .val (.int hh), .val (.int mm), .val (.int (0 : Int32)), .val (.int (43 : Int32)), .val (.int rr), .val (.int mg)] [(.int (mg / (3600 : Int32)))])) _
      refine XS.iloadN X7.here hx rfl (hb hby at_99) rfl ?_
      exact kt
    have hd18 : (mg / (3600 : Int32)) = hh := d4
    have c21 : ∀ t, Steps p.tables e below (T7.setTop (mkF m 116 #[.val (.int p0), .val (.int p1), .val (.int p2), .val (.int hh), .val (.int mm), .val (.int (0 : Int32)), .val (.int (43 : Int32)), .val (.int rr), .val (.int mg)] [(.int mm), (.int ((mg % (3600 : Int32)) / (60 : Int32)))])) t → Steps p.tables e below (T7.setTop (mkF m 100 #[.val (.int p0), .val (.int p1), .val (.int p2), .val (.int hh), .val (.int mm), .val (.int (0 : Int32)), .val (.int (43 : Int32)), .val (.int rr), .val (.int mg)] [(.int hh), (.int (mg / (3600 : Int32)))])) t := by
      intro t kt
      show Steps p.tables e below (T7.setTop (mkF m 100 #[.val (.int p0), .val (.int p1), .val (.int p2), .val (.int hh), .val (.int mm), .val (.int (0 : Int32)), .val (.int (43 : Int32)), .val (.int rr), .val (.int mg)] [(.int hh), (.int (mg / (3600 : Int32)))])) _
      refine XS.icmpYes X7.here hx rfl (pc0 := 100) (pc' := 105) rfl (hb hby at_100) rfl (teq hd18).1 (by decide) (by decide) ?_
      show Steps p.tables e below (T7.setTop (mkF m 105 #[.val (.int p0), .val (.int p1), .val (.int p2), .val (.int hh), .val (.int mm), .val (.int (0 : Int32)), .val (.int (43 : Int32)), .val (.int rr), .val (.int mg)] [])) _
      refine XS.iload X7.here hx rfl (hb hby at_105) rfl ?_
      show Steps p.tables e below (T7.setTop (mkF m 107 #[.val (.int p0), .val (.int p1), .val (.int p2), .val (.int hh), .val (.int mm), .val (.int (0 : Int32)), .val (.int (43 : Int32)), .val (.int rr), .val (.int mg)] [(.int mg)])) _
      refine XS.sipush X7.here hx rfl (hb hby at_107) ?_
      show Steps p.tables e below (T7.setTop (mkF m 110 #[.val (.int p0), .val (.int p1), .val (.int p2), .val (.int hh), .val (.int mm), .val (.int (0 : Int32)), .val (.int (43 : Int32)), .val (.int rr), .val (.int mg)] [(.int (3600 : Int32)), (.int mg)])) _
      refine iremM X7 hx rfl (hb hby at_110) rfl (by decide) ?_
      show Steps p.tables e below (T7.setTop (mkF m 111 #[.val (.int p0), .val (.int p1), .val (.int p2), .val (.int hh), .val (.int mm), .val (.int (0 : Int32)), .val (.int (43 : Int32)), .val (.int rr), .val (.int mg)] [(.int (mg % (3600 : Int32)))])) _
      refine XS.bipush X7.here hx rfl (hb hby at_111) ?_
      show Steps p.tables e below (T7.setTop (mkF m 113 #[.val (.int p0), .val (.int p1), .val (.int p2), .val (.int hh), .val (.int mm), .val (.int (0 : Int32)), .val (.int (43 : Int32)), .val (.int rr), .val (.int mg)] [(.int (60 : Int32)), (.int (mg % (3600 : Int32)))])) _
      refine XS.idiv X7.here hx rfl (hb hby at_113) rfl (by decide) ?_
      show Steps p.tables e below (T7.setTop (mkF m 114 #[.val (.int p0), .val (.int p1), .val (.int p2), .val (.int hh), .val (.int mm), .val (.int (0 : Int32)), .val (.int (43 : Int32)), .val (.int rr), .val (.int mg)] [(.int ((mg % (3600 : Int32)) / (60 : Int32)))])) _
      refine XS.iload X7.here hx rfl (hb hby at_114) rfl ?_
      exact kt
    have hd20 : ((mg % (3600 : Int32)) / (60 : Int32)) = mm := d5
    have c23 : ∀ t, Steps p.tables e below (T7.setTop (mkF m 139 #[.val (.int p0), .val (.int p1), .val (.int p2), .val (.int hh), .val (.int mm), .val (.int (0 : Int32)), .val (.int (43 : Int32)), .val (.int rr), .val (.int mg)] [(.int rr)])) t → Steps p.tables e below (T7.setTop (mkF m 116 #[.val (.int p0), .val (.int p1), .val (.int p2), .val (.int hh), .val (.int mm), .val (.int (0 : Int32)), .val (.int (43 : Int32)), .val (.int rr), .val (.int mg)] [(.int mm), (.int ((mg % (3600 : Int32)) / (60 : Int32)))])) t := by
      intro t kt
      show Steps p.tables e below (T7.setTop (mkF m 116 #[.val (.int p0), .val (.int p1), .val (.int p2), .val (.int hh), .val (.int mm), .val (.int (0 : Int32)), .val (.int (43 : Int32)), .val (.int rr), .val (.int mg)] [(.int mm), (.int ((mg % (3600 : Int32)) / (60 : Int32)))])) _
      refine XS.icmpYes X7.here hx rfl (pc0 := 116) (pc' := 121) rfl (hb hby at_116) rfl (teq hd20).1 (by decide) (by decide) ?_
      show Steps p.tables e below (T7.setTop (mkF m 121 #[.val (.int p0), .val (.int p1), .val (.int p2), .val (.int hh), .val (.int mm), .val (.int (0 : Int32)), .val (.int (43 : Int32)), .val (.int rr), .val (.int mg)] [])) _
      refine XS.iload X7.here hx rfl (hb hby at_121) rfl ?_
      show Steps p.tables e below (T7.setTop (mkF m 123 #[.val (.int p0), .val (.int p1), .val (.int p2), .val (.int hh), .val (.int mm), .val (.int (0 : Int32)), .val (.int (43 : Int32)), .val (.int rr), .val (.int mg)] [(.int (0 : Int32))])) _
      refine XS.ifYes X7.here hx rfl (pc0 := 123) (pc' := 137) rfl (hb hby at_123) rfl ((if0 _ _).trans (teq (by decide : (0 : Int32) = (0 : Int32))).1) (by decide) (by decide) ?_
      show Steps p.tables e below (T7.setTop (mkF m 137 #[.val (.int p0), .val (.int p1), .val (.int p2), .val (.int hh), .val (.int mm), .val (.int (0 : Int32)), .val (.int (43 : Int32)), .val (.int rr), .val (.int mg)] [])) _
      refine XS.iload X7.here hx rfl (hb hby at_137) rfl ?_
      exact kt
    have hd22 : ¬ (rr < (0 : Int32)) := by rw [Int32.lt_iff_toInt_lt]; simp only [Int32.reduceToInt]; omega
    have c24 : ∀ t, Steps p.tables e below (T7.setTop (mkF m 147 #[.val (.int p0), .val (.int p1), .val (.int p2), .val (.int hh), .val (.int mm), .val (.int (0 : Int32)), .val (.int (43 : Int32)), .val (.int rr), .val (.int mg)] [(.int (1 : Int32))])) t → Steps p.tables e below (T7.setTop (mkF m 139 #[.val (.int p0), .val (.int p1), .val (.int p2), .val (.int hh), .val (.int mm), .val (.int (0 : Int32)), .val (.int (43 : Int32)), .val (.int rr), .val (.int mg)] [(.int rr)])) t := by
      intro t kt
      show Steps p.tables e below (T7.setTop (mkF m 139 #[.val (.int p0), .val (.int p1), .val (.int p2), .val (.int hh), .val (.int mm), .val (.int (0 : Int32)), .val (.int (43 : Int32)), .val (.int rr), .val (.int mg)] [(.int rr)])) _
      refine XS.ifNo X7.here hx rfl (hb hby at_139) rfl ((if0 _ _).trans (flt hd22).1) ?_
      show Steps p.tables e below (T7.setTop (mkF m 142 #[.val (.int p0), .val (.int p1), .val (.int p2), .val (.int hh), .val (.int mm), .val (.int (0 : Int32)), .val (.int (43 : Int32)), .val (.int rr), .val (.int mg)] [])) _
      refine XS.iconst X7.here hx rfl (hb hby at_142) ?_
      show Steps p.tables e below (T7.setTop (mkF m 143 #[.val (.int p0), .val (.int p1), .val (.int p2), .val (.int hh), .val (.int mm), .val (.int (0 : Int32)), .val (.int (43 : Int32)), .val (.int rr), .val (.int mg)] [(.int (1 : Int32))])) _
      refine XS.goto X7.here hx rfl (pc0 := 143) (pc' := 147) rfl (hb hby at_143) (by decide) (by decide) ?_
      exact kt
    obtain ⟨fs, hr, hrun, hended, hW, hsame⟩ := X7.leave (v := some (.int (1 : Int32))) (fun h => by rw [Bd.returns] at h; cases h)
    refine ⟨_, _, pre0 _ (c1 _ (c2 _ (c3 _ (c4 _ (c5 _ (c6 _ (st7 _ (c8 _ (c9 _ (c10 _ (c11 _ (c13 _ (c15 _ (c17 _ (c19 _ (c21 _ (c23 _ (c24 _ (?_))))))))))))))))))), hrun, hended, _, _, rfl, ?_, ⟨_, rfl⟩, hW, hsame.mono (by decide) (by decide)⟩
    · show Steps p.tables e below (T7.setTop (mkF m 147 #[.val (.int p0), .val (.int p1), .val (.int p2), .val (.int hh), .val (.int mm), .val (.int (0 : Int32)), .val (.int (43 : Int32)), .val (.int rr), .val (.int mg)] [(.int (1 : Int32))])) _
      exact retN X7 hx (t := .boolean) Bd.returns (by simp) (hb hby at_147) hr
    · show Q0 Z p0 p1 p2 h0 n0 _ T7.heap _
      rw [e7]
      exact ⟨congrArg (fun z => some (Value.int z)) (show (1 : Int32) = (1 : Int32) from by rfl), N7⟩
  · -- it isn't
    have c26 : ∀ t, Steps p.tables e below (s₁.setTop (mkF m 49 #[.val (.int p0), .val (.int p1), .val (.int p2), .val (.int hh), .val (.int mm), .val (.int (1 : Int32)), .val (.int (45 : Int32)), .unset, .unset] [(.int mm), (.int hh), (.int (45 : Int32))])) t → Steps p.tables e below (s₁.setTop (mkF m 20 #[.val (.int p0), .val (.int p1), .val (.int p2), .val (.int hh), .val (.int mm), .unset, .unset, .unset, .unset] [(.int (p2 &&& (1 : Int32)))])) t := by
      intro t kt
      show Steps p.tables e below (s₁.setTop (mkF m 20 #[.val (.int p0), .val (.int p1), .val (.int p2), .val (.int hh), .val (.int mm), .unset, .unset, .unset, .unset] [(.int (p2 &&& (1 : Int32)))])) _
      refine XS.ifNo X0.here hx rfl (hb hby at_20) rfl ((if0 _ _).trans (feq hc20).1) ?_
      show Steps p.tables e below (s₁.setTop (mkF m 23 #[.val (.int p0), .val (.int p1), .val (.int p2), .val (.int hh), .val (.int mm), .unset, .unset, .unset, .unset] [])) _
      refine XS.iconst X0.here hx rfl (hb hby at_23) ?_
      show Steps p.tables e below (s₁.setTop (mkF m 24 #[.val (.int p0), .val (.int p1), .val (.int p2), .val (.int hh), .val (.int mm), .unset, .unset, .unset, .unset] [(.int (1 : Int32))])) _
      refine XS.goto X0.here hx rfl (pc0 := 24) (pc' := 28) rfl (hb hby at_24) (by decide) (by decide) ?_
      show Steps p.tables e below (s₁.setTop (mkF m 28 #[.val (.int p0), .val (.int p1), .val (.int p2), .val (.int hh), .val (.int mm), .unset, .unset, .unset, .unset] [(.int (1 : Int32))])) _
      refine XS.istore X0.here hx rfl (hb hby at_28) rfl (l' := #[.val (.int p0), .val (.int p1), .val (.int p2), .val (.int hh), .val (.int mm), .val (.int (1 : Int32)), .unset, .unset, .unset]) rfl ?_
      show Steps p.tables e below (s₁.setTop (mkF m 30 #[.val (.int p0), .val (.int p1), .val (.int p2), .val (.int hh), .val (.int mm), .val (.int (1 : Int32)), .unset, .unset, .unset] [])) _
      refine XS.iload X0.here hx rfl (hb hby at_30) rfl ?_
      show Steps p.tables e below (s₁.setTop (mkF m 32 #[.val (.int p0), .val (.int p1), .val (.int p2), .val (.int hh), .val (.int mm), .val (.int (1 : Int32)), .unset, .unset, .unset] [(.int (1 : Int32))])) _
      refine XS.ifNo X0.here hx rfl (hb hby at_32) rfl ((if0 _ _).trans (feq (by decide : ¬ ((1 : Int32) = (0 : Int32)))).1) ?_
      show Steps p.tables e below (s₁.setTop (mkF m 35 #[.val (.int p0), .val (.int p1), .val (.int p2), .val (.int hh), .val (.int mm), .val (.int (1 : Int32)), .unset, .unset, .unset] [])) _
      refine XS.bipush X0.here hx rfl (hb hby at_35) ?_
      show Steps p.tables e below (s₁.setTop (mkF m 37 #[.val (.int p0), .val (.int p1), .val (.int p2), .val (.int hh), .val (.int mm), .val (.int (1 : Int32)), .unset, .unset, .unset] [(.int (45 : Int32))])) _
      refine XS.goto X0.here hx rfl (pc0 := 37) (pc' := 42) rfl (hb hby at_37) (by decide) (by decide) ?_
      show Steps p.tables e below (s₁.setTop (mkF m 42 #[.val (.int p0), .val (.int p1), .val (.int p2), .val (.int hh), .val (.int mm), .val (.int (1 : Int32)), .unset, .unset, .unset] [(.int (45 : Int32))])) _
      refine XS.istore X0.here hx rfl (hb hby at_42) rfl (l' := #[.val (.int p0), .val (.int p1), .val (.int p2), .val (.int hh), .val (.int mm), .val (.int (1 : Int32)), .val (.int (45 : Int32)), .unset, .unset]) rfl ?_
      show Steps p.tables e below (s₁.setTop (mkF m 44 #[.val (.int p0), .val (.int p1), .val (.int p2), .val (.int hh), .val (.int mm), .val (.int (1 : Int32)), .val (.int (45 : Int32)), .unset, .unset] [])) _
      refine XS.iload X0.here hx rfl (hb hby at_44) rfl ?_
      show Steps p.tables e below (s₁.setTop (mkF m 46 #[.val (.int p0), .val (.int p1), .val (.int p2), .val (.int hh), .val (.int mm), .val (.int (1 : Int32)), .val (.int (45 : Int32)), .unset, .unset] [(.int (45 : Int32))])) _
      refine XS.iloadN X0.here hx rfl (hb hby at_46) rfl ?_
      show Steps p.tables e below (s₁.setTop (mkF m 47 #[.val (.int p0), .val (.int p1), .val (.int p2), .val (.int hh), .val (.int mm), .val (.int (1 : Int32)), .val (.int (45 : Int32)), .unset, .unset] [(.int hh), (.int (45 : Int32))])) _
      refine XS.iload X0.here hx rfl (hb hby at_47) rfl ?_
      exact kt
    obtain ⟨_, _, ⟨T27, L27, k27, n27⟩, -, X27, ⟨Lc27, hQ27, l27, y27, z27⟩, st27⟩ := Jvm.LawKit.callS X0 hx (y := (⟨"com/example/millrace/millrace/model/DateTimeText", "offset", "(CII)I"⟩ : MethodName)) hown (mvT hZ (hw _ (List.mem_of_getElem? (i := 1) rfl))) (mvT hZ (hw _ (List.mem_of_getElem? (i := 2) rfl))) (mvT hZ (hw _ (List.mem_of_getElem? (i := 3) rfl))) (mvT hZ (hw _ (List.mem_of_getElem? (i := 4) rfl))) (by decide) (backOf (W := 0) (rm1 l Z a0 hw [] (45 : Int32) hh mm  h0 n0 Z0 (by rw [Int32.lt_iff_toInt_lt]; simp only [Int32.reduceToInt]; omega) (by rw [Int32.lt_iff_toInt_lt]; simp only [Int32.reduceToInt]; omega)) hZ (hw _ (List.mem_of_getElem? (i := 4) rfl)) (hw _ (List.mem_of_getElem? (i := 3) rfl)) (by decide) (by decide)) (g := (mkF m 49 #[.val (.int p0), .val (.int p1), .val (.int p2), .val (.int hh), .val (.int mm), .val (.int (1 : Int32)), .val (.int (45 : Int32)), .unset, .unset] [(.int mm), (.int hh), (.int (45 : Int32))])) rfl (by rw [hml]; rfl) (argsL := [(.int (45 : Int32)), (.int hh), (.int mm)]) (rest := []) (lenOf pd_0 rfl) rfl (by show 2 * 0 + _ ≤ _; exact Nat.le_of_eq rfl) (hb hby at_49) (fun _ _ => ⟨rfl, e0, (by decide : 0 + 0 ≤ _), (by decide : 0 + 0 ≤ _)⟩)
    dsimp only [Pt.U, Pt.locs, Pt.cells, Pt.slots] at X27 l27 y27 z27 st27 hQ27
    subst l27 y27 z27
    obtain ⟨rfl, N27q, e27⟩ := hQ27
    have N27 := Fr.app N0 N27q
    have c28 : ∀ t, Steps p.tables e below (T27.setTop (mkF m 54 #[.val (.int p0), .val (.int p1), .val (.int p2), .val (.int hh), .val (.int mm), .val (.int (1 : Int32)), .val (.int (45 : Int32)), .val (.int (own_off (45 : Int32) hh mm)), .unset] [])) t → Steps p.tables e below (T27.setTop (mkF m 52 #[.val (.int p0), .val (.int p1), .val (.int p2), .val (.int hh), .val (.int mm), .val (.int (1 : Int32)), .val (.int (45 : Int32)), .unset, .unset] [(.int (own_off (45 : Int32) hh mm))])) t := by
      intro t kt
      show Steps p.tables e below (T27.setTop (mkF m 52 #[.val (.int p0), .val (.int p1), .val (.int p2), .val (.int hh), .val (.int mm), .val (.int (1 : Int32)), .val (.int (45 : Int32)), .unset, .unset] [(.int (own_off (45 : Int32) hh mm))])) _
      refine XS.istore X27.here hx rfl (hb hby at_52) rfl (l' := #[.val (.int p0), .val (.int p1), .val (.int p2), .val (.int hh), .val (.int mm), .val (.int (1 : Int32)), .val (.int (45 : Int32)), .val (.int (own_off (45 : Int32) hh mm)), .unset]) rfl ?_
      exact kt
    obtain ⟨rr, hrr⟩ : ∃ z, z = (own_off (45 : Int32) hh mm) := ⟨_, rfl⟩
    have c29 : ∀ t, Steps p.tables e below (T27.setTop (mkF m 54 #[.val (.int p0), .val (.int p1), .val (.int p2), .val (.int hh), .val (.int mm), .val (.int (1 : Int32)), .val (.int (45 : Int32)), .val (.int rr), .unset] [])) t → Steps p.tables e below (T27.setTop (mkF m 54 #[.val (.int p0), .val (.int p1), .val (.int p2), .val (.int hh), .val (.int mm), .val (.int (1 : Int32)), .val (.int (45 : Int32)), .val (.int (own_off (45 : Int32) hh mm)), .unset] [])) t := fun t kt => by rw [hrr] at kt; exact kt
    have kr : rr.toInt = -(hh.toInt * 3600 + mm.toInt * 60) := by rw [hrr]; exact own_neg hh mm kh0 kh1 km0 km1
    have c30 : ∀ t, Steps p.tables e below (T27.setTop (mkF m 69 #[.val (.int p0), .val (.int p1), .val (.int p2), .val (.int hh), .val (.int mm), .val (.int (1 : Int32)), .val (.int (45 : Int32)), .val (.int rr), .val (.int (-rr))] [])) t → Steps p.tables e below (T27.setTop (mkF m 54 #[.val (.int p0), .val (.int p1), .val (.int p2), .val (.int hh), .val (.int mm), .val (.int (1 : Int32)), .val (.int (45 : Int32)), .val (.int rr), .unset] [])) t := by
      intro t kt
      show Steps p.tables e below (T27.setTop (mkF m 54 #[.val (.int p0), .val (.int p1), .val (.int p2), .val (.int hh), .val (.int mm), .val (.int (1 : Int32)), .val (.int (45 : Int32)), .val (.int rr), .unset] [])) _
      refine XS.iload X27.here hx rfl (hb hby at_54) rfl ?_
      show Steps p.tables e below (T27.setTop (mkF m 56 #[.val (.int p0), .val (.int p1), .val (.int p2), .val (.int hh), .val (.int mm), .val (.int (1 : Int32)), .val (.int (45 : Int32)), .val (.int rr), .unset] [(.int (1 : Int32))])) _
      refine XS.ifNo X27.here hx rfl (hb hby at_56) rfl ((if0 _ _).trans (feq (by decide : ¬ ((1 : Int32) = (0 : Int32)))).1) ?_
      show Steps p.tables e below (T27.setTop (mkF m 59 #[.val (.int p0), .val (.int p1), .val (.int p2), .val (.int hh), .val (.int mm), .val (.int (1 : Int32)), .val (.int (45 : Int32)), .val (.int rr), .unset] [])) _
      refine XS.iload X27.here hx rfl (hb hby at_59) rfl ?_
      show Steps p.tables e below (T27.setTop (mkF m 61 #[.val (.int p0), .val (.int p1), .val (.int p2), .val (.int hh), .val (.int mm), .val (.int (1 : Int32)), .val (.int (45 : Int32)), .val (.int rr), .unset] [(.int rr)])) _
      refine XS.ineg X27.here hx rfl (hb hby at_61) rfl ?_
      show Steps p.tables e below (T27.setTop (mkF m 62 #[.val (.int p0), .val (.int p1), .val (.int p2), .val (.int hh), .val (.int mm), .val (.int (1 : Int32)), .val (.int (45 : Int32)), .val (.int rr), .unset] [(.int (-rr))])) _
      refine XS.goto X27.here hx rfl (pc0 := 62) (pc' := 67) rfl (hb hby at_62) (by decide) (by decide) ?_
      show Steps p.tables e below (T27.setTop (mkF m 67 #[.val (.int p0), .val (.int p1), .val (.int p2), .val (.int hh), .val (.int mm), .val (.int (1 : Int32)), .val (.int (45 : Int32)), .val (.int rr), .unset] [(.int (-rr))])) _
      refine XS.istore X27.here hx rfl (hb hby at_67) rfl (l' := #[.val (.int p0), .val (.int p1), .val (.int p2), .val (.int hh), .val (.int mm), .val (.int (1 : Int32)), .val (.int (45 : Int32)), .val (.int rr), .val (.int (-rr))]) rfl ?_
      exact kt
    obtain ⟨mg, hmg⟩ : ∃ z, z = (-rr) := ⟨_, rfl⟩
    have c31 : ∀ t, Steps p.tables e below (T27.setTop (mkF m 69 #[.val (.int p0), .val (.int p1), .val (.int p2), .val (.int hh), .val (.int mm), .val (.int (1 : Int32)), .val (.int (45 : Int32)), .val (.int rr), .val (.int mg)] [])) t → Steps p.tables e below (T27.setTop (mkF m 69 #[.val (.int p0), .val (.int p1), .val (.int p2), .val (.int hh), .val (.int mm), .val (.int (1 : Int32)), .val (.int (45 : Int32)), .val (.int rr), .val (.int (-rr))] [])) t := fun t kt => by rw [hmg] at kt; exact kt
    have kg : mg.toInt = hh.toInt * 3600 + mm.toInt * 60 := by rw [hmg]; exact own_negr rr _ kr (by omega) (by omega)
    obtain ⟨d1, d2, d3, d4, d5⟩ := own_mag mg hh mm kg kh0 kh1 km0 km1
    have c33 : ∀ t, Steps p.tables e below (T27.setTop (mkF m 71 #[.val (.int p0), .val (.int p1), .val (.int p2), .val (.int hh), .val (.int mm), .val (.int (1 : Int32)), .val (.int (45 : Int32)), .val (.int rr), .val (.int mg)] [(.int mg)])) t → Steps p.tables e below (T27.setTop (mkF m 69 #[.val (.int p0), .val (.int p1), .val (.int p2), .val (.int hh), .val (.int mm), .val (.int (1 : Int32)), .val (.int (45 : Int32)), .val (.int rr), .val (.int mg)] [])) t := by
      intro t kt
      show Steps p.tables e below (T27.setTop (mkF m 69 #[.val (.int p0), .val (.int p1), .val (.int p2), .val (.int hh), .val (.int mm), .val (.int (1 : Int32)), .val (.int (45 : Int32)), .val (.int rr), .val (.int mg)] [])) _
      refine XS.iload X27.here hx rfl (hb hby at_69) rfl ?_
      exact kt
    have hd32 : ¬ (mg < (0 : Int32)) := d1
    have c35 : ∀ t, Steps p.tables e below (T27.setTop (mkF m 78 #[.val (.int p0), .val (.int p1), .val (.int p2), .val (.int hh), .val (.int mm), .val (.int (1 : Int32)), .val (.int (45 : Int32)), .val (.int rr), .val (.int mg)] [(.int (86400 : Int32)), (.int mg)])) t → Steps p.tables e below (T27.setTop (mkF m 71 #[.val (.int p0), .val (.int p1), .val (.int p2), .val (.int hh), .val (.int mm), .val (.int (1 : Int32)), .val (.int (45 : Int32)), .val (.int rr), .val (.int mg)] [(.int mg)])) t := by
      intro t kt
      show Steps p.tables e below (T27.setTop (mkF m 71 #[.val (.int p0), .val (.int p1), .val (.int p2), .val (.int hh), .val (.int mm), .val (.int (1 : Int32)), .val (.int (45 : Int32)), .val (.int rr), .val (.int mg)] [(.int mg)])) _
      refine XS.ifNo X27.here hx rfl (hb hby at_71) rfl ((if0 _ _).trans (flt hd32).1) ?_
      show Steps p.tables e below (T27.setTop (mkF m 74 #[.val (.int p0), .val (.int p1), .val (.int p2), .val (.int hh), .val (.int mm), .val (.int (1 : Int32)), .val (.int (45 : Int32)), .val (.int rr), .val (.int mg)] [])) _
      refine XS.iload X27.here hx rfl (hb hby at_74) rfl ?_
      show Steps p.tables e below (T27.setTop (mkF m 76 #[.val (.int p0), .val (.int p1), .val (.int p2), .val (.int hh), .val (.int mm), .val (.int (1 : Int32)), .val (.int (45 : Int32)), .val (.int rr), .val (.int mg)] [(.int mg)])) _
      refine X27.ldcInt hx hown (mvT hZ (hw _ (List.mem_of_getElem? (i := 5) rfl))) (g := (mkF m 76 #[.val (.int p0), .val (.int p1), .val (.int p2), .val (.int hh), .val (.int mm), .val (.int (1 : Int32)), .val (.int (45 : Int32)), .val (.int rr), .val (.int mg)] [(.int mg)])) rfl (hb hby at_76) _ ?_
      exact kt
    have hd34 : mg < (86400 : Int32) := d2
    have c37 : ∀ t, Steps p.tables e below (T27.setTop (mkF m 88 #[.val (.int p0), .val (.int p1), .val (.int p2), .val (.int hh), .val (.int mm), .val (.int (1 : Int32)), .val (.int (45 : Int32)), .val (.int rr), .val (.int mg)] [(.int (mg % (60 : Int32)))])) t → Steps p.tables e below (T27.setTop (mkF m 78 #[.val (.int p0), .val (.int p1), .val (.int p2), .val (.int hh), .val (.int mm), .val (.int (1 : Int32)), .val (.int (45 : Int32)), .val (.int rr), .val (.int mg)] [(.int (86400 : Int32)), (.int mg)])) t := by
      intro t kt
      show Steps p.tables e below (T27.setTop (mkF m 78 #[.val (.int p0), .val (.int p1), .val (.int p2), .val (.int hh), .val (.int mm), .val (.int (1 : Int32)), .val (.int (45 : Int32)), .val (.int rr), .val (.int mg)] [(.int (86400 : Int32)), (.int mg)])) _
      refine XS.icmpYes X27.here hx rfl (pc0 := 78) (pc' := 83) rfl (hb hby at_78) rfl (tlt hd34).1 (by decide) (by decide) ?_
      show Steps p.tables e below (T27.setTop (mkF m 83 #[.val (.int p0), .val (.int p1), .val (.int p2), .val (.int hh), .val (.int mm), .val (.int (1 : Int32)), .val (.int (45 : Int32)), .val (.int rr), .val (.int mg)] [])) _
      refine XS.iload X27.here hx rfl (hb hby at_83) rfl ?_
      show Steps p.tables e below (T27.setTop (mkF m 85 #[.val (.int p0), .val (.int p1), .val (.int p2), .val (.int hh), .val (.int mm), .val (.int (1 : Int32)), .val (.int (45 : Int32)), .val (.int rr), .val (.int mg)] [(.int mg)])) _
      refine XS.bipush X27.here hx rfl (hb hby at_85) ?_
      show Steps p.tables e below (T27.setTop (mkF m 87 #[.val (.int p0), .val (.int p1), .val (.int p2), .val (.int hh), .val (.int mm), .val (.int (1 : Int32)), .val (.int (45 : Int32)), .val (.int rr), .val (.int mg)] [(.int (60 : Int32)), (.int mg)])) _
      refine iremM X27 hx rfl (hb hby at_87) rfl (by decide) ?_
      exact kt
    have hd36 : (mg % (60 : Int32)) = (0 : Int32) := d3
    have c39 : ∀ t, Steps p.tables e below (T27.setTop (mkF m 100 #[.val (.int p0), .val (.int p1), .val (.int p2), .val (.int hh), .val (.int mm), .val (.int (1 : Int32)), .val (.int (45 : Int32)), .val (.int rr), .val (.int mg)] [(.int hh), (.int (mg / (3600 : Int32)))])) t → Steps p.tables e below (T27.setTop (mkF m 88 #[.val (.int p0), .val (.int p1), .val (.int p2), .val (.int hh), .val (.int mm), .val (.int (1 : Int32)), .val (.int (45 : Int32)), .val (.int rr), .val (.int mg)] [(.int (mg % (60 : Int32)))])) t := by
      intro t kt
      show Steps p.tables e below (T27.setTop (mkF m 88 #[.val (.int p0), .val (.int p1), .val (.int p2), .val (.int hh), .val (.int mm), .val (.int (1 : Int32)), .val (.int (45 : Int32)), .val (.int rr), .val (.int mg)] [(.int (mg % (60 : Int32)))])) _
      refine XS.ifYes X27.here hx rfl (pc0 := 88) (pc' := 93) rfl (hb hby at_88) rfl ((if0 _ _).trans (teq hd36).1) (by decide) (by decide) ?_
      show Steps p.tables e below (T27.setTop (mkF m 93 #[.val (.int p0), .val (.int p1), .val (.int p2), .val (.int hh), .val (.int mm), .val (.int (1 : Int32)), .val (.int (45 : Int32)), .val (.int rr), .val (.int mg)] [])) _
      refine XS.iload X27.here hx rfl (hb hby at_93) rfl ?_
      show Steps p.tables e below (T27.setTop (mkF m 95 #[.val (.int p0), .val (.int p1), .val (.int p2), .val (.int hh), .val (.int mm), .val (.int (1 : Int32)), .val (.int (45 : Int32)), .val (.int rr), .val (.int mg)] [(.int mg)])) _
      refine XS.sipush X27.here hx rfl (hb hby at_95) ?_
      show Steps p.tables e below (T27.setTop (mkF m 98 #[.val (.int p0), .val (.int p1), .val (.int p2), .val (.int hh), .val (.int mm), .val (.int (1 : Int32)), .val (.int (45 : Int32)), .val (.int rr), .val (.int mg)] [(.int (3600 : Int32)), (.int mg)])) _
      refine XS.idiv X27.here hx rfl (hb hby at_98) rfl (by decide) ?_
      show Steps p.tables e below (T27.setTop (mkF m 99 #[.val (.int p0), .val (.int p1), .val (.int p2), .val (.int hh), .val (.int mm), .val (.int (1 : Int32)), .val (.int (45 : Int32)), .val (.int rr), .val (.int mg)] [(.int (mg / (3600 : Int32)))])) _
      refine XS.iloadN X27.here hx rfl (hb hby at_99) rfl ?_
      exact kt
    have hd38 : (mg / (3600 : Int32)) = hh := d4
    have c41 : ∀ t, Steps p.tables e below (T27.setTop (mkF m 116 #[.val (.int p0), .val (.int p1), .val (.int p2), .val (.int hh), .val (.int mm), .val (.int (1 : Int32)), .val (.int (45 : Int32)), .val (.int rr), .val (.int mg)] [(.int mm), (.int ((mg % (3600 : Int32)) / (60 : Int32)))])) t → Steps p.tables e below (T27.setTop (mkF m 100 #[.val (.int p0), .val (.int p1), .val (.int p2), .val (.int hh), .val (.int mm), .val (.int (1 : Int32)), .val (.int (45 : Int32)), .val (.int rr), .val (.int mg)] [(.int hh), (.int (mg / (3600 : Int32)))])) t := by
      intro t kt
      show Steps p.tables e below (T27.setTop (mkF m 100 #[.val (.int p0), .val (.int p1), .val (.int p2), .val (.int hh), .val (.int mm), .val (.int (1 : Int32)), .val (.int (45 : Int32)), .val (.int rr), .val (.int mg)] [(.int hh), (.int (mg / (3600 : Int32)))])) _
      refine XS.icmpYes X27.here hx rfl (pc0 := 100) (pc' := 105) rfl (hb hby at_100) rfl (teq hd38).1 (by decide) (by decide) ?_
      show Steps p.tables e below (T27.setTop (mkF m 105 #[.val (.int p0), .val (.int p1), .val (.int p2), .val (.int hh), .val (.int mm), .val (.int (1 : Int32)), .val (.int (45 : Int32)), .val (.int rr), .val (.int mg)] [])) _
      refine XS.iload X27.here hx rfl (hb hby at_105) rfl ?_
      show Steps p.tables e below (T27.setTop (mkF m 107 #[.val (.int p0), .val (.int p1), .val (.int p2), .val (.int hh), .val (.int mm), .val (.int (1 : Int32)), .val (.int (45 : Int32)), .val (.int rr), .val (.int mg)] [(.int mg)])) _
      refine XS.sipush X27.here hx rfl (hb hby at_107) ?_
      show Steps p.tables e below (T27.setTop (mkF m 110 #[.val (.int p0), .val (.int p1), .val (.int p2), .val (.int hh), .val (.int mm), .val (.int (1 : Int32)), .val (.int (45 : Int32)), .val (.int rr), .val (.int mg)] [(.int (3600 : Int32)), (.int mg)])) _
      refine iremM X27 hx rfl (hb hby at_110) rfl (by decide) ?_
      show Steps p.tables e below (T27.setTop (mkF m 111 #[.val (.int p0), .val (.int p1), .val (.int p2), .val (.int hh), .val (.int mm), .val (.int (1 : Int32)), .val (.int (45 : Int32)), .val (.int rr), .val (.int mg)] [(.int (mg % (3600 : Int32)))])) _
      refine XS.bipush X27.here hx rfl (hb hby at_111) ?_
      show Steps p.tables e below (T27.setTop (mkF m 113 #[.val (.int p0), .val (.int p1), .val (.int p2), .val (.int hh), .val (.int mm), .val (.int (1 : Int32)), .val (.int (45 : Int32)), .val (.int rr), .val (.int mg)] [(.int (60 : Int32)), (.int (mg % (3600 : Int32)))])) _
      refine XS.idiv X27.here hx rfl (hb hby at_113) rfl (by decide) ?_
      show Steps p.tables e below (T27.setTop (mkF m 114 #[.val (.int p0), .val (.int p1), .val (.int p2), .val (.int hh), .val (.int mm), .val (.int (1 : Int32)), .val (.int (45 : Int32)), .val (.int rr), .val (.int mg)] [(.int ((mg % (3600 : Int32)) / (60 : Int32)))])) _
      refine XS.iload X27.here hx rfl (hb hby at_114) rfl ?_
      exact kt
    have hd40 : ((mg % (3600 : Int32)) / (60 : Int32)) = mm := d5
    have c43 : ∀ t, Steps p.tables e below (T27.setTop (mkF m 128 #[.val (.int p0), .val (.int p1), .val (.int p2), .val (.int hh), .val (.int mm), .val (.int (1 : Int32)), .val (.int (45 : Int32)), .val (.int rr), .val (.int mg)] [(.int rr)])) t → Steps p.tables e below (T27.setTop (mkF m 116 #[.val (.int p0), .val (.int p1), .val (.int p2), .val (.int hh), .val (.int mm), .val (.int (1 : Int32)), .val (.int (45 : Int32)), .val (.int rr), .val (.int mg)] [(.int mm), (.int ((mg % (3600 : Int32)) / (60 : Int32)))])) t := by
      intro t kt
      show Steps p.tables e below (T27.setTop (mkF m 116 #[.val (.int p0), .val (.int p1), .val (.int p2), .val (.int hh), .val (.int mm), .val (.int (1 : Int32)), .val (.int (45 : Int32)), .val (.int rr), .val (.int mg)] [(.int mm), (.int ((mg % (3600 : Int32)) / (60 : Int32)))])) _
      refine XS.icmpYes X27.here hx rfl (pc0 := 116) (pc' := 121) rfl (hb hby at_116) rfl (teq hd40).1 (by decide) (by decide) ?_
      show Steps p.tables e below (T27.setTop (mkF m 121 #[.val (.int p0), .val (.int p1), .val (.int p2), .val (.int hh), .val (.int mm), .val (.int (1 : Int32)), .val (.int (45 : Int32)), .val (.int rr), .val (.int mg)] [])) _
      refine XS.iload X27.here hx rfl (hb hby at_121) rfl ?_
      show Steps p.tables e below (T27.setTop (mkF m 123 #[.val (.int p0), .val (.int p1), .val (.int p2), .val (.int hh), .val (.int mm), .val (.int (1 : Int32)), .val (.int (45 : Int32)), .val (.int rr), .val (.int mg)] [(.int (1 : Int32))])) _
      refine XS.ifNo X27.here hx rfl (hb hby at_123) rfl ((if0 _ _).trans (feq (by decide : ¬ ((1 : Int32) = (0 : Int32)))).1) ?_
      show Steps p.tables e below (T27.setTop (mkF m 126 #[.val (.int p0), .val (.int p1), .val (.int p2), .val (.int hh), .val (.int mm), .val (.int (1 : Int32)), .val (.int (45 : Int32)), .val (.int rr), .val (.int mg)] [])) _
      refine XS.iload X27.here hx rfl (hb hby at_126) rfl ?_
      exact kt
    have hd42 : ¬ ((0 : Int32) < rr) := by rw [Int32.lt_iff_toInt_lt]; simp only [Int32.reduceToInt]; omega
    have c44 : ∀ t, Steps p.tables e below (T27.setTop (mkF m 136 #[.val (.int p0), .val (.int p1), .val (.int p2), .val (.int hh), .val (.int mm), .val (.int (1 : Int32)), .val (.int (45 : Int32)), .val (.int rr), .val (.int mg)] [(.int (1 : Int32))])) t → Steps p.tables e below (T27.setTop (mkF m 128 #[.val (.int p0), .val (.int p1), .val (.int p2), .val (.int hh), .val (.int mm), .val (.int (1 : Int32)), .val (.int (45 : Int32)), .val (.int rr), .val (.int mg)] [(.int rr)])) t := by
      intro t kt
      show Steps p.tables e below (T27.setTop (mkF m 128 #[.val (.int p0), .val (.int p1), .val (.int p2), .val (.int hh), .val (.int mm), .val (.int (1 : Int32)), .val (.int (45 : Int32)), .val (.int rr), .val (.int mg)] [(.int rr)])) _
      refine XS.ifNo X27.here hx rfl (hb hby at_128) rfl ((if0 _ _).trans (flt hd42).2.2.1) ?_
      show Steps p.tables e below (T27.setTop (mkF m 131 #[.val (.int p0), .val (.int p1), .val (.int p2), .val (.int hh), .val (.int mm), .val (.int (1 : Int32)), .val (.int (45 : Int32)), .val (.int rr), .val (.int mg)] [])) _
      refine XS.iconst X27.here hx rfl (hb hby at_131) ?_
      show Steps p.tables e below (T27.setTop (mkF m 132 #[.val (.int p0), .val (.int p1), .val (.int p2), .val (.int hh), .val (.int mm), .val (.int (1 : Int32)), .val (.int (45 : Int32)), .val (.int rr), .val (.int mg)] [(.int (1 : Int32))])) _
      refine XS.goto X27.here hx rfl (pc0 := 132) (pc' := 136) rfl (hb hby at_132) (by decide) (by decide) ?_
      exact kt
    obtain ⟨fs, hr, hrun, hended, hW, hsame⟩ := X27.leave (v := some (.int (1 : Int32))) (fun h => by rw [Bd.returns] at h; cases h)
    refine ⟨_, _, pre0 _ (c1 _ (c2 _ (c3 _ (c4 _ (c5 _ (c26 _ (st27 _ (c28 _ (c29 _ (c30 _ (c31 _ (c33 _ (c35 _ (c37 _ (c39 _ (c41 _ (c43 _ (c44 _ (?_))))))))))))))))))), hrun, hended, _, _, rfl, ?_, ⟨_, rfl⟩, hW, hsame.mono (by decide) (by decide)⟩
    · show Steps p.tables e below (T27.setTop (mkF m 136 #[.val (.int p0), .val (.int p1), .val (.int p2), .val (.int hh), .val (.int mm), .val (.int (1 : Int32)), .val (.int (45 : Int32)), .val (.int rr), .val (.int mg)] [(.int (1 : Int32))])) _
      exact retN X27 hx (t := .boolean) Bd.returns (by simp) (hb hby at_136) hr
    · show Q0 Z p0 p1 p2 h0 n0 _ T27.heap _
      rw [e27]
      exact ⟨congrArg (fun z => some (Value.int z)) (show (1 : Int32) = (1 : Int32) from by rfl), N27⟩
set_option maxRecDepth 65536 in
set_option maxHeartbeats 40000000 in
theorem comes_1 {Post : Tables → Env → Array Value → State → Outcome → State → Prop} (hpost : ∀ tb e args s v u, (limb_1_1.after args s (.returned v) u = true ∧ limb_1_2.after args s (.returned v) u = true ∧ True) → FrameEnd s (.returned v) u (Jvm.fieldLocs frame_1_writes args s ++ Jvm.arrayLocs frame_1_arrays args s ++ Jvm.staticLocs frame_1_statics s) 0 0 → Post tb e args s (.returned v) u) :
    ArmFor flags0 classFile x code maxLocals ret World_1 tables_1 room_1 Calls_1 rest_1 Pre_1 Post := by
  intro l hfl _ _ p e ha hc hk s m args below hf hA hF happ hP
  obtain ⟨hcalls, hrest, hpre⟩ := hP
  obtain ⟨-, -, -, hnamed, -, -, -, hat⟩ := (Spec.applies_iff hf).mp happ
  obtain ⟨hg, hn⟩ := and_e (Cond.before_iff.mp (show (Jvm.Cond.and given_1 narrow_1).before args s = true from hpre))
  obtain ⟨g1, g2⟩ := and_e hg
  obtain ⟨g3, g4⟩ := and_e g2
  obtain ⟨g5, g6⟩ := and_e g4
  obtain ⟨w0, w1, w2, rfl⟩ : ∃ w0 w1 w2 : Value, args = #[w0, w1, w2] := by
    have hs : args.size = 3 := by simpa [Cond.value, given_1] using g1
    obtain ⟨L⟩ := args
    match L, hs with
    | [w0, w1, w2], _ => exact ⟨w0, w1, w2, rfl⟩
  have hw := fun d (hd : d ∈ tables_1) => atoms_spec (ws := Jvm.Cond.code x code maxLocals ret :: tables_1) hat d (List.mem_cons_of_mem _ hd)
  have hfit : Fit s := fun {y c} hc i hi => by
    obtain ⟨ha, rfl⟩ := Array.getElem?_eq_some_iff.mp hc
    have q := List.all_eq_true.mp ((Array.all_eq_true_iff_forall_mem.mp hF) _ (Array.getElem_mem ha)) i (List.mem_range.mpr hi)
    simpa [Array.getElem?_eq_getElem hi] using q
  obtain ⟨i0, ei0⟩ := is_v g3
  obtain rfl : w0 = (.int i0) := Option.some.inj ei0
  obtain ⟨i1, ei1⟩ := is_v g5
  obtain rfl : w1 = (.int i1) := Option.some.inj ei1
  obtain ⟨i2, ei2⟩ := is_v g6
  obtain rfl : w2 = (.int i2) := Option.some.inj ei2
  obtain ⟨n, o, h1, h2, h3, _, L, rfl, ⟨rfl, N⟩, hq⟩ := rm0 l s _ hw tables_1 i0 i1 i2  s.heap s.heap.size (Nat.le_refl _)  p e ha hc hk s m _ below hf ((Spec.applies_iff_loose hf).mp happ).1 ⟨rfl, State.Warmed39.refl s, rfl⟩ trivial
  refine ⟨n, _, h1, h2, h3, hpost _ _ _ _ _ _ ⟨Cond.after_iff.mpr rfl, Cond.after_iff.mpr (eq_i res_at (Term.int_eval (1)) rfl), trivial⟩ ⟨hq.1, hq.2.1, (hq.2.2.sift fun y hy => Or.inr (N y hy)).mono (by decide) (by decide)⟩⟩
theorem main_1_1 : Claimed_1_1 := comes_1 fun _ _ _ _ _ _ h hF => ⟨h.1, hF⟩
theorem main_1_2 : Claimed_1_2 := comes_1 fun _ _ _ _ _ _ h hF => ⟨h.2.1, hF⟩
end Jvm.Pilot.@@N@@
namespace Jvm.Pilot.@@N@@
open Jvm Jvm.ClassFile Sem Op Lib Jvm.Free Jvm.Stand Jvm.Pilot.@@N@@.Jvm.D
/-! MADE BY PROGRAM (witnessworld.py) out of the Statement's table words and the real class files: 9 classes; the members and pool entries that the words name. The judged class is class 1, her method 1. -/
namespace start1
open Jvm.ClassFile
def u (s : String) : CpInfo := .utf8 (stringToUtf16 s)
/-- a pool by its gaps: so many unusable entries, then the entry; so many at the end -/
def gap : Nat → List CpInfo → List CpInfo
  | 0, r => r
  | n + 1, r => .unusable :: gap n r
def poolList (es : List (Nat × CpInfo)) (last : Nat) : List CpInfo := es.foldr (fun e r => gap e.1 (e.2 :: r)) (gap last [])
def pool (es : List (Nat × CpInfo)) (last : Nat) : Array CpInfo := ⟨poolList es last⟩
def fileOf (pool : Array CpInfo) (this : Nat) (attrs : Array Attribute := #[]) (ms : Array MethodInfo := #[]) (fl : Nat := 33) (sup : Nat := 0) (ifs : Array Nat := #[]) (fds : Array FieldInfo := #[]) : ClassFile where
  minorVersion := 0
  majorVersion := 65
  constantPool := pool
  accessFlags := fl
  thisClass := this
  superClass := sup
  interfaces := ifs
  fields := fds
  methods := ms
  attributes := attrs
def plain (name : String) (sup : Option ClassId) : Class where
  name := name
  kind := .ordinary
  loader := none
  accessFlags := 33
  super := sup
  interfaces := #[]
  cf := none
  fields := #[]
  methods := #[]
  instanceTypes := #[]
  staticTypes := #[]
  resolved := #[]
  callSites := []
  init := .initialized
  statics := none
  mirror := none

def pool0 : Array CpInfo := pool [(5, u "<init>"), (0, u "()V"), (1, .class_ 10), (1, u "java/lang/Object")] 113

def k0m0 : Method := { name := "<init>", desc := "()V", sig := { parameters := [], returnType := none }, accessFlags := 1, code := none }
/-- java/lang/Object -/
def k0 : Class := { plain "java/lang/Object" none with
  accessFlags := 33
  interfaces := #[]
  cf := some (fileOf pool0 8 #[] #[{ accessFlags := 1, nameIndex := 5, descriptorIndex := 6, attributes := #[] }] 33 0 #[] #[])
  fields := #[]
  methods := #[k0m0]
  instanceTypes := #[]
  staticTypes := #[]
  resolved := Array.replicate 124 none
  statics := none }

def pool1 : Array CpInfo := pool [(2, .class_ 4), (1, u "java/lang/Object"), (0, u "<init>"), (0, u "()V"), (0, .integer 2147483647), (0, .methodref 9 10), (0, .class_ 11), (0, .nameAndType 12 13), (0, u "com/example/millrace/millrace/model/DateTimeText"), (0, u "offset"), (0, u "(CII)I"), (0, .integer 86400), (0, .class_ 16), (0, u "com/example/millrace/millrace/model/DateTimeTextOffsetPinLaw"), (2, u "law"), (0, u "(III)Z")] 3

def k1m0 : Method := { name := "<init>", desc := "()V", sig := { parameters := [], returnType := none }, accessFlags := 2, code := none }
def k1c1 : Code := { maxStack := 3, maxLocals := 9, code := code, exceptionTable := #[], attributes := #[] }
def k1m1 : Method := { name := "law", desc := "(III)Z", sig := { parameters := [.int, .int, .int], returnType := some .boolean }, accessFlags := 9, code := some k1c1 }
/-- com/example/millrace/millrace/model/DateTimeTextOffsetPinLaw -/
def k1 : Class := { plain "com/example/millrace/millrace/model/DateTimeTextOffsetPinLaw" (some 0) with
  accessFlags := 49
  interfaces := #[]
  cf := some (fileOf pool1 15 #[] #[{ accessFlags := 2, nameIndex := 5, descriptorIndex := 6, attributes := #[] }, { accessFlags := 9, nameIndex := 19, descriptorIndex := 20, attributes := #[] }] 49 2 #[] #[])
  fields := #[]
  methods := #[k1m0, k1m1]
  instanceTypes := #[]
  staticTypes := #[]
  resolved := Array.replicate 24 none
  statics := none }

def pool2 : Array CpInfo := pool [(2, .class_ 4), (1, u "java/lang/Object"), (0, u "<init>"), (0, u "()V"), (6, .class_ 14), (0, u "com/example/millrace/millrace/model/DateTimeText"), (160, u "offset"), (0, u "(CII)I"), (24, u "FIRST_SECOND"), (0, u "J"), (2, u "LAST_SECOND"), (23, u "DATE_FORM"), (0, u "Ljava/lang/String;"), (1, u "TIME_FORM"), (0, u "TIMESTAMP_FORM"), (0, u "DATE_LENGTH"), (0, u "I"), (1, u "TIME_LENGTH"), (1, u "OFFSET_LENGTH"), (1, u "MAX_FRACTION_DIGITS")] 38

def k2m0 : Method := { name := "<init>", desc := "()V", sig := { parameters := [], returnType := none }, accessFlags := 2, code := none }
def k2c1 : Code := { maxStack := 4, maxLocals := 3, code := prog_20_method_7_code, exceptionTable := #[], attributes := #[] }
def k2m1 : Method := { name := "offset", desc := "(CII)I", sig := { parameters := [.char, .int, .int], returnType := some .int }, accessFlags := 8, code := some k2c1 }
/-- com/example/millrace/millrace/model/DateTimeText -/
def k2 : Class := { plain "com/example/millrace/millrace/model/DateTimeText" (some 0) with
  accessFlags := 32
  interfaces := #[]
  cf := some (fileOf pool2 13 #[] #[{ accessFlags := 2, nameIndex := 5, descriptorIndex := 6, attributes := #[] }, { accessFlags := 8, nameIndex := 175, descriptorIndex := 176, attributes := #[] }] 32 2 #[] #[{ accessFlags := 26, nameIndex := 229, descriptorIndex := 230, attributes := #[] }, { accessFlags := 26, nameIndex := 232, descriptorIndex := 230, attributes := #[] }, { accessFlags := 26, nameIndex := 233, descriptorIndex := 230, attributes := #[] }, { accessFlags := 26, nameIndex := 234, descriptorIndex := 235, attributes := #[] }, { accessFlags := 26, nameIndex := 237, descriptorIndex := 235, attributes := #[] }, { accessFlags := 26, nameIndex := 239, descriptorIndex := 235, attributes := #[] }, { accessFlags := 26, nameIndex := 241, descriptorIndex := 235, attributes := #[] }, { accessFlags := 26, nameIndex := 201, descriptorIndex := 202, attributes := #[] }, { accessFlags := 26, nameIndex := 205, descriptorIndex := 202, attributes := #[] }])
  fields := #[{ name := "DATE_FORM", type := (.object "java/lang/String"), accessFlags := 26, slot := 0, constantValue := 0 }, { name := "TIME_FORM", type := (.object "java/lang/String"), accessFlags := 26, slot := 1, constantValue := 0 }, { name := "TIMESTAMP_FORM", type := (.object "java/lang/String"), accessFlags := 26, slot := 2, constantValue := 0 }, { name := "DATE_LENGTH", type := .int, accessFlags := 26, slot := 3, constantValue := 0 }, { name := "TIME_LENGTH", type := .int, accessFlags := 26, slot := 4, constantValue := 0 }, { name := "OFFSET_LENGTH", type := .int, accessFlags := 26, slot := 5, constantValue := 0 }, { name := "MAX_FRACTION_DIGITS", type := .int, accessFlags := 26, slot := 6, constantValue := 0 }, { name := "FIRST_SECOND", type := .long, accessFlags := 26, slot := 7, constantValue := 0 }, { name := "LAST_SECOND", type := .long, accessFlags := 26, slot := 8, constantValue := 0 }]
  methods := #[k2m0, k2m1]
  instanceTypes := #[]
  staticTypes := #[(.object "java/lang/String"), (.object "java/lang/String"), (.object "java/lang/String"), .int, .int, .int, .int, .long, .long]
  resolved := Array.replicate 280 none
  statics := none }

def pool3 : Array CpInfo := pool [(1, u "java/lang/Cloneable"), (0, .class_ 1), (0, u "java/lang/Object"), (0, .class_ 3)] 3

/-- java/lang/Cloneable -/
def k3 : Class := { plain "java/lang/Cloneable" (some 0) with
  accessFlags := 1537
  interfaces := #[]
  cf := some (fileOf pool3 2 #[] #[] 1537 4 #[] #[])
  fields := #[]
  methods := #[]
  instanceTypes := #[]
  staticTypes := #[]
  resolved := Array.replicate 8 none
  statics := none }

def pool4 : Array CpInfo := pool [(1, u "java/io/Serializable"), (0, .class_ 1), (0, u "java/lang/Object"), (0, .class_ 3)] 3

/-- java/io/Serializable -/
def k4 : Class := { plain "java/io/Serializable" (some 0) with
  accessFlags := 1537
  interfaces := #[]
  cf := some (fileOf pool4 2 #[] #[] 1537 4 #[] #[])
  fields := #[]
  methods := #[]
  instanceTypes := #[]
  staticTypes := #[]
  resolved := Array.replicate 8 none
  statics := none }

/-- the primitive byte -/
def k5 : Class := { plain "byte" none with kind := .primitive 'B', accessFlags := 0x411 }
/-- [B -/
def k6 : Class := { plain "[B" (some 0) with kind := .array 5 .byte, interfaces := #[3, 4], accessFlags := 1041 }

/-- the primitive int -/
def k7 : Class := { plain "int" none with kind := .primitive 'I', accessFlags := 0x411 }
/-- [I -/
def k8 : Class := { plain "[I" (some 0) with kind := .array 7 .int, interfaces := #[3, 4], accessFlags := 1041 }

def heap : Heap := #[]
def classes : Array Class := #[k0, k1, k2, k3, k4, k5, k6, k7, k8]
def interned : List (Array UInt16 × Addr) := []
def slotsUsed : Nat := 0
def theMethod : MethodId := ⟨1, 1⟩
def args0 : Array Value := #[.int 5, .int 5, .int 5]
def aboutOver (below : List Frame) : State where
  vm := { classes := classes, interned := interned.toArray }
  heap := heap
  slotsUsed := slotsUsed
  threads := #[{ frames := .invoking theMethod args0 :: below }]
def below0 : List Frame := [.native { method := ⟨0, 0⟩, args := #[] }]
def about1 : State := aboutOver below0
def p0 : Program := .bare "" "" ""
def e0 : Env := launch0.env 0 0 0
theorem w_frames : about1.frames = Frame.invoking theMethod args0 :: below0 := rfl
set_option maxRecDepth 65536 in
theorem w_args : argsFit about1.vm theMethod args0 = true := by decide +kernel
set_option maxRecDepth 65536 in
theorem w_heap : heapFits about1 = true := by decide +kernel
set_option maxRecDepth 65536 in
theorem w_runnable : about1.curStatus? = some .runnable := by decide +kernel
set_option maxRecDepth 65536 in
theorem w_alone : about1.alone = true := by decide +kernel
set_option maxRecDepth 65536 in
theorem w_named : about1.methodNamed? x = some theMethod := by decide +kernel
set_option maxRecDepth 65536 in
theorem w_hears : about1.hears theMethod below0 = true := by decide +kernel
set_option maxRecDepth 65536 in
theorem w_ripe : about1.ripe theMethod args0 below0 = true := by decide +kernel
theorem w_running : about1.status = .running := rfl
set_option maxRecDepth 65536 in
theorem w_room : about1.hasRoom e0.platform room_1 = true :=
  launch0.hasRoom_least _ room_1 (by decide +kernel) (by decide +kernel) (by decide +kernel) (by decide +kernel) (by decide +kernel) (by decide +kernel)
theorem allAtoms_all (ts : List Jvm.Cond) (a : Array Jvm.Value) (st : Jvm.State) : (allAtoms ts).before a st = ts.all (fun c => c.before a st) := by
  induction ts with
  | nil => rfl
  | cons c t ih =>
    show (Jvm.Cond.and c (allAtoms t)).before a st = _
    rw [Jvm.Cond.before_and, ih, List.all_cons]
def words1 : List Jvm.Cond := Jvm.Cond.code x code maxLocals ret :: tables_1
/-- a 'code' word, met by the world's own term for the bytes: nothing is compared byte by byte -/
theorem code_word {y : MethodName} {bytes : ByteArray} {mx : Nat} {rt : Option FieldType} {a : Array Value} {s : State} {m : MethodId} {meth : Method} {c : Code} (h1 : s.methodNamed? y = some m) (h2 : s.vm.method? m = some meth) (h3 : meth.code = some c) (h4 : c.code = bytes)
    (h5 : (c.maxLocals == mx && c.exceptionTable.isEmpty && decide (c.maxStack ≤ mostOperands) && decide (meth.sig.returnType = rt) && !meth.locks && decide (parseMethodDescriptor y.desc = some meth.sig)) = true) : (Jvm.Cond.code y bytes mx rt).before a s = true := by
  simp only [Bool.and_eq_true, beq_iff_eq, Bool.not_eq_true', decide_eq_true_eq] at h5
  obtain ⟨⟨⟨⟨⟨g1, g2⟩, g3⟩, g4⟩, g5⟩, g6⟩ := h5
  simp [Cond.before, Cond.holds, Cond.value, h1, h2, h3, h4, g1, g2, g3, g4, g5, g6]
def isCode : Jvm.Cond → Bool
  | .code _ _ _ _ => true
  | _ => false
theorem all_split {L : List Jvm.Cond} {P : Jvm.Cond → Bool} (h1 : L.all (fun c => isCode c || P c) = true) (h2 : ∀ c ∈ L.filter isCode, P c = true) : L.all P = true := by
  refine List.all_eq_true.mpr fun c hc => ?_
  have h := List.all_eq_true.mp h1 c hc
  rcases Bool.eq_false_or_eq_true (isCode c) with hi | hi
  · exact h2 c (List.mem_filter.mpr ⟨hc, hi⟩)
  · simpa [hi] using h
set_option maxRecDepth 65536 in
theorem w_c0 : (Jvm.Cond.code x code maxLocals ret).before args0 about1 = true := code_word (m := ⟨1, 1⟩) (meth := k1m1) (c := k1c1) (by decide +kernel) rfl rfl rfl (by decide +kernel)
set_option maxRecDepth 65536 in
theorem w_c1 : (Jvm.Cond.code ({ cls := "com/example/millrace/millrace/model/DateTimeText", name := "offset", desc := "(CII)I" } : Jvm.MethodName) prog_20_method_7_code (3 : Nat) (Option.some Jvm.ClassFile.FieldType.int)).before args0 about1 = true := code_word (m := ⟨2, 1⟩) (meth := k2m1) (c := k2c1) (by decide +kernel) rfl rfl rfl (by decide +kernel)
def codes1 : List Jvm.Cond := [Jvm.Cond.code x code maxLocals ret, Jvm.Cond.code ({ cls := "com/example/millrace/millrace/model/DateTimeText", name := "offset", desc := "(CII)I" } : Jvm.MethodName) prog_20_method_7_code (3 : Nat) (Option.some Jvm.ClassFile.FieldType.int)]
set_option maxRecDepth 65536 in
theorem codes_eq : words1.filter isCode = codes1 := rfl
theorem w_codes : ∀ c ∈ words1.filter isCode, c.before args0 about1 = true := by
  rw [codes_eq]
  intro c hc
  simp only [codes1, List.mem_cons, List.not_mem_nil, or_false] at hc
  rcases hc with rfl | rfl
  · exact w_c0
  · exact w_c1
set_option maxRecDepth 65536 in
theorem w_t1 : words1.all (fun c => isCode c || c.before args0 about1) = true := by decide +kernel
theorem w_tables : (allAtoms (Jvm.Cond.code x code maxLocals ret :: tables_1)).before args0 about1 = true := by
  rw [allAtoms_all]
  show words1.all (fun c => c.before args0 about1) = true
  refine all_split ?_ w_codes
  rw [w_t1]
set_option maxRecDepth 65536 in
theorem w_case : (Jvm.Cond.and given_1 narrow_1).before args0 about1 = true := by decide +kernel
theorem w_applies : (headSpec (Jvm.Cond.code x code maxLocals ret :: tables_1) room_1).applies x e0.platform about1 = true :=
  (Spec.applies_iff w_frames).mpr ⟨w_running, w_runnable, w_alone, w_named, w_hears, w_ripe, w_room, w_tables⟩
theorem atStart : AtStart classFile x code maxLocals ret World_1 tables_1 room_1 Calls_1 rest_1 Pre_1 launch0 p0 e0 about1 theMethod args0 below0 :=
  ⟨lists_1, trivial, launch0.admits_env _ _ _, launch0.least_env, fairChoices_fair.cas, fairChoices_fair.clock, w_frames, w_args, w_heap, w_applies, trivial, trivial, w_case⟩
end start1
theorem witness_1 : WitnessClaimed_1 := ⟨start1.p0, start1.e0, start1.about1, start1.theMethod, start1.args0, start1.below0, start1.atStart⟩
end Jvm.Pilot.@@N@@
