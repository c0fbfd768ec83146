import JvmDerived
import JvmDerived.Pilot.@@N@@Statement
import JvmDerived.Pilot.@@N@@Code
set_option linter.unusedVariables false
set_option linter.unusedSimpArgs false

namespace Jvm.RoadKit
open Sem ClassFile Op Lib Jvm.Stand Jvm.Free Jvm.LawKit
section New
variable {p : Program} {l : Launch} {e : Env} {R : Room} {s : State} {m : MethodId} {args : Array Value} {below : List Frame} {meth : Method} {c : Code} {T : State} {locs : List Loc} {cells slots : Nat}
theorem retI (X : Stand p l e R s m args below meth c T locs cells slots) (hx : p.tables.exec = Jvm.exec) {pc : Nat} {Ls : Array Slot} {z : Int32} {rest : List Value} (hret : meth.sig.returnType = some .int) (hd : decode c.code pc = .ok (.ireturn, 1)) {fs : List Frame}
    (hl : ∀ (f : JFrame) (acts : List Action), f.method = m → f.locked = none → f.entered = [] → (doReturn e (T.setTop f) acts (some (.int z))).1 = T.setFrames fs) : Steps p.tables e below (T.setTop (mkF m pc Ls (.int z :: rest))) (T.setFrames fs) := by
  have hm' : T.vm.method? m = some meth := X.method'
  have hn : narrow .int (.int z) = .int z := rfl
  show Steps p.tables e below (T.setTop { method := m, pc := pc, locals := Ls, stack := _ :: rest, locked := none }) _
  jvm_step X.here [X.here.top, hx, hd, hm', hret, hn]
  first | (intro acts; rw [hl _ acts rfl rfl rfl]) | rw [hl _ _ rfl rfl rfl]
  exact Steps.refl _
theorem own_lrem {g : JFrame} {target : State} (X : Stand p l e R s m args below meth c T locs cells slots) (hx : p.tables.exec = Jvm.exec) (hg : g.method = m) {x y : Int64} {rest : List Value} (hd : decode c.code g.pc = .ok (.lrem, 1)) (hs : g.stack = .long y :: .long x :: rest) (hy : y ≠ 0)
    (hr : Steps p.tables e below (T.setTop { g with pc := g.pc + 1, stack := .long (x % y) :: rest }) target) : Steps p.tables e below (T.setTop g) target := by
  have q : x - x / y * y = x % y := lrem_mod x y
  exact XS.lrem X.here hx hg hd hs hy (by rw [q]; exact hr)
end New
end Jvm.RoadKit

namespace Jvm.Pilot.@@N@@
open Jvm Jvm.ClassFile Sem Op Lib Jvm.Free Jvm.Stand Jvm.LawKit Jvm.RoadKit Bundle Jvm.Pilot.@@N@@.Jvm.D
def own_hit (w b f t i p : Int32) : Int32 := if ¬ i < f ∧ i < t ∧ w = b then i else p
def own_ix (ws : List Int32) (b : Int32) : Nat → Nat → Int32
  | 0, _ => (-1 : Int32)
  | k + 1, i => if ws.getD i 0 = b then Int32.ofNat i else own_ix ws b k (i + 1)
theorem own_ix0 (ws : List Int32) (b : Int32) (i : Nat) : own_ix ws b 0 i = (-1 : Int32) := rfl
theorem own_ix1 {ws : List Int32} {b : Int32} {k i : Nat} (h : ws.getD i 0 = b) : own_ix ws b (k + 1) i = Int32.ofNat i := if_pos h
theorem own_ix2 {ws : List Int32} {b : Int32} {k i : Nat} (h : ¬ ws.getD i 0 = b) : own_ix ws b (k + 1) i = own_ix ws b k (i + 1) := if_neg h
theorem own_lt : ∀ i : Nat, i < 6 → ∀ j : Nat, j < 6 → (Int32.ofNat i < Int32.ofNat j ↔ i < j) := by decide
theorem own_up : ∀ i : Nat, i < 6 → (Int32.ofNat i) + (1 : Int32) = Int32.ofNat (i + 1) := by decide
theorem own_in : ∀ i : Nat, i < 5 → ¬ Int32.ofNat i < 0 ∧ Int32.ofNat i < (5 : Int32) := by decide
theorem own_at (w0 w1 w2 w3 w4 : Int32) (i : Nat) (h : i < 5) : ([.int w0, .int w1, .int w2, .int w3, .int w4] : List Value).getD (Int32.ofNat i).toNatClampNeg (.int (0 : Int32)) = .int ([w0, w1, w2, w3, w4].getD i 0) := by
  match i, h with
  | 0, _ => rfl
  | 1, _ => rfl
  | 2, _ => rfl
  | 3, _ => rfl
  | 4, _ => rfl
theorem own_six (a : Int32) : ∃ n : Nat, n < 6 ∧ ((a &&& (2147483647 : Int32)) % (6 : Int32)) = Int32.ofNat n := by
  have h1 := c_mask a 2147483647 31 (by decide) (by decide)
  have h2 := (c_irem (a &&& (2147483647 : Int32)) 6 6 rfl).1
  refine ⟨((a &&& (2147483647 : Int32)) % (6 : Int32)).toInt.toNat, by omega, ?_⟩
  rw [← Int32.toInt_inj, show (Int32.ofNat _).toInt = _ from len_toInt (by omega)]
  omega
theorem own_fin (w0 w1 w2 w3 w4 b : Int32) (f t : Nat) (hf : f < 6) (ht : t < 6) : own_ix [w0, w1, w2, w3, w4] b (t - f) f =
    own_hit w0 b (Int32.ofNat f) (Int32.ofNat t) 0 (own_hit w1 b (Int32.ofNat f) (Int32.ofNat t) 1 (own_hit w2 b (Int32.ofNat f) (Int32.ofNat t) 2 (own_hit w3 b (Int32.ofNat f) (Int32.ofNat t) 3 (own_hit w4 b (Int32.ofNat f) (Int32.ofNat t) 4 (-1))))) := by
  have e : ∀ (w : Int32) (i : Nat) (hi : i < 6) (p : Int32), own_hit w b (Int32.ofNat f) (Int32.ofNat t) (Int32.ofNat i) p = if f ≤ i ∧ i < t ∧ w = b then Int32.ofNat i else p := by
    intro w i hi p
    unfold own_hit
    simp only [own_lt i hi f hf, own_lt i hi t ht, Nat.not_lt]
  have e0 := e w0 0 (by decide)
  have e1 := e w1 1 (by decide)
  have e2 := e w2 2 (by decide)
  have e3 := e w3 3 (by decide)
  have e4 := e w4 4 (by decide)
  simp only [show Int32.ofNat 0 = 0 from rfl, show Int32.ofNat 1 = 1 from rfl, show Int32.ofNat 2 = 2 from rfl, show Int32.ofNat 3 = 3 from rfl, show Int32.ofNat 4 = 4 from rfl] at e0 e1 e2 e3 e4
  rw [e0, e1, e2, e3, e4]
  match f, hf, t, ht with
  | 0, _, 0, _ | 0, _, 1, _ | 0, _, 2, _ | 0, _, 3, _ | 0, _, 4, _ | 0, _, 5, _
  | 1, _, 0, _ | 1, _, 1, _ | 1, _, 2, _ | 1, _, 3, _ | 1, _, 4, _ | 1, _, 5, _
  | 2, _, 0, _ | 2, _, 1, _ | 2, _, 2, _ | 2, _, 3, _ | 2, _, 4, _ | 2, _, 5, _
  | 3, _, 0, _ | 3, _, 1, _ | 3, _, 2, _ | 3, _, 3, _ | 3, _, 4, _ | 3, _, 5, _
  | 4, _, 0, _ | 4, _, 1, _ | 4, _, 2, _ | 4, _, 3, _ | 4, _, 4, _ | 4, _, 5, _
  | 5, _, 0, _ | 5, _, 1, _ | 5, _, 2, _ | 5, _, 3, _ | 5, _, 4, _ | 5, _, 5, _ => simp [own_ix]
theorem pd_0 : parseMethodDescriptor "([BBIIII)I" = some ⟨[(.array .byte), .byte, .int, .int, .int, .int], some .int⟩ := by decide +kernel
theorem pd_1 : parseMethodDescriptor "([BBII)I" = some ⟨[(.array .byte), .byte, .int, .int], some .int⟩ := by decide +kernel
theorem d1_0 : decode method_2_code 0 = .ok (.iload_n 2, 1) := by decide +kernel
theorem d1_1 : decode method_2_code 1 = .ok (.iload 4, 2) := by decide +kernel
theorem d1_3 : decode method_2_code 3 = .ok (.if_icmp .gt 20, 3) := by decide +kernel
theorem d1_6 : decode method_2_code 6 = .ok (.iload 4, 2) := by decide +kernel
theorem d1_8 : decode method_2_code 8 = .ok (.iload_n 3, 1) := by decide +kernel
theorem d1_9 : decode method_2_code 9 = .ok (.if_icmp .ge 14, 3) := by decide +kernel
theorem d1_12 : decode method_2_code 12 = .ok (.aload_n 0, 1) := by decide +kernel
theorem d1_13 : decode method_2_code 13 = .ok (.iload 4, 2) := by decide +kernel
theorem d1_15 : decode method_2_code 15 = .ok (.baload, 1) := by decide +kernel
theorem d1_16 : decode method_2_code 16 = .ok (.iload_n 1, 1) := by decide +kernel
theorem d1_17 : decode method_2_code 17 = .ok (.if_icmp .ne 6, 3) := by decide +kernel
theorem d1_20 : decode method_2_code 20 = .ok (.iload 4, 2) := by decide +kernel
theorem d1_22 : decode method_2_code 22 = .ok (.ireturn, 1) := by decide +kernel
theorem d1_23 : decode method_2_code 23 = .ok (.iload 5, 2) := by decide +kernel
theorem d1_25 : decode method_2_code 25 = .ok (.ireturn, 1) := by decide +kernel
theorem pn_1 : plainName "com/example/brannan/brannan/text/ByteTextIndexOfPinLaw" = true := by first | (simp [plainName, overriddenIn]; done) | decide +kernel
theorem ef_1 (m : MethodId) (x0 : Addr) (x1 : Int32) (x2 : Int32) (x3 : Int32) (x4 : Int32) (x5 : Int32) : entryFrame m #[(.ref x0), (.int x1), (.int x2), (.int x3), (.int x4), (.int x5)] 6 = mkF m 0 #[.val (.ref x0), .val (.int x1), .val (.int x2), .val (.int x3), .val (.int x4), .val (.int x5)] [] := by first | (simp [entryFrame, mkF, argsToLocals, Value.category]; done) | rfl
def Q1 (Z : State) (r0 : Addr) (p1 : Int32) (p2 : Int32) (p3 : Int32) (p4 : Int32) (p5 : Int32) (kk : ClassId) (zz : Int32) (vs : List Value) (dv : Value) (w : Int32) (h0 : Heap) (n0 : Nat) (v : Option Value) (h : Heap) (L : List Loc) : Prop := v = some (.int (own_hit w p1 p2 p3 p4 p5)) ∧ Fr n0 L ∧ h = h0
set_option maxRecDepth 65536 in
set_option maxHeartbeats 40000000 in
theorem rm1 (l : Launch) (Z : State) (a0 : Array Value) (hw : ∀ d ∈ tables_1, d.before a0 Z = true) (ws : List Jvm.Cond) (r0 : Addr) (p1 : Int32) (p2 : Int32) (p3 : Int32) (p4 : Int32) (p5 : Int32) (kk : ClassId) (zz : Int32) (vs : List Value) (dv : Value) (w : Int32) (h0 : Heap) (n0 : Nat) (Z0 : n0 ≤ h0.size) (V : Arv Z h0 r0 kk .byte zz vs dv) (hi0 : ¬ p4 < 0 ∧ p4 < zz) (ha0 : vs.getD p4.toNatClampNeg dv = .int w) :
    MetFree l (⟨"com/example/brannan/brannan/text/ByteTextIndexOfPinLaw", "hit", "([BBIIII)I"⟩ : MethodName) (head1 (Jvm.Cond.code (⟨"com/example/brannan/brannan/text/ByteTextIndexOfPinLaw", "hit", "([BBIIII)I"⟩ : MethodName) method_2_code 6 (some .int) :: ws) ({ frames := 0, cells := 0, slots := 0, locals := 0 } : Room)) (fun a U => a = #[(.ref r0), (.int p1), (.int p2), (.int p3), (.int p4), (.int p5)] ∧ Z.Warmed39 U.vm ∧ U.heap = h0) (fun _ _ _ _ _ => True) (fun _ U o U' => ∃ v L, o = .returned v ∧ Q1 Z r0 p1 p2 p3 p4 p5 kk zz vs dv w h0 n0 v U'.heap L ∧ FrameEnd U o U' L ({ frames := 0, cells := 0, slots := 0, locals := 0 } : Room).cells ({ frames := 0, cells := 0, slots := 0, locals := 0 } : Room).slots) := by
  refine MetFree.of_bodySF (plainFor_of_name pn_1) hisR ?_
  intro p e s m args below meth c s₁ Bd hml0 hP hK
  obtain ⟨rfl, hZ, hh⟩ := hP
  have hx := Bd.exec
  have hby := Bd.bytes
  have hml : c.maxLocals = 6 := hml0
  have hown : s.vm.findClass "com/example/brannan/brannan/text/ByteTextIndexOfPinLaw" = some m.cls := findClass_of_methodNamed Bd.named
  have hnm := (name_of_methodNamed Bd.named Bd.method).1
  have X0 : Stand p l e ({ frames := 0, cells := 0, slots := 0, locals := 0 } : Room) s m #[(.ref r0), (.int p1), (.int p2), (.int p3), (.int p4), (.int p5)] below meth c s₁ [] 0 0 := Stand.of_body Bd
  have e0 : s₁.heap = h0 := by rw [← hh, Bd.state]; rfl
  have N0 := Fr.nil n0
  have pre0 : ∀ t, Steps p.tables e below (s₁.setTop (mkF m 0 #[.val (.ref r0), .val (.int p1), .val (.int p2), .val (.int p3), .val (.int p4), .val (.int p5)] [])) t → Steps p.tables e below (s₁.setTop (entryFrame m #[(.ref r0), (.int p1), (.int p2), (.int p3), (.int p4), (.int p5)] 6)) t := fun t k => castTop (ef_1 m r0 p1 p2 p3 p4 p5) k
  have c1 : ∀ t, Steps p.tables e below (s₁.setTop (mkF m 3 #[.val (.ref r0), .val (.int p1), .val (.int p2), .val (.int p3), .val (.int p4), .val (.int p5)] [(.int p4), (.int p2)])) t → Steps p.tables e below (s₁.setTop (mkF m 0 #[.val (.ref r0), .val (.int p1), .val (.int p2), .val (.int p3), .val (.int p4), .val (.int p5)] [])) t := by
    intro t kt
    show Steps p.tables e below (s₁.setTop (mkF m 0 #[.val (.ref r0), .val (.int p1), .val (.int p2), .val (.int p3), .val (.int p4), .val (.int p5)] [])) _
    refine XS.iloadN X0.here hx rfl (hb hby d1_0) rfl ?_
    show Steps p.tables e below (s₁.setTop (mkF m 1 #[.val (.ref r0), .val (.int p1), .val (.int p2), .val (.int p3), .val (.int p4), .val (.int p5)] [(.int p2)])) _
    refine XS.iload X0.here hx rfl (hb hby d1_1) rfl ?_
    exact kt
  by_cases hc3 : p4 < p2
  · -- it is
    have c2 : ∀ t, Steps p.tables e below (s₁.setTop (mkF m 25 #[.val (.ref r0), .val (.int p1), .val (.int p2), .val (.int p3), .val (.int p4), .val (.int p5)] [(.int p5)])) t → Steps p.tables e below (s₁.setTop (mkF m 3 #[.val (.ref r0), .val (.int p1), .val (.int p2), .val (.int p3), .val (.int p4), .val (.int p5)] [(.int p4), (.int p2)])) t := by
      intro t kt
      show Steps p.tables e below (s₁.setTop (mkF m 3 #[.val (.ref r0), .val (.int p1), .val (.int p2), .val (.int p3), .val (.int p4), .val (.int p5)] [(.int p4), (.int p2)])) _
      refine XS.icmpYes X0.here hx rfl (pc0 := 3) (pc' := 23) rfl (hb hby d1_3) rfl (tlt hc3).2.2.1 (by decide) (by decide) ?_
      show Steps p.tables e below (s₁.setTop (mkF m 23 #[.val (.ref r0), .val (.int p1), .val (.int p2), .val (.int p3), .val (.int p4), .val (.int p5)] [])) _
      refine XS.iload X0.here hx rfl (hb hby d1_23) rfl ?_
      exact kt
    obtain ⟨fs, hr, hrun, hended, hW, hsame⟩ := X0.leave (v := some (.int p5)) (fun h => by rw [Bd.returns] at h; cases h)
    refine ⟨_, _, pre0 _ (c1 _ (c2 _ (?_))), hrun, hended, _, _, rfl, ?_, ⟨_, rfl⟩, hW, hsame.mono (by decide) (by decide)⟩
    · show Steps p.tables e below (s₁.setTop (mkF m 25 #[.val (.ref r0), .val (.int p1), .val (.int p2), .val (.int p3), .val (.int p4), .val (.int p5)] [(.int p5)])) _
      exact retI X0 hx Bd.returns (hb hby d1_25) hr
    · show Q1 Z r0 p1 p2 p3 p4 p5 kk zz vs dv w h0 n0 _ s₁.heap _
      rw [e0]
      exact ⟨congrArg (fun z => some (Value.int z)) (show p5 = (own_hit w p1 p2 p3 p4 p5) from by simp [own_hit, hc3]), N0, rfl⟩
  · -- it isn't
    have c4 : ∀ t, Steps p.tables e below (s₁.setTop (mkF m 9 #[.val (.ref r0), .val (.int p1), .val (.int p2), .val (.int p3), .val (.int p4), .val (.int p5)] [(.int p3), (.int p4)])) t → Steps p.tables e below (s₁.setTop (mkF m 3 #[.val (.ref r0), .val (.int p1), .val (.int p2), .val (.int p3), .val (.int p4), .val (.int p5)] [(.int p4), (.int p2)])) t := by
      intro t kt
      show Steps p.tables e below (s₁.setTop (mkF m 3 #[.val (.ref r0), .val (.int p1), .val (.int p2), .val (.int p3), .val (.int p4), .val (.int p5)] [(.int p4), (.int p2)])) _
      refine XS.icmpNo X0.here hx rfl (hb hby d1_3) rfl (flt hc3).2.2.1 ?_
      show Steps p.tables e below (s₁.setTop (mkF m 6 #[.val (.ref r0), .val (.int p1), .val (.int p2), .val (.int p3), .val (.int p4), .val (.int p5)] [])) _
      refine XS.iload X0.here hx rfl (hb hby d1_6) rfl ?_
      show Steps p.tables e below (s₁.setTop (mkF m 8 #[.val (.ref r0), .val (.int p1), .val (.int p2), .val (.int p3), .val (.int p4), .val (.int p5)] [(.int p4)])) _
      refine XS.iloadN X0.here hx rfl (hb hby d1_8) rfl ?_
      exact kt
    by_cases hc9 : p4 < p3
    · -- it is
      have Vc5 := V
      obtain ⟨cl5, Ar5, qk5, S5, M5, H5, G5⟩ := Vc5
      have hin5 : ¬ (p4 < 0 ∨ cl5.slots.size ≤ (p4).toNatClampNeg) := inb_of S5 hi0
      have hat5 : cl5.slots[(p4).toNatClampNeg]? = some (.int w) := H5.at hin5 ha0
      have c6 : ∀ t, Steps p.tables e below (s₁.setTop (mkF m 17 #[.val (.ref r0), .val (.int p1), .val (.int p2), .val (.int p3), .val (.int p4), .val (.int p5)] [(.int p1), (.int w)])) t → Steps p.tables e below (s₁.setTop (mkF m 9 #[.val (.ref r0), .val (.int p1), .val (.int p2), .val (.int p3), .val (.int p4), .val (.int p5)] [(.int p3), (.int p4)])) t := by
        intro t kt
        show Steps p.tables e below (s₁.setTop (mkF m 9 #[.val (.ref r0), .val (.int p1), .val (.int p2), .val (.int p3), .val (.int p4), .val (.int p5)] [(.int p3), (.int p4)])) _
        refine XS.icmpNo X0.here hx rfl (hb hby d1_9) rfl (tlt hc9).2.1 ?_
        show Steps p.tables e below (s₁.setTop (mkF m 12 #[.val (.ref r0), .val (.int p1), .val (.int p2), .val (.int p3), .val (.int p4), .val (.int p5)] [])) _
        refine XS.aloadN X0.here hx rfl (hb hby d1_12) rfl rfl ?_
        show Steps p.tables e below (s₁.setTop (mkF m 13 #[.val (.ref r0), .val (.int p1), .val (.int p2), .val (.int p3), .val (.int p4), .val (.int p5)] [(.ref r0)])) _
        refine XS.iload X0.here hx rfl (hb hby d1_13) rfl ?_
        show Steps p.tables e below (s₁.setTop (mkF m 15 #[.val (.ref r0), .val (.int p1), .val (.int p2), .val (.int p3), .val (.int p4), .val (.int p5)] [(.int p4), (.ref r0)])) _
        refine X0.baloadBytes hx (j := p4) (v := (.int w)) (by rw [e0]; exact Ar5.1) (State.isArrayOf_alike hZ.alike Ar5.2.1) Ar5.2.2 hin5 hat5 (g := (mkF m 15 #[.val (.ref r0), .val (.int p1), .val (.int p2), .val (.int p3), .val (.int p4), .val (.int p5)] [(.int p4), (.ref r0)])) rfl rfl (hb hby d1_15) _ ?_
        show Steps p.tables e below (s₁.setTop (mkF m 16 #[.val (.ref r0), .val (.int p1), .val (.int p2), .val (.int p3), .val (.int p4), .val (.int p5)] [(.int w)])) _
        refine XS.iloadN X0.here hx rfl (hb hby d1_16) rfl ?_
        exact kt
      by_cases hc17 : w = p1
      · -- it is
        have c7 : ∀ t, Steps p.tables e below (s₁.setTop (mkF m 22 #[.val (.ref r0), .val (.int p1), .val (.int p2), .val (.int p3), .val (.int p4), .val (.int p5)] [(.int p4)])) t → Steps p.tables e below (s₁.setTop (mkF m 17 #[.val (.ref r0), .val (.int p1), .val (.int p2), .val (.int p3), .val (.int p4), .val (.int p5)] [(.int p1), (.int w)])) t := by
          intro t kt
          show Steps p.tables e below (s₁.setTop (mkF m 17 #[.val (.ref r0), .val (.int p1), .val (.int p2), .val (.int p3), .val (.int p4), .val (.int p5)] [(.int p1), (.int w)])) _
          refine XS.icmpNo X0.here hx rfl (hb hby d1_17) rfl (teq hc17).2 ?_
          show Steps p.tables e below (s₁.setTop (mkF m 20 #[.val (.ref r0), .val (.int p1), .val (.int p2), .val (.int p3), .val (.int p4), .val (.int p5)] [])) _
          refine XS.iload X0.here hx rfl (hb hby d1_20) rfl ?_
          exact kt
        obtain ⟨fs, hr, hrun, hended, hW, hsame⟩ := X0.leave (v := some (.int p4)) (fun h => by rw [Bd.returns] at h; cases h)
        refine ⟨_, _, pre0 _ (c1 _ (c4 _ (c6 _ (c7 _ (?_))))), hrun, hended, _, _, rfl, ?_, ⟨_, rfl⟩, hW, hsame.mono (by decide) (by decide)⟩
        · show Steps p.tables e below (s₁.setTop (mkF m 22 #[.val (.ref r0), .val (.int p1), .val (.int p2), .val (.int p3), .val (.int p4), .val (.int p5)] [(.int p4)])) _
          exact retI X0 hx Bd.returns (hb hby d1_22) hr
        · show Q1 Z r0 p1 p2 p3 p4 p5 kk zz vs dv w h0 n0 _ s₁.heap _
          rw [e0]
          exact ⟨congrArg (fun z => some (Value.int z)) (show p4 = (own_hit w p1 p2 p3 p4 p5) from by simp [own_hit, hc3, hc9, hc17]), N0, rfl⟩
      · -- it isn't
        have c9 : ∀ t, Steps p.tables e below (s₁.setTop (mkF m 25 #[.val (.ref r0), .val (.int p1), .val (.int p2), .val (.int p3), .val (.int p4), .val (.int p5)] [(.int p5)])) t → Steps p.tables e below (s₁.setTop (mkF m 17 #[.val (.ref r0), .val (.int p1), .val (.int p2), .val (.int p3), .val (.int p4), .val (.int p5)] [(.int p1), (.int w)])) t := by
          intro t kt
          show Steps p.tables e below (s₁.setTop (mkF m 17 #[.val (.ref r0), .val (.int p1), .val (.int p2), .val (.int p3), .val (.int p4), .val (.int p5)] [(.int p1), (.int w)])) _
          refine XS.icmpYes X0.here hx rfl (pc0 := 17) (pc' := 23) rfl (hb hby d1_17) rfl (feq hc17).2 (by decide) (by decide) ?_
          show Steps p.tables e below (s₁.setTop (mkF m 23 #[.val (.ref r0), .val (.int p1), .val (.int p2), .val (.int p3), .val (.int p4), .val (.int p5)] [])) _
          refine XS.iload X0.here hx rfl (hb hby d1_23) rfl ?_
          exact kt
        obtain ⟨fs, hr, hrun, hended, hW, hsame⟩ := X0.leave (v := some (.int p5)) (fun h => by rw [Bd.returns] at h; cases h)
        refine ⟨_, _, pre0 _ (c1 _ (c4 _ (c6 _ (c9 _ (?_))))), hrun, hended, _, _, rfl, ?_, ⟨_, rfl⟩, hW, hsame.mono (by decide) (by decide)⟩
        · show Steps p.tables e below (s₁.setTop (mkF m 25 #[.val (.ref r0), .val (.int p1), .val (.int p2), .val (.int p3), .val (.int p4), .val (.int p5)] [(.int p5)])) _
          exact retI X0 hx Bd.returns (hb hby d1_25) hr
        · show Q1 Z r0 p1 p2 p3 p4 p5 kk zz vs dv w h0 n0 _ s₁.heap _
          rw [e0]
          exact ⟨congrArg (fun z => some (Value.int z)) (show p5 = (own_hit w p1 p2 p3 p4 p5) from by simp [own_hit, hc3, hc9, hc17]), N0, rfl⟩
    · -- it isn't
      have c11 : ∀ t, Steps p.tables e below (s₁.setTop (mkF m 25 #[.val (.ref r0), .val (.int p1), .val (.int p2), .val (.int p3), .val (.int p4), .val (.int p5)] [(.int p5)])) t → Steps p.tables e below (s₁.setTop (mkF m 9 #[.val (.ref r0), .val (.int p1), .val (.int p2), .val (.int p3), .val (.int p4), .val (.int p5)] [(.int p3), (.int p4)])) t := by
        intro t kt
        show Steps p.tables e below (s₁.setTop (mkF m 9 #[.val (.ref r0), .val (.int p1), .val (.int p2), .val (.int p3), .val (.int p4), .val (.int p5)] [(.int p3), (.int p4)])) _
        refine XS.icmpYes X0.here hx rfl (pc0 := 9) (pc' := 23) rfl (hb hby d1_9) rfl (flt hc9).2.1 (by decide) (by decide) ?_
        show Steps p.tables e below (s₁.setTop (mkF m 23 #[.val (.ref r0), .val (.int p1), .val (.int p2), .val (.int p3), .val (.int p4), .val (.int p5)] [])) _
        refine XS.iload X0.here hx rfl (hb hby d1_23) rfl ?_
        exact kt
      obtain ⟨fs, hr, hrun, hended, hW, hsame⟩ := X0.leave (v := some (.int p5)) (fun h => by rw [Bd.returns] at h; cases h)
      refine ⟨_, _, pre0 _ (c1 _ (c4 _ (c11 _ (?_)))), hrun, hended, _, _, rfl, ?_, ⟨_, rfl⟩, hW, hsame.mono (by decide) (by decide)⟩
      · show Steps p.tables e below (s₁.setTop (mkF m 25 #[.val (.ref r0), .val (.int p1), .val (.int p2), .val (.int p3), .val (.int p4), .val (.int p5)] [(.int p5)])) _
        exact retI X0 hx Bd.returns (hb hby d1_25) hr
      · show Q1 Z r0 p1 p2 p3 p4 p5 kk zz vs dv w h0 n0 _ s₁.heap _
        rw [e0]
        exact ⟨congrArg (fun z => some (Value.int z)) (show p5 = (own_hit w p1 p2 p3 p4 p5) from by simp [own_hit, hc3, hc9]), N0, rfl⟩
theorem d2_0 : decode prog_54_method_12_code 0 = .ok (.iload_n 2, 1) := by decide +kernel
theorem d2_1 : decode prog_54_method_12_code 1 = .ok (.istore 4, 2) := by decide +kernel
theorem d2_3 : decode prog_54_method_12_code 3 = .ok (.iload 4, 2) := by decide +kernel
theorem d2_5 : decode prog_54_method_12_code 5 = .ok (.iload_n 3, 1) := by decide +kernel
theorem d2_6 : decode prog_54_method_12_code 6 = .ok (.if_icmp .ge 20, 3) := by decide +kernel
theorem d2_9 : decode prog_54_method_12_code 9 = .ok (.aload_n 0, 1) := by decide +kernel
theorem d2_10 : decode prog_54_method_12_code 10 = .ok (.iload 4, 2) := by decide +kernel
theorem d2_12 : decode prog_54_method_12_code 12 = .ok (.baload, 1) := by decide +kernel
theorem d2_13 : decode prog_54_method_12_code 13 = .ok (.iload_n 1, 1) := by decide +kernel
theorem d2_14 : decode prog_54_method_12_code 14 = .ok (.if_icmp .ne 6, 3) := by decide +kernel
theorem d2_17 : decode prog_54_method_12_code 17 = .ok (.iload 4, 2) := by decide +kernel
theorem d2_19 : decode prog_54_method_12_code 19 = .ok (.ireturn, 1) := by decide +kernel
theorem d2_20 : decode prog_54_method_12_code 20 = .ok (.iinc 4 1, 3) := by decide +kernel
theorem d2_23 : decode prog_54_method_12_code 23 = .ok (.goto (-20), 3) := by decide +kernel
theorem d2_26 : decode prog_54_method_12_code 26 = .ok (.iconst (-1), 1) := by decide +kernel
theorem d2_27 : decode prog_54_method_12_code 27 = .ok (.ireturn, 1) := by decide +kernel
theorem pn_2 : plainName "com/example/brannan/brannan/text/ByteText" = true := by first | (simp [plainName, overriddenIn]; done) | decide +kernel
theorem ef_2 (m : MethodId) (x0 : Addr) (x1 : Int32) (x2 : Int32) (x3 : Int32) : entryFrame m #[(.ref x0), (.int x1), (.int x2), (.int x3)] 5 = mkF m 0 #[.val (.ref x0), .val (.int x1), .val (.int x2), .val (.int x3), .unset] [] := by first | (simp [entryFrame, mkF, argsToLocals, Value.category]; done) | rfl
def Q2 (Z : State) (r0 : Addr) (p1 : Int32) (p2 : Int32) (p3 : Int32) (kk : ClassId) (w0 w1 w2 w3 w4 : Int32) (fn tn : Nat) (h0 : Heap) (n0 : Nat) (v : Option Value) (h : Heap) (L : List Loc) : Prop := v = some (.int (own_ix [w0, w1, w2, w3, w4] p1 (tn - fn) fn)) ∧ Fr n0 L ∧ h = h0
set_option maxRecDepth 65536 in
set_option maxHeartbeats 40000000 in
theorem rm2 (l : Launch) (Z : State) (a0 : Array Value) (hw : ∀ d ∈ tables_1, d.before a0 Z = true) (ws : List Jvm.Cond) (r0 : Addr) (p1 : Int32) (p2 : Int32) (p3 : Int32) (kk : ClassId) (w0 w1 w2 w3 w4 : Int32) (fn tn : Nat) (h0 : Heap) (n0 : Nat) (Z0 : n0 ≤ h0.size) (V : Arv Z h0 r0 kk .byte (5 : Int32) [(.int w0), (.int w1), (.int w2), (.int w3), (.int w4)] (.int (0 : Int32))) (hp2 : p2 = Int32.ofNat fn) (hp3 : p3 = Int32.ofNat tn) (hfn : fn < 6) (htn : tn < 6) :
    MetFree l (⟨"com/example/brannan/brannan/text/ByteText", "indexOf", "([BBII)I"⟩ : MethodName) (head1 (Jvm.Cond.code (⟨"com/example/brannan/brannan/text/ByteText", "indexOf", "([BBII)I"⟩ : MethodName) prog_54_method_12_code 5 (some .int) :: ws) ({ frames := 0, cells := 0, slots := 0, locals := 0 } : Room)) (fun a U => a = #[(.ref r0), (.int p1), (.int p2), (.int p3)] ∧ Z.Warmed39 U.vm ∧ U.heap = h0) (fun _ _ _ _ _ => True) (fun _ U o U' => ∃ v L, o = .returned v ∧ Q2 Z r0 p1 p2 p3 kk w0 w1 w2 w3 w4 fn tn h0 n0 v U'.heap L ∧ FrameEnd U o U' L ({ frames := 0, cells := 0, slots := 0, locals := 0 } : Room).cells ({ frames := 0, cells := 0, slots := 0, locals := 0 } : Room).slots) := by
  refine MetFree.of_bodySF (plainFor_of_name pn_2) hisR ?_
  intro p e s m args below meth c s₁ Bd hml0 hP hK
  obtain ⟨rfl, hZ, hh⟩ := hP
  have hx := Bd.exec
  have hby := Bd.bytes
  have hml : c.maxLocals = 5 := hml0
  have hown : s.vm.findClass "com/example/brannan/brannan/text/ByteText" = some m.cls := findClass_of_methodNamed Bd.named
  have hnm := (name_of_methodNamed Bd.named Bd.method).1
  have X0 : Stand p l e ({ frames := 0, cells := 0, slots := 0, locals := 0 } : Room) s m #[(.ref r0), (.int p1), (.int p2), (.int p3)] below meth c s₁ [] 0 0 := Stand.of_body Bd
  have e0 : s₁.heap = h0 := by rw [← hh, Bd.state]; rfl
  have N0 := Fr.nil n0
  have pre0 : ∀ t, Steps p.tables e below (s₁.setTop (mkF m 0 #[.val (.ref r0), .val (.int p1), .val (.int p2), .val (.int p3), .unset] [])) t → Steps p.tables e below (s₁.setTop (entryFrame m #[(.ref r0), (.int p1), (.int p2), (.int p3)] 5)) t := fun t k => castTop (ef_2 m r0 p1 p2 p3) k
  have c1 : ∀ t, Steps p.tables e below (s₁.setTop (mkF m 3 #[.val (.ref r0), .val (.int p1), .val (.int p2), .val (.int p3), .val (.int p2)] [])) t → Steps p.tables e below (s₁.setTop (mkF m 0 #[.val (.ref r0), .val (.int p1), .val (.int p2), .val (.int p3), .unset] [])) t := by
    intro t kt
    show Steps p.tables e below (s₁.setTop (mkF m 0 #[.val (.ref r0), .val (.int p1), .val (.int p2), .val (.int p3), .unset] [])) _
    refine XS.iloadN X0.here hx rfl (hb hby d2_0) rfl ?_
    show Steps p.tables e below (s₁.setTop (mkF m 1 #[.val (.ref r0), .val (.int p1), .val (.int p2), .val (.int p3), .unset] [(.int p2)])) _
    refine XS.istore X0.here hx rfl (hb hby d2_1) rfl (l' := #[.val (.ref r0), .val (.int p1), .val (.int p2), .val (.int p3), .val (.int p2)]) rfl ?_
    exact kt
  obtain ⟨fs, hr, hrun, hended, hW, hsame⟩ := X0.leave (v := some (.int (own_ix [w0, w1, w2, w3, w4] p1 (tn - fn) fn))) (fun h => by rw [Bd.returns] at h; cases h)
  have loop : ∀ (k i : Nat), k = tn - i → (∀ (f : JFrame) (acts : List Action), f.method = m → f.locked = none → f.entered = [] → (doReturn e (s₁.setTop f) acts (some (.int (own_ix [w0, w1, w2, w3, w4] p1 k i)))).1 = s₁.setFrames fs) → i < 6 → Steps p.tables e below (s₁.setTop (mkF m 3 #[.val (.ref r0), .val (.int p1), .val (.int p2), .val (.int p3), .val (.int (Int32.ofNat i))] [])) (s₁.setFrames fs) := by
    intro k
    induction k with
    | zero =>
      intro i hk hr hi
      show Steps p.tables e below (s₁.setTop (mkF m 3 #[.val (.ref r0), .val (.int p1), .val (.int p2), .val (.int p3), .val (.int (Int32.ofNat i))] [])) _
      refine XS.iload X0.here hx rfl (hb hby d2_3) rfl ?_
      show Steps p.tables e below (s₁.setTop (mkF m 5 #[.val (.ref r0), .val (.int p1), .val (.int p2), .val (.int p3), .val (.int (Int32.ofNat i))] [(.int (Int32.ofNat i))])) _
      refine XS.iloadN X0.here hx rfl (hb hby d2_5) rfl ?_
      have hd2 : ¬ ((Int32.ofNat i) < p3) := by rw [hp3, own_lt i hi tn htn]; omega
      show Steps p.tables e below (s₁.setTop (mkF m 6 #[.val (.ref r0), .val (.int p1), .val (.int p2), .val (.int p3), .val (.int (Int32.ofNat i))] [(.int p3), (.int (Int32.ofNat i))])) _
      refine XS.icmpYes X0.here hx rfl (pc0 := 6) (pc' := 26) rfl (hb hby d2_6) rfl (flt hd2).2.1 (by decide) (by decide) ?_
      show Steps p.tables e below (s₁.setTop (mkF m 26 #[.val (.ref r0), .val (.int p1), .val (.int p2), .val (.int p3), .val (.int (Int32.ofNat i))] [])) _
      refine XS.iconst X0.here hx rfl (hb hby d2_26) ?_
      show Steps p.tables e below (s₁.setTop (mkF m 27 #[.val (.ref r0), .val (.int p1), .val (.int p2), .val (.int p3), .val (.int (Int32.ofNat i))] [(.int (-1 : Int32))])) _
      exact retI X0 hx Bd.returns (hb hby d2_27) hr
    | succ k ih =>
      intro i hk hr hi
      show Steps p.tables e below (s₁.setTop (mkF m 3 #[.val (.ref r0), .val (.int p1), .val (.int p2), .val (.int p3), .val (.int (Int32.ofNat i))] [])) _
      refine XS.iload X0.here hx rfl (hb hby d2_3) rfl ?_
      show Steps p.tables e below (s₁.setTop (mkF m 5 #[.val (.ref r0), .val (.int p1), .val (.int p2), .val (.int p3), .val (.int (Int32.ofNat i))] [(.int (Int32.ofNat i))])) _
      refine XS.iloadN X0.here hx rfl (hb hby d2_5) rfl ?_
      have hd3 : (Int32.ofNat i) < p3 := by rw [hp3, own_lt i hi tn htn]; omega
      show Steps p.tables e below (s₁.setTop (mkF m 6 #[.val (.ref r0), .val (.int p1), .val (.int p2), .val (.int p3), .val (.int (Int32.ofNat i))] [(.int p3), (.int (Int32.ofNat i))])) _
      refine XS.icmpNo X0.here hx rfl (hb hby d2_6) rfl (tlt hd3).2.1 ?_
      show Steps p.tables e below (s₁.setTop (mkF m 9 #[.val (.ref r0), .val (.int p1), .val (.int p2), .val (.int p3), .val (.int (Int32.ofNat i))] [])) _
      refine XS.aloadN X0.here hx rfl (hb hby d2_9) rfl rfl ?_
      show Steps p.tables e below (s₁.setTop (mkF m 10 #[.val (.ref r0), .val (.int p1), .val (.int p2), .val (.int p3), .val (.int (Int32.ofNat i))] [(.ref r0)])) _
      refine XS.iload X0.here hx rfl (hb hby d2_10) rfl ?_
      have Vc4 := V
      obtain ⟨cl4, Ar4, qk4, S4, M4, H4, G4⟩ := Vc4
      have hin4 : ¬ ((Int32.ofNat i) < 0 ∨ cl4.slots.size ≤ ((Int32.ofNat i)).toNatClampNeg) := inb_of S4 (own_in i (by omega))
      have hat4 : cl4.slots[((Int32.ofNat i)).toNatClampNeg]? = some (.int ([w0, w1, w2, w3, w4].getD i 0)) := H4.at hin4 (own_at _ _ _ _ _ i (by omega))
      show Steps p.tables e below (s₁.setTop (mkF m 12 #[.val (.ref r0), .val (.int p1), .val (.int p2), .val (.int p3), .val (.int (Int32.ofNat i))] [(.int (Int32.ofNat i)), (.ref r0)])) _
      refine X0.baloadBytes hx (j := (Int32.ofNat i)) (v := (.int ([w0, w1, w2, w3, w4].getD i 0))) (by rw [e0]; exact Ar4.1) (State.isArrayOf_alike hZ.alike Ar4.2.1) Ar4.2.2 hin4 hat4 (g := (mkF m 12 #[.val (.ref r0), .val (.int p1), .val (.int p2), .val (.int p3), .val (.int (Int32.ofNat i))] [(.int (Int32.ofNat i)), (.ref r0)])) rfl rfl (hb hby d2_12) _ ?_
      show Steps p.tables e below (s₁.setTop (mkF m 13 #[.val (.ref r0), .val (.int p1), .val (.int p2), .val (.int p3), .val (.int (Int32.ofNat i))] [(.int ([w0, w1, w2, w3, w4].getD i 0))])) _
      refine XS.iloadN X0.here hx rfl (hb hby d2_13) rfl ?_
      by_cases hc14 : ([w0, w1, w2, w3, w4].getD i 0) = p1
      · -- it is
        show Steps p.tables e below (s₁.setTop (mkF m 14 #[.val (.ref r0), .val (.int p1), .val (.int p2), .val (.int p3), .val (.int (Int32.ofNat i))] [(.int p1), (.int ([w0, w1, w2, w3, w4].getD i 0))])) _
        refine XS.icmpNo X0.here hx rfl (hb hby d2_14) rfl (teq hc14).2 ?_
        show Steps p.tables e below (s₁.setTop (mkF m 17 #[.val (.ref r0), .val (.int p1), .val (.int p2), .val (.int p3), .val (.int (Int32.ofNat i))] [])) _
        refine XS.iload X0.here hx rfl (hb hby d2_17) rfl ?_
        rw [own_ix1 hc14] at hr
        show Steps p.tables e below (s₁.setTop (mkF m 19 #[.val (.ref r0), .val (.int p1), .val (.int p2), .val (.int p3), .val (.int (Int32.ofNat i))] [(.int (Int32.ofNat i))])) _
        exact retI X0 hx Bd.returns (hb hby d2_19) hr
      · -- it isn't
        show Steps p.tables e below (s₁.setTop (mkF m 14 #[.val (.ref r0), .val (.int p1), .val (.int p2), .val (.int p3), .val (.int (Int32.ofNat i))] [(.int p1), (.int ([w0, w1, w2, w3, w4].getD i 0))])) _
        refine XS.icmpYes X0.here hx rfl (pc0 := 14) (pc' := 20) rfl (hb hby d2_14) rfl (feq hc14).2 (by decide) (by decide) ?_
        show Steps p.tables e below (s₁.setTop (mkF m 20 #[.val (.ref r0), .val (.int p1), .val (.int p2), .val (.int p3), .val (.int (Int32.ofNat i))] [])) _
        refine XS.iinc X0.here hx rfl (hb hby d2_20) rfl (l' := #[.val (.ref r0), .val (.int p1), .val (.int p2), .val (.int p3), .val (.int ((Int32.ofNat i) + (1 : Int32)))]) rfl ?_
        show Steps p.tables e below (s₁.setTop (mkF m 23 #[.val (.ref r0), .val (.int p1), .val (.int p2), .val (.int p3), .val (.int ((Int32.ofNat i) + (1 : Int32)))] [])) _
        refine XS.goto X0.here hx rfl (pc0 := 23) (pc' := 3) rfl (hb hby d2_23) (by decide) (by decide) ?_
        show Steps p.tables e below (s₁.setTop (mkF m 3 #[.val (.ref r0), .val (.int p1), .val (.int p2), .val (.int p3), .val (.int ((Int32.ofNat i) + (1 : Int32)))] [])) _
        rw [own_up i hi]
        exact ih (i + 1) (by omega) (by rw [own_ix2 hc14] at hr; exact hr) (by omega)
  refine ⟨_, _, pre0 _ (c1 _ (?_)), hrun, hended, _, _, rfl, ?_, ⟨_, rfl⟩, hW, hsame.mono (by decide) (by decide)⟩
  · show Steps p.tables e below (s₁.setTop (mkF m 3 #[.val (.ref r0), .val (.int p1), .val (.int p2), .val (.int p3), .val (.int p2)] [])) _
    have := loop (tn - fn) fn rfl hr hfn
    rw [← hp2] at this
    exact this
  · show Q2 Z r0 p1 p2 p3 kk w0 w1 w2 w3 w4 fn tn h0 n0 _ s₁.heap _
    rw [e0]
    exact ⟨rfl, N0, rfl⟩
theorem pn_0 : plainName "com/example/brannan/brannan/text/ByteTextIndexOfPinLaw" = true := by first | (simp [plainName, overriddenIn]; done) | decide +kernel
theorem ef_0 (m : MethodId) (x0 : Int64) (x1 : Int32) (x2 : Int32) (x3 : Int32) : entryFrame m #[(.long x0), (.int x1), (.int x2), (.int x3)] maxLocals = mkF m 0 #[.val (.long x0), .second, .val (.int x1), .val (.int x2), .val (.int x3), .unset, .unset, .unset, .unset, .unset] [] := by first | (simp [entryFrame, mkF, argsToLocals, Value.category, maxLocals]; done) | rfl
def Q0 (Z : State) (q0 : Int64) (p1 : Int32) (p2 : Int32) (p3 : Int32) (h0 : Heap) (n0 : Nat) (v : Option Value) (h : Heap) (L : List Loc) : Prop := v = some (.int 1) ∧ Fr n0 L
set_option maxRecDepth 65536 in
set_option maxHeartbeats 40000000 in
theorem rm0 (l : Launch) (Z : State) (a0 : Array Value) (hw : ∀ d ∈ tables_1, d.before a0 Z = true) (ws : List Jvm.Cond) (q0 : Int64) (p1 : Int32) (p2 : Int32) (p3 : Int32)  (h0 : Heap) (n0 : Nat) (Z0 : n0 ≤ h0.size) :
    MetFree l x (head1 (Jvm.Cond.code x code maxLocals ret :: ws) room_1) (fun a U => a = #[(.long q0), (.int p1), (.int p2), (.int p3)] ∧ Z.Warmed39 U.vm ∧ U.heap = h0) (fun _ _ _ _ _ => True) (fun _ U o U' => ∃ v L, o = .returned v ∧ Q0 Z q0 p1 p2 p3 h0 n0 v U'.heap L ∧ FrameEnd U o U' L room_1.cells room_1.slots) := by
  refine MetFree.of_bodySF (plainFor_of_name pn_0) hisR ?_
  intro p e s m args below meth c s₁ Bd hml0 hP hK
  obtain ⟨rfl, hZ, hh⟩ := hP
  have hx := Bd.exec
  have hby := Bd.bytes
  have hml : c.maxLocals = 10 := hml0
  have hown : s.vm.findClass "com/example/brannan/brannan/text/ByteTextIndexOfPinLaw" = some m.cls := findClass_of_methodNamed Bd.named
  have hnm := (name_of_methodNamed Bd.named Bd.method).1
  have X0 : Stand p l e room_1 s m #[(.long q0), (.int p1), (.int p2), (.int p3)] below meth c s₁ [] 0 0 := Stand.of_body Bd
  have e0 : s₁.heap = h0 := by rw [← hh, Bd.state]; rfl
  have N0 := Fr.nil n0
  have pre0 : ∀ t, Steps p.tables e below (s₁.setTop (mkF m 0 #[.val (.long q0), .second, .val (.int p1), .val (.int p2), .val (.int p3), .unset, .unset, .unset, .unset, .unset] [])) t → Steps p.tables e below (s₁.setTop (entryFrame m #[(.long q0), (.int p1), (.int p2), (.int p3)] maxLocals)) t := fun t k => castTop (ef_0 m q0 p1 p2 p3) k
  have c2 : ∀ t, Steps p.tables e below (s₁.setTop (mkF m 1 #[.val (.long q0), .second, .val (.int p1), .val (.int p2), .val (.int p3), .unset, .unset, .unset, .unset, .unset] [(.int (5 : Int32))])) t → Steps p.tables e below (s₁.setTop (mkF m 0 #[.val (.long q0), .second, .val (.int p1), .val (.int p2), .val (.int p3), .unset, .unset, .unset, .unset, .unset] [])) t := by
    intro t kt
    show Steps p.tables e below (s₁.setTop (mkF m 0 #[.val (.long q0), .second, .val (.int p1), .val (.int p2), .val (.int p3), .unset, .unset, .unset, .unset, .unset] [])) _
    refine XS.iconst X0.here hx rfl (hb hby at_0) ?_
    exact kt
  obtain ⟨T1, h1, k1, X1, e1, E1, A1, st1⟩ := newP X0 hx hZ (hw _ (List.mem_of_getElem? (i := 0) rfl)) e0 (g := (mkF m 1 #[.val (.long q0), .second, .val (.int p1), .val (.int p2), .val (.int p3), .unset, .unset, .unset, .unset, .unset] [(.int (5 : Int32))])) rfl (hb hby at_1) rfl (by decide) (cap := 5) (by decide) (by decide) (by decide) (by decide)
  obtain ⟨b1, g1⟩ : ∃ z, z = h0.size := ⟨_, rfl⟩
  rw [← g1] at A1 st1
  have g_b1 : n0 ≤ b1 := Nat.le_trans Z0 (Nat.le_of_eq g1.symm)
  have sz_b1 : h0.size ≤ b1 := Nat.le_trans (Keep.refl h0 []).1 (Nat.le_of_eq g1.symm)
  have V1 : Arv Z h1 b1 k1 .byte (5 : Int32) [(.int (0 : Int32)), (.int (0 : Int32)), (.int (0 : Int32)), (.int (0 : Int32)), (.int (0 : Int32))] (.int (0 : Int32)) := (Arv.new A1 (by decide)).pad (pad_rep [] (.int (0 : Int32)) 5)
  have c3 : ∀ t, Steps p.tables e below (T1.setTop (mkF m 11 #[.val (.long q0), .second, .val (.int p1), .val (.int p2), .val (.int p3), .val (.ref b1), .unset, .unset, .unset, .unset] [(.int ((q0.toInt32).toInt8.toInt32)), (.int (0 : Int32)), (.ref b1)])) t → Steps p.tables e below (T1.setTop (mkF m 3 #[.val (.long q0), .second, .val (.int p1), .val (.int p2), .val (.int p3), .unset, .unset, .unset, .unset, .unset] [(.ref b1)])) t := by
    intro t kt
    show Steps p.tables e below (T1.setTop (mkF m 3 #[.val (.long q0), .second, .val (.int p1), .val (.int p2), .val (.int p3), .unset, .unset, .unset, .unset, .unset] [(.ref b1)])) _
    refine XS.astore X1.here hx rfl (hb hby at_3) rfl rfl (l' := #[.val (.long q0), .second, .val (.int p1), .val (.int p2), .val (.int p3), .val (.ref b1), .unset, .unset, .unset, .unset]) rfl ?_
    show Steps p.tables e below (T1.setTop (mkF m 5 #[.val (.long q0), .second, .val (.int p1), .val (.int p2), .val (.int p3), .val (.ref b1), .unset, .unset, .unset, .unset] [])) _
    refine XS.aload X1.here hx rfl (hb hby at_5) rfl rfl ?_
    show Steps p.tables e below (T1.setTop (mkF m 7 #[.val (.long q0), .second, .val (.int p1), .val (.int p2), .val (.int p3), .val (.ref b1), .unset, .unset, .unset, .unset] [(.ref b1)])) _
    refine XS.iconst X1.here hx rfl (hb hby at_7) ?_
    show Steps p.tables e below (T1.setTop (mkF m 8 #[.val (.long q0), .second, .val (.int p1), .val (.int p2), .val (.int p3), .val (.ref b1), .unset, .unset, .unset, .unset] [(.int (0 : Int32)), (.ref b1)])) _
    refine XS.lloadN X1.here hx rfl (hb hby at_8) rfl ?_
    show Steps p.tables e below (T1.setTop (mkF m 9 #[.val (.long q0), .second, .val (.int p1), .val (.int p2), .val (.int p3), .val (.ref b1), .unset, .unset, .unset, .unset] [(.long q0), (.int (0 : Int32)), (.ref b1)])) _
    refine XS.l2i X1.here hx rfl (hb hby at_9) rfl ?_
    show Steps p.tables e below (T1.setTop (mkF m 10 #[.val (.long q0), .second, .val (.int p1), .val (.int p2), .val (.int p3), .val (.ref b1), .unset, .unset, .unset, .unset] [(.int (q0.toInt32)), (.int (0 : Int32)), (.ref b1)])) _
    refine XS.i2b X1.here hx rfl (hb hby at_10) rfl ?_
    exact kt
  have Vc4 := V1
  obtain ⟨cl4, Ar4, qk4, S4, M4, H4, G4⟩ := Vc4
  have hin4 : ¬ ((0 : Int32) < 0 ∨ cl4.slots.size ≤ ((0 : Int32)).toNatClampNeg) := inb_of S4 ⟨by decide, by decide⟩
  obtain ⟨T5, h5, X5, e5, W5, st5⟩ := stB X1 hx hZ e1 Ar4 (j := (0 : Int32)) hin4 (g := (mkF m 11 #[.val (.long q0), .second, .val (.int p1), .val (.int p2), .val (.int p3), .val (.ref b1), .unset, .unset, .unset, .unset] [(.int ((q0.toInt32).toInt8.toInt32)), (.int (0 : Int32)), (.ref b1)])) rfl rfl (hb hby at_11)
  have V5 : Arv Z h5 b1 k1 .byte (5 : Int32) [(.int (((q0.toInt32).toInt8.toInt32).toInt8.toInt32)), (.int (0 : Int32)), (.int (0 : Int32)), (.int (0 : Int32)), (.int (0 : Int32))] (.int (0 : Int32)) := Arv.set Ar4 qk4 S4 M4 H4 G4 (fits_nar_byte _) W5 0 rfl (Nat.le_of_ble_eq_true rfl)
  have N5 := Fr.snoc X5 N0 g_b1
  have c6 : ∀ t, Steps p.tables e below (T5.setTop (mkF m 21 #[.val (.long q0), .second, .val (.int p1), .val (.int p2), .val (.int p3), .val (.ref b1), .unset, .unset, .unset, .unset] [(.int ((((q0.toUInt64 >>> ((8 : Int32) &&& 0x3f).toInt64.toUInt64).toInt64).toInt32).toInt8.toInt32)), (.int (1 : Int32)), (.ref b1)])) t → Steps p.tables e below (T5.setTop (mkF m 12 #[.val (.long q0), .second, .val (.int p1), .val (.int p2), .val (.int p3), .val (.ref b1), .unset, .unset, .unset, .unset] [])) t := by
    intro t kt
    show Steps p.tables e below (T5.setTop (mkF m 12 #[.val (.long q0), .second, .val (.int p1), .val (.int p2), .val (.int p3), .val (.ref b1), .unset, .unset, .unset, .unset] [])) _
    refine XS.aload X5.here hx rfl (hb hby at_12) rfl rfl ?_
    show Steps p.tables e below (T5.setTop (mkF m 14 #[.val (.long q0), .second, .val (.int p1), .val (.int p2), .val (.int p3), .val (.ref b1), .unset, .unset, .unset, .unset] [(.ref b1)])) _
    refine XS.iconst X5.here hx rfl (hb hby at_14) ?_
    show Steps p.tables e below (T5.setTop (mkF m 15 #[.val (.long q0), .second, .val (.int p1), .val (.int p2), .val (.int p3), .val (.ref b1), .unset, .unset, .unset, .unset] [(.int (1 : Int32)), (.ref b1)])) _
    refine XS.lloadN X5.here hx rfl (hb hby at_15) rfl ?_
    show Steps p.tables e below (T5.setTop (mkF m 16 #[.val (.long q0), .second, .val (.int p1), .val (.int p2), .val (.int p3), .val (.ref b1), .unset, .unset, .unset, .unset] [(.long q0), (.int (1 : Int32)), (.ref b1)])) _
    refine XS.bipush X5.here hx rfl (hb hby at_16) ?_
    show Steps p.tables e below (T5.setTop (mkF m 18 #[.val (.long q0), .second, .val (.int p1), .val (.int p2), .val (.int p3), .val (.ref b1), .unset, .unset, .unset, .unset] [(.int (8 : Int32)), (.long q0), (.int (1 : Int32)), (.ref b1)])) _
    refine XS.lushr X5.here hx rfl (hb hby at_18) rfl ?_
    show Steps p.tables e below (T5.setTop (mkF m 19 #[.val (.long q0), .second, .val (.int p1), .val (.int p2), .val (.int p3), .val (.ref b1), .unset, .unset, .unset, .unset] [(.long ((q0.toUInt64 >>> ((8 : Int32) &&& 0x3f).toInt64.toUInt64).toInt64)), (.int (1 : Int32)), (.ref b1)])) _
    refine XS.l2i X5.here hx rfl (hb hby at_19) rfl ?_
    show Steps p.tables e below (T5.setTop (mkF m 20 #[.val (.long q0), .second, .val (.int p1), .val (.int p2), .val (.int p3), .val (.ref b1), .unset, .unset, .unset, .unset] [(.int (((q0.toUInt64 >>> ((8 : Int32) &&& 0x3f).toInt64.toUInt64).toInt64).toInt32)), (.int (1 : Int32)), (.ref b1)])) _
    refine XS.i2b X5.here hx rfl (hb hby at_20) rfl ?_
    exact kt
  have Vc7 := V5
  obtain ⟨cl7, Ar7, qk7, S7, M7, H7, G7⟩ := Vc7
  have hin7 : ¬ ((1 : Int32) < 0 ∨ cl7.slots.size ≤ ((1 : Int32)).toNatClampNeg) := inb_of S7 ⟨by decide, by decide⟩
  obtain ⟨T8, h8, X8, e8, W8, st8⟩ := stB X5 hx hZ e5 Ar7 (j := (1 : Int32)) hin7 (g := (mkF m 21 #[.val (.long q0), .second, .val (.int p1), .val (.int p2), .val (.int p3), .val (.ref b1), .unset, .unset, .unset, .unset] [(.int ((((q0.toUInt64 >>> ((8 : Int32) &&& 0x3f).toInt64.toUInt64).toInt64).toInt32).toInt8.toInt32)), (.int (1 : Int32)), (.ref b1)])) rfl rfl (hb hby at_21)
  have V8 : Arv Z h8 b1 k1 .byte (5 : Int32) [(.int (((q0.toInt32).toInt8.toInt32).toInt8.toInt32)), (.int (((((q0.toUInt64 >>> ((8 : Int32) &&& 0x3f).toInt64.toUInt64).toInt64).toInt32).toInt8.toInt32).toInt8.toInt32)), (.int (0 : Int32)), (.int (0 : Int32)), (.int (0 : Int32))] (.int (0 : Int32)) := Arv.set Ar7 qk7 S7 M7 H7 G7 (fits_nar_byte _) W8 1 rfl (Nat.le_of_ble_eq_true rfl)
  have N8 := Fr.snoc X8 N5 g_b1
  have c9 : ∀ t, Steps p.tables e below (T8.setTop (mkF m 31 #[.val (.long q0), .second, .val (.int p1), .val (.int p2), .val (.int p3), .val (.ref b1), .unset, .unset, .unset, .unset] [(.int ((((q0.toUInt64 >>> ((16 : Int32) &&& 0x3f).toInt64.toUInt64).toInt64).toInt32).toInt8.toInt32)), (.int (2 : Int32)), (.ref b1)])) t → Steps p.tables e below (T8.setTop (mkF m 22 #[.val (.long q0), .second, .val (.int p1), .val (.int p2), .val (.int p3), .val (.ref b1), .unset, .unset, .unset, .unset] [])) t := by
    intro t kt
    show Steps p.tables e below (T8.setTop (mkF m 22 #[.val (.long q0), .second, .val (.int p1), .val (.int p2), .val (.int p3), .val (.ref b1), .unset, .unset, .unset, .unset] [])) _
    refine XS.aload X8.here hx rfl (hb hby at_22) rfl rfl ?_
    show Steps p.tables e below (T8.setTop (mkF m 24 #[.val (.long q0), .second, .val (.int p1), .val (.int p2), .val (.int p3), .val (.ref b1), .unset, .unset, .unset, .unset] [(.ref b1)])) _
    refine XS.iconst X8.here hx rfl (hb hby at_24) ?_
    show Steps p.tables e below (T8.setTop (mkF m 25 #[.val (.long q0), .second, .val (.int p1), .val (.int p2), .val (.int p3), .val (.ref b1), .unset, .unset, .unset, .unset] [(.int (2 : Int32)), (.ref b1)])) _
    refine XS.lloadN X8.here hx rfl (hb hby at_25) rfl ?_
    show Steps p.tables e below (T8.setTop (mkF m 26 #[.val (.long q0), .second, .val (.int p1), .val (.int p2), .val (.int p3), .val (.ref b1), .unset, .unset, .unset, .unset] [(.long q0), (.int (2 : Int32)), (.ref b1)])) _
    refine XS.bipush X8.here hx rfl (hb hby at_26) ?_
    show Steps p.tables e below (T8.setTop (mkF m 28 #[.val (.long q0), .second, .val (.int p1), .val (.int p2), .val (.int p3), .val (.ref b1), .unset, .unset, .unset, .unset] [(.int (16 : Int32)), (.long q0), (.int (2 : Int32)), (.ref b1)])) _
    refine XS.lushr X8.here hx rfl (hb hby at_28) rfl ?_
    show Steps p.tables e below (T8.setTop (mkF m 29 #[.val (.long q0), .second, .val (.int p1), .val (.int p2), .val (.int p3), .val (.ref b1), .unset, .unset, .unset, .unset] [(.long ((q0.toUInt64 >>> ((16 : Int32) &&& 0x3f).toInt64.toUInt64).toInt64)), (.int (2 : Int32)), (.ref b1)])) _
    refine XS.l2i X8.here hx rfl (hb hby at_29) rfl ?_
    show Steps p.tables e below (T8.setTop (mkF m 30 #[.val (.long q0), .second, .val (.int p1), .val (.int p2), .val (.int p3), .val (.ref b1), .unset, .unset, .unset, .unset] [(.int (((q0.toUInt64 >>> ((16 : Int32) &&& 0x3f).toInt64.toUInt64).toInt64).toInt32)), (.int (2 : Int32)), (.ref b1)])) _
    refine XS.i2b X8.here hx rfl (hb hby at_30) rfl ?_
    exact kt
  have Vc10 := V8
  obtain ⟨cl10, Ar10, qk10, S10, M10, H10, G10⟩ := Vc10
  have hin10 : ¬ ((2 : Int32) < 0 ∨ cl10.slots.size ≤ ((2 : Int32)).toNatClampNeg) := inb_of S10 ⟨by decide, by decide⟩
  obtain ⟨T11, h11, X11, e11, W11, st11⟩ := stB X8 hx hZ e8 Ar10 (j := (2 : Int32)) hin10 (g := (mkF m 31 #[.val (.long q0), .second, .val (.int p1), .val (.int p2), .val (.int p3), .val (.ref b1), .unset, .unset, .unset, .unset] [(.int ((((q0.toUInt64 >>> ((16 : Int32) &&& 0x3f).toInt64.toUInt64).toInt64).toInt32).toInt8.toInt32)), (.int (2 : Int32)), (.ref b1)])) rfl rfl (hb hby at_31)
  have V11 : Arv Z h11 b1 k1 .byte (5 : Int32) [(.int (((q0.toInt32).toInt8.toInt32).toInt8.toInt32)), (.int (((((q0.toUInt64 >>> ((8 : Int32) &&& 0x3f).toInt64.toUInt64).toInt64).toInt32).toInt8.toInt32).toInt8.toInt32)), (.int (((((q0.toUInt64 >>> ((16 : Int32) &&& 0x3f).toInt64.toUInt64).toInt64).toInt32).toInt8.toInt32).toInt8.toInt32)), (.int (0 : Int32)), (.int (0 : Int32))] (.int (0 : Int32)) := Arv.set Ar10 qk10 S10 M10 H10 G10 (fits_nar_byte _) W11 2 rfl (Nat.le_of_ble_eq_true rfl)
  have N11 := Fr.snoc X11 N8 g_b1
  have c12 : ∀ t, Steps p.tables e below (T11.setTop (mkF m 41 #[.val (.long q0), .second, .val (.int p1), .val (.int p2), .val (.int p3), .val (.ref b1), .unset, .unset, .unset, .unset] [(.int ((((q0.toUInt64 >>> ((24 : Int32) &&& 0x3f).toInt64.toUInt64).toInt64).toInt32).toInt8.toInt32)), (.int (3 : Int32)), (.ref b1)])) t → Steps p.tables e below (T11.setTop (mkF m 32 #[.val (.long q0), .second, .val (.int p1), .val (.int p2), .val (.int p3), .val (.ref b1), .unset, .unset, .unset, .unset] [])) t := by
    intro t kt
    show Steps p.tables e below (T11.setTop (mkF m 32 #[.val (.long q0), .second, .val (.int p1), .val (.int p2), .val (.int p3), .val (.ref b1), .unset, .unset, .unset, .unset] [])) _
    refine XS.aload X11.here hx rfl (hb hby at_32) rfl rfl ?_
    show Steps p.tables e below (T11.setTop (mkF m 34 #[.val (.long q0), .second, .val (.int p1), .val (.int p2), .val (.int p3), .val (.ref b1), .unset, .unset, .unset, .unset] [(.ref b1)])) _
    refine XS.iconst X11.here hx rfl (hb hby at_34) ?_
    show Steps p.tables e below (T11.setTop (mkF m 35 #[.val (.long q0), .second, .val (.int p1), .val (.int p2), .val (.int p3), .val (.ref b1), .unset, .unset, .unset, .unset] [(.int (3 : Int32)), (.ref b1)])) _
    refine XS.lloadN X11.here hx rfl (hb hby at_35) rfl ?_
    show Steps p.tables e below (T11.setTop (mkF m 36 #[.val (.long q0), .second, .val (.int p1), .val (.int p2), .val (.int p3), .val (.ref b1), .unset, .unset, .unset, .unset] [(.long q0), (.int (3 : Int32)), (.ref b1)])) _
    refine XS.bipush X11.here hx rfl (hb hby at_36) ?_
    show Steps p.tables e below (T11.setTop (mkF m 38 #[.val (.long q0), .second, .val (.int p1), .val (.int p2), .val (.int p3), .val (.ref b1), .unset, .unset, .unset, .unset] [(.int (24 : Int32)), (.long q0), (.int (3 : Int32)), (.ref b1)])) _
    refine XS.lushr X11.here hx rfl (hb hby at_38) rfl ?_
    show Steps p.tables e below (T11.setTop (mkF m 39 #[.val (.long q0), .second, .val (.int p1), .val (.int p2), .val (.int p3), .val (.ref b1), .unset, .unset, .unset, .unset] [(.long ((q0.toUInt64 >>> ((24 : Int32) &&& 0x3f).toInt64.toUInt64).toInt64)), (.int (3 : Int32)), (.ref b1)])) _
    refine XS.l2i X11.here hx rfl (hb hby at_39) rfl ?_
    show Steps p.tables e below (T11.setTop (mkF m 40 #[.val (.long q0), .second, .val (.int p1), .val (.int p2), .val (.int p3), .val (.ref b1), .unset, .unset, .unset, .unset] [(.int (((q0.toUInt64 >>> ((24 : Int32) &&& 0x3f).toInt64.toUInt64).toInt64).toInt32)), (.int (3 : Int32)), (.ref b1)])) _
    refine XS.i2b X11.here hx rfl (hb hby at_40) rfl ?_
    exact kt
  have Vc13 := V11
  obtain ⟨cl13, Ar13, qk13, S13, M13, H13, G13⟩ := Vc13
  have hin13 : ¬ ((3 : Int32) < 0 ∨ cl13.slots.size ≤ ((3 : Int32)).toNatClampNeg) := inb_of S13 ⟨by decide, by decide⟩
  obtain ⟨T14, h14, X14, e14, W14, st14⟩ := stB X11 hx hZ e11 Ar13 (j := (3 : Int32)) hin13 (g := (mkF m 41 #[.val (.long q0), .second, .val (.int p1), .val (.int p2), .val (.int p3), .val (.ref b1), .unset, .unset, .unset, .unset] [(.int ((((q0.toUInt64 >>> ((24 : Int32) &&& 0x3f).toInt64.toUInt64).toInt64).toInt32).toInt8.toInt32)), (.int (3 : Int32)), (.ref b1)])) rfl rfl (hb hby at_41)
  have V14 : Arv Z h14 b1 k1 .byte (5 : Int32) [(.int (((q0.toInt32).toInt8.toInt32).toInt8.toInt32)), (.int (((((q0.toUInt64 >>> ((8 : Int32) &&& 0x3f).toInt64.toUInt64).toInt64).toInt32).toInt8.toInt32).toInt8.toInt32)), (.int (((((q0.toUInt64 >>> ((16 : Int32) &&& 0x3f).toInt64.toUInt64).toInt64).toInt32).toInt8.toInt32).toInt8.toInt32)), (.int (((((q0.toUInt64 >>> ((24 : Int32) &&& 0x3f).toInt64.toUInt64).toInt64).toInt32).toInt8.toInt32).toInt8.toInt32)), (.int (0 : Int32))] (.int (0 : Int32)) := Arv.set Ar13 qk13 S13 M13 H13 G13 (fits_nar_byte _) W14 3 rfl (Nat.le_of_ble_eq_true rfl)
  have N14 := Fr.snoc X14 N11 g_b1
  have c15 : ∀ t, Steps p.tables e below (T14.setTop (mkF m 51 #[.val (.long q0), .second, .val (.int p1), .val (.int p2), .val (.int p3), .val (.ref b1), .unset, .unset, .unset, .unset] [(.int ((((q0.toUInt64 >>> ((32 : Int32) &&& 0x3f).toInt64.toUInt64).toInt64).toInt32).toInt8.toInt32)), (.int (4 : Int32)), (.ref b1)])) t → Steps p.tables e below (T14.setTop (mkF m 42 #[.val (.long q0), .second, .val (.int p1), .val (.int p2), .val (.int p3), .val (.ref b1), .unset, .unset, .unset, .unset] [])) t := by
    intro t kt
    show Steps p.tables e below (T14.setTop (mkF m 42 #[.val (.long q0), .second, .val (.int p1), .val (.int p2), .val (.int p3), .val (.ref b1), .unset, .unset, .unset, .unset] [])) _
    refine XS.aload X14.here hx rfl (hb hby at_42) rfl rfl ?_
    show Steps p.tables e below (T14.setTop (mkF m 44 #[.val (.long q0), .second, .val (.int p1), .val (.int p2), .val (.int p3), .val (.ref b1), .unset, .unset, .unset, .unset] [(.ref b1)])) _
    refine XS.iconst X14.here hx rfl (hb hby at_44) ?_
    show Steps p.tables e below (T14.setTop (mkF m 45 #[.val (.long q0), .second, .val (.int p1), .val (.int p2), .val (.int p3), .val (.ref b1), .unset, .unset, .unset, .unset] [(.int (4 : Int32)), (.ref b1)])) _
    refine XS.lloadN X14.here hx rfl (hb hby at_45) rfl ?_
    show Steps p.tables e below (T14.setTop (mkF m 46 #[.val (.long q0), .second, .val (.int p1), .val (.int p2), .val (.int p3), .val (.ref b1), .unset, .unset, .unset, .unset] [(.long q0), (.int (4 : Int32)), (.ref b1)])) _
    refine XS.bipush X14.here hx rfl (hb hby at_46) ?_
    show Steps p.tables e below (T14.setTop (mkF m 48 #[.val (.long q0), .second, .val (.int p1), .val (.int p2), .val (.int p3), .val (.ref b1), .unset, .unset, .unset, .unset] [(.int (32 : Int32)), (.long q0), (.int (4 : Int32)), (.ref b1)])) _
    refine XS.lushr X14.here hx rfl (hb hby at_48) rfl ?_
    show Steps p.tables e below (T14.setTop (mkF m 49 #[.val (.long q0), .second, .val (.int p1), .val (.int p2), .val (.int p3), .val (.ref b1), .unset, .unset, .unset, .unset] [(.long ((q0.toUInt64 >>> ((32 : Int32) &&& 0x3f).toInt64.toUInt64).toInt64)), (.int (4 : Int32)), (.ref b1)])) _
    refine XS.l2i X14.here hx rfl (hb hby at_49) rfl ?_
    show Steps p.tables e below (T14.setTop (mkF m 50 #[.val (.long q0), .second, .val (.int p1), .val (.int p2), .val (.int p3), .val (.ref b1), .unset, .unset, .unset, .unset] [(.int (((q0.toUInt64 >>> ((32 : Int32) &&& 0x3f).toInt64.toUInt64).toInt64).toInt32)), (.int (4 : Int32)), (.ref b1)])) _
    refine XS.i2b X14.here hx rfl (hb hby at_50) rfl ?_
    exact kt
  have Vc16 := V14
  obtain ⟨cl16, Ar16, qk16, S16, M16, H16, G16⟩ := Vc16
  have hin16 : ¬ ((4 : Int32) < 0 ∨ cl16.slots.size ≤ ((4 : Int32)).toNatClampNeg) := inb_of S16 ⟨by decide, by decide⟩
  obtain ⟨T17, h17, X17, e17, W17, st17⟩ := stB X14 hx hZ e14 Ar16 (j := (4 : Int32)) hin16 (g := (mkF m 51 #[.val (.long q0), .second, .val (.int p1), .val (.int p2), .val (.int p3), .val (.ref b1), .unset, .unset, .unset, .unset] [(.int ((((q0.toUInt64 >>> ((32 : Int32) &&& 0x3f).toInt64.toUInt64).toInt64).toInt32).toInt8.toInt32)), (.int (4 : Int32)), (.ref b1)])) rfl rfl (hb hby at_51)
  have V17 : Arv Z h17 b1 k1 .byte (5 : Int32) [(.int (((q0.toInt32).toInt8.toInt32).toInt8.toInt32)), (.int (((((q0.toUInt64 >>> ((8 : Int32) &&& 0x3f).toInt64.toUInt64).toInt64).toInt32).toInt8.toInt32).toInt8.toInt32)), (.int (((((q0.toUInt64 >>> ((16 : Int32) &&& 0x3f).toInt64.toUInt64).toInt64).toInt32).toInt8.toInt32).toInt8.toInt32)), (.int (((((q0.toUInt64 >>> ((24 : Int32) &&& 0x3f).toInt64.toUInt64).toInt64).toInt32).toInt8.toInt32).toInt8.toInt32)), (.int (((((q0.toUInt64 >>> ((32 : Int32) &&& 0x3f).toInt64.toUInt64).toInt64).toInt32).toInt8.toInt32).toInt8.toInt32))] (.int (0 : Int32)) := Arv.set Ar16 qk16 S16 M16 H16 G16 (fits_nar_byte _) W17 4 rfl (Nat.le_of_ble_eq_true rfl)
  have N17 := Fr.snoc X17 N14 g_b1
  have c18 : ∀ t, Steps p.tables e below (T17.setTop (mkF m 65 #[.val (.long q0), .second, .val (.int p1), .val (.int p2), .val (.int p3), .val (.ref b1), .val (.int (p1.toInt8.toInt32)), .val (.int ((p2 &&& (2147483647 : Int32)) % (6 : Int32))), .unset, .unset] [])) t → Steps p.tables e below (T17.setTop (mkF m 52 #[.val (.long q0), .second, .val (.int p1), .val (.int p2), .val (.int p3), .val (.ref b1), .unset, .unset, .unset, .unset] [])) t := by
    intro t kt
    show Steps p.tables e below (T17.setTop (mkF m 52 #[.val (.long q0), .second, .val (.int p1), .val (.int p2), .val (.int p3), .val (.ref b1), .unset, .unset, .unset, .unset] [])) _
    refine XS.iloadN X17.here hx rfl (hb hby at_52) rfl ?_
    show Steps p.tables e below (T17.setTop (mkF m 53 #[.val (.long q0), .second, .val (.int p1), .val (.int p2), .val (.int p3), .val (.ref b1), .unset, .unset, .unset, .unset] [(.int p1)])) _
    refine XS.i2b X17.here hx rfl (hb hby at_53) rfl ?_
    show Steps p.tables e below (T17.setTop (mkF m 54 #[.val (.long q0), .second, .val (.int p1), .val (.int p2), .val (.int p3), .val (.ref b1), .unset, .unset, .unset, .unset] [(.int (p1.toInt8.toInt32))])) _
    refine XS.istore X17.here hx rfl (hb hby at_54) rfl (l' := #[.val (.long q0), .second, .val (.int p1), .val (.int p2), .val (.int p3), .val (.ref b1), .val (.int (p1.toInt8.toInt32)), .unset, .unset, .unset]) rfl ?_
    show Steps p.tables e below (T17.setTop (mkF m 56 #[.val (.long q0), .second, .val (.int p1), .val (.int p2), .val (.int p3), .val (.ref b1), .val (.int (p1.toInt8.toInt32)), .unset, .unset, .unset] [])) _
    refine XS.iloadN X17.here hx rfl (hb hby at_56) rfl ?_
    show Steps p.tables e below (T17.setTop (mkF m 57 #[.val (.long q0), .second, .val (.int p1), .val (.int p2), .val (.int p3), .val (.ref b1), .val (.int (p1.toInt8.toInt32)), .unset, .unset, .unset] [(.int p2)])) _
    refine X17.ldcInt hx hown (mvT hZ (hw _ (List.mem_of_getElem? (i := 1) rfl))) (g := (mkF m 57 #[.val (.long q0), .second, .val (.int p1), .val (.int p2), .val (.int p3), .val (.ref b1), .val (.int (p1.toInt8.toInt32)), .unset, .unset, .unset] [(.int p2)])) rfl (hb hby at_57) _ ?_
    show Steps p.tables e below (T17.setTop (mkF m 59 #[.val (.long q0), .second, .val (.int p1), .val (.int p2), .val (.int p3), .val (.ref b1), .val (.int (p1.toInt8.toInt32)), .unset, .unset, .unset] [(.int (2147483647 : Int32)), (.int p2)])) _
    refine XS.iand X17.here hx rfl (hb hby at_59) rfl ?_
    show Steps p.tables e below (T17.setTop (mkF m 60 #[.val (.long q0), .second, .val (.int p1), .val (.int p2), .val (.int p3), .val (.ref b1), .val (.int (p1.toInt8.toInt32)), .unset, .unset, .unset] [(.int (p2 &&& (2147483647 : Int32)))])) _
    refine XS.bipush X17.here hx rfl (hb hby at_60) ?_
    show Steps p.tables e below (T17.setTop (mkF m 62 #[.val (.long q0), .second, .val (.int p1), .val (.int p2), .val (.int p3), .val (.ref b1), .val (.int (p1.toInt8.toInt32)), .unset, .unset, .unset] [(.int (6 : Int32)), (.int (p2 &&& (2147483647 : Int32)))])) _
    refine iremM X17 hx rfl (hb hby at_62) rfl (by decide) ?_
    show Steps p.tables e below (T17.setTop (mkF m 63 #[.val (.long q0), .second, .val (.int p1), .val (.int p2), .val (.int p3), .val (.ref b1), .val (.int (p1.toInt8.toInt32)), .unset, .unset, .unset] [(.int ((p2 &&& (2147483647 : Int32)) % (6 : Int32)))])) _
    refine XS.istore X17.here hx rfl (hb hby at_63) rfl (l' := #[.val (.long q0), .second, .val (.int p1), .val (.int p2), .val (.int p3), .val (.ref b1), .val (.int (p1.toInt8.toInt32)), .val (.int ((p2 &&& (2147483647 : Int32)) % (6 : Int32))), .unset, .unset]) rfl ?_
    exact kt
  obtain ⟨fn, hfn, hfe⟩ := own_six p2
  have c19 : ∀ t, Steps p.tables e below (T17.setTop (mkF m 65 #[.val (.long q0), .second, .val (.int p1), .val (.int p2), .val (.int p3), .val (.ref b1), .val (.int (p1.toInt8.toInt32)), .val (.int (Int32.ofNat fn)), .unset, .unset] [])) t → Steps p.tables e below (T17.setTop (mkF m 65 #[.val (.long q0), .second, .val (.int p1), .val (.int p2), .val (.int p3), .val (.ref b1), .val (.int (p1.toInt8.toInt32)), .val (.int ((p2 &&& (2147483647 : Int32)) % (6 : Int32))), .unset, .unset] [])) t := fun t kt => by rw [hfe]; exact kt
  have c20 : ∀ t, Steps p.tables e below (T17.setTop (mkF m 75 #[.val (.long q0), .second, .val (.int p1), .val (.int p2), .val (.int p3), .val (.ref b1), .val (.int (p1.toInt8.toInt32)), .val (.int (Int32.ofNat fn)), .val (.int ((p3 &&& (2147483647 : Int32)) % (6 : Int32))), .unset] [])) t → Steps p.tables e below (T17.setTop (mkF m 65 #[.val (.long q0), .second, .val (.int p1), .val (.int p2), .val (.int p3), .val (.ref b1), .val (.int (p1.toInt8.toInt32)), .val (.int (Int32.ofNat fn)), .unset, .unset] [])) t := by
    intro t kt
    show Steps p.tables e below (T17.setTop (mkF m 65 #[.val (.long q0), .second, .val (.int p1), .val (.int p2), .val (.int p3), .val (.ref b1), .val (.int (p1.toInt8.toInt32)), .val (.int (Int32.ofNat fn)), .unset, .unset] [])) _
    refine XS.iload X17.here hx rfl (hb hby at_65) rfl ?_
    show Steps p.tables e below (T17.setTop (mkF m 67 #[.val (.long q0), .second, .val (.int p1), .val (.int p2), .val (.int p3), .val (.ref b1), .val (.int (p1.toInt8.toInt32)), .val (.int (Int32.ofNat fn)), .unset, .unset] [(.int p3)])) _
    refine X17.ldcInt hx hown (mvT hZ (hw _ (List.mem_of_getElem? (i := 1) rfl))) (g := (mkF m 67 #[.val (.long q0), .second, .val (.int p1), .val (.int p2), .val (.int p3), .val (.ref b1), .val (.int (p1.toInt8.toInt32)), .val (.int (Int32.ofNat fn)), .unset, .unset] [(.int p3)])) rfl (hb hby at_67) _ ?_
    show Steps p.tables e below (T17.setTop (mkF m 69 #[.val (.long q0), .second, .val (.int p1), .val (.int p2), .val (.int p3), .val (.ref b1), .val (.int (p1.toInt8.toInt32)), .val (.int (Int32.ofNat fn)), .unset, .unset] [(.int (2147483647 : Int32)), (.int p3)])) _
    refine XS.iand X17.here hx rfl (hb hby at_69) rfl ?_
    show Steps p.tables e below (T17.setTop (mkF m 70 #[.val (.long q0), .second, .val (.int p1), .val (.int p2), .val (.int p3), .val (.ref b1), .val (.int (p1.toInt8.toInt32)), .val (.int (Int32.ofNat fn)), .unset, .unset] [(.int (p3 &&& (2147483647 : Int32)))])) _
    refine XS.bipush X17.here hx rfl (hb hby at_70) ?_
    show Steps p.tables e below (T17.setTop (mkF m 72 #[.val (.long q0), .second, .val (.int p1), .val (.int p2), .val (.int p3), .val (.ref b1), .val (.int (p1.toInt8.toInt32)), .val (.int (Int32.ofNat fn)), .unset, .unset] [(.int (6 : Int32)), (.int (p3 &&& (2147483647 : Int32)))])) _
    refine iremM X17 hx rfl (hb hby at_72) rfl (by decide) ?_
    show Steps p.tables e below (T17.setTop (mkF m 73 #[.val (.long q0), .second, .val (.int p1), .val (.int p2), .val (.int p3), .val (.ref b1), .val (.int (p1.toInt8.toInt32)), .val (.int (Int32.ofNat fn)), .unset, .unset] [(.int ((p3 &&& (2147483647 : Int32)) % (6 : Int32)))])) _
    refine XS.istore X17.here hx rfl (hb hby at_73) rfl (l' := #[.val (.long q0), .second, .val (.int p1), .val (.int p2), .val (.int p3), .val (.ref b1), .val (.int (p1.toInt8.toInt32)), .val (.int (Int32.ofNat fn)), .val (.int ((p3 &&& (2147483647 : Int32)) % (6 : Int32))), .unset]) rfl ?_
    exact kt
  obtain ⟨tn, htn, hte⟩ := own_six p3
  have c21 : ∀ t, Steps p.tables e below (T17.setTop (mkF m 75 #[.val (.long q0), .second, .val (.int p1), .val (.int p2), .val (.int p3), .val (.ref b1), .val (.int (p1.toInt8.toInt32)), .val (.int (Int32.ofNat fn)), .val (.int (Int32.ofNat tn)), .unset] [])) t → Steps p.tables e below (T17.setTop (mkF m 75 #[.val (.long q0), .second, .val (.int p1), .val (.int p2), .val (.int p3), .val (.ref b1), .val (.int (p1.toInt8.toInt32)), .val (.int (Int32.ofNat fn)), .val (.int ((p3 &&& (2147483647 : Int32)) % (6 : Int32))), .unset] [])) t := fun t kt => by rw [hte]; exact kt
  have c22 : ∀ t, Steps p.tables e below (T17.setTop (mkF m 89 #[.val (.long q0), .second, .val (.int p1), .val (.int p2), .val (.int p3), .val (.ref b1), .val (.int (p1.toInt8.toInt32)), .val (.int (Int32.ofNat fn)), .val (.int (Int32.ofNat tn)), .val (.int (-1 : Int32))] [(.int (-1 : Int32)), (.int (4 : Int32)), (.int (Int32.ofNat tn)), (.int (Int32.ofNat fn)), (.int (p1.toInt8.toInt32)), (.ref b1)])) t → Steps p.tables e below (T17.setTop (mkF m 75 #[.val (.long q0), .second, .val (.int p1), .val (.int p2), .val (.int p3), .val (.ref b1), .val (.int (p1.toInt8.toInt32)), .val (.int (Int32.ofNat fn)), .val (.int (Int32.ofNat tn)), .unset] [])) t := by
    intro t kt
    show Steps p.tables e below (T17.setTop (mkF m 75 #[.val (.long q0), .second, .val (.int p1), .val (.int p2), .val (.int p3), .val (.ref b1), .val (.int (p1.toInt8.toInt32)), .val (.int (Int32.ofNat fn)), .val (.int (Int32.ofNat tn)), .unset] [])) _
    refine XS.iconst X17.here hx rfl (hb hby at_75) ?_
    show Steps p.tables e below (T17.setTop (mkF m 76 #[.val (.long q0), .second, .val (.int p1), .val (.int p2), .val (.int p3), .val (.ref b1), .val (.int (p1.toInt8.toInt32)), .val (.int (Int32.ofNat fn)), .val (.int (Int32.ofNat tn)), .unset] [(.int (-1 : Int32))])) _
    refine XS.istore X17.here hx rfl (hb hby at_76) rfl (l' := #[.val (.long q0), .second, .val (.int p1), .val (.int p2), .val (.int p3), .val (.ref b1), .val (.int (p1.toInt8.toInt32)), .val (.int (Int32.ofNat fn)), .val (.int (Int32.ofNat tn)), .val (.int (-1 : Int32))]) rfl ?_
    show Steps p.tables e below (T17.setTop (mkF m 78 #[.val (.long q0), .second, .val (.int p1), .val (.int p2), .val (.int p3), .val (.ref b1), .val (.int (p1.toInt8.toInt32)), .val (.int (Int32.ofNat fn)), .val (.int (Int32.ofNat tn)), .val (.int (-1 : Int32))] [])) _
    refine XS.aload X17.here hx rfl (hb hby at_78) rfl rfl ?_
    show Steps p.tables e below (T17.setTop (mkF m 80 #[.val (.long q0), .second, .val (.int p1), .val (.int p2), .val (.int p3), .val (.ref b1), .val (.int (p1.toInt8.toInt32)), .val (.int (Int32.ofNat fn)), .val (.int (Int32.ofNat tn)), .val (.int (-1 : Int32))] [(.ref b1)])) _
    refine XS.iload X17.here hx rfl (hb hby at_80) rfl ?_
    show Steps p.tables e below (T17.setTop (mkF m 82 #[.val (.long q0), .second, .val (.int p1), .val (.int p2), .val (.int p3), .val (.ref b1), .val (.int (p1.toInt8.toInt32)), .val (.int (Int32.ofNat fn)), .val (.int (Int32.ofNat tn)), .val (.int (-1 : Int32))] [(.int (p1.toInt8.toInt32)), (.ref b1)])) _
    refine XS.iload X17.here hx rfl (hb hby at_82) rfl ?_
    show Steps p.tables e below (T17.setTop (mkF m 84 #[.val (.long q0), .second, .val (.int p1), .val (.int p2), .val (.int p3), .val (.ref b1), .val (.int (p1.toInt8.toInt32)), .val (.int (Int32.ofNat fn)), .val (.int (Int32.ofNat tn)), .val (.int (-1 : Int32))] [(.int (Int32.ofNat fn)), (.int (p1.toInt8.toInt32)), (.ref b1)])) _
    refine XS.iload X17.here hx rfl (hb hby at_84) rfl ?_
    show Steps p.tables e below (T17.setTop (mkF m 86 #[.val (.long q0), .second, .val (.int p1), .val (.int p2), .val (.int p3), .val (.ref b1), .val (.int (p1.toInt8.toInt32)), .val (.int (Int32.ofNat fn)), .val (.int (Int32.ofNat tn)), .val (.int (-1 : Int32))] [(.int (Int32.ofNat tn)), (.int (Int32.ofNat fn)), (.int (p1.toInt8.toInt32)), (.ref b1)])) _
    refine XS.iconst X17.here hx rfl (hb hby at_86) ?_
    show Steps p.tables e below (T17.setTop (mkF m 87 #[.val (.long q0), .second, .val (.int p1), .val (.int p2), .val (.int p3), .val (.ref b1), .val (.int (p1.toInt8.toInt32)), .val (.int (Int32.ofNat fn)), .val (.int (Int32.ofNat tn)), .val (.int (-1 : Int32))] [(.int (4 : Int32)), (.int (Int32.ofNat tn)), (.int (Int32.ofNat fn)), (.int (p1.toInt8.toInt32)), (.ref b1)])) _
    refine XS.iload X17.here hx rfl (hb hby at_87) rfl ?_
    exact kt
  have f23 := (Nat.le_trans (Nat.le_trans (Nat.le_trans (Nat.le_trans (Nat.le_trans (Nat.le_trans Z0 E1.1) (Keep.of_wr W5).1) (Keep.of_wr W8).1) (Keep.of_wr W11).1) (Keep.of_wr W14).1) (Keep.of_wr W17).1)
  obtain ⟨_, _, ⟨T24, L24, k24, n24⟩, -, X24, ⟨Lc24, hQ24, l24, y24, z24⟩, st24⟩ := Jvm.LawKit.callS X17 hx (y := (⟨"com/example/brannan/brannan/text/ByteTextIndexOfPinLaw", "hit", "([BBIIII)I"⟩ : MethodName)) hown (mvT hZ (hw _ (List.mem_of_getElem? (i := 2) rfl))) (mvT hZ (hw _ (List.mem_of_getElem? (i := 3) rfl))) (mvT hZ (hw _ (List.mem_of_getElem? (i := 4) rfl))) (mvT hZ (hw _ (List.mem_of_getElem? (i := 5) rfl))) (by decide) (backOf (W := 0) (rm1 l Z a0 hw [] b1 (p1.toInt8.toInt32) (Int32.ofNat fn) (Int32.ofNat tn) (4 : Int32) (-1 : Int32) k1 (5 : Int32) [(.int (((q0.toInt32).toInt8.toInt32).toInt8.toInt32)), (.int (((((q0.toUInt64 >>> ((8 : Int32) &&& 0x3f).toInt64.toUInt64).toInt64).toInt32).toInt8.toInt32).toInt8.toInt32)), (.int (((((q0.toUInt64 >>> ((16 : Int32) &&& 0x3f).toInt64.toUInt64).toInt64).toInt32).toInt8.toInt32).toInt8.toInt32)), (.int (((((q0.toUInt64 >>> ((24 : Int32) &&& 0x3f).toInt64.toUInt64).toInt64).toInt32).toInt8.toInt32).toInt8.toInt32)), (.int (((((q0.toUInt64 >>> ((32 : Int32) &&& 0x3f).toInt64.toUInt64).toInt64).toInt32).toInt8.toInt32).toInt8.toInt32))] (.int (0 : Int32)) (((((q0.toUInt64 >>> ((32 : Int32) &&& 0x3f).toInt64.toUInt64).toInt64).toInt32).toInt8.toInt32).toInt8.toInt32) h17 n0 f23 V17 ⟨by decide, by decide⟩ rfl) hZ (hw _ (List.mem_of_getElem? (i := 5) rfl)) (hw _ (List.mem_of_getElem? (i := 4) rfl)) (by decide) (by decide)) (g := (mkF m 89 #[.val (.long q0), .second, .val (.int p1), .val (.int p2), .val (.int p3), .val (.ref b1), .val (.int (p1.toInt8.toInt32)), .val (.int (Int32.ofNat fn)), .val (.int (Int32.ofNat tn)), .val (.int (-1 : Int32))] [(.int (-1 : Int32)), (.int (4 : Int32)), (.int (Int32.ofNat tn)), (.int (Int32.ofNat fn)), (.int (p1.toInt8.toInt32)), (.ref b1)])) rfl (by rw [hml]; rfl) (argsL := [(.ref b1), (.int (p1.toInt8.toInt32)), (.int (Int32.ofNat fn)), (.int (Int32.ofNat tn)), (.int (4 : Int32)), (.int (-1 : Int32))]) (rest := []) (lenOf pd_0 rfl) rfl (by show 2 * 0 + _ ≤ _; exact Nat.le_of_eq rfl) (hb hby at_89) (fun _ _ => ⟨rfl, e17, (by decide : 1 + 0 ≤ _), (by decide : 5 + 0 ≤ _)⟩)
  dsimp only [Pt.U, Pt.locs, Pt.cells, Pt.slots] at X24 l24 y24 z24 st24 hQ24
  subst l24 y24 z24
  obtain ⟨rfl, N24q, e24⟩ := hQ24
  have N24 := Fr.app N17 N24q
  have c25 : ∀ t, Steps p.tables e below (T24.setTop (mkF m 105 #[.val (.long q0), .second, .val (.int p1), .val (.int p2), .val (.int p3), .val (.ref b1), .val (.int (p1.toInt8.toInt32)), .val (.int (Int32.ofNat fn)), .val (.int (Int32.ofNat tn)), .val (.int (own_hit (((((q0.toUInt64 >>> ((32 : Int32) &&& 0x3f).toInt64.toUInt64).toInt64).toInt32).toInt8.toInt32).toInt8.toInt32) (p1.toInt8.toInt32) (Int32.ofNat fn) (Int32.ofNat tn) (4 : Int32) (-1 : Int32)))] [(.int (own_hit (((((q0.toUInt64 >>> ((32 : Int32) &&& 0x3f).toInt64.toUInt64).toInt64).toInt32).toInt8.toInt32).toInt8.toInt32) (p1.toInt8.toInt32) (Int32.ofNat fn) (Int32.ofNat tn) (4 : Int32) (-1 : Int32))), (.int (3 : Int32)), (.int (Int32.ofNat tn)), (.int (Int32.ofNat fn)), (.int (p1.toInt8.toInt32)), (.ref b1)])) t → Steps p.tables e below (T24.setTop (mkF m 92 #[.val (.long q0), .second, .val (.int p1), .val (.int p2), .val (.int p3), .val (.ref b1), .val (.int (p1.toInt8.toInt32)), .val (.int (Int32.ofNat fn)), .val (.int (Int32.ofNat tn)), .val (.int (-1 : Int32))] [(.int (own_hit (((((q0.toUInt64 >>> ((32 : Int32) &&& 0x3f).toInt64.toUInt64).toInt64).toInt32).toInt8.toInt32).toInt8.toInt32) (p1.toInt8.toInt32) (Int32.ofNat fn) (Int32.ofNat tn) (4 : Int32) (-1 : Int32)))])) t := by
    intro t kt
    show Steps p.tables e below (T24.setTop (mkF m 92 #[.val (.long q0), .second, .val (.int p1), .val (.int p2), .val (.int p3), .val (.ref b1), .val (.int (p1.toInt8.toInt32)), .val (.int (Int32.ofNat fn)), .val (.int (Int32.ofNat tn)), .val (.int (-1 : Int32))] [(.int (own_hit (((((q0.toUInt64 >>> ((32 : Int32) &&& 0x3f).toInt64.toUInt64).toInt64).toInt32).toInt8.toInt32).toInt8.toInt32) (p1.toInt8.toInt32) (Int32.ofNat fn) (Int32.ofNat tn) (4 : Int32) (-1 : Int32)))])) _
    refine XS.istore X24.here hx rfl (hb hby at_92) rfl (l' := #[.val (.long q0), .second, .val (.int p1), .val (.int p2), .val (.int p3), .val (.ref b1), .val (.int (p1.toInt8.toInt32)), .val (.int (Int32.ofNat fn)), .val (.int (Int32.ofNat tn)), .val (.int (own_hit (((((q0.toUInt64 >>> ((32 : Int32) &&& 0x3f).toInt64.toUInt64).toInt64).toInt32).toInt8.toInt32).toInt8.toInt32) (p1.toInt8.toInt32) (Int32.ofNat fn) (Int32.ofNat tn) (4 : Int32) (-1 : Int32)))]) rfl ?_
    show Steps p.tables e below (T24.setTop (mkF m 94 #[.val (.long q0), .second, .val (.int p1), .val (.int p2), .val (.int p3), .val (.ref b1), .val (.int (p1.toInt8.toInt32)), .val (.int (Int32.ofNat fn)), .val (.int (Int32.ofNat tn)), .val (.int (own_hit (((((q0.toUInt64 >>> ((32 : Int32) &&& 0x3f).toInt64.toUInt64).toInt64).toInt32).toInt8.toInt32).toInt8.toInt32) (p1.toInt8.toInt32) (Int32.ofNat fn) (Int32.ofNat tn) (4 : Int32) (-1 : Int32)))] [])) _
    refine XS.aload X24.here hx rfl (hb hby at_94) rfl rfl ?_
    show Steps p.tables e below (T24.setTop (mkF m 96 #[.val (.long q0), .second, .val (.int p1), .val (.int p2), .val (.int p3), .val (.ref b1), .val (.int (p1.toInt8.toInt32)), .val (.int (Int32.ofNat fn)), .val (.int (Int32.ofNat tn)), .val (.int (own_hit (((((q0.toUInt64 >>> ((32 : Int32) &&& 0x3f).toInt64.toUInt64).toInt64).toInt32).toInt8.toInt32).toInt8.toInt32) (p1.toInt8.toInt32) (Int32.ofNat fn) (Int32.ofNat tn) (4 : Int32) (-1 : Int32)))] [(.ref b1)])) _
    refine XS.iload X24.here hx rfl (hb hby at_96) rfl ?_
    show Steps p.tables e below (T24.setTop (mkF m 98 #[.val (.long q0), .second, .val (.int p1), .val (.int p2), .val (.int p3), .val (.ref b1), .val (.int (p1.toInt8.toInt32)), .val (.int (Int32.ofNat fn)), .val (.int (Int32.ofNat tn)), .val (.int (own_hit (((((q0.toUInt64 >>> ((32 : Int32) &&& 0x3f).toInt64.toUInt64).toInt64).toInt32).toInt8.toInt32).toInt8.toInt32) (p1.toInt8.toInt32) (Int32.ofNat fn) (Int32.ofNat tn) (4 : Int32) (-1 : Int32)))] [(.int (p1.toInt8.toInt32)), (.ref b1)])) _
    refine XS.iload X24.here hx rfl (hb hby at_98) rfl ?_
    show Steps p.tables e below (T24.setTop (mkF m 100 #[.val (.long q0), .second, .val (.int p1), .val (.int p2), .val (.int p3), .val (.ref b1), .val (.int (p1.toInt8.toInt32)), .val (.int (Int32.ofNat fn)), .val (.int (Int32.ofNat tn)), .val (.int (own_hit (((((q0.toUInt64 >>> ((32 : Int32) &&& 0x3f).toInt64.toUInt64).toInt64).toInt32).toInt8.toInt32).toInt8.toInt32) (p1.toInt8.toInt32) (Int32.ofNat fn) (Int32.ofNat tn) (4 : Int32) (-1 : Int32)))] [(.int (Int32.ofNat fn)), (.int (p1.toInt8.toInt32)), (.ref b1)])) _
    refine XS.iload X24.here hx rfl (hb hby at_100) rfl ?_
    show Steps p.tables e below (T24.setTop (mkF m 102 #[.val (.long q0), .second, .val (.int p1), .val (.int p2), .val (.int p3), .val (.ref b1), .val (.int (p1.toInt8.toInt32)), .val (.int (Int32.ofNat fn)), .val (.int (Int32.ofNat tn)), .val (.int (own_hit (((((q0.toUInt64 >>> ((32 : Int32) &&& 0x3f).toInt64.toUInt64).toInt64).toInt32).toInt8.toInt32).toInt8.toInt32) (p1.toInt8.toInt32) (Int32.ofNat fn) (Int32.ofNat tn) (4 : Int32) (-1 : Int32)))] [(.int (Int32.ofNat tn)), (.int (Int32.ofNat fn)), (.int (p1.toInt8.toInt32)), (.ref b1)])) _
    refine XS.iconst X24.here hx rfl (hb hby at_102) ?_
    show Steps p.tables e below (T24.setTop (mkF m 103 #[.val (.long q0), .second, .val (.int p1), .val (.int p2), .val (.int p3), .val (.ref b1), .val (.int (p1.toInt8.toInt32)), .val (.int (Int32.ofNat fn)), .val (.int (Int32.ofNat tn)), .val (.int (own_hit (((((q0.toUInt64 >>> ((32 : Int32) &&& 0x3f).toInt64.toUInt64).toInt64).toInt32).toInt8.toInt32).toInt8.toInt32) (p1.toInt8.toInt32) (Int32.ofNat fn) (Int32.ofNat tn) (4 : Int32) (-1 : Int32)))] [(.int (3 : Int32)), (.int (Int32.ofNat tn)), (.int (Int32.ofNat fn)), (.int (p1.toInt8.toInt32)), (.ref b1)])) _
    refine XS.iload X24.here hx rfl (hb hby at_103) rfl ?_
    exact kt
  obtain ⟨_, _, ⟨T26, L26, k26, n26⟩, -, X26, ⟨Lc26, hQ26, l26, y26, z26⟩, st26⟩ := Jvm.LawKit.callS X24 hx (y := (⟨"com/example/brannan/brannan/text/ByteTextIndexOfPinLaw", "hit", "([BBIIII)I"⟩ : MethodName)) hown (mvT hZ (hw _ (List.mem_of_getElem? (i := 2) rfl))) (mvT hZ (hw _ (List.mem_of_getElem? (i := 3) rfl))) (mvT hZ (hw _ (List.mem_of_getElem? (i := 4) rfl))) (mvT hZ (hw _ (List.mem_of_getElem? (i := 5) rfl))) (by decide) (backOf (W := 0) (rm1 l Z a0 hw [] b1 (p1.toInt8.toInt32) (Int32.ofNat fn) (Int32.ofNat tn) (3 : Int32) (own_hit (((((q0.toUInt64 >>> ((32 : Int32) &&& 0x3f).toInt64.toUInt64).toInt64).toInt32).toInt8.toInt32).toInt8.toInt32) (p1.toInt8.toInt32) (Int32.ofNat fn) (Int32.ofNat tn) (4 : Int32) (-1 : Int32)) k1 (5 : Int32) [(.int (((q0.toInt32).toInt8.toInt32).toInt8.toInt32)), (.int (((((q0.toUInt64 >>> ((8 : Int32) &&& 0x3f).toInt64.toUInt64).toInt64).toInt32).toInt8.toInt32).toInt8.toInt32)), (.int (((((q0.toUInt64 >>> ((16 : Int32) &&& 0x3f).toInt64.toUInt64).toInt64).toInt32).toInt8.toInt32).toInt8.toInt32)), (.int (((((q0.toUInt64 >>> ((24 : Int32) &&& 0x3f).toInt64.toUInt64).toInt64).toInt32).toInt8.toInt32).toInt8.toInt32)), (.int (((((q0.toUInt64 >>> ((32 : Int32) &&& 0x3f).toInt64.toUInt64).toInt64).toInt32).toInt8.toInt32).toInt8.toInt32))] (.int (0 : Int32)) (((((q0.toUInt64 >>> ((24 : Int32) &&& 0x3f).toInt64.toUInt64).toInt64).toInt32).toInt8.toInt32).toInt8.toInt32) h17 n0 f23 V17 ⟨by decide, by decide⟩ rfl) hZ (hw _ (List.mem_of_getElem? (i := 5) rfl)) (hw _ (List.mem_of_getElem? (i := 4) rfl)) (by decide) (by decide)) (g := (mkF m 105 #[.val (.long q0), .second, .val (.int p1), .val (.int p2), .val (.int p3), .val (.ref b1), .val (.int (p1.toInt8.toInt32)), .val (.int (Int32.ofNat fn)), .val (.int (Int32.ofNat tn)), .val (.int (own_hit (((((q0.toUInt64 >>> ((32 : Int32) &&& 0x3f).toInt64.toUInt64).toInt64).toInt32).toInt8.toInt32).toInt8.toInt32) (p1.toInt8.toInt32) (Int32.ofNat fn) (Int32.ofNat tn) (4 : Int32) (-1 : Int32)))] [(.int (own_hit (((((q0.toUInt64 >>> ((32 : Int32) &&& 0x3f).toInt64.toUInt64).toInt64).toInt32).toInt8.toInt32).toInt8.toInt32) (p1.toInt8.toInt32) (Int32.ofNat fn) (Int32.ofNat tn) (4 : Int32) (-1 : Int32))), (.int (3 : Int32)), (.int (Int32.ofNat tn)), (.int (Int32.ofNat fn)), (.int (p1.toInt8.toInt32)), (.ref b1)])) rfl (by rw [hml]; rfl) (argsL := [(.ref b1), (.int (p1.toInt8.toInt32)), (.int (Int32.ofNat fn)), (.int (Int32.ofNat tn)), (.int (3 : Int32)), (.int (own_hit (((((q0.toUInt64 >>> ((32 : Int32) &&& 0x3f).toInt64.toUInt64).toInt64).toInt32).toInt8.toInt32).toInt8.toInt32) (p1.toInt8.toInt32) (Int32.ofNat fn) (Int32.ofNat tn) (4 : Int32) (-1 : Int32)))]) (rest := []) (lenOf pd_0 rfl) rfl (by show 2 * 0 + _ ≤ _; exact Nat.le_of_eq rfl) (hb hby at_105) (fun _ _ => ⟨rfl, e24, (by decide : 1 + 0 ≤ _), (by decide : 5 + 0 ≤ _)⟩)
  dsimp only [Pt.U, Pt.locs, Pt.cells, Pt.slots] at X26 l26 y26 z26 st26 hQ26
  subst l26 y26 z26
  obtain ⟨rfl, N26q, e26⟩ := hQ26
  have N26 := Fr.app N24 N26q
  have c27 : ∀ t, Steps p.tables e below (T26.setTop (mkF m 121 #[.val (.long q0), .second, .val (.int p1), .val (.int p2), .val (.int p3), .val (.ref b1), .val (.int (p1.toInt8.toInt32)), .val (.int (Int32.ofNat fn)), .val (.int (Int32.ofNat tn)), .val (.int (own_hit (((((q0.toUInt64 >>> ((24 : Int32) &&& 0x3f).toInt64.toUInt64).toInt64).toInt32).toInt8.toInt32).toInt8.toInt32) (p1.toInt8.toInt32) (Int32.ofNat fn) (Int32.ofNat tn) (3 : Int32) (own_hit (((((q0.toUInt64 >>> ((32 : Int32) &&& 0x3f).toInt64.toUInt64).toInt64).toInt32).toInt8.toInt32).toInt8.toInt32) (p1.toInt8.toInt32) (Int32.ofNat fn) (Int32.ofNat tn) (4 : Int32) (-1 : Int32))))] [(.int (own_hit (((((q0.toUInt64 >>> ((24 : Int32) &&& 0x3f).toInt64.toUInt64).toInt64).toInt32).toInt8.toInt32).toInt8.toInt32) (p1.toInt8.toInt32) (Int32.ofNat fn) (Int32.ofNat tn) (3 : Int32) (own_hit (((((q0.toUInt64 >>> ((32 : Int32) &&& 0x3f).toInt64.toUInt64).toInt64).toInt32).toInt8.toInt32).toInt8.toInt32) (p1.toInt8.toInt32) (Int32.ofNat fn) (Int32.ofNat tn) (4 : Int32) (-1 : Int32)))), (.int (2 : Int32)), (.int (Int32.ofNat tn)), (.int (Int32.ofNat fn)), (.int (p1.toInt8.toInt32)), (.ref b1)])) t → Steps p.tables e below (T26.setTop (mkF m 108 #[.val (.long q0), .second, .val (.int p1), .val (.int p2), .val (.int p3), .val (.ref b1), .val (.int (p1.toInt8.toInt32)), .val (.int (Int32.ofNat fn)), .val (.int (Int32.ofNat tn)), .val (.int (own_hit (((((q0.toUInt64 >>> ((32 : Int32) &&& 0x3f).toInt64.toUInt64).toInt64).toInt32).toInt8.toInt32).toInt8.toInt32) (p1.toInt8.toInt32) (Int32.ofNat fn) (Int32.ofNat tn) (4 : Int32) (-1 : Int32)))] [(.int (own_hit (((((q0.toUInt64 >>> ((24 : Int32) &&& 0x3f).toInt64.toUInt64).toInt64).toInt32).toInt8.toInt32).toInt8.toInt32) (p1.toInt8.toInt32) (Int32.ofNat fn) (Int32.ofNat tn) (3 : Int32) (own_hit (((((q0.toUInt64 >>> ((32 : Int32) &&& 0x3f).toInt64.toUInt64).toInt64).toInt32).toInt8.toInt32).toInt8.toInt32) (p1.toInt8.toInt32) (Int32.ofNat fn) (Int32.ofNat tn) (4 : Int32) (-1 : Int32))))])) t := by
    intro t kt
    show Steps p.tables e below (T26.setTop (mkF m 108 #[.val (.long q0), .second, .val (.int p1), .val (.int p2), .val (.int p3), .val (.ref b1), .val (.int (p1.toInt8.toInt32)), .val (.int (Int32.ofNat fn)), .val (.int (Int32.ofNat tn)), .val (.int (own_hit (((((q0.toUInt64 >>> ((32 : Int32) &&& 0x3f).toInt64.toUInt64).toInt64).toInt32).toInt8.toInt32).toInt8.toInt32) (p1.toInt8.toInt32) (Int32.ofNat fn) (Int32.ofNat tn) (4 : Int32) (-1 : Int32)))] [(.int (own_hit (((((q0.toUInt64 >>> ((24 : Int32) &&& 0x3f).toInt64.toUInt64).toInt64).toInt32).toInt8.toInt32).toInt8.toInt32) (p1.toInt8.toInt32) (Int32.ofNat fn) (Int32.ofNat tn) (3 : Int32) (own_hit (((((q0.toUInt64 >>> ((32 : Int32) &&& 0x3f).toInt64.toUInt64).toInt64).toInt32).toInt8.toInt32).toInt8.toInt32) (p1.toInt8.toInt32) (Int32.ofNat fn) (Int32.ofNat tn) (4 : Int32) (-1 : Int32))))])) _
    refine XS.istore X26.here hx rfl (hb hby at_108) rfl (l' := #[.val (.long q0), .second, .val (.int p1), .val (.int p2), .val (.int p3), .val (.ref b1), .val (.int (p1.toInt8.toInt32)), .val (.int (Int32.ofNat fn)), .val (.int (Int32.ofNat tn)), .val (.int (own_hit (((((q0.toUInt64 >>> ((24 : Int32) &&& 0x3f).toInt64.toUInt64).toInt64).toInt32).toInt8.toInt32).toInt8.toInt32) (p1.toInt8.toInt32) (Int32.ofNat fn) (Int32.ofNat tn) (3 : Int32) (own_hit (((((q0.toUInt64 >>> ((32 : Int32) &&& 0x3f).toInt64.toUInt64).toInt64).toInt32).toInt8.toInt32).toInt8.toInt32) (p1.toInt8.toInt32) (Int32.ofNat fn) (Int32.ofNat tn) (4 : Int32) (-1 : Int32))))]) rfl ?_
    show Steps p.tables e below (T26.setTop (mkF m 110 #[.val (.long q0), .second, .val (.int p1), .val (.int p2), .val (.int p3), .val (.ref b1), .val (.int (p1.toInt8.toInt32)), .val (.int (Int32.ofNat fn)), .val (.int (Int32.ofNat tn)), .val (.int (own_hit (((((q0.toUInt64 >>> ((24 : Int32) &&& 0x3f).toInt64.toUInt64).toInt64).toInt32).toInt8.toInt32).toInt8.toInt32) (p1.toInt8.toInt32) (Int32.ofNat fn) (Int32.ofNat tn) (3 : Int32) (own_hit (((((q0.toUInt64 >>> ((32 : Int32) &&& 0x3f).toInt64.toUInt64).toInt64).toInt32).toInt8.toInt32).toInt8.toInt32) (p1.toInt8.toInt32) (Int32.ofNat fn) (Int32.ofNat tn) (4 : Int32) (-1 : Int32))))] [])) _
    refine XS.aload X26.here hx rfl (hb hby at_110) rfl rfl ?_
    show Steps p.tables e below (T26.setTop (mkF m 112 #[.val (.long q0), .second, .val (.int p1), .val (.int p2), .val (.int p3), .val (.ref b1), .val (.int (p1.toInt8.toInt32)), .val (.int (Int32.ofNat fn)), .val (.int (Int32.ofNat tn)), .val (.int (own_hit (((((q0.toUInt64 >>> ((24 : Int32) &&& 0x3f).toInt64.toUInt64).toInt64).toInt32).toInt8.toInt32).toInt8.toInt32) (p1.toInt8.toInt32) (Int32.ofNat fn) (Int32.ofNat tn) (3 : Int32) (own_hit (((((q0.toUInt64 >>> ((32 : Int32) &&& 0x3f).toInt64.toUInt64).toInt64).toInt32).toInt8.toInt32).toInt8.toInt32) (p1.toInt8.toInt32) (Int32.ofNat fn) (Int32.ofNat tn) (4 : Int32) (-1 : Int32))))] [(.ref b1)])) _
    refine XS.iload X26.here hx rfl (hb hby at_112) rfl ?_
    show Steps p.tables e below (T26.setTop (mkF m 114 #[.val (.long q0), .second, .val (.int p1), .val (.int p2), .val (.int p3), .val (.ref b1), .val (.int (p1.toInt8.toInt32)), .val (.int (Int32.ofNat fn)), .val (.int (Int32.ofNat tn)), .val (.int (own_hit (((((q0.toUInt64 >>> ((24 : Int32) &&& 0x3f).toInt64.toUInt64).toInt64).toInt32).toInt8.toInt32).toInt8.toInt32) (p1.toInt8.toInt32) (Int32.ofNat fn) (Int32.ofNat tn) (3 : Int32) (own_hit (((((q0.toUInt64 >>> ((32 : Int32) &&& 0x3f).toInt64.toUInt64).toInt64).toInt32).toInt8.toInt32).toInt8.toInt32) (p1.toInt8.toInt32) (Int32.ofNat fn) (Int32.ofNat tn) (4 : Int32) (-1 : Int32))))] [(.int (p1.toInt8.toInt32)), (.ref b1)])) _
    refine XS.iload X26.here hx rfl (hb hby at_114) rfl ?_
    show Steps p.tables e below (T26.setTop (mkF m 116 #[.val (.long q0), .second, .val (.int p1), .val (.int p2), .val (.int p3), .val (.ref b1), .val (.int (p1.toInt8.toInt32)), .val (.int (Int32.ofNat fn)), .val (.int (Int32.ofNat tn)), .val (.int (own_hit (((((q0.toUInt64 >>> ((24 : Int32) &&& 0x3f).toInt64.toUInt64).toInt64).toInt32).toInt8.toInt32).toInt8.toInt32) (p1.toInt8.toInt32) (Int32.ofNat fn) (Int32.ofNat tn) (3 : Int32) (own_hit (((((q0.toUInt64 >>> ((32 : Int32) &&& 0x3f).toInt64.toUInt64).toInt64).toInt32).toInt8.toInt32).toInt8.toInt32) (p1.toInt8.toInt32) (Int32.ofNat fn) (Int32.ofNat tn) (4 : Int32) (-1 : Int32))))] [(.int (Int32.ofNat fn)), (.int (p1.toInt8.toInt32)), (.ref b1)])) _
    refine XS.iload X26.here hx rfl (hb hby at_116) rfl ?_
    show Steps p.tables e below (T26.setTop (mkF m 118 #[.val (.long q0), .second, .val (.int p1), .val (.int p2), .val (.int p3), .val (.ref b1), .val (.int (p1.toInt8.toInt32)), .val (.int (Int32.ofNat fn)), .val (.int (Int32.ofNat tn)), .val (.int (own_hit (((((q0.toUInt64 >>> ((24 : Int32) &&& 0x3f).toInt64.toUInt64).toInt64).toInt32).toInt8.toInt32).toInt8.toInt32) (p1.toInt8.toInt32) (Int32.ofNat fn) (Int32.ofNat tn) (3 : Int32) (own_hit (((((q0.toUInt64 >>> ((32 : Int32) &&& 0x3f).toInt64.toUInt64).toInt64).toInt32).toInt8.toInt32).toInt8.toInt32) (p1.toInt8.toInt32) (Int32.ofNat fn) (Int32.ofNat tn) (4 : Int32) (-1 : Int32))))] [(.int (Int32.ofNat tn)), (.int (Int32.ofNat fn)), (.int (p1.toInt8.toInt32)), (.ref b1)])) _
    refine XS.iconst X26.here hx rfl (hb hby at_118) ?_
    show Steps p.tables e below (T26.setTop (mkF m 119 #[.val (.long q0), .second, .val (.int p1), .val (.int p2), .val (.int p3), .val (.ref b1), .val (.int (p1.toInt8.toInt32)), .val (.int (Int32.ofNat fn)), .val (.int (Int32.ofNat tn)), .val (.int (own_hit (((((q0.toUInt64 >>> ((24 : Int32) &&& 0x3f).toInt64.toUInt64).toInt64).toInt32).toInt8.toInt32).toInt8.toInt32) (p1.toInt8.toInt32) (Int32.ofNat fn) (Int32.ofNat tn) (3 : Int32) (own_hit (((((q0.toUInt64 >>> ((32 : Int32) &&& 0x3f).toInt64.toUInt64).toInt64).toInt32).toInt8.toInt32).toInt8.toInt32) (p1.toInt8.toInt32) (Int32.ofNat fn) (Int32.ofNat tn) (4 : Int32) (-1 : Int32))))] [(.int (2 : Int32)), (.int (Int32.ofNat tn)), (.int (Int32.ofNat fn)), (.int (p1.toInt8.toInt32)), (.ref b1)])) _
    refine XS.iload X26.here hx rfl (hb hby at_119) rfl ?_
    exact kt
  obtain ⟨_, _, ⟨T28, L28, k28, n28⟩, -, X28, ⟨Lc28, hQ28, l28, y28, z28⟩, st28⟩ := Jvm.LawKit.callS X26 hx (y := (⟨"com/example/brannan/brannan/text/ByteTextIndexOfPinLaw", "hit", "([BBIIII)I"⟩ : MethodName)) hown (mvT hZ (hw _ (List.mem_of_getElem? (i := 2) rfl))) (mvT hZ (hw _ (List.mem_of_getElem? (i := 3) rfl))) (mvT hZ (hw _ (List.mem_of_getElem? (i := 4) rfl))) (mvT hZ (hw _ (List.mem_of_getElem? (i := 5) rfl))) (by decide) (backOf (W := 0) (rm1 l Z a0 hw [] b1 (p1.toInt8.toInt32) (Int32.ofNat fn) (Int32.ofNat tn) (2 : Int32) (own_hit (((((q0.toUInt64 >>> ((24 : Int32) &&& 0x3f).toInt64.toUInt64).toInt64).toInt32).toInt8.toInt32).toInt8.toInt32) (p1.toInt8.toInt32) (Int32.ofNat fn) (Int32.ofNat tn) (3 : Int32) (own_hit (((((q0.toUInt64 >>> ((32 : Int32) &&& 0x3f).toInt64.toUInt64).toInt64).toInt32).toInt8.toInt32).toInt8.toInt32) (p1.toInt8.toInt32) (Int32.ofNat fn) (Int32.ofNat tn) (4 : Int32) (-1 : Int32))) k1 (5 : Int32) [(.int (((q0.toInt32).toInt8.toInt32).toInt8.toInt32)), (.int (((((q0.toUInt64 >>> ((8 : Int32) &&& 0x3f).toInt64.toUInt64).toInt64).toInt32).toInt8.toInt32).toInt8.toInt32)), (.int (((((q0.toUInt64 >>> ((16 : Int32) &&& 0x3f).toInt64.toUInt64).toInt64).toInt32).toInt8.toInt32).toInt8.toInt32)), (.int (((((q0.toUInt64 >>> ((24 : Int32) &&& 0x3f).toInt64.toUInt64).toInt64).toInt32).toInt8.toInt32).toInt8.toInt32)), (.int (((((q0.toUInt64 >>> ((32 : Int32) &&& 0x3f).toInt64.toUInt64).toInt64).toInt32).toInt8.toInt32).toInt8.toInt32))] (.int (0 : Int32)) (((((q0.toUInt64 >>> ((16 : Int32) &&& 0x3f).toInt64.toUInt64).toInt64).toInt32).toInt8.toInt32).toInt8.toInt32) h17 n0 f23 V17 ⟨by decide, by decide⟩ rfl) hZ (hw _ (List.mem_of_getElem? (i := 5) rfl)) (hw _ (List.mem_of_getElem? (i := 4) rfl)) (by decide) (by decide)) (g := (mkF m 121 #[.val (.long q0), .second, .val (.int p1), .val (.int p2), .val (.int p3), .val (.ref b1), .val (.int (p1.toInt8.toInt32)), .val (.int (Int32.ofNat fn)), .val (.int (Int32.ofNat tn)), .val (.int (own_hit (((((q0.toUInt64 >>> ((24 : Int32) &&& 0x3f).toInt64.toUInt64).toInt64).toInt32).toInt8.toInt32).toInt8.toInt32) (p1.toInt8.toInt32) (Int32.ofNat fn) (Int32.ofNat tn) (3 : Int32) (own_hit (((((q0.toUInt64 >>> ((32 : Int32) &&& 0x3f).toInt64.toUInt64).toInt64).toInt32).toInt8.toInt32).toInt8.toInt32) (p1.toInt8.toInt32) (Int32.ofNat fn) (Int32.ofNat tn) (4 : Int32) (-1 : Int32))))] [(.int (own_hit (((((q0.toUInt64 >>> ((24 : Int32) &&& 0x3f).toInt64.toUInt64).toInt64).toInt32).toInt8.toInt32).toInt8.toInt32) (p1.toInt8.toInt32) (Int32.ofNat fn) (Int32.ofNat tn) (3 : Int32) (own_hit (((((q0.toUInt64 >>> ((32 : Int32) &&& 0x3f).toInt64.toUInt64).toInt64).toInt32).toInt8.toInt32).toInt8.toInt32) (p1.toInt8.toInt32) (Int32.ofNat fn) (Int32.ofNat tn) (4 : Int32) (-1 : Int32)))), (.int (2 : Int32)), (.int (Int32.ofNat tn)), (.int (Int32.ofNat fn)), (.int (p1.toInt8.toInt32)), (.ref b1)])) rfl (by rw [hml]; rfl) (argsL := [(.ref b1), (.int (p1.toInt8.toInt32)), (.int (Int32.ofNat fn)), (.int (Int32.ofNat tn)), (.int (2 : Int32)), (.int (own_hit (((((q0.toUInt64 >>> ((24 : Int32) &&& 0x3f).toInt64.toUInt64).toInt64).toInt32).toInt8.toInt32).toInt8.toInt32) (p1.toInt8.toInt32) (Int32.ofNat fn) (Int32.ofNat tn) (3 : Int32) (own_hit (((((q0.toUInt64 >>> ((32 : Int32) &&& 0x3f).toInt64.toUInt64).toInt64).toInt32).toInt8.toInt32).toInt8.toInt32) (p1.toInt8.toInt32) (Int32.ofNat fn) (Int32.ofNat tn) (4 : Int32) (-1 : Int32))))]) (rest := []) (lenOf pd_0 rfl) rfl (by show 2 * 0 + _ ≤ _; exact Nat.le_of_eq rfl) (hb hby at_121) (fun _ _ => ⟨rfl, e26, (by decide : 1 + 0 ≤ _), (by decide : 5 + 0 ≤ _)⟩)
  dsimp only [Pt.U, Pt.locs, Pt.cells, Pt.slots] at X28 l28 y28 z28 st28 hQ28
  subst l28 y28 z28
  obtain ⟨rfl, N28q, e28⟩ := hQ28
  have N28 := Fr.app N26 N28q
  have c29 : ∀ t, Steps p.tables e below (T28.setTop (mkF m 137 #[.val (.long q0), .second, .val (.int p1), .val (.int p2), .val (.int p3), .val (.ref b1), .val (.int (p1.toInt8.toInt32)), .val (.int (Int32.ofNat fn)), .val (.int (Int32.ofNat tn)), .val (.int (own_hit (((((q0.toUInt64 >>> ((16 : Int32) &&& 0x3f).toInt64.toUInt64).toInt64).toInt32).toInt8.toInt32).toInt8.toInt32) (p1.toInt8.toInt32) (Int32.ofNat fn) (Int32.ofNat tn) (2 : Int32) (own_hit (((((q0.toUInt64 >>> ((24 : Int32) &&& 0x3f).toInt64.toUInt64).toInt64).toInt32).toInt8.toInt32).toInt8.toInt32) (p1.toInt8.toInt32) (Int32.ofNat fn) (Int32.ofNat tn) (3 : Int32) (own_hit (((((q0.toUInt64 >>> ((32 : Int32) &&& 0x3f).toInt64.toUInt64).toInt64).toInt32).toInt8.toInt32).toInt8.toInt32) (p1.toInt8.toInt32) (Int32.ofNat fn) (Int32.ofNat tn) (4 : Int32) (-1 : Int32)))))] [(.int (own_hit (((((q0.toUInt64 >>> ((16 : Int32) &&& 0x3f).toInt64.toUInt64).toInt64).toInt32).toInt8.toInt32).toInt8.toInt32) (p1.toInt8.toInt32) (Int32.ofNat fn) (Int32.ofNat tn) (2 : Int32) (own_hit (((((q0.toUInt64 >>> ((24 : Int32) &&& 0x3f).toInt64.toUInt64).toInt64).toInt32).toInt8.toInt32).toInt8.toInt32) (p1.toInt8.toInt32) (Int32.ofNat fn) (Int32.ofNat tn) (3 : Int32) (own_hit (((((q0.toUInt64 >>> ((32 : Int32) &&& 0x3f).toInt64.toUInt64).toInt64).toInt32).toInt8.toInt32).toInt8.toInt32) (p1.toInt8.toInt32) (Int32.ofNat fn) (Int32.ofNat tn) (4 : Int32) (-1 : Int32))))), (.int (1 : Int32)), (.int (Int32.ofNat tn)), (.int (Int32.ofNat fn)), (.int (p1.toInt8.toInt32)), (.ref b1)])) t → Steps p.tables e below (T28.setTop (mkF m 124 #[.val (.long q0), .second, .val (.int p1), .val (.int p2), .val (.int p3), .val (.ref b1), .val (.int (p1.toInt8.toInt32)), .val (.int (Int32.ofNat fn)), .val (.int (Int32.ofNat tn)), .val (.int (own_hit (((((q0.toUInt64 >>> ((24 : Int32) &&& 0x3f).toInt64.toUInt64).toInt64).toInt32).toInt8.toInt32).toInt8.toInt32) (p1.toInt8.toInt32) (Int32.ofNat fn) (Int32.ofNat tn) (3 : Int32) (own_hit (((((q0.toUInt64 >>> ((32 : Int32) &&& 0x3f).toInt64.toUInt64).toInt64).toInt32).toInt8.toInt32).toInt8.toInt32) (p1.toInt8.toInt32) (Int32.ofNat fn) (Int32.ofNat tn) (4 : Int32) (-1 : Int32))))] [(.int (own_hit (((((q0.toUInt64 >>> ((16 : Int32) &&& 0x3f).toInt64.toUInt64).toInt64).toInt32).toInt8.toInt32).toInt8.toInt32) (p1.toInt8.toInt32) (Int32.ofNat fn) (Int32.ofNat tn) (2 : Int32) (own_hit (((((q0.toUInt64 >>> ((24 : Int32) &&& 0x3f).toInt64.toUInt64).toInt64).toInt32).toInt8.toInt32).toInt8.toInt32) (p1.toInt8.toInt32) (Int32.ofNat fn) (Int32.ofNat tn) (3 : Int32) (own_hit (((((q0.toUInt64 >>> ((32 : Int32) &&& 0x3f).toInt64.toUInt64).toInt64).toInt32).toInt8.toInt32).toInt8.toInt32) (p1.toInt8.toInt32) (Int32.ofNat fn) (Int32.ofNat tn) (4 : Int32) (-1 : Int32)))))])) t := by
    intro t kt
    show Steps p.tables e below (T28.setTop (mkF m 124 #[.val (.long q0), .second, .val (.int p1), .val (.int p2), .val (.int p3), .val (.ref b1), .val (.int (p1.toInt8.toInt32)), .val (.int (Int32.ofNat fn)), .val (.int (Int32.ofNat tn)), .val (.int (own_hit (((((q0.toUInt64 >>> ((24 : Int32) &&& 0x3f).toInt64.toUInt64).toInt64).toInt32).toInt8.toInt32).toInt8.toInt32) (p1.toInt8.toInt32) (Int32.ofNat fn) (Int32.ofNat tn) (3 : Int32) (own_hit (((((q0.toUInt64 >>> ((32 : Int32) &&& 0x3f).toInt64.toUInt64).toInt64).toInt32).toInt8.toInt32).toInt8.toInt32) (p1.toInt8.toInt32) (Int32.ofNat fn) (Int32.ofNat tn) (4 : Int32) (-1 : Int32))))] [(.int (own_hit (((((q0.toUInt64 >>> ((16 : Int32) &&& 0x3f).toInt64.toUInt64).toInt64).toInt32).toInt8.toInt32).toInt8.toInt32) (p1.toInt8.toInt32) (Int32.ofNat fn) (Int32.ofNat tn) (2 : Int32) (own_hit (((((q0.toUInt64 >>> ((24 : Int32) &&& 0x3f).toInt64.toUInt64).toInt64).toInt32).toInt8.toInt32).toInt8.toInt32) (p1.toInt8.toInt32) (Int32.ofNat fn) (Int32.ofNat tn) (3 : Int32) (own_hit (((((q0.toUInt64 >>> ((32 : Int32) &&& 0x3f).toInt64.toUInt64).toInt64).toInt32).toInt8.toInt32).toInt8.toInt32) (p1.toInt8.toInt32) (Int32.ofNat fn) (Int32.ofNat tn) (4 : Int32) (-1 : Int32)))))])) _
    refine XS.istore X28.here hx rfl (hb hby at_124) rfl (l' := #[.val (.long q0), .second, .val (.int p1), .val (.int p2), .val (.int p3), .val (.ref b1), .val (.int (p1.toInt8.toInt32)), .val (.int (Int32.ofNat fn)), .val (.int (Int32.ofNat tn)), .val (.int (own_hit (((((q0.toUInt64 >>> ((16 : Int32) &&& 0x3f).toInt64.toUInt64).toInt64).toInt32).toInt8.toInt32).toInt8.toInt32) (p1.toInt8.toInt32) (Int32.ofNat fn) (Int32.ofNat tn) (2 : Int32) (own_hit (((((q0.toUInt64 >>> ((24 : Int32) &&& 0x3f).toInt64.toUInt64).toInt64).toInt32).toInt8.toInt32).toInt8.toInt32) (p1.toInt8.toInt32) (Int32.ofNat fn) (Int32.ofNat tn) (3 : Int32) (own_hit (((((q0.toUInt64 >>> ((32 : Int32) &&& 0x3f).toInt64.toUInt64).toInt64).toInt32).toInt8.toInt32).toInt8.toInt32) (p1.toInt8.toInt32) (Int32.ofNat fn) (Int32.ofNat tn) (4 : Int32) (-1 : Int32)))))]) rfl ?_
    show Steps p.tables e below (T28.setTop (mkF m 126 #[.val (.long q0), .second, .val (.int p1), .val (.int p2), .val (.int p3), .val (.ref b1), .val (.int (p1.toInt8.toInt32)), .val (.int (Int32.ofNat fn)), .val (.int (Int32.ofNat tn)), .val (.int (own_hit (((((q0.toUInt64 >>> ((16 : Int32) &&& 0x3f).toInt64.toUInt64).toInt64).toInt32).toInt8.toInt32).toInt8.toInt32) (p1.toInt8.toInt32) (Int32.ofNat fn) (Int32.ofNat tn) (2 : Int32) (own_hit (((((q0.toUInt64 >>> ((24 : Int32) &&& 0x3f).toInt64.toUInt64).toInt64).toInt32).toInt8.toInt32).toInt8.toInt32) (p1.toInt8.toInt32) (Int32.ofNat fn) (Int32.ofNat tn) (3 : Int32) (own_hit (((((q0.toUInt64 >>> ((32 : Int32) &&& 0x3f).toInt64.toUInt64).toInt64).toInt32).toInt8.toInt32).toInt8.toInt32) (p1.toInt8.toInt32) (Int32.ofNat fn) (Int32.ofNat tn) (4 : Int32) (-1 : Int32)))))] [])) _
    refine XS.aload X28.here hx rfl (hb hby at_126) rfl rfl ?_
    show Steps p.tables e below (T28.setTop (mkF m 128 #[.val (.long q0), .second, .val (.int p1), .val (.int p2), .val (.int p3), .val (.ref b1), .val (.int (p1.toInt8.toInt32)), .val (.int (Int32.ofNat fn)), .val (.int (Int32.ofNat tn)), .val (.int (own_hit (((((q0.toUInt64 >>> ((16 : Int32) &&& 0x3f).toInt64.toUInt64).toInt64).toInt32).toInt8.toInt32).toInt8.toInt32) (p1.toInt8.toInt32) (Int32.ofNat fn) (Int32.ofNat tn) (2 : Int32) (own_hit (((((q0.toUInt64 >>> ((24 : Int32) &&& 0x3f).toInt64.toUInt64).toInt64).toInt32).toInt8.toInt32).toInt8.toInt32) (p1.toInt8.toInt32) (Int32.ofNat fn) (Int32.ofNat tn) (3 : Int32) (own_hit (((((q0.toUInt64 >>> ((32 : Int32) &&& 0x3f).toInt64.toUInt64).toInt64).toInt32).toInt8.toInt32).toInt8.toInt32) (p1.toInt8.toInt32) (Int32.ofNat fn) (Int32.ofNat tn) (4 : Int32) (-1 : Int32)))))] [(.ref b1)])) _
    refine XS.iload X28.here hx rfl (hb hby at_128) rfl ?_
    show Steps p.tables e below (T28.setTop (mkF m 130 #[.val (.long q0), .second, .val (.int p1), .val (.int p2), .val (.int p3), .val (.ref b1), .val (.int (p1.toInt8.toInt32)), .val (.int (Int32.ofNat fn)), .val (.int (Int32.ofNat tn)), .val (.int (own_hit (((((q0.toUInt64 >>> ((16 : Int32) &&& 0x3f).toInt64.toUInt64).toInt64).toInt32).toInt8.toInt32).toInt8.toInt32) (p1.toInt8.toInt32) (Int32.ofNat fn) (Int32.ofNat tn) (2 : Int32) (own_hit (((((q0.toUInt64 >>> ((24 : Int32) &&& 0x3f).toInt64.toUInt64).toInt64).toInt32).toInt8.toInt32).toInt8.toInt32) (p1.toInt8.toInt32) (Int32.ofNat fn) (Int32.ofNat tn) (3 : Int32) (own_hit (((((q0.toUInt64 >>> ((32 : Int32) &&& 0x3f).toInt64.toUInt64).toInt64).toInt32).toInt8.toInt32).toInt8.toInt32) (p1.toInt8.toInt32) (Int32.ofNat fn) (Int32.ofNat tn) (4 : Int32) (-1 : Int32)))))] [(.int (p1.toInt8.toInt32)), (.ref b1)])) _
    refine XS.iload X28.here hx rfl (hb hby at_130) rfl ?_
    show Steps p.tables e below (T28.setTop (mkF m 132 #[.val (.long q0), .second, .val (.int p1), .val (.int p2), .val (.int p3), .val (.ref b1), .val (.int (p1.toInt8.toInt32)), .val (.int (Int32.ofNat fn)), .val (.int (Int32.ofNat tn)), .val (.int (own_hit (((((q0.toUInt64 >>> ((16 : Int32) &&& 0x3f).toInt64.toUInt64).toInt64).toInt32).toInt8.toInt32).toInt8.toInt32) (p1.toInt8.toInt32) (Int32.ofNat fn) (Int32.ofNat tn) (2 : Int32) (own_hit (((((q0.toUInt64 >>> ((24 : Int32) &&& 0x3f).toInt64.toUInt64).toInt64).toInt32).toInt8.toInt32).toInt8.toInt32) (p1.toInt8.toInt32) (Int32.ofNat fn) (Int32.ofNat tn) (3 : Int32) (own_hit (((((q0.toUInt64 >>> ((32 : Int32) &&& 0x3f).toInt64.toUInt64).toInt64).toInt32).toInt8.toInt32).toInt8.toInt32) (p1.toInt8.toInt32) (Int32.ofNat fn) (Int32.ofNat tn) (4 : Int32) (-1 : Int32)))))] [(.int (Int32.ofNat fn)), (.int (p1.toInt8.toInt32)), (.ref b1)])) _
    refine XS.iload X28.here hx rfl (hb hby at_132) rfl ?_
    show Steps p.tables e below (T28.setTop (mkF m 134 #[.val (.long q0), .second, .val (.int p1), .val (.int p2), .val (.int p3), .val (.ref b1), .val (.int (p1.toInt8.toInt32)), .val (.int (Int32.ofNat fn)), .val (.int (Int32.ofNat tn)), .val (.int (own_hit (((((q0.toUInt64 >>> ((16 : Int32) &&& 0x3f).toInt64.toUInt64).toInt64).toInt32).toInt8.toInt32).toInt8.toInt32) (p1.toInt8.toInt32) (Int32.ofNat fn) (Int32.ofNat tn) (2 : Int32) (own_hit (((((q0.toUInt64 >>> ((24 : Int32) &&& 0x3f).toInt64.toUInt64).toInt64).toInt32).toInt8.toInt32).toInt8.toInt32) (p1.toInt8.toInt32) (Int32.ofNat fn) (Int32.ofNat tn) (3 : Int32) (own_hit (((((q0.toUInt64 >>> ((32 : Int32) &&& 0x3f).toInt64.toUInt64).toInt64).toInt32).toInt8.toInt32).toInt8.toInt32) (p1.toInt8.toInt32) (Int32.ofNat fn) (Int32.ofNat tn) (4 : Int32) (-1 : Int32)))))] [(.int (Int32.ofNat tn)), (.int (Int32.ofNat fn)), (.int (p1.toInt8.toInt32)), (.ref b1)])) _
    refine XS.iconst X28.here hx rfl (hb hby at_134) ?_
    show Steps p.tables e below (T28.setTop (mkF m 135 #[.val (.long q0), .second, .val (.int p1), .val (.int p2), .val (.int p3), .val (.ref b1), .val (.int (p1.toInt8.toInt32)), .val (.int (Int32.ofNat fn)), .val (.int (Int32.ofNat tn)), .val (.int (own_hit (((((q0.toUInt64 >>> ((16 : Int32) &&& 0x3f).toInt64.toUInt64).toInt64).toInt32).toInt8.toInt32).toInt8.toInt32) (p1.toInt8.toInt32) (Int32.ofNat fn) (Int32.ofNat tn) (2 : Int32) (own_hit (((((q0.toUInt64 >>> ((24 : Int32) &&& 0x3f).toInt64.toUInt64).toInt64).toInt32).toInt8.toInt32).toInt8.toInt32) (p1.toInt8.toInt32) (Int32.ofNat fn) (Int32.ofNat tn) (3 : Int32) (own_hit (((((q0.toUInt64 >>> ((32 : Int32) &&& 0x3f).toInt64.toUInt64).toInt64).toInt32).toInt8.toInt32).toInt8.toInt32) (p1.toInt8.toInt32) (Int32.ofNat fn) (Int32.ofNat tn) (4 : Int32) (-1 : Int32)))))] [(.int (1 : Int32)), (.int (Int32.ofNat tn)), (.int (Int32.ofNat fn)), (.int (p1.toInt8.toInt32)), (.ref b1)])) _
    refine XS.iload X28.here hx rfl (hb hby at_135) rfl ?_
    exact kt
  obtain ⟨_, _, ⟨T30, L30, k30, n30⟩, -, X30, ⟨Lc30, hQ30, l30, y30, z30⟩, st30⟩ := Jvm.LawKit.callS X28 hx (y := (⟨"com/example/brannan/brannan/text/ByteTextIndexOfPinLaw", "hit", "([BBIIII)I"⟩ : MethodName)) hown (mvT hZ (hw _ (List.mem_of_getElem? (i := 2) rfl))) (mvT hZ (hw _ (List.mem_of_getElem? (i := 3) rfl))) (mvT hZ (hw _ (List.mem_of_getElem? (i := 4) rfl))) (mvT hZ (hw _ (List.mem_of_getElem? (i := 5) rfl))) (by decide) (backOf (W := 0) (rm1 l Z a0 hw [] b1 (p1.toInt8.toInt32) (Int32.ofNat fn) (Int32.ofNat tn) (1 : Int32) (own_hit (((((q0.toUInt64 >>> ((16 : Int32) &&& 0x3f).toInt64.toUInt64).toInt64).toInt32).toInt8.toInt32).toInt8.toInt32) (p1.toInt8.toInt32) (Int32.ofNat fn) (Int32.ofNat tn) (2 : Int32) (own_hit (((((q0.toUInt64 >>> ((24 : Int32) &&& 0x3f).toInt64.toUInt64).toInt64).toInt32).toInt8.toInt32).toInt8.toInt32) (p1.toInt8.toInt32) (Int32.ofNat fn) (Int32.ofNat tn) (3 : Int32) (own_hit (((((q0.toUInt64 >>> ((32 : Int32) &&& 0x3f).toInt64.toUInt64).toInt64).toInt32).toInt8.toInt32).toInt8.toInt32) (p1.toInt8.toInt32) (Int32.ofNat fn) (Int32.ofNat tn) (4 : Int32) (-1 : Int32)))) k1 (5 : Int32) [(.int (((q0.toInt32).toInt8.toInt32).toInt8.toInt32)), (.int (((((q0.toUInt64 >>> ((8 : Int32) &&& 0x3f).toInt64.toUInt64).toInt64).toInt32).toInt8.toInt32).toInt8.toInt32)), (.int (((((q0.toUInt64 >>> ((16 : Int32) &&& 0x3f).toInt64.toUInt64).toInt64).toInt32).toInt8.toInt32).toInt8.toInt32)), (.int (((((q0.toUInt64 >>> ((24 : Int32) &&& 0x3f).toInt64.toUInt64).toInt64).toInt32).toInt8.toInt32).toInt8.toInt32)), (.int (((((q0.toUInt64 >>> ((32 : Int32) &&& 0x3f).toInt64.toUInt64).toInt64).toInt32).toInt8.toInt32).toInt8.toInt32))] (.int (0 : Int32)) (((((q0.toUInt64 >>> ((8 : Int32) &&& 0x3f).toInt64.toUInt64).toInt64).toInt32).toInt8.toInt32).toInt8.toInt32) h17 n0 f23 V17 ⟨by decide, by decide⟩ rfl) hZ (hw _ (List.mem_of_getElem? (i := 5) rfl)) (hw _ (List.mem_of_getElem? (i := 4) rfl)) (by decide) (by decide)) (g := (mkF m 137 #[.val (.long q0), .second, .val (.int p1), .val (.int p2), .val (.int p3), .val (.ref b1), .val (.int (p1.toInt8.toInt32)), .val (.int (Int32.ofNat fn)), .val (.int (Int32.ofNat tn)), .val (.int (own_hit (((((q0.toUInt64 >>> ((16 : Int32) &&& 0x3f).toInt64.toUInt64).toInt64).toInt32).toInt8.toInt32).toInt8.toInt32) (p1.toInt8.toInt32) (Int32.ofNat fn) (Int32.ofNat tn) (2 : Int32) (own_hit (((((q0.toUInt64 >>> ((24 : Int32) &&& 0x3f).toInt64.toUInt64).toInt64).toInt32).toInt8.toInt32).toInt8.toInt32) (p1.toInt8.toInt32) (Int32.ofNat fn) (Int32.ofNat tn) (3 : Int32) (own_hit (((((q0.toUInt64 >>> ((32 : Int32) &&& 0x3f).toInt64.toUInt64).toInt64).toInt32).toInt8.toInt32).toInt8.toInt32) (p1.toInt8.toInt32) (Int32.ofNat fn) (Int32.ofNat tn) (4 : Int32) (-1 : Int32)))))] [(.int (own_hit (((((q0.toUInt64 >>> ((16 : Int32) &&& 0x3f).toInt64.toUInt64).toInt64).toInt32).toInt8.toInt32).toInt8.toInt32) (p1.toInt8.toInt32) (Int32.ofNat fn) (Int32.ofNat tn) (2 : Int32) (own_hit (((((q0.toUInt64 >>> ((24 : Int32) &&& 0x3f).toInt64.toUInt64).toInt64).toInt32).toInt8.toInt32).toInt8.toInt32) (p1.toInt8.toInt32) (Int32.ofNat fn) (Int32.ofNat tn) (3 : Int32) (own_hit (((((q0.toUInt64 >>> ((32 : Int32) &&& 0x3f).toInt64.toUInt64).toInt64).toInt32).toInt8.toInt32).toInt8.toInt32) (p1.toInt8.toInt32) (Int32.ofNat fn) (Int32.ofNat tn) (4 : Int32) (-1 : Int32))))), (.int (1 : Int32)), (.int (Int32.ofNat tn)), (.int (Int32.ofNat fn)), (.int (p1.toInt8.toInt32)), (.ref b1)])) rfl (by rw [hml]; rfl) (argsL := [(.ref b1), (.int (p1.toInt8.toInt32)), (.int (Int32.ofNat fn)), (.int (Int32.ofNat tn)), (.int (1 : Int32)), (.int (own_hit (((((q0.toUInt64 >>> ((16 : Int32) &&& 0x3f).toInt64.toUInt64).toInt64).toInt32).toInt8.toInt32).toInt8.toInt32) (p1.toInt8.toInt32) (Int32.ofNat fn) (Int32.ofNat tn) (2 : Int32) (own_hit (((((q0.toUInt64 >>> ((24 : Int32) &&& 0x3f).toInt64.toUInt64).toInt64).toInt32).toInt8.toInt32).toInt8.toInt32) (p1.toInt8.toInt32) (Int32.ofNat fn) (Int32.ofNat tn) (3 : Int32) (own_hit (((((q0.toUInt64 >>> ((32 : Int32) &&& 0x3f).toInt64.toUInt64).toInt64).toInt32).toInt8.toInt32).toInt8.toInt32) (p1.toInt8.toInt32) (Int32.ofNat fn) (Int32.ofNat tn) (4 : Int32) (-1 : Int32)))))]) (rest := []) (lenOf pd_0 rfl) rfl (by show 2 * 0 + _ ≤ _; exact Nat.le_of_eq rfl) (hb hby at_137) (fun _ _ => ⟨rfl, e28, (by decide : 1 + 0 ≤ _), (by decide : 5 + 0 ≤ _)⟩)
  dsimp only [Pt.U, Pt.locs, Pt.cells, Pt.slots] at X30 l30 y30 z30 st30 hQ30
  subst l30 y30 z30
  obtain ⟨rfl, N30q, e30⟩ := hQ30
  have N30 := Fr.app N28 N30q
  have c31 : ∀ t, Steps p.tables e below (T30.setTop (mkF m 153 #[.val (.long q0), .second, .val (.int p1), .val (.int p2), .val (.int p3), .val (.ref b1), .val (.int (p1.toInt8.toInt32)), .val (.int (Int32.ofNat fn)), .val (.int (Int32.ofNat tn)), .val (.int (own_hit (((((q0.toUInt64 >>> ((8 : Int32) &&& 0x3f).toInt64.toUInt64).toInt64).toInt32).toInt8.toInt32).toInt8.toInt32) (p1.toInt8.toInt32) (Int32.ofNat fn) (Int32.ofNat tn) (1 : Int32) (own_hit (((((q0.toUInt64 >>> ((16 : Int32) &&& 0x3f).toInt64.toUInt64).toInt64).toInt32).toInt8.toInt32).toInt8.toInt32) (p1.toInt8.toInt32) (Int32.ofNat fn) (Int32.ofNat tn) (2 : Int32) (own_hit (((((q0.toUInt64 >>> ((24 : Int32) &&& 0x3f).toInt64.toUInt64).toInt64).toInt32).toInt8.toInt32).toInt8.toInt32) (p1.toInt8.toInt32) (Int32.ofNat fn) (Int32.ofNat tn) (3 : Int32) (own_hit (((((q0.toUInt64 >>> ((32 : Int32) &&& 0x3f).toInt64.toUInt64).toInt64).toInt32).toInt8.toInt32).toInt8.toInt32) (p1.toInt8.toInt32) (Int32.ofNat fn) (Int32.ofNat tn) (4 : Int32) (-1 : Int32))))))] [(.int (own_hit (((((q0.toUInt64 >>> ((8 : Int32) &&& 0x3f).toInt64.toUInt64).toInt64).toInt32).toInt8.toInt32).toInt8.toInt32) (p1.toInt8.toInt32) (Int32.ofNat fn) (Int32.ofNat tn) (1 : Int32) (own_hit (((((q0.toUInt64 >>> ((16 : Int32) &&& 0x3f).toInt64.toUInt64).toInt64).toInt32).toInt8.toInt32).toInt8.toInt32) (p1.toInt8.toInt32) (Int32.ofNat fn) (Int32.ofNat tn) (2 : Int32) (own_hit (((((q0.toUInt64 >>> ((24 : Int32) &&& 0x3f).toInt64.toUInt64).toInt64).toInt32).toInt8.toInt32).toInt8.toInt32) (p1.toInt8.toInt32) (Int32.ofNat fn) (Int32.ofNat tn) (3 : Int32) (own_hit (((((q0.toUInt64 >>> ((32 : Int32) &&& 0x3f).toInt64.toUInt64).toInt64).toInt32).toInt8.toInt32).toInt8.toInt32) (p1.toInt8.toInt32) (Int32.ofNat fn) (Int32.ofNat tn) (4 : Int32) (-1 : Int32)))))), (.int (0 : Int32)), (.int (Int32.ofNat tn)), (.int (Int32.ofNat fn)), (.int (p1.toInt8.toInt32)), (.ref b1)])) t → Steps p.tables e below (T30.setTop (mkF m 140 #[.val (.long q0), .second, .val (.int p1), .val (.int p2), .val (.int p3), .val (.ref b1), .val (.int (p1.toInt8.toInt32)), .val (.int (Int32.ofNat fn)), .val (.int (Int32.ofNat tn)), .val (.int (own_hit (((((q0.toUInt64 >>> ((16 : Int32) &&& 0x3f).toInt64.toUInt64).toInt64).toInt32).toInt8.toInt32).toInt8.toInt32) (p1.toInt8.toInt32) (Int32.ofNat fn) (Int32.ofNat tn) (2 : Int32) (own_hit (((((q0.toUInt64 >>> ((24 : Int32) &&& 0x3f).toInt64.toUInt64).toInt64).toInt32).toInt8.toInt32).toInt8.toInt32) (p1.toInt8.toInt32) (Int32.ofNat fn) (Int32.ofNat tn) (3 : Int32) (own_hit (((((q0.toUInt64 >>> ((32 : Int32) &&& 0x3f).toInt64.toUInt64).toInt64).toInt32).toInt8.toInt32).toInt8.toInt32) (p1.toInt8.toInt32) (Int32.ofNat fn) (Int32.ofNat tn) (4 : Int32) (-1 : Int32)))))] [(.int (own_hit (((((q0.toUInt64 >>> ((8 : Int32) &&& 0x3f).toInt64.toUInt64).toInt64).toInt32).toInt8.toInt32).toInt8.toInt32) (p1.toInt8.toInt32) (Int32.ofNat fn) (Int32.ofNat tn) (1 : Int32) (own_hit (((((q0.toUInt64 >>> ((16 : Int32) &&& 0x3f).toInt64.toUInt64).toInt64).toInt32).toInt8.toInt32).toInt8.toInt32) (p1.toInt8.toInt32) (Int32.ofNat fn) (Int32.ofNat tn) (2 : Int32) (own_hit (((((q0.toUInt64 >>> ((24 : Int32) &&& 0x3f).toInt64.toUInt64).toInt64).toInt32).toInt8.toInt32).toInt8.toInt32) (p1.toInt8.toInt32) (Int32.ofNat fn) (Int32.ofNat tn) (3 : Int32) (own_hit (((((q0.toUInt64 >>> ((32 : Int32) &&& 0x3f).toInt64.toUInt64).toInt64).toInt32).toInt8.toInt32).toInt8.toInt32) (p1.toInt8.toInt32) (Int32.ofNat fn) (Int32.ofNat tn) (4 : Int32) (-1 : Int32))))))])) t := by
    intro t kt
    show Steps p.tables e below (T30.setTop (mkF m 140 #[.val (.long q0), .second, .val (.int p1), .val (.int p2), .val (.int p3), .val (.ref b1), .val (.int (p1.toInt8.toInt32)), .val (.int (Int32.ofNat fn)), .val (.int (Int32.ofNat tn)), .val (.int (own_hit (((((q0.toUInt64 >>> ((16 : Int32) &&& 0x3f).toInt64.toUInt64).toInt64).toInt32).toInt8.toInt32).toInt8.toInt32) (p1.toInt8.toInt32) (Int32.ofNat fn) (Int32.ofNat tn) (2 : Int32) (own_hit (((((q0.toUInt64 >>> ((24 : Int32) &&& 0x3f).toInt64.toUInt64).toInt64).toInt32).toInt8.toInt32).toInt8.toInt32) (p1.toInt8.toInt32) (Int32.ofNat fn) (Int32.ofNat tn) (3 : Int32) (own_hit (((((q0.toUInt64 >>> ((32 : Int32) &&& 0x3f).toInt64.toUInt64).toInt64).toInt32).toInt8.toInt32).toInt8.toInt32) (p1.toInt8.toInt32) (Int32.ofNat fn) (Int32.ofNat tn) (4 : Int32) (-1 : Int32)))))] [(.int (own_hit (((((q0.toUInt64 >>> ((8 : Int32) &&& 0x3f).toInt64.toUInt64).toInt64).toInt32).toInt8.toInt32).toInt8.toInt32) (p1.toInt8.toInt32) (Int32.ofNat fn) (Int32.ofNat tn) (1 : Int32) (own_hit (((((q0.toUInt64 >>> ((16 : Int32) &&& 0x3f).toInt64.toUInt64).toInt64).toInt32).toInt8.toInt32).toInt8.toInt32) (p1.toInt8.toInt32) (Int32.ofNat fn) (Int32.ofNat tn) (2 : Int32) (own_hit (((((q0.toUInt64 >>> ((24 : Int32) &&& 0x3f).toInt64.toUInt64).toInt64).toInt32).toInt8.toInt32).toInt8.toInt32) (p1.toInt8.toInt32) (Int32.ofNat fn) (Int32.ofNat tn) (3 : Int32) (own_hit (((((q0.toUInt64 >>> ((32 : Int32) &&& 0x3f).toInt64.toUInt64).toInt64).toInt32).toInt8.toInt32).toInt8.toInt32) (p1.toInt8.toInt32) (Int32.ofNat fn) (Int32.ofNat tn) (4 : Int32) (-1 : Int32))))))])) _
    refine XS.istore X30.here hx rfl (hb hby at_140) rfl (l' := #[.val (.long q0), .second, .val (.int p1), .val (.int p2), .val (.int p3), .val (.ref b1), .val (.int (p1.toInt8.toInt32)), .val (.int (Int32.ofNat fn)), .val (.int (Int32.ofNat tn)), .val (.int (own_hit (((((q0.toUInt64 >>> ((8 : Int32) &&& 0x3f).toInt64.toUInt64).toInt64).toInt32).toInt8.toInt32).toInt8.toInt32) (p1.toInt8.toInt32) (Int32.ofNat fn) (Int32.ofNat tn) (1 : Int32) (own_hit (((((q0.toUInt64 >>> ((16 : Int32) &&& 0x3f).toInt64.toUInt64).toInt64).toInt32).toInt8.toInt32).toInt8.toInt32) (p1.toInt8.toInt32) (Int32.ofNat fn) (Int32.ofNat tn) (2 : Int32) (own_hit (((((q0.toUInt64 >>> ((24 : Int32) &&& 0x3f).toInt64.toUInt64).toInt64).toInt32).toInt8.toInt32).toInt8.toInt32) (p1.toInt8.toInt32) (Int32.ofNat fn) (Int32.ofNat tn) (3 : Int32) (own_hit (((((q0.toUInt64 >>> ((32 : Int32) &&& 0x3f).toInt64.toUInt64).toInt64).toInt32).toInt8.toInt32).toInt8.toInt32) (p1.toInt8.toInt32) (Int32.ofNat fn) (Int32.ofNat tn) (4 : Int32) (-1 : Int32))))))]) rfl ?_
    show Steps p.tables e below (T30.setTop (mkF m 142 #[.val (.long q0), .second, .val (.int p1), .val (.int p2), .val (.int p3), .val (.ref b1), .val (.int (p1.toInt8.toInt32)), .val (.int (Int32.ofNat fn)), .val (.int (Int32.ofNat tn)), .val (.int (own_hit (((((q0.toUInt64 >>> ((8 : Int32) &&& 0x3f).toInt64.toUInt64).toInt64).toInt32).toInt8.toInt32).toInt8.toInt32) (p1.toInt8.toInt32) (Int32.ofNat fn) (Int32.ofNat tn) (1 : Int32) (own_hit (((((q0.toUInt64 >>> ((16 : Int32) &&& 0x3f).toInt64.toUInt64).toInt64).toInt32).toInt8.toInt32).toInt8.toInt32) (p1.toInt8.toInt32) (Int32.ofNat fn) (Int32.ofNat tn) (2 : Int32) (own_hit (((((q0.toUInt64 >>> ((24 : Int32) &&& 0x3f).toInt64.toUInt64).toInt64).toInt32).toInt8.toInt32).toInt8.toInt32) (p1.toInt8.toInt32) (Int32.ofNat fn) (Int32.ofNat tn) (3 : Int32) (own_hit (((((q0.toUInt64 >>> ((32 : Int32) &&& 0x3f).toInt64.toUInt64).toInt64).toInt32).toInt8.toInt32).toInt8.toInt32) (p1.toInt8.toInt32) (Int32.ofNat fn) (Int32.ofNat tn) (4 : Int32) (-1 : Int32))))))] [])) _
    refine XS.aload X30.here hx rfl (hb hby at_142) rfl rfl ?_
    show Steps p.tables e below (T30.setTop (mkF m 144 #[.val (.long q0), .second, .val (.int p1), .val (.int p2), .val (.int p3), .val (.ref b1), .val (.int (p1.toInt8.toInt32)), .val (.int (Int32.ofNat fn)), .val (.int (Int32.ofNat tn)), .val (.int (own_hit (((((q0.toUInt64 >>> ((8 : Int32) &&& 0x3f).toInt64.toUInt64).toInt64).toInt32).toInt8.toInt32).toInt8.toInt32) (p1.toInt8.toInt32) (Int32.ofNat fn) (Int32.ofNat tn) (1 : Int32) (own_hit (((((q0.toUInt64 >>> ((16 : Int32) &&& 0x3f).toInt64.toUInt64).toInt64).toInt32).toInt8.toInt32).toInt8.toInt32) (p1.toInt8.toInt32) (Int32.ofNat fn) (Int32.ofNat tn) (2 : Int32) (own_hit (((((q0.toUInt64 >>> ((24 : Int32) &&& 0x3f).toInt64.toUInt64).toInt64).toInt32).toInt8.toInt32).toInt8.toInt32) (p1.toInt8.toInt32) (Int32.ofNat fn) (Int32.ofNat tn) (3 : Int32) (own_hit (((((q0.toUInt64 >>> ((32 : Int32) &&& 0x3f).toInt64.toUInt64).toInt64).toInt32).toInt8.toInt32).toInt8.toInt32) (p1.toInt8.toInt32) (Int32.ofNat fn) (Int32.ofNat tn) (4 : Int32) (-1 : Int32))))))] [(.ref b1)])) _
    refine XS.iload X30.here hx rfl (hb hby at_144) rfl ?_
    show Steps p.tables e below (T30.setTop (mkF m 146 #[.val (.long q0), .second, .val (.int p1), .val (.int p2), .val (.int p3), .val (.ref b1), .val (.int (p1.toInt8.toInt32)), .val (.int (Int32.ofNat fn)), .val (.int (Int32.ofNat tn)), .val (.int (own_hit (((((q0.toUInt64 >>> ((8 : Int32) &&& 0x3f).toInt64.toUInt64).toInt64).toInt32).toInt8.toInt32).toInt8.toInt32) (p1.toInt8.toInt32) (Int32.ofNat fn) (Int32.ofNat tn) (1 : Int32) (own_hit (((((q0.toUInt64 >>> ((16 : Int32) &&& 0x3f).toInt64.toUInt64).toInt64).toInt32).toInt8.toInt32).toInt8.toInt32) (p1.toInt8.toInt32) (Int32.ofNat fn) (Int32.ofNat tn) (2 : Int32) (own_hit (((((q0.toUInt64 >>> ((24 : Int32) &&& 0x3f).toInt64.toUInt64).toInt64).toInt32).toInt8.toInt32).toInt8.toInt32) (p1.toInt8.toInt32) (Int32.ofNat fn) (Int32.ofNat tn) (3 : Int32) (own_hit (((((q0.toUInt64 >>> ((32 : Int32) &&& 0x3f).toInt64.toUInt64).toInt64).toInt32).toInt8.toInt32).toInt8.toInt32) (p1.toInt8.toInt32) (Int32.ofNat fn) (Int32.ofNat tn) (4 : Int32) (-1 : Int32))))))] [(.int (p1.toInt8.toInt32)), (.ref b1)])) _
    refine XS.iload X30.here hx rfl (hb hby at_146) rfl ?_
    show Steps p.tables e below (T30.setTop (mkF m 148 #[.val (.long q0), .second, .val (.int p1), .val (.int p2), .val (.int p3), .val (.ref b1), .val (.int (p1.toInt8.toInt32)), .val (.int (Int32.ofNat fn)), .val (.int (Int32.ofNat tn)), .val (.int (own_hit (((((q0.toUInt64 >>> ((8 : Int32) &&& 0x3f).toInt64.toUInt64).toInt64).toInt32).toInt8.toInt32).toInt8.toInt32) (p1.toInt8.toInt32) (Int32.ofNat fn) (Int32.ofNat tn) (1 : Int32) (own_hit (((((q0.toUInt64 >>> ((16 : Int32) &&& 0x3f).toInt64.toUInt64).toInt64).toInt32).toInt8.toInt32).toInt8.toInt32) (p1.toInt8.toInt32) (Int32.ofNat fn) (Int32.ofNat tn) (2 : Int32) (own_hit (((((q0.toUInt64 >>> ((24 : Int32) &&& 0x3f).toInt64.toUInt64).toInt64).toInt32).toInt8.toInt32).toInt8.toInt32) (p1.toInt8.toInt32) (Int32.ofNat fn) (Int32.ofNat tn) (3 : Int32) (own_hit (((((q0.toUInt64 >>> ((32 : Int32) &&& 0x3f).toInt64.toUInt64).toInt64).toInt32).toInt8.toInt32).toInt8.toInt32) (p1.toInt8.toInt32) (Int32.ofNat fn) (Int32.ofNat tn) (4 : Int32) (-1 : Int32))))))] [(.int (Int32.ofNat fn)), (.int (p1.toInt8.toInt32)), (.ref b1)])) _
    refine XS.iload X30.here hx rfl (hb hby at_148) rfl ?_
    show Steps p.tables e below (T30.setTop (mkF m 150 #[.val (.long q0), .second, .val (.int p1), .val (.int p2), .val (.int p3), .val (.ref b1), .val (.int (p1.toInt8.toInt32)), .val (.int (Int32.ofNat fn)), .val (.int (Int32.ofNat tn)), .val (.int (own_hit (((((q0.toUInt64 >>> ((8 : Int32) &&& 0x3f).toInt64.toUInt64).toInt64).toInt32).toInt8.toInt32).toInt8.toInt32) (p1.toInt8.toInt32) (Int32.ofNat fn) (Int32.ofNat tn) (1 : Int32) (own_hit (((((q0.toUInt64 >>> ((16 : Int32) &&& 0x3f).toInt64.toUInt64).toInt64).toInt32).toInt8.toInt32).toInt8.toInt32) (p1.toInt8.toInt32) (Int32.ofNat fn) (Int32.ofNat tn) (2 : Int32) (own_hit (((((q0.toUInt64 >>> ((24 : Int32) &&& 0x3f).toInt64.toUInt64).toInt64).toInt32).toInt8.toInt32).toInt8.toInt32) (p1.toInt8.toInt32) (Int32.ofNat fn) (Int32.ofNat tn) (3 : Int32) (own_hit (((((q0.toUInt64 >>> ((32 : Int32) &&& 0x3f).toInt64.toUInt64).toInt64).toInt32).toInt8.toInt32).toInt8.toInt32) (p1.toInt8.toInt32) (Int32.ofNat fn) (Int32.ofNat tn) (4 : Int32) (-1 : Int32))))))] [(.int (Int32.ofNat tn)), (.int (Int32.ofNat fn)), (.int (p1.toInt8.toInt32)), (.ref b1)])) _
    refine XS.iconst X30.here hx rfl (hb hby at_150) ?_
    show Steps p.tables e below (T30.setTop (mkF m 151 #[.val (.long q0), .second, .val (.int p1), .val (.int p2), .val (.int p3), .val (.ref b1), .val (.int (p1.toInt8.toInt32)), .val (.int (Int32.ofNat fn)), .val (.int (Int32.ofNat tn)), .val (.int (own_hit (((((q0.toUInt64 >>> ((8 : Int32) &&& 0x3f).toInt64.toUInt64).toInt64).toInt32).toInt8.toInt32).toInt8.toInt32) (p1.toInt8.toInt32) (Int32.ofNat fn) (Int32.ofNat tn) (1 : Int32) (own_hit (((((q0.toUInt64 >>> ((16 : Int32) &&& 0x3f).toInt64.toUInt64).toInt64).toInt32).toInt8.toInt32).toInt8.toInt32) (p1.toInt8.toInt32) (Int32.ofNat fn) (Int32.ofNat tn) (2 : Int32) (own_hit (((((q0.toUInt64 >>> ((24 : Int32) &&& 0x3f).toInt64.toUInt64).toInt64).toInt32).toInt8.toInt32).toInt8.toInt32) (p1.toInt8.toInt32) (Int32.ofNat fn) (Int32.ofNat tn) (3 : Int32) (own_hit (((((q0.toUInt64 >>> ((32 : Int32) &&& 0x3f).toInt64.toUInt64).toInt64).toInt32).toInt8.toInt32).toInt8.toInt32) (p1.toInt8.toInt32) (Int32.ofNat fn) (Int32.ofNat tn) (4 : Int32) (-1 : Int32))))))] [(.int (0 : Int32)), (.int (Int32.ofNat tn)), (.int (Int32.ofNat fn)), (.int (p1.toInt8.toInt32)), (.ref b1)])) _
    refine XS.iload X30.here hx rfl (hb hby at_151) rfl ?_
    exact kt
  obtain ⟨_, _, ⟨T32, L32, k32, n32⟩, -, X32, ⟨Lc32, hQ32, l32, y32, z32⟩, st32⟩ := Jvm.LawKit.callS X30 hx (y := (⟨"com/example/brannan/brannan/text/ByteTextIndexOfPinLaw", "hit", "([BBIIII)I"⟩ : MethodName)) hown (mvT hZ (hw _ (List.mem_of_getElem? (i := 2) rfl))) (mvT hZ (hw _ (List.mem_of_getElem? (i := 3) rfl))) (mvT hZ (hw _ (List.mem_of_getElem? (i := 4) rfl))) (mvT hZ (hw _ (List.mem_of_getElem? (i := 5) rfl))) (by decide) (backOf (W := 0) (rm1 l Z a0 hw [] b1 (p1.toInt8.toInt32) (Int32.ofNat fn) (Int32.ofNat tn) (0 : Int32) (own_hit (((((q0.toUInt64 >>> ((8 : Int32) &&& 0x3f).toInt64.toUInt64).toInt64).toInt32).toInt8.toInt32).toInt8.toInt32) (p1.toInt8.toInt32) (Int32.ofNat fn) (Int32.ofNat tn) (1 : Int32) (own_hit (((((q0.toUInt64 >>> ((16 : Int32) &&& 0x3f).toInt64.toUInt64).toInt64).toInt32).toInt8.toInt32).toInt8.toInt32) (p1.toInt8.toInt32) (Int32.ofNat fn) (Int32.ofNat tn) (2 : Int32) (own_hit (((((q0.toUInt64 >>> ((24 : Int32) &&& 0x3f).toInt64.toUInt64).toInt64).toInt32).toInt8.toInt32).toInt8.toInt32) (p1.toInt8.toInt32) (Int32.ofNat fn) (Int32.ofNat tn) (3 : Int32) (own_hit (((((q0.toUInt64 >>> ((32 : Int32) &&& 0x3f).toInt64.toUInt64).toInt64).toInt32).toInt8.toInt32).toInt8.toInt32) (p1.toInt8.toInt32) (Int32.ofNat fn) (Int32.ofNat tn) (4 : Int32) (-1 : Int32))))) k1 (5 : Int32) [(.int (((q0.toInt32).toInt8.toInt32).toInt8.toInt32)), (.int (((((q0.toUInt64 >>> ((8 : Int32) &&& 0x3f).toInt64.toUInt64).toInt64).toInt32).toInt8.toInt32).toInt8.toInt32)), (.int (((((q0.toUInt64 >>> ((16 : Int32) &&& 0x3f).toInt64.toUInt64).toInt64).toInt32).toInt8.toInt32).toInt8.toInt32)), (.int (((((q0.toUInt64 >>> ((24 : Int32) &&& 0x3f).toInt64.toUInt64).toInt64).toInt32).toInt8.toInt32).toInt8.toInt32)), (.int (((((q0.toUInt64 >>> ((32 : Int32) &&& 0x3f).toInt64.toUInt64).toInt64).toInt32).toInt8.toInt32).toInt8.toInt32))] (.int (0 : Int32)) (((q0.toInt32).toInt8.toInt32).toInt8.toInt32) h17 n0 f23 V17 ⟨by decide, by decide⟩ rfl) hZ (hw _ (List.mem_of_getElem? (i := 5) rfl)) (hw _ (List.mem_of_getElem? (i := 4) rfl)) (by decide) (by decide)) (g := (mkF m 153 #[.val (.long q0), .second, .val (.int p1), .val (.int p2), .val (.int p3), .val (.ref b1), .val (.int (p1.toInt8.toInt32)), .val (.int (Int32.ofNat fn)), .val (.int (Int32.ofNat tn)), .val (.int (own_hit (((((q0.toUInt64 >>> ((8 : Int32) &&& 0x3f).toInt64.toUInt64).toInt64).toInt32).toInt8.toInt32).toInt8.toInt32) (p1.toInt8.toInt32) (Int32.ofNat fn) (Int32.ofNat tn) (1 : Int32) (own_hit (((((q0.toUInt64 >>> ((16 : Int32) &&& 0x3f).toInt64.toUInt64).toInt64).toInt32).toInt8.toInt32).toInt8.toInt32) (p1.toInt8.toInt32) (Int32.ofNat fn) (Int32.ofNat tn) (2 : Int32) (own_hit (((((q0.toUInt64 >>> ((24 : Int32) &&& 0x3f).toInt64.toUInt64).toInt64).toInt32).toInt8.toInt32).toInt8.toInt32) (p1.toInt8.toInt32) (Int32.ofNat fn) (Int32.ofNat tn) (3 : Int32) (own_hit (((((q0.toUInt64 >>> ((32 : Int32) &&& 0x3f).toInt64.toUInt64).toInt64).toInt32).toInt8.toInt32).toInt8.toInt32) (p1.toInt8.toInt32) (Int32.ofNat fn) (Int32.ofNat tn) (4 : Int32) (-1 : Int32))))))] [(.int (own_hit (((((q0.toUInt64 >>> ((8 : Int32) &&& 0x3f).toInt64.toUInt64).toInt64).toInt32).toInt8.toInt32).toInt8.toInt32) (p1.toInt8.toInt32) (Int32.ofNat fn) (Int32.ofNat tn) (1 : Int32) (own_hit (((((q0.toUInt64 >>> ((16 : Int32) &&& 0x3f).toInt64.toUInt64).toInt64).toInt32).toInt8.toInt32).toInt8.toInt32) (p1.toInt8.toInt32) (Int32.ofNat fn) (Int32.ofNat tn) (2 : Int32) (own_hit (((((q0.toUInt64 >>> ((24 : Int32) &&& 0x3f).toInt64.toUInt64).toInt64).toInt32).toInt8.toInt32).toInt8.toInt32) (p1.toInt8.toInt32) (Int32.ofNat fn) (Int32.ofNat tn) (3 : Int32) (own_hit (((((q0.toUInt64 >>> ((32 : Int32) &&& 0x3f).toInt64.toUInt64).toInt64).toInt32).toInt8.toInt32).toInt8.toInt32) (p1.toInt8.toInt32) (Int32.ofNat fn) (Int32.ofNat tn) (4 : Int32) (-1 : Int32)))))), (.int (0 : Int32)), (.int (Int32.ofNat tn)), (.int (Int32.ofNat fn)), (.int (p1.toInt8.toInt32)), (.ref b1)])) rfl (by rw [hml]; rfl) (argsL := [(.ref b1), (.int (p1.toInt8.toInt32)), (.int (Int32.ofNat fn)), (.int (Int32.ofNat tn)), (.int (0 : Int32)), (.int (own_hit (((((q0.toUInt64 >>> ((8 : Int32) &&& 0x3f).toInt64.toUInt64).toInt64).toInt32).toInt8.toInt32).toInt8.toInt32) (p1.toInt8.toInt32) (Int32.ofNat fn) (Int32.ofNat tn) (1 : Int32) (own_hit (((((q0.toUInt64 >>> ((16 : Int32) &&& 0x3f).toInt64.toUInt64).toInt64).toInt32).toInt8.toInt32).toInt8.toInt32) (p1.toInt8.toInt32) (Int32.ofNat fn) (Int32.ofNat tn) (2 : Int32) (own_hit (((((q0.toUInt64 >>> ((24 : Int32) &&& 0x3f).toInt64.toUInt64).toInt64).toInt32).toInt8.toInt32).toInt8.toInt32) (p1.toInt8.toInt32) (Int32.ofNat fn) (Int32.ofNat tn) (3 : Int32) (own_hit (((((q0.toUInt64 >>> ((32 : Int32) &&& 0x3f).toInt64.toUInt64).toInt64).toInt32).toInt8.toInt32).toInt8.toInt32) (p1.toInt8.toInt32) (Int32.ofNat fn) (Int32.ofNat tn) (4 : Int32) (-1 : Int32))))))]) (rest := []) (lenOf pd_0 rfl) rfl (by show 2 * 0 + _ ≤ _; exact Nat.le_of_eq rfl) (hb hby at_153) (fun _ _ => ⟨rfl, e30, (by decide : 1 + 0 ≤ _), (by decide : 5 + 0 ≤ _)⟩)
  dsimp only [Pt.U, Pt.locs, Pt.cells, Pt.slots] at X32 l32 y32 z32 st32 hQ32
  subst l32 y32 z32
  obtain ⟨rfl, N32q, e32⟩ := hQ32
  have N32 := Fr.app N30 N32q
  have c33 : ∀ t, Steps p.tables e below (T32.setTop (mkF m 166 #[.val (.long q0), .second, .val (.int p1), .val (.int p2), .val (.int p3), .val (.ref b1), .val (.int (p1.toInt8.toInt32)), .val (.int (Int32.ofNat fn)), .val (.int (Int32.ofNat tn)), .val (.int (own_hit (((q0.toInt32).toInt8.toInt32).toInt8.toInt32) (p1.toInt8.toInt32) (Int32.ofNat fn) (Int32.ofNat tn) (0 : Int32) (own_hit (((((q0.toUInt64 >>> ((8 : Int32) &&& 0x3f).toInt64.toUInt64).toInt64).toInt32).toInt8.toInt32).toInt8.toInt32) (p1.toInt8.toInt32) (Int32.ofNat fn) (Int32.ofNat tn) (1 : Int32) (own_hit (((((q0.toUInt64 >>> ((16 : Int32) &&& 0x3f).toInt64.toUInt64).toInt64).toInt32).toInt8.toInt32).toInt8.toInt32) (p1.toInt8.toInt32) (Int32.ofNat fn) (Int32.ofNat tn) (2 : Int32) (own_hit (((((q0.toUInt64 >>> ((24 : Int32) &&& 0x3f).toInt64.toUInt64).toInt64).toInt32).toInt8.toInt32).toInt8.toInt32) (p1.toInt8.toInt32) (Int32.ofNat fn) (Int32.ofNat tn) (3 : Int32) (own_hit (((((q0.toUInt64 >>> ((32 : Int32) &&& 0x3f).toInt64.toUInt64).toInt64).toInt32).toInt8.toInt32).toInt8.toInt32) (p1.toInt8.toInt32) (Int32.ofNat fn) (Int32.ofNat tn) (4 : Int32) (-1 : Int32)))))))] [(.int (Int32.ofNat tn)), (.int (Int32.ofNat fn)), (.int (p1.toInt8.toInt32)), (.ref b1)])) t → Steps p.tables e below (T32.setTop (mkF m 156 #[.val (.long q0), .second, .val (.int p1), .val (.int p2), .val (.int p3), .val (.ref b1), .val (.int (p1.toInt8.toInt32)), .val (.int (Int32.ofNat fn)), .val (.int (Int32.ofNat tn)), .val (.int (own_hit (((((q0.toUInt64 >>> ((8 : Int32) &&& 0x3f).toInt64.toUInt64).toInt64).toInt32).toInt8.toInt32).toInt8.toInt32) (p1.toInt8.toInt32) (Int32.ofNat fn) (Int32.ofNat tn) (1 : Int32) (own_hit (((((q0.toUInt64 >>> ((16 : Int32) &&& 0x3f).toInt64.toUInt64).toInt64).toInt32).toInt8.toInt32).toInt8.toInt32) (p1.toInt8.toInt32) (Int32.ofNat fn) (Int32.ofNat tn) (2 : Int32) (own_hit (((((q0.toUInt64 >>> ((24 : Int32) &&& 0x3f).toInt64.toUInt64).toInt64).toInt32).toInt8.toInt32).toInt8.toInt32) (p1.toInt8.toInt32) (Int32.ofNat fn) (Int32.ofNat tn) (3 : Int32) (own_hit (((((q0.toUInt64 >>> ((32 : Int32) &&& 0x3f).toInt64.toUInt64).toInt64).toInt32).toInt8.toInt32).toInt8.toInt32) (p1.toInt8.toInt32) (Int32.ofNat fn) (Int32.ofNat tn) (4 : Int32) (-1 : Int32))))))] [(.int (own_hit (((q0.toInt32).toInt8.toInt32).toInt8.toInt32) (p1.toInt8.toInt32) (Int32.ofNat fn) (Int32.ofNat tn) (0 : Int32) (own_hit (((((q0.toUInt64 >>> ((8 : Int32) &&& 0x3f).toInt64.toUInt64).toInt64).toInt32).toInt8.toInt32).toInt8.toInt32) (p1.toInt8.toInt32) (Int32.ofNat fn) (Int32.ofNat tn) (1 : Int32) (own_hit (((((q0.toUInt64 >>> ((16 : Int32) &&& 0x3f).toInt64.toUInt64).toInt64).toInt32).toInt8.toInt32).toInt8.toInt32) (p1.toInt8.toInt32) (Int32.ofNat fn) (Int32.ofNat tn) (2 : Int32) (own_hit (((((q0.toUInt64 >>> ((24 : Int32) &&& 0x3f).toInt64.toUInt64).toInt64).toInt32).toInt8.toInt32).toInt8.toInt32) (p1.toInt8.toInt32) (Int32.ofNat fn) (Int32.ofNat tn) (3 : Int32) (own_hit (((((q0.toUInt64 >>> ((32 : Int32) &&& 0x3f).toInt64.toUInt64).toInt64).toInt32).toInt8.toInt32).toInt8.toInt32) (p1.toInt8.toInt32) (Int32.ofNat fn) (Int32.ofNat tn) (4 : Int32) (-1 : Int32)))))))])) t := by
    intro t kt
    show Steps p.tables e below (T32.setTop (mkF m 156 #[.val (.long q0), .second, .val (.int p1), .val (.int p2), .val (.int p3), .val (.ref b1), .val (.int (p1.toInt8.toInt32)), .val (.int (Int32.ofNat fn)), .val (.int (Int32.ofNat tn)), .val (.int (own_hit (((((q0.toUInt64 >>> ((8 : Int32) &&& 0x3f).toInt64.toUInt64).toInt64).toInt32).toInt8.toInt32).toInt8.toInt32) (p1.toInt8.toInt32) (Int32.ofNat fn) (Int32.ofNat tn) (1 : Int32) (own_hit (((((q0.toUInt64 >>> ((16 : Int32) &&& 0x3f).toInt64.toUInt64).toInt64).toInt32).toInt8.toInt32).toInt8.toInt32) (p1.toInt8.toInt32) (Int32.ofNat fn) (Int32.ofNat tn) (2 : Int32) (own_hit (((((q0.toUInt64 >>> ((24 : Int32) &&& 0x3f).toInt64.toUInt64).toInt64).toInt32).toInt8.toInt32).toInt8.toInt32) (p1.toInt8.toInt32) (Int32.ofNat fn) (Int32.ofNat tn) (3 : Int32) (own_hit (((((q0.toUInt64 >>> ((32 : Int32) &&& 0x3f).toInt64.toUInt64).toInt64).toInt32).toInt8.toInt32).toInt8.toInt32) (p1.toInt8.toInt32) (Int32.ofNat fn) (Int32.ofNat tn) (4 : Int32) (-1 : Int32))))))] [(.int (own_hit (((q0.toInt32).toInt8.toInt32).toInt8.toInt32) (p1.toInt8.toInt32) (Int32.ofNat fn) (Int32.ofNat tn) (0 : Int32) (own_hit (((((q0.toUInt64 >>> ((8 : Int32) &&& 0x3f).toInt64.toUInt64).toInt64).toInt32).toInt8.toInt32).toInt8.toInt32) (p1.toInt8.toInt32) (Int32.ofNat fn) (Int32.ofNat tn) (1 : Int32) (own_hit (((((q0.toUInt64 >>> ((16 : Int32) &&& 0x3f).toInt64.toUInt64).toInt64).toInt32).toInt8.toInt32).toInt8.toInt32) (p1.toInt8.toInt32) (Int32.ofNat fn) (Int32.ofNat tn) (2 : Int32) (own_hit (((((q0.toUInt64 >>> ((24 : Int32) &&& 0x3f).toInt64.toUInt64).toInt64).toInt32).toInt8.toInt32).toInt8.toInt32) (p1.toInt8.toInt32) (Int32.ofNat fn) (Int32.ofNat tn) (3 : Int32) (own_hit (((((q0.toUInt64 >>> ((32 : Int32) &&& 0x3f).toInt64.toUInt64).toInt64).toInt32).toInt8.toInt32).toInt8.toInt32) (p1.toInt8.toInt32) (Int32.ofNat fn) (Int32.ofNat tn) (4 : Int32) (-1 : Int32)))))))])) _
    refine XS.istore X32.here hx rfl (hb hby at_156) rfl (l' := #[.val (.long q0), .second, .val (.int p1), .val (.int p2), .val (.int p3), .val (.ref b1), .val (.int (p1.toInt8.toInt32)), .val (.int (Int32.ofNat fn)), .val (.int (Int32.ofNat tn)), .val (.int (own_hit (((q0.toInt32).toInt8.toInt32).toInt8.toInt32) (p1.toInt8.toInt32) (Int32.ofNat fn) (Int32.ofNat tn) (0 : Int32) (own_hit (((((q0.toUInt64 >>> ((8 : Int32) &&& 0x3f).toInt64.toUInt64).toInt64).toInt32).toInt8.toInt32).toInt8.toInt32) (p1.toInt8.toInt32) (Int32.ofNat fn) (Int32.ofNat tn) (1 : Int32) (own_hit (((((q0.toUInt64 >>> ((16 : Int32) &&& 0x3f).toInt64.toUInt64).toInt64).toInt32).toInt8.toInt32).toInt8.toInt32) (p1.toInt8.toInt32) (Int32.ofNat fn) (Int32.ofNat tn) (2 : Int32) (own_hit (((((q0.toUInt64 >>> ((24 : Int32) &&& 0x3f).toInt64.toUInt64).toInt64).toInt32).toInt8.toInt32).toInt8.toInt32) (p1.toInt8.toInt32) (Int32.ofNat fn) (Int32.ofNat tn) (3 : Int32) (own_hit (((((q0.toUInt64 >>> ((32 : Int32) &&& 0x3f).toInt64.toUInt64).toInt64).toInt32).toInt8.toInt32).toInt8.toInt32) (p1.toInt8.toInt32) (Int32.ofNat fn) (Int32.ofNat tn) (4 : Int32) (-1 : Int32)))))))]) rfl ?_
    show Steps p.tables e below (T32.setTop (mkF m 158 #[.val (.long q0), .second, .val (.int p1), .val (.int p2), .val (.int p3), .val (.ref b1), .val (.int (p1.toInt8.toInt32)), .val (.int (Int32.ofNat fn)), .val (.int (Int32.ofNat tn)), .val (.int (own_hit (((q0.toInt32).toInt8.toInt32).toInt8.toInt32) (p1.toInt8.toInt32) (Int32.ofNat fn) (Int32.ofNat tn) (0 : Int32) (own_hit (((((q0.toUInt64 >>> ((8 : Int32) &&& 0x3f).toInt64.toUInt64).toInt64).toInt32).toInt8.toInt32).toInt8.toInt32) (p1.toInt8.toInt32) (Int32.ofNat fn) (Int32.ofNat tn) (1 : Int32) (own_hit (((((q0.toUInt64 >>> ((16 : Int32) &&& 0x3f).toInt64.toUInt64).toInt64).toInt32).toInt8.toInt32).toInt8.toInt32) (p1.toInt8.toInt32) (Int32.ofNat fn) (Int32.ofNat tn) (2 : Int32) (own_hit (((((q0.toUInt64 >>> ((24 : Int32) &&& 0x3f).toInt64.toUInt64).toInt64).toInt32).toInt8.toInt32).toInt8.toInt32) (p1.toInt8.toInt32) (Int32.ofNat fn) (Int32.ofNat tn) (3 : Int32) (own_hit (((((q0.toUInt64 >>> ((32 : Int32) &&& 0x3f).toInt64.toUInt64).toInt64).toInt32).toInt8.toInt32).toInt8.toInt32) (p1.toInt8.toInt32) (Int32.ofNat fn) (Int32.ofNat tn) (4 : Int32) (-1 : Int32)))))))] [])) _
    refine XS.aload X32.here hx rfl (hb hby at_158) rfl rfl ?_
    show Steps p.tables e below (T32.setTop (mkF m 160 #[.val (.long q0), .second, .val (.int p1), .val (.int p2), .val (.int p3), .val (.ref b1), .val (.int (p1.toInt8.toInt32)), .val (.int (Int32.ofNat fn)), .val (.int (Int32.ofNat tn)), .val (.int (own_hit (((q0.toInt32).toInt8.toInt32).toInt8.toInt32) (p1.toInt8.toInt32) (Int32.ofNat fn) (Int32.ofNat tn) (0 : Int32) (own_hit (((((q0.toUInt64 >>> ((8 : Int32) &&& 0x3f).toInt64.toUInt64).toInt64).toInt32).toInt8.toInt32).toInt8.toInt32) (p1.toInt8.toInt32) (Int32.ofNat fn) (Int32.ofNat tn) (1 : Int32) (own_hit (((((q0.toUInt64 >>> ((16 : Int32) &&& 0x3f).toInt64.toUInt64).toInt64).toInt32).toInt8.toInt32).toInt8.toInt32) (p1.toInt8.toInt32) (Int32.ofNat fn) (Int32.ofNat tn) (2 : Int32) (own_hit (((((q0.toUInt64 >>> ((24 : Int32) &&& 0x3f).toInt64.toUInt64).toInt64).toInt32).toInt8.toInt32).toInt8.toInt32) (p1.toInt8.toInt32) (Int32.ofNat fn) (Int32.ofNat tn) (3 : Int32) (own_hit (((((q0.toUInt64 >>> ((32 : Int32) &&& 0x3f).toInt64.toUInt64).toInt64).toInt32).toInt8.toInt32).toInt8.toInt32) (p1.toInt8.toInt32) (Int32.ofNat fn) (Int32.ofNat tn) (4 : Int32) (-1 : Int32)))))))] [(.ref b1)])) _
    refine XS.iload X32.here hx rfl (hb hby at_160) rfl ?_
    show Steps p.tables e below (T32.setTop (mkF m 162 #[.val (.long q0), .second, .val (.int p1), .val (.int p2), .val (.int p3), .val (.ref b1), .val (.int (p1.toInt8.toInt32)), .val (.int (Int32.ofNat fn)), .val (.int (Int32.ofNat tn)), .val (.int (own_hit (((q0.toInt32).toInt8.toInt32).toInt8.toInt32) (p1.toInt8.toInt32) (Int32.ofNat fn) (Int32.ofNat tn) (0 : Int32) (own_hit (((((q0.toUInt64 >>> ((8 : Int32) &&& 0x3f).toInt64.toUInt64).toInt64).toInt32).toInt8.toInt32).toInt8.toInt32) (p1.toInt8.toInt32) (Int32.ofNat fn) (Int32.ofNat tn) (1 : Int32) (own_hit (((((q0.toUInt64 >>> ((16 : Int32) &&& 0x3f).toInt64.toUInt64).toInt64).toInt32).toInt8.toInt32).toInt8.toInt32) (p1.toInt8.toInt32) (Int32.ofNat fn) (Int32.ofNat tn) (2 : Int32) (own_hit (((((q0.toUInt64 >>> ((24 : Int32) &&& 0x3f).toInt64.toUInt64).toInt64).toInt32).toInt8.toInt32).toInt8.toInt32) (p1.toInt8.toInt32) (Int32.ofNat fn) (Int32.ofNat tn) (3 : Int32) (own_hit (((((q0.toUInt64 >>> ((32 : Int32) &&& 0x3f).toInt64.toUInt64).toInt64).toInt32).toInt8.toInt32).toInt8.toInt32) (p1.toInt8.toInt32) (Int32.ofNat fn) (Int32.ofNat tn) (4 : Int32) (-1 : Int32)))))))] [(.int (p1.toInt8.toInt32)), (.ref b1)])) _
    refine XS.iload X32.here hx rfl (hb hby at_162) rfl ?_
    show Steps p.tables e below (T32.setTop (mkF m 164 #[.val (.long q0), .second, .val (.int p1), .val (.int p2), .val (.int p3), .val (.ref b1), .val (.int (p1.toInt8.toInt32)), .val (.int (Int32.ofNat fn)), .val (.int (Int32.ofNat tn)), .val (.int (own_hit (((q0.toInt32).toInt8.toInt32).toInt8.toInt32) (p1.toInt8.toInt32) (Int32.ofNat fn) (Int32.ofNat tn) (0 : Int32) (own_hit (((((q0.toUInt64 >>> ((8 : Int32) &&& 0x3f).toInt64.toUInt64).toInt64).toInt32).toInt8.toInt32).toInt8.toInt32) (p1.toInt8.toInt32) (Int32.ofNat fn) (Int32.ofNat tn) (1 : Int32) (own_hit (((((q0.toUInt64 >>> ((16 : Int32) &&& 0x3f).toInt64.toUInt64).toInt64).toInt32).toInt8.toInt32).toInt8.toInt32) (p1.toInt8.toInt32) (Int32.ofNat fn) (Int32.ofNat tn) (2 : Int32) (own_hit (((((q0.toUInt64 >>> ((24 : Int32) &&& 0x3f).toInt64.toUInt64).toInt64).toInt32).toInt8.toInt32).toInt8.toInt32) (p1.toInt8.toInt32) (Int32.ofNat fn) (Int32.ofNat tn) (3 : Int32) (own_hit (((((q0.toUInt64 >>> ((32 : Int32) &&& 0x3f).toInt64.toUInt64).toInt64).toInt32).toInt8.toInt32).toInt8.toInt32) (p1.toInt8.toInt32) (Int32.ofNat fn) (Int32.ofNat tn) (4 : Int32) (-1 : Int32)))))))] [(.int (Int32.ofNat fn)), (.int (p1.toInt8.toInt32)), (.ref b1)])) _
    refine XS.iload X32.here hx rfl (hb hby at_164) rfl ?_
    exact kt
  obtain ⟨_, _, ⟨T34, L34, k34, n34⟩, -, X34, ⟨Lc34, hQ34, l34, y34, z34⟩, st34⟩ := Jvm.LawKit.callS X32 hx (y := (⟨"com/example/brannan/brannan/text/ByteText", "indexOf", "([BBII)I"⟩ : MethodName)) hown (mvT hZ (hw _ (List.mem_of_getElem? (i := 6) rfl))) (mvT hZ (hw _ (List.mem_of_getElem? (i := 7) rfl))) (mvT hZ (hw _ (List.mem_of_getElem? (i := 8) rfl))) (mvT hZ (hw _ (List.mem_of_getElem? (i := 9) rfl))) (by decide) (backOf (W := 0) (rm2 l Z a0 hw [] b1 (p1.toInt8.toInt32) (Int32.ofNat fn) (Int32.ofNat tn) k1 (((q0.toInt32).toInt8.toInt32).toInt8.toInt32) (((((q0.toUInt64 >>> ((8 : Int32) &&& 0x3f).toInt64.toUInt64).toInt64).toInt32).toInt8.toInt32).toInt8.toInt32) (((((q0.toUInt64 >>> ((16 : Int32) &&& 0x3f).toInt64.toUInt64).toInt64).toInt32).toInt8.toInt32).toInt8.toInt32) (((((q0.toUInt64 >>> ((24 : Int32) &&& 0x3f).toInt64.toUInt64).toInt64).toInt32).toInt8.toInt32).toInt8.toInt32) (((((q0.toUInt64 >>> ((32 : Int32) &&& 0x3f).toInt64.toUInt64).toInt64).toInt32).toInt8.toInt32).toInt8.toInt32) fn tn h17 n0 f23 V17 rfl rfl hfn htn) hZ (hw _ (List.mem_of_getElem? (i := 9) rfl)) (hw _ (List.mem_of_getElem? (i := 8) rfl)) (by decide) (by decide)) (g := (mkF m 166 #[.val (.long q0), .second, .val (.int p1), .val (.int p2), .val (.int p3), .val (.ref b1), .val (.int (p1.toInt8.toInt32)), .val (.int (Int32.ofNat fn)), .val (.int (Int32.ofNat tn)), .val (.int (own_hit (((q0.toInt32).toInt8.toInt32).toInt8.toInt32) (p1.toInt8.toInt32) (Int32.ofNat fn) (Int32.ofNat tn) (0 : Int32) (own_hit (((((q0.toUInt64 >>> ((8 : Int32) &&& 0x3f).toInt64.toUInt64).toInt64).toInt32).toInt8.toInt32).toInt8.toInt32) (p1.toInt8.toInt32) (Int32.ofNat fn) (Int32.ofNat tn) (1 : Int32) (own_hit (((((q0.toUInt64 >>> ((16 : Int32) &&& 0x3f).toInt64.toUInt64).toInt64).toInt32).toInt8.toInt32).toInt8.toInt32) (p1.toInt8.toInt32) (Int32.ofNat fn) (Int32.ofNat tn) (2 : Int32) (own_hit (((((q0.toUInt64 >>> ((24 : Int32) &&& 0x3f).toInt64.toUInt64).toInt64).toInt32).toInt8.toInt32).toInt8.toInt32) (p1.toInt8.toInt32) (Int32.ofNat fn) (Int32.ofNat tn) (3 : Int32) (own_hit (((((q0.toUInt64 >>> ((32 : Int32) &&& 0x3f).toInt64.toUInt64).toInt64).toInt32).toInt8.toInt32).toInt8.toInt32) (p1.toInt8.toInt32) (Int32.ofNat fn) (Int32.ofNat tn) (4 : Int32) (-1 : Int32)))))))] [(.int (Int32.ofNat tn)), (.int (Int32.ofNat fn)), (.int (p1.toInt8.toInt32)), (.ref b1)])) rfl (by rw [hml]; rfl) (argsL := [(.ref b1), (.int (p1.toInt8.toInt32)), (.int (Int32.ofNat fn)), (.int (Int32.ofNat tn))]) (rest := []) (lenOf pd_1 rfl) rfl (by show 2 * 0 + _ ≤ _; exact Nat.le_of_eq rfl) (hb hby at_166) (fun _ _ => ⟨rfl, e32, (by decide : 1 + 0 ≤ _), (by decide : 5 + 0 ≤ _)⟩)
  dsimp only [Pt.U, Pt.locs, Pt.cells, Pt.slots] at X34 l34 y34 z34 st34 hQ34
  subst l34 y34 z34
  obtain ⟨rfl, N34q, e34⟩ := hQ34
  have N34 := Fr.app N32 N34q
  have c36 : ∀ t, Steps p.tables e below (T34.setTop (mkF m 171 #[.val (.long q0), .second, .val (.int p1), .val (.int p2), .val (.int p3), .val (.ref b1), .val (.int (p1.toInt8.toInt32)), .val (.int (Int32.ofNat fn)), .val (.int (Int32.ofNat tn)), .val (.int (own_hit (((q0.toInt32).toInt8.toInt32).toInt8.toInt32) (p1.toInt8.toInt32) (Int32.ofNat fn) (Int32.ofNat tn) (0 : Int32) (own_hit (((((q0.toUInt64 >>> ((8 : Int32) &&& 0x3f).toInt64.toUInt64).toInt64).toInt32).toInt8.toInt32).toInt8.toInt32) (p1.toInt8.toInt32) (Int32.ofNat fn) (Int32.ofNat tn) (1 : Int32) (own_hit (((((q0.toUInt64 >>> ((16 : Int32) &&& 0x3f).toInt64.toUInt64).toInt64).toInt32).toInt8.toInt32).toInt8.toInt32) (p1.toInt8.toInt32) (Int32.ofNat fn) (Int32.ofNat tn) (2 : Int32) (own_hit (((((q0.toUInt64 >>> ((24 : Int32) &&& 0x3f).toInt64.toUInt64).toInt64).toInt32).toInt8.toInt32).toInt8.toInt32) (p1.toInt8.toInt32) (Int32.ofNat fn) (Int32.ofNat tn) (3 : Int32) (own_hit (((((q0.toUInt64 >>> ((32 : Int32) &&& 0x3f).toInt64.toUInt64).toInt64).toInt32).toInt8.toInt32).toInt8.toInt32) (p1.toInt8.toInt32) (Int32.ofNat fn) (Int32.ofNat tn) (4 : Int32) (-1 : Int32)))))))] [(.int (own_hit (((q0.toInt32).toInt8.toInt32).toInt8.toInt32) (p1.toInt8.toInt32) (Int32.ofNat fn) (Int32.ofNat tn) (0 : Int32) (own_hit (((((q0.toUInt64 >>> ((8 : Int32) &&& 0x3f).toInt64.toUInt64).toInt64).toInt32).toInt8.toInt32).toInt8.toInt32) (p1.toInt8.toInt32) (Int32.ofNat fn) (Int32.ofNat tn) (1 : Int32) (own_hit (((((q0.toUInt64 >>> ((16 : Int32) &&& 0x3f).toInt64.toUInt64).toInt64).toInt32).toInt8.toInt32).toInt8.toInt32) (p1.toInt8.toInt32) (Int32.ofNat fn) (Int32.ofNat tn) (2 : Int32) (own_hit (((((q0.toUInt64 >>> ((24 : Int32) &&& 0x3f).toInt64.toUInt64).toInt64).toInt32).toInt8.toInt32).toInt8.toInt32) (p1.toInt8.toInt32) (Int32.ofNat fn) (Int32.ofNat tn) (3 : Int32) (own_hit (((((q0.toUInt64 >>> ((32 : Int32) &&& 0x3f).toInt64.toUInt64).toInt64).toInt32).toInt8.toInt32).toInt8.toInt32) (p1.toInt8.toInt32) (Int32.ofNat fn) (Int32.ofNat tn) (4 : Int32) (-1 : Int32))))))), (.int (own_ix [(((q0.toInt32).toInt8.toInt32).toInt8.toInt32), (((((q0.toUInt64 >>> ((8 : Int32) &&& 0x3f).toInt64.toUInt64).toInt64).toInt32).toInt8.toInt32).toInt8.toInt32), (((((q0.toUInt64 >>> ((16 : Int32) &&& 0x3f).toInt64.toUInt64).toInt64).toInt32).toInt8.toInt32).toInt8.toInt32), (((((q0.toUInt64 >>> ((24 : Int32) &&& 0x3f).toInt64.toUInt64).toInt64).toInt32).toInt8.toInt32).toInt8.toInt32), (((((q0.toUInt64 >>> ((32 : Int32) &&& 0x3f).toInt64.toUInt64).toInt64).toInt32).toInt8.toInt32).toInt8.toInt32)] (p1.toInt8.toInt32) (tn - fn) fn))])) t → Steps p.tables e below (T34.setTop (mkF m 169 #[.val (.long q0), .second, .val (.int p1), .val (.int p2), .val (.int p3), .val (.ref b1), .val (.int (p1.toInt8.toInt32)), .val (.int (Int32.ofNat fn)), .val (.int (Int32.ofNat tn)), .val (.int (own_hit (((q0.toInt32).toInt8.toInt32).toInt8.toInt32) (p1.toInt8.toInt32) (Int32.ofNat fn) (Int32.ofNat tn) (0 : Int32) (own_hit (((((q0.toUInt64 >>> ((8 : Int32) &&& 0x3f).toInt64.toUInt64).toInt64).toInt32).toInt8.toInt32).toInt8.toInt32) (p1.toInt8.toInt32) (Int32.ofNat fn) (Int32.ofNat tn) (1 : Int32) (own_hit (((((q0.toUInt64 >>> ((16 : Int32) &&& 0x3f).toInt64.toUInt64).toInt64).toInt32).toInt8.toInt32).toInt8.toInt32) (p1.toInt8.toInt32) (Int32.ofNat fn) (Int32.ofNat tn) (2 : Int32) (own_hit (((((q0.toUInt64 >>> ((24 : Int32) &&& 0x3f).toInt64.toUInt64).toInt64).toInt32).toInt8.toInt32).toInt8.toInt32) (p1.toInt8.toInt32) (Int32.ofNat fn) (Int32.ofNat tn) (3 : Int32) (own_hit (((((q0.toUInt64 >>> ((32 : Int32) &&& 0x3f).toInt64.toUInt64).toInt64).toInt32).toInt8.toInt32).toInt8.toInt32) (p1.toInt8.toInt32) (Int32.ofNat fn) (Int32.ofNat tn) (4 : Int32) (-1 : Int32)))))))] [(.int (own_ix [(((q0.toInt32).toInt8.toInt32).toInt8.toInt32), (((((q0.toUInt64 >>> ((8 : Int32) &&& 0x3f).toInt64.toUInt64).toInt64).toInt32).toInt8.toInt32).toInt8.toInt32), (((((q0.toUInt64 >>> ((16 : Int32) &&& 0x3f).toInt64.toUInt64).toInt64).toInt32).toInt8.toInt32).toInt8.toInt32), (((((q0.toUInt64 >>> ((24 : Int32) &&& 0x3f).toInt64.toUInt64).toInt64).toInt32).toInt8.toInt32).toInt8.toInt32), (((((q0.toUInt64 >>> ((32 : Int32) &&& 0x3f).toInt64.toUInt64).toInt64).toInt32).toInt8.toInt32).toInt8.toInt32)] (p1.toInt8.toInt32) (tn - fn) fn))])) t := by
    intro t kt
    show Steps p.tables e below (T34.setTop (mkF m 169 #[.val (.long q0), .second, .val (.int p1), .val (.int p2), .val (.int p3), .val (.ref b1), .val (.int (p1.toInt8.toInt32)), .val (.int (Int32.ofNat fn)), .val (.int (Int32.ofNat tn)), .val (.int (own_hit (((q0.toInt32).toInt8.toInt32).toInt8.toInt32) (p1.toInt8.toInt32) (Int32.ofNat fn) (Int32.ofNat tn) (0 : Int32) (own_hit (((((q0.toUInt64 >>> ((8 : Int32) &&& 0x3f).toInt64.toUInt64).toInt64).toInt32).toInt8.toInt32).toInt8.toInt32) (p1.toInt8.toInt32) (Int32.ofNat fn) (Int32.ofNat tn) (1 : Int32) (own_hit (((((q0.toUInt64 >>> ((16 : Int32) &&& 0x3f).toInt64.toUInt64).toInt64).toInt32).toInt8.toInt32).toInt8.toInt32) (p1.toInt8.toInt32) (Int32.ofNat fn) (Int32.ofNat tn) (2 : Int32) (own_hit (((((q0.toUInt64 >>> ((24 : Int32) &&& 0x3f).toInt64.toUInt64).toInt64).toInt32).toInt8.toInt32).toInt8.toInt32) (p1.toInt8.toInt32) (Int32.ofNat fn) (Int32.ofNat tn) (3 : Int32) (own_hit (((((q0.toUInt64 >>> ((32 : Int32) &&& 0x3f).toInt64.toUInt64).toInt64).toInt32).toInt8.toInt32).toInt8.toInt32) (p1.toInt8.toInt32) (Int32.ofNat fn) (Int32.ofNat tn) (4 : Int32) (-1 : Int32)))))))] [(.int (own_ix [(((q0.toInt32).toInt8.toInt32).toInt8.toInt32), (((((q0.toUInt64 >>> ((8 : Int32) &&& 0x3f).toInt64.toUInt64).toInt64).toInt32).toInt8.toInt32).toInt8.toInt32), (((((q0.toUInt64 >>> ((16 : Int32) &&& 0x3f).toInt64.toUInt64).toInt64).toInt32).toInt8.toInt32).toInt8.toInt32), (((((q0.toUInt64 >>> ((24 : Int32) &&& 0x3f).toInt64.toUInt64).toInt64).toInt32).toInt8.toInt32).toInt8.toInt32), (((((q0.toUInt64 >>> ((32 : Int32) &&& 0x3f).toInt64.toUInt64).toInt64).toInt32).toInt8.toInt32).toInt8.toInt32)] (p1.toInt8.toInt32) (tn - fn) fn))])) _
    refine XS.iload X34.here hx rfl (hb hby at_169) rfl ?_
    exact kt
  have hd35 : (own_ix [(((q0.toInt32).toInt8.toInt32).toInt8.toInt32), (((((q0.toUInt64 >>> ((8 : Int32) &&& 0x3f).toInt64.toUInt64).toInt64).toInt32).toInt8.toInt32).toInt8.toInt32), (((((q0.toUInt64 >>> ((16 : Int32) &&& 0x3f).toInt64.toUInt64).toInt64).toInt32).toInt8.toInt32).toInt8.toInt32), (((((q0.toUInt64 >>> ((24 : Int32) &&& 0x3f).toInt64.toUInt64).toInt64).toInt32).toInt8.toInt32).toInt8.toInt32), (((((q0.toUInt64 >>> ((32 : Int32) &&& 0x3f).toInt64.toUInt64).toInt64).toInt32).toInt8.toInt32).toInt8.toInt32)] (p1.toInt8.toInt32) (tn - fn) fn) = (own_hit (((q0.toInt32).toInt8.toInt32).toInt8.toInt32) (p1.toInt8.toInt32) (Int32.ofNat fn) (Int32.ofNat tn) (0 : Int32) (own_hit (((((q0.toUInt64 >>> ((8 : Int32) &&& 0x3f).toInt64.toUInt64).toInt64).toInt32).toInt8.toInt32).toInt8.toInt32) (p1.toInt8.toInt32) (Int32.ofNat fn) (Int32.ofNat tn) (1 : Int32) (own_hit (((((q0.toUInt64 >>> ((16 : Int32) &&& 0x3f).toInt64.toUInt64).toInt64).toInt32).toInt8.toInt32).toInt8.toInt32) (p1.toInt8.toInt32) (Int32.ofNat fn) (Int32.ofNat tn) (2 : Int32) (own_hit (((((q0.toUInt64 >>> ((24 : Int32) &&& 0x3f).toInt64.toUInt64).toInt64).toInt32).toInt8.toInt32).toInt8.toInt32) (p1.toInt8.toInt32) (Int32.ofNat fn) (Int32.ofNat tn) (3 : Int32) (own_hit (((((q0.toUInt64 >>> ((32 : Int32) &&& 0x3f).toInt64.toUInt64).toInt64).toInt32).toInt8.toInt32).toInt8.toInt32) (p1.toInt8.toInt32) (Int32.ofNat fn) (Int32.ofNat tn) (4 : Int32) (-1 : Int32)))))) := own_fin _ _ _ _ _ _ fn tn hfn htn
  have c37 : ∀ t, Steps p.tables e below (T34.setTop (mkF m 179 #[.val (.long q0), .second, .val (.int p1), .val (.int p2), .val (.int p3), .val (.ref b1), .val (.int (p1.toInt8.toInt32)), .val (.int (Int32.ofNat fn)), .val (.int (Int32.ofNat tn)), .val (.int (own_hit (((q0.toInt32).toInt8.toInt32).toInt8.toInt32) (p1.toInt8.toInt32) (Int32.ofNat fn) (Int32.ofNat tn) (0 : Int32) (own_hit (((((q0.toUInt64 >>> ((8 : Int32) &&& 0x3f).toInt64.toUInt64).toInt64).toInt32).toInt8.toInt32).toInt8.toInt32) (p1.toInt8.toInt32) (Int32.ofNat fn) (Int32.ofNat tn) (1 : Int32) (own_hit (((((q0.toUInt64 >>> ((16 : Int32) &&& 0x3f).toInt64.toUInt64).toInt64).toInt32).toInt8.toInt32).toInt8.toInt32) (p1.toInt8.toInt32) (Int32.ofNat fn) (Int32.ofNat tn) (2 : Int32) (own_hit (((((q0.toUInt64 >>> ((24 : Int32) &&& 0x3f).toInt64.toUInt64).toInt64).toInt32).toInt8.toInt32).toInt8.toInt32) (p1.toInt8.toInt32) (Int32.ofNat fn) (Int32.ofNat tn) (3 : Int32) (own_hit (((((q0.toUInt64 >>> ((32 : Int32) &&& 0x3f).toInt64.toUInt64).toInt64).toInt32).toInt8.toInt32).toInt8.toInt32) (p1.toInt8.toInt32) (Int32.ofNat fn) (Int32.ofNat tn) (4 : Int32) (-1 : Int32)))))))] [(.int (1 : Int32))])) t → Steps p.tables e below (T34.setTop (mkF m 171 #[.val (.long q0), .second, .val (.int p1), .val (.int p2), .val (.int p3), .val (.ref b1), .val (.int (p1.toInt8.toInt32)), .val (.int (Int32.ofNat fn)), .val (.int (Int32.ofNat tn)), .val (.int (own_hit (((q0.toInt32).toInt8.toInt32).toInt8.toInt32) (p1.toInt8.toInt32) (Int32.ofNat fn) (Int32.ofNat tn) (0 : Int32) (own_hit (((((q0.toUInt64 >>> ((8 : Int32) &&& 0x3f).toInt64.toUInt64).toInt64).toInt32).toInt8.toInt32).toInt8.toInt32) (p1.toInt8.toInt32) (Int32.ofNat fn) (Int32.ofNat tn) (1 : Int32) (own_hit (((((q0.toUInt64 >>> ((16 : Int32) &&& 0x3f).toInt64.toUInt64).toInt64).toInt32).toInt8.toInt32).toInt8.toInt32) (p1.toInt8.toInt32) (Int32.ofNat fn) (Int32.ofNat tn) (2 : Int32) (own_hit (((((q0.toUInt64 >>> ((24 : Int32) &&& 0x3f).toInt64.toUInt64).toInt64).toInt32).toInt8.toInt32).toInt8.toInt32) (p1.toInt8.toInt32) (Int32.ofNat fn) (Int32.ofNat tn) (3 : Int32) (own_hit (((((q0.toUInt64 >>> ((32 : Int32) &&& 0x3f).toInt64.toUInt64).toInt64).toInt32).toInt8.toInt32).toInt8.toInt32) (p1.toInt8.toInt32) (Int32.ofNat fn) (Int32.ofNat tn) (4 : Int32) (-1 : Int32)))))))] [(.int (own_hit (((q0.toInt32).toInt8.toInt32).toInt8.toInt32) (p1.toInt8.toInt32) (Int32.ofNat fn) (Int32.ofNat tn) (0 : Int32) (own_hit (((((q0.toUInt64 >>> ((8 : Int32) &&& 0x3f).toInt64.toUInt64).toInt64).toInt32).toInt8.toInt32).toInt8.toInt32) (p1.toInt8.toInt32) (Int32.ofNat fn) (Int32.ofNat tn) (1 : Int32) (own_hit (((((q0.toUInt64 >>> ((16 : Int32) &&& 0x3f).toInt64.toUInt64).toInt64).toInt32).toInt8.toInt32).toInt8.toInt32) (p1.toInt8.toInt32) (Int32.ofNat fn) (Int32.ofNat tn) (2 : Int32) (own_hit (((((q0.toUInt64 >>> ((24 : Int32) &&& 0x3f).toInt64.toUInt64).toInt64).toInt32).toInt8.toInt32).toInt8.toInt32) (p1.toInt8.toInt32) (Int32.ofNat fn) (Int32.ofNat tn) (3 : Int32) (own_hit (((((q0.toUInt64 >>> ((32 : Int32) &&& 0x3f).toInt64.toUInt64).toInt64).toInt32).toInt8.toInt32).toInt8.toInt32) (p1.toInt8.toInt32) (Int32.ofNat fn) (Int32.ofNat tn) (4 : Int32) (-1 : Int32))))))), (.int (own_ix [(((q0.toInt32).toInt8.toInt32).toInt8.toInt32), (((((q0.toUInt64 >>> ((8 : Int32) &&& 0x3f).toInt64.toUInt64).toInt64).toInt32).toInt8.toInt32).toInt8.toInt32), (((((q0.toUInt64 >>> ((16 : Int32) &&& 0x3f).toInt64.toUInt64).toInt64).toInt32).toInt8.toInt32).toInt8.toInt32), (((((q0.toUInt64 >>> ((24 : Int32) &&& 0x3f).toInt64.toUInt64).toInt64).toInt32).toInt8.toInt32).toInt8.toInt32), (((((q0.toUInt64 >>> ((32 : Int32) &&& 0x3f).toInt64.toUInt64).toInt64).toInt32).toInt8.toInt32).toInt8.toInt32)] (p1.toInt8.toInt32) (tn - fn) fn))])) t := by
    intro t kt
    show Steps p.tables e below (T34.setTop (mkF m 171 #[.val (.long q0), .second, .val (.int p1), .val (.int p2), .val (.int p3), .val (.ref b1), .val (.int (p1.toInt8.toInt32)), .val (.int (Int32.ofNat fn)), .val (.int (Int32.ofNat tn)), .val (.int (own_hit (((q0.toInt32).toInt8.toInt32).toInt8.toInt32) (p1.toInt8.toInt32) (Int32.ofNat fn) (Int32.ofNat tn) (0 : Int32) (own_hit (((((q0.toUInt64 >>> ((8 : Int32) &&& 0x3f).toInt64.toUInt64).toInt64).toInt32).toInt8.toInt32).toInt8.toInt32) (p1.toInt8.toInt32) (Int32.ofNat fn) (Int32.ofNat tn) (1 : Int32) (own_hit (((((q0.toUInt64 >>> ((16 : Int32) &&& 0x3f).toInt64.toUInt64).toInt64).toInt32).toInt8.toInt32).toInt8.toInt32) (p1.toInt8.toInt32) (Int32.ofNat fn) (Int32.ofNat tn) (2 : Int32) (own_hit (((((q0.toUInt64 >>> ((24 : Int32) &&& 0x3f).toInt64.toUInt64).toInt64).toInt32).toInt8.toInt32).toInt8.toInt32) (p1.toInt8.toInt32) (Int32.ofNat fn) (Int32.ofNat tn) (3 : Int32) (own_hit (((((q0.toUInt64 >>> ((32 : Int32) &&& 0x3f).toInt64.toUInt64).toInt64).toInt32).toInt8.toInt32).toInt8.toInt32) (p1.toInt8.toInt32) (Int32.ofNat fn) (Int32.ofNat tn) (4 : Int32) (-1 : Int32)))))))] [(.int (own_hit (((q0.toInt32).toInt8.toInt32).toInt8.toInt32) (p1.toInt8.toInt32) (Int32.ofNat fn) (Int32.ofNat tn) (0 : Int32) (own_hit (((((q0.toUInt64 >>> ((8 : Int32) &&& 0x3f).toInt64.toUInt64).toInt64).toInt32).toInt8.toInt32).toInt8.toInt32) (p1.toInt8.toInt32) (Int32.ofNat fn) (Int32.ofNat tn) (1 : Int32) (own_hit (((((q0.toUInt64 >>> ((16 : Int32) &&& 0x3f).toInt64.toUInt64).toInt64).toInt32).toInt8.toInt32).toInt8.toInt32) (p1.toInt8.toInt32) (Int32.ofNat fn) (Int32.ofNat tn) (2 : Int32) (own_hit (((((q0.toUInt64 >>> ((24 : Int32) &&& 0x3f).toInt64.toUInt64).toInt64).toInt32).toInt8.toInt32).toInt8.toInt32) (p1.toInt8.toInt32) (Int32.ofNat fn) (Int32.ofNat tn) (3 : Int32) (own_hit (((((q0.toUInt64 >>> ((32 : Int32) &&& 0x3f).toInt64.toUInt64).toInt64).toInt32).toInt8.toInt32).toInt8.toInt32) (p1.toInt8.toInt32) (Int32.ofNat fn) (Int32.ofNat tn) (4 : Int32) (-1 : Int32))))))), (.int (own_ix [(((q0.toInt32).toInt8.toInt32).toInt8.toInt32), (((((q0.toUInt64 >>> ((8 : Int32) &&& 0x3f).toInt64.toUInt64).toInt64).toInt32).toInt8.toInt32).toInt8.toInt32), (((((q0.toUInt64 >>> ((16 : Int32) &&& 0x3f).toInt64.toUInt64).toInt64).toInt32).toInt8.toInt32).toInt8.toInt32), (((((q0.toUInt64 >>> ((24 : Int32) &&& 0x3f).toInt64.toUInt64).toInt64).toInt32).toInt8.toInt32).toInt8.toInt32), (((((q0.toUInt64 >>> ((32 : Int32) &&& 0x3f).toInt64.toUInt64).toInt64).toInt32).toInt8.toInt32).toInt8.toInt32)] (p1.toInt8.toInt32) (tn - fn) fn))])) _
    refine XS.icmpNo X34.here hx rfl (hb hby at_171) rfl (teq (hd35)).2 ?_
    show Steps p.tables e below (T34.setTop (mkF m 174 #[.val (.long q0), .second, .val (.int p1), .val (.int p2), .val (.int p3), .val (.ref b1), .val (.int (p1.toInt8.toInt32)), .val (.int (Int32.ofNat fn)), .val (.int (Int32.ofNat tn)), .val (.int (own_hit (((q0.toInt32).toInt8.toInt32).toInt8.toInt32) (p1.toInt8.toInt32) (Int32.ofNat fn) (Int32.ofNat tn) (0 : Int32) (own_hit (((((q0.toUInt64 >>> ((8 : Int32) &&& 0x3f).toInt64.toUInt64).toInt64).toInt32).toInt8.toInt32).toInt8.toInt32) (p1.toInt8.toInt32) (Int32.ofNat fn) (Int32.ofNat tn) (1 : Int32) (own_hit (((((q0.toUInt64 >>> ((16 : Int32) &&& 0x3f).toInt64.toUInt64).toInt64).toInt32).toInt8.toInt32).toInt8.toInt32) (p1.toInt8.toInt32) (Int32.ofNat fn) (Int32.ofNat tn) (2 : Int32) (own_hit (((((q0.toUInt64 >>> ((24 : Int32) &&& 0x3f).toInt64.toUInt64).toInt64).toInt32).toInt8.toInt32).toInt8.toInt32) (p1.toInt8.toInt32) (Int32.ofNat fn) (Int32.ofNat tn) (3 : Int32) (own_hit (((((q0.toUInt64 >>> ((32 : Int32) &&& 0x3f).toInt64.toUInt64).toInt64).toInt32).toInt8.toInt32).toInt8.toInt32) (p1.toInt8.toInt32) (Int32.ofNat fn) (Int32.ofNat tn) (4 : Int32) (-1 : Int32)))))))] [])) _
    refine XS.iconst X34.here hx rfl (hb hby at_174) ?_
    show Steps p.tables e below (T34.setTop (mkF m 175 #[.val (.long q0), .second, .val (.int p1), .val (.int p2), .val (.int p3), .val (.ref b1), .val (.int (p1.toInt8.toInt32)), .val (.int (Int32.ofNat fn)), .val (.int (Int32.ofNat tn)), .val (.int (own_hit (((q0.toInt32).toInt8.toInt32).toInt8.toInt32) (p1.toInt8.toInt32) (Int32.ofNat fn) (Int32.ofNat tn) (0 : Int32) (own_hit (((((q0.toUInt64 >>> ((8 : Int32) &&& 0x3f).toInt64.toUInt64).toInt64).toInt32).toInt8.toInt32).toInt8.toInt32) (p1.toInt8.toInt32) (Int32.ofNat fn) (Int32.ofNat tn) (1 : Int32) (own_hit (((((q0.toUInt64 >>> ((16 : Int32) &&& 0x3f).toInt64.toUInt64).toInt64).toInt32).toInt8.toInt32).toInt8.toInt32) (p1.toInt8.toInt32) (Int32.ofNat fn) (Int32.ofNat tn) (2 : Int32) (own_hit (((((q0.toUInt64 >>> ((24 : Int32) &&& 0x3f).toInt64.toUInt64).toInt64).toInt32).toInt8.toInt32).toInt8.toInt32) (p1.toInt8.toInt32) (Int32.ofNat fn) (Int32.ofNat tn) (3 : Int32) (own_hit (((((q0.toUInt64 >>> ((32 : Int32) &&& 0x3f).toInt64.toUInt64).toInt64).toInt32).toInt8.toInt32).toInt8.toInt32) (p1.toInt8.toInt32) (Int32.ofNat fn) (Int32.ofNat tn) (4 : Int32) (-1 : Int32)))))))] [(.int (1 : Int32))])) _
    refine XS.goto X34.here hx rfl (pc0 := 175) (pc' := 179) rfl (hb hby at_175) (by decide) (by decide) ?_
    exact kt
  obtain ⟨fs, hr, hrun, hended, hW, hsame⟩ := X34.leave (v := some (.int (1 : Int32))) (fun h => by rw [Bd.returns] at h; cases h)
  refine ⟨_, _, pre0 _ (c2 _ (st1 _ (c3 _ (st5 _ (c6 _ (st8 _ (c9 _ (st11 _ (c12 _ (st14 _ (c15 _ (st17 _ (c18 _ (c19 _ (c20 _ (c21 _ (c22 _ (st24 _ (c25 _ (st26 _ (c27 _ (st28 _ (c29 _ (st30 _ (c31 _ (st32 _ (c33 _ (st34 _ (c36 _ (c37 _ (?_))))))))))))))))))))))))))))))), hrun, hended, _, _, rfl, ?_, ⟨_, rfl⟩, hW, hsame.mono (by decide) (by decide)⟩
  · show Steps p.tables e below (T34.setTop (mkF m 179 #[.val (.long q0), .second, .val (.int p1), .val (.int p2), .val (.int p3), .val (.ref b1), .val (.int (p1.toInt8.toInt32)), .val (.int (Int32.ofNat fn)), .val (.int (Int32.ofNat tn)), .val (.int (own_hit (((q0.toInt32).toInt8.toInt32).toInt8.toInt32) (p1.toInt8.toInt32) (Int32.ofNat fn) (Int32.ofNat tn) (0 : Int32) (own_hit (((((q0.toUInt64 >>> ((8 : Int32) &&& 0x3f).toInt64.toUInt64).toInt64).toInt32).toInt8.toInt32).toInt8.toInt32) (p1.toInt8.toInt32) (Int32.ofNat fn) (Int32.ofNat tn) (1 : Int32) (own_hit (((((q0.toUInt64 >>> ((16 : Int32) &&& 0x3f).toInt64.toUInt64).toInt64).toInt32).toInt8.toInt32).toInt8.toInt32) (p1.toInt8.toInt32) (Int32.ofNat fn) (Int32.ofNat tn) (2 : Int32) (own_hit (((((q0.toUInt64 >>> ((24 : Int32) &&& 0x3f).toInt64.toUInt64).toInt64).toInt32).toInt8.toInt32).toInt8.toInt32) (p1.toInt8.toInt32) (Int32.ofNat fn) (Int32.ofNat tn) (3 : Int32) (own_hit (((((q0.toUInt64 >>> ((32 : Int32) &&& 0x3f).toInt64.toUInt64).toInt64).toInt32).toInt8.toInt32).toInt8.toInt32) (p1.toInt8.toInt32) (Int32.ofNat fn) (Int32.ofNat tn) (4 : Int32) (-1 : Int32)))))))] [(.int (1 : Int32))])) _
    exact retN X34 hx (t := .boolean) Bd.returns (by simp) (hb hby at_179) hr
  · show Q0 Z q0 p1 p2 p3 h0 n0 _ T34.heap _
    rw [e34]
    exact ⟨congrArg (fun z => some (Value.int z)) (show (1 : Int32) = (1 : Int32) from by rfl), N34⟩
set_option maxRecDepth 65536 in
set_option maxHeartbeats 40000000 in
theorem comes_1 {Post : Tables → Env → Array Value → State → Outcome → State → Prop} (hpost : ∀ tb e args s v u, (limb_1_1.after args s (.returned v) u = true ∧ limb_1_2.after args s (.returned v) u = true ∧ True) → FrameEnd s (.returned v) u (Jvm.fieldLocs frame_1_writes args s ++ Jvm.arrayLocs frame_1_arrays args s ++ Jvm.staticLocs frame_1_statics s) 16 128 → Post tb e args s (.returned v) u) :
    ArmFor flags0 classFile x code maxLocals ret World_1 tables_1 room_1 Calls_1 rest_1 Pre_1 Post := by
  intro l hfl _ _ p e ha hc hk s m args below hf hA hF happ hP
  obtain ⟨hcalls, hrest, hpre⟩ := hP
  obtain ⟨-, -, -, hnamed, -, -, -, hat⟩ := (Spec.applies_iff hf).mp happ
  obtain ⟨hg, hn⟩ := and_e (Cond.before_iff.mp (show (Jvm.Cond.and given_1 narrow_1).before args s = true from hpre))
  obtain ⟨g1, g2⟩ := and_e hg
  obtain ⟨g3, g4⟩ := and_e g2
  obtain ⟨g5, g6⟩ := and_e g4
  obtain ⟨g7, g8⟩ := and_e g6
  obtain ⟨w0, w1, w2, w3, rfl⟩ : ∃ w0 w1 w2 w3 : Value, args = #[w0, w1, w2, w3] := by
    have hs : args.size = 4 := by simpa [Cond.value, given_1] using g1
    obtain ⟨L⟩ := args
    match L, hs with
    | [w0, w1, w2, w3], _ => exact ⟨w0, w1, w2, w3, rfl⟩
  have hw := fun d (hd : d ∈ tables_1) => atoms_spec (ws := Jvm.Cond.code x code maxLocals ret :: tables_1) hat d (List.mem_cons_of_mem _ hd)
  have hfit : Fit s := fun {y c} hc i hi => by
    obtain ⟨ha, rfl⟩ := Array.getElem?_eq_some_iff.mp hc
    have q := List.all_eq_true.mp ((Array.all_eq_true_iff_forall_mem.mp hF) _ (Array.getElem_mem ha)) i (List.mem_range.mpr hi)
    simpa [Array.getElem?_eq_getElem hi] using q
  obtain ⟨i0, ei0⟩ := isL_v g3
  obtain rfl : w0 = (.long i0) := Option.some.inj ei0
  obtain ⟨i1, ei1⟩ := is_v g5
  obtain rfl : w1 = (.int i1) := Option.some.inj ei1
  obtain ⟨i2, ei2⟩ := is_v g7
  obtain rfl : w2 = (.int i2) := Option.some.inj ei2
  obtain ⟨i3, ei3⟩ := is_v g8
  obtain rfl : w3 = (.int i3) := Option.some.inj ei3
  obtain ⟨n, o, h1, h2, h3, _, L, rfl, ⟨rfl, N⟩, hq⟩ := rm0 l s _ hw tables_1 i0 i1 i2 i3  s.heap s.heap.size (Nat.le_refl _)  p e ha hc hk s m _ below hf ((Spec.applies_iff_loose hf).mp happ).1 ⟨rfl, State.Warmed39.refl s, rfl⟩ trivial
  refine ⟨n, _, h1, h2, h3, hpost _ _ _ _ _ _ ⟨Cond.after_iff.mpr rfl, Cond.after_iff.mpr (eq_i res_at (Term.int_eval (1)) rfl), trivial⟩ ⟨hq.1, hq.2.1, (hq.2.2.sift fun y hy => Or.inr (N y hy)).mono (by decide) (by decide)⟩⟩
theorem main_1_1 : Claimed_1_1 := comes_1 fun _ _ _ _ _ _ h hF => ⟨h.1, hF⟩
theorem main_1_2 : Claimed_1_2 := comes_1 fun _ _ _ _ _ _ h hF => ⟨h.2.1, hF⟩
end Jvm.Pilot.@@N@@
namespace Jvm.Pilot.@@N@@
open Jvm Jvm.ClassFile Sem Op Lib Jvm.Free Jvm.Stand Jvm.Pilot.@@N@@.Jvm.D
/-! MADE BY PROGRAM (witnessworld.py) out of the Statement's table words and the real class files: 9 classes; the members and pool entries that the words name. The judged class is class 1, her method 2. -/
namespace start1
open Jvm.ClassFile
def u (s : String) : CpInfo := .utf8 (stringToUtf16 s)
/-- a pool by its gaps: so many unusable entries, then the entry; so many at the end -/
def gap : Nat → List CpInfo → List CpInfo
  | 0, r => r
  | n + 1, r => .unusable :: gap n r
def poolList (es : List (Nat × CpInfo)) (last : Nat) : List CpInfo := es.foldr (fun e r => gap e.1 (e.2 :: r)) (gap last [])
def pool (es : List (Nat × CpInfo)) (last : Nat) : Array CpInfo := ⟨poolList es last⟩
def fileOf (pool : Array CpInfo) (this : Nat) (attrs : Array Attribute := #[]) (ms : Array MethodInfo := #[]) (fl : Nat := 33) (sup : Nat := 0) (ifs : Array Nat := #[]) (fds : Array FieldInfo := #[]) : ClassFile where
  minorVersion := 0
  majorVersion := 65
  constantPool := pool
  accessFlags := fl
  thisClass := this
  superClass := sup
  interfaces := ifs
  fields := fds
  methods := ms
  attributes := attrs
def plain (name : String) (sup : Option ClassId) : Class where
  name := name
  kind := .ordinary
  loader := none
  accessFlags := 33
  super := sup
  interfaces := #[]
  cf := none
  fields := #[]
  methods := #[]
  instanceTypes := #[]
  staticTypes := #[]
  resolved := #[]
  callSites := []
  init := .initialized
  statics := none
  mirror := none

def pool0 : Array CpInfo := pool [(5, u "<init>"), (0, u "()V"), (1, .class_ 10), (1, u "java/lang/Object")] 113

def k0m0 : Method := { name := "<init>", desc := "()V", sig := { parameters := [], returnType := none }, accessFlags := 1, code := none }
/-- java/lang/Object -/
def k0 : Class := { plain "java/lang/Object" none with
  accessFlags := 33
  interfaces := #[]
  cf := some (fileOf pool0 8 #[] #[{ accessFlags := 1, nameIndex := 5, descriptorIndex := 6, attributes := #[] }] 33 0 #[] #[])
  fields := #[]
  methods := #[k0m0]
  instanceTypes := #[]
  staticTypes := #[]
  resolved := Array.replicate 124 none
  statics := none }

def pool1 : Array CpInfo := pool [(2, .class_ 4), (1, u "java/lang/Object"), (0, u "<init>"), (0, u "()V"), (0, .integer 2147483647), (0, .methodref 9 10), (0, .class_ 11), (0, .nameAndType 12 13), (0, u "com/example/brannan/brannan/text/ByteTextIndexOfPinLaw"), (0, u "hit"), (0, u "([BBIIII)I"), (0, .methodref 15 16), (0, .class_ 17), (0, .nameAndType 18 19), (0, u "com/example/brannan/brannan/text/ByteText"), (0, u "indexOf"), (0, u "([BBII)I"), (3, u "law"), (0, u "(JIII)Z")] 4

def k1m0 : Method := { name := "<init>", desc := "()V", sig := { parameters := [], returnType := none }, accessFlags := 2, code := none }
def k1c1 : Code := { maxStack := 2, maxLocals := 6, code := method_2_code, exceptionTable := #[], attributes := #[] }
def k1m1 : Method := { name := "hit", desc := "([BBIIII)I", sig := { parameters := [(.array .byte), .byte, .int, .int, .int, .int], returnType := some .int }, accessFlags := 10, code := some k1c1 }
def k1c2 : Code := { maxStack := 6, maxLocals := 10, code := code, exceptionTable := #[], attributes := #[] }
def k1m2 : Method := { name := "law", desc := "(JIII)Z", sig := { parameters := [.long, .int, .int, .int], returnType := some .boolean }, accessFlags := 9, code := some k1c2 }
/-- com/example/brannan/brannan/text/ByteTextIndexOfPinLaw -/
def k1 : Class := { plain "com/example/brannan/brannan/text/ByteTextIndexOfPinLaw" (some 0) with
  accessFlags := 49
  interfaces := #[]
  cf := some (fileOf pool1 9 #[] #[{ accessFlags := 2, nameIndex := 5, descriptorIndex := 6, attributes := #[] }, { accessFlags := 10, nameIndex := 12, descriptorIndex := 13, attributes := #[] }, { accessFlags := 9, nameIndex := 23, descriptorIndex := 24, attributes := #[] }] 49 2 #[] #[])
  fields := #[]
  methods := #[k1m0, k1m1, k1m2]
  instanceTypes := #[]
  staticTypes := #[]
  resolved := Array.replicate 29 none
  statics := none }

def pool2 : Array CpInfo := pool [(2, .class_ 4), (1, u "java/lang/Object"), (0, u "<init>"), (0, u "()V"), (1, .class_ 10), (1, u "com/example/brannan/brannan/text/ByteText"), (4, u "ESCAPE_LETTERS"), (0, u "[B"), (2, u "LETTER_ESCAPED"), (2, u "indexOf"), (3, u "HEX_DIGITS"), (10, u "([BBII)I"), (39, u "BACKSLASH"), (0, u "B")] 26

def k2m0 : Method := { name := "<init>", desc := "()V", sig := { parameters := [], returnType := none }, accessFlags := 2, code := none }
def k2c1 : Code := { maxStack := 2, maxLocals := 5, code := prog_54_method_12_code, exceptionTable := #[], attributes := #[] }
def k2m1 : Method := { name := "indexOf", desc := "([BBII)I", sig := { parameters := [(.array .byte), .byte, .int, .int], returnType := some .int }, accessFlags := 8, code := some k2c1 }
/-- com/example/brannan/brannan/text/ByteText -/
def k2 : Class := { plain "com/example/brannan/brannan/text/ByteText" (some 0) with
  accessFlags := 49
  interfaces := #[]
  cf := some (fileOf pool2 8 #[] #[{ accessFlags := 2, nameIndex := 5, descriptorIndex := 6, attributes := #[] }, { accessFlags := 8, nameIndex := 22, descriptorIndex := 37, attributes := #[] }] 49 2 #[] #[{ accessFlags := 26, nameIndex := 77, descriptorIndex := 78, attributes := #[] }, { accessFlags := 26, nameIndex := 19, descriptorIndex := 16, attributes := #[] }, { accessFlags := 26, nameIndex := 15, descriptorIndex := 16, attributes := #[] }, { accessFlags := 26, nameIndex := 26, descriptorIndex := 16, attributes := #[] }])
  fields := #[{ name := "BACKSLASH", type := .byte, accessFlags := 26, slot := 0, constantValue := 0 }, { name := "LETTER_ESCAPED", type := (.array .byte), accessFlags := 26, slot := 1, constantValue := 0 }, { name := "ESCAPE_LETTERS", type := (.array .byte), accessFlags := 26, slot := 2, constantValue := 0 }, { name := "HEX_DIGITS", type := (.array .byte), accessFlags := 26, slot := 3, constantValue := 0 }]
  methods := #[k2m0, k2m1]
  instanceTypes := #[]
  staticTypes := #[.byte, (.array .byte), (.array .byte), (.array .byte)]
  resolved := Array.replicate 105 none
  statics := none }

def pool3 : Array CpInfo := pool [(1, u "java/lang/Cloneable"), (0, .class_ 1), (0, u "java/lang/Object"), (0, .class_ 3)] 3

/-- java/lang/Cloneable -/
def k3 : Class := { plain "java/lang/Cloneable" (some 0) with
  accessFlags := 1537
  interfaces := #[]
  cf := some (fileOf pool3 2 #[] #[] 1537 4 #[] #[])
  fields := #[]
  methods := #[]
  instanceTypes := #[]
  staticTypes := #[]
  resolved := Array.replicate 8 none
  statics := none }

def pool4 : Array CpInfo := pool [(1, u "java/io/Serializable"), (0, .class_ 1), (0, u "java/lang/Object"), (0, .class_ 3)] 3

/-- java/io/Serializable -/
def k4 : Class := { plain "java/io/Serializable" (some 0) with
  accessFlags := 1537
  interfaces := #[]
  cf := some (fileOf pool4 2 #[] #[] 1537 4 #[] #[])
  fields := #[]
  methods := #[]
  instanceTypes := #[]
  staticTypes := #[]
  resolved := Array.replicate 8 none
  statics := none }

/-- the primitive byte -/
def k5 : Class := { plain "byte" none with kind := .primitive 'B', accessFlags := 0x411 }
/-- [B -/
def k6 : Class := { plain "[B" (some 0) with kind := .array 5 .byte, interfaces := #[3, 4], accessFlags := 1041 }

/-- the primitive int -/
def k7 : Class := { plain "int" none with kind := .primitive 'I', accessFlags := 0x411 }
/-- [I -/
def k8 : Class := { plain "[I" (some 0) with kind := .array 7 .int, interfaces := #[3, 4], accessFlags := 1041 }

def heap : Heap := #[]
def classes : Array Class := #[k0, k1, k2, k3, k4, k5, k6, k7, k8]
def interned : List (Array UInt16 × Addr) := []
def slotsUsed : Nat := 0
def theMethod : MethodId := ⟨1, 2⟩
def args0 : Array Value := #[.long 5, .int 5, .int 5, .int 5]
def aboutOver (below : List Frame) : State where
  vm := { classes := classes, interned := interned.toArray }
  heap := heap
  slotsUsed := slotsUsed
  threads := #[{ frames := .invoking theMethod args0 :: below }]
def below0 : List Frame := [.native { method := ⟨0, 0⟩, args := #[] }]
def about1 : State := aboutOver below0
def p0 : Program := .bare "" "" ""
def e0 : Env := launch0.env 0 0 0
theorem w_frames : about1.frames = Frame.invoking theMethod args0 :: below0 := rfl
set_option maxRecDepth 65536 in
theorem w_args : argsFit about1.vm theMethod args0 = true := by decide +kernel
set_option maxRecDepth 65536 in
theorem w_heap : heapFits about1 = true := by decide +kernel
set_option maxRecDepth 65536 in
theorem w_runnable : about1.curStatus? = some .runnable := by decide +kernel
set_option maxRecDepth 65536 in
theorem w_alone : about1.alone = true := by decide +kernel
set_option maxRecDepth 65536 in
theorem w_named : about1.methodNamed? x = some theMethod := by decide +kernel
set_option maxRecDepth 65536 in
theorem w_hears : about1.hears theMethod below0 = true := by decide +kernel
set_option maxRecDepth 65536 in
theorem w_ripe : about1.ripe theMethod args0 below0 = true := by decide +kernel
theorem w_running : about1.status = .running := rfl
set_option maxRecDepth 65536 in
theorem w_room : about1.hasRoom e0.platform room_1 = true :=
  launch0.hasRoom_least _ room_1 (by decide +kernel) (by decide +kernel) (by decide +kernel) (by decide +kernel) (by decide +kernel) (by decide +kernel)
theorem allAtoms_all (ts : List Jvm.Cond) (a : Array Jvm.Value) (st : Jvm.State) : (allAtoms ts).before a st = ts.all (fun c => c.before a st) := by
  induction ts with
  | nil => rfl
  | cons c t ih =>
    show (Jvm.Cond.and c (allAtoms t)).before a st = _
    rw [Jvm.Cond.before_and, ih, List.all_cons]
def words1 : List Jvm.Cond := Jvm.Cond.code x code maxLocals ret :: tables_1
/-- a 'code' word, met by the world's own term for the bytes: nothing is compared byte by byte -/
theorem code_word {y : MethodName} {bytes : ByteArray} {mx : Nat} {rt : Option FieldType} {a : Array Value} {s : State} {m : MethodId} {meth : Method} {c : Code} (h1 : s.methodNamed? y = some m) (h2 : s.vm.method? m = some meth) (h3 : meth.code = some c) (h4 : c.code = bytes)
    (h5 : (c.maxLocals == mx && c.exceptionTable.isEmpty && decide (c.maxStack ≤ mostOperands) && decide (meth.sig.returnType = rt) && !meth.locks && decide (parseMethodDescriptor y.desc = some meth.sig)) = true) : (Jvm.Cond.code y bytes mx rt).before a s = true := by
  simp only [Bool.and_eq_true, beq_iff_eq, Bool.not_eq_true', decide_eq_true_eq] at h5
  obtain ⟨⟨⟨⟨⟨g1, g2⟩, g3⟩, g4⟩, g5⟩, g6⟩ := h5
  simp [Cond.before, Cond.holds, Cond.value, h1, h2, h3, h4, g1, g2, g3, g4, g5, g6]
def isCode : Jvm.Cond → Bool
  | .code _ _ _ _ => true
  | _ => false
theorem all_split {L : List Jvm.Cond} {P : Jvm.Cond → Bool} (h1 : L.all (fun c => isCode c || P c) = true) (h2 : ∀ c ∈ L.filter isCode, P c = true) : L.all P = true := by
  refine List.all_eq_true.mpr fun c hc => ?_
  have h := List.all_eq_true.mp h1 c hc
  rcases Bool.eq_false_or_eq_true (isCode c) with hi | hi
  · exact h2 c (List.mem_filter.mpr ⟨hc, hi⟩)
  · simpa [hi] using h
set_option maxRecDepth 65536 in
theorem w_c0 : (Jvm.Cond.code x code maxLocals ret).before args0 about1 = true := code_word (m := ⟨1, 2⟩) (meth := k1m2) (c := k1c2) (by decide +kernel) rfl rfl rfl (by decide +kernel)
set_option maxRecDepth 65536 in
theorem w_c1 : (Jvm.Cond.code ({ cls := "com/example/brannan/brannan/text/ByteTextIndexOfPinLaw", name := "hit", desc := "([BBIIII)I" } : Jvm.MethodName) method_2_code (6 : Nat) (Option.some Jvm.ClassFile.FieldType.int)).before args0 about1 = true := code_word (m := ⟨1, 1⟩) (meth := k1m1) (c := k1c1) (by decide +kernel) rfl rfl rfl (by decide +kernel)
set_option maxRecDepth 65536 in
theorem w_c2 : (Jvm.Cond.code ({ cls := "com/example/brannan/brannan/text/ByteText", name := "indexOf", desc := "([BBII)I" } : Jvm.MethodName) prog_54_method_12_code (5 : Nat) (Option.some Jvm.ClassFile.FieldType.int)).before args0 about1 = true := code_word (m := ⟨2, 1⟩) (meth := k2m1) (c := k2c1) (by decide +kernel) rfl rfl rfl (by decide +kernel)
def codes1 : List Jvm.Cond := [Jvm.Cond.code x code maxLocals ret, Jvm.Cond.code ({ cls := "com/example/brannan/brannan/text/ByteTextIndexOfPinLaw", name := "hit", desc := "([BBIIII)I" } : Jvm.MethodName) method_2_code (6 : Nat) (Option.some Jvm.ClassFile.FieldType.int), Jvm.Cond.code ({ cls := "com/example/brannan/brannan/text/ByteText", name := "indexOf", desc := "([BBII)I" } : Jvm.MethodName) prog_54_method_12_code (5 : Nat) (Option.some Jvm.ClassFile.FieldType.int)]
set_option maxRecDepth 65536 in
theorem codes_eq : words1.filter isCode = codes1 := rfl
theorem w_codes : ∀ c ∈ words1.filter isCode, c.before args0 about1 = true := by
  rw [codes_eq]
  intro c hc
  simp only [codes1, List.mem_cons, List.not_mem_nil, or_false] at hc
  rcases hc with rfl | rfl | rfl
  · exact w_c0
  · exact w_c1
  · exact w_c2
set_option maxRecDepth 65536 in
theorem w_t1 : words1.all (fun c => isCode c || c.before args0 about1) = true := by decide +kernel
theorem w_tables : (allAtoms (Jvm.Cond.code x code maxLocals ret :: tables_1)).before args0 about1 = true := by
  rw [allAtoms_all]
  show words1.all (fun c => c.before args0 about1) = true
  refine all_split ?_ w_codes
  rw [w_t1]
set_option maxRecDepth 65536 in
theorem w_case : (Jvm.Cond.and given_1 narrow_1).before args0 about1 = true := by decide +kernel
theorem w_applies : (headSpec (Jvm.Cond.code x code maxLocals ret :: tables_1) room_1).applies x e0.platform about1 = true :=
  (Spec.applies_iff w_frames).mpr ⟨w_running, w_runnable, w_alone, w_named, w_hears, w_ripe, w_room, w_tables⟩
theorem atStart : AtStart classFile x code maxLocals ret World_1 tables_1 room_1 Calls_1 rest_1 Pre_1 launch0 p0 e0 about1 theMethod args0 below0 :=
  ⟨lists_1, trivial, launch0.admits_env _ _ _, launch0.least_env, fairChoices_fair.cas, fairChoices_fair.clock, w_frames, w_args, w_heap, w_applies, trivial, trivial, w_case⟩
end start1
theorem witness_1 : WitnessClaimed_1 := ⟨start1.p0, start1.e0, start1.about1, start1.theMethod, start1.args0, start1.below0, start1.atStart⟩
end Jvm.Pilot.@@N@@
