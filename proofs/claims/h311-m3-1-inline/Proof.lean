import JvmDerived
import JvmDerived.Pilot.@@N@@Statement
import JvmDerived.Pilot.@@N@@Code
set_option linter.unusedVariables false
set_option linter.unusedSimpArgs false

namespace Jvm.RoadKit
open Sem ClassFile Op Lib Jvm.Stand Jvm.Free Jvm.LawKit
section New
variable {p : Program} {l : Launch} {e : Env} {R : Room} {s : State} {m : MethodId} {args : Array Value} {below : List Frame} {meth : Method} {c : Code} {T : State} {locs : List Loc} {cells slots : Nat}
theorem retI (X : Stand p l e R s m args below meth c T locs cells slots) (hx : p.tables.exec = Jvm.exec) {pc : Nat} {Ls : Array Slot} {z : Int32} {rest : List Value} (hret : meth.sig.returnType = some .int) (hd : decode c.code pc = .ok (.ireturn, 1)) {fs : List Frame}
    (hl : ∀ (f : JFrame) (acts : List Action), f.method = m → f.locked = none → f.entered = [] → (doReturn e (T.setTop f) acts (some (.int z))).1 = T.setFrames fs) : Steps p.tables e below (T.setTop (mkF m pc Ls (.int z :: rest))) (T.setFrames fs) := by
  have hm' : T.vm.method? m = some meth := X.method'
  have hn : narrow .int (.int z) = .int z := rfl
  show Steps p.tables e below (T.setTop { method := m, pc := pc, locals := Ls, stack := _ :: rest, locked := none }) _
  jvm_step X.here [X.here.top, hx, hd, hm', hret, hn]
  first | (intro acts; rw [hl _ acts rfl rfl rfl]) | rw [hl _ _ rfl rfl rfl]
  exact Steps.refl _
theorem own_lrem {g : JFrame} {target : State} (X : Stand p l e R s m args below meth c T locs cells slots) (hx : p.tables.exec = Jvm.exec) (hg : g.method = m) {x y : Int64} {rest : List Value} (hd : decode c.code g.pc = .ok (.lrem, 1)) (hs : g.stack = .long y :: .long x :: rest) (hy : y ≠ 0)
    (hr : Steps p.tables e below (T.setTop { g with pc := g.pc + 1, stack := .long (x % y) :: rest }) target) : Steps p.tables e below (T.setTop g) target := by
  have q : x - x / y * y = x % y := lrem_mod x y
  exact XS.lrem X.here hx hg hd hs hy (by rw [q]; exact hr)
end New
end Jvm.RoadKit
/- laws to paste: Road.backV (cut by pick.py; bodies as the Statement names them) -/
namespace Jvm.Pilot.@@N@@
namespace StrChars
open Jvm Sem ClassFile Op Lib Jvm.Stand Jvm.Free.XT Jvm.Free.ALB Jvm.Free.JM Jvm.Free
open Jvm.Lib.Cold (StaticIs)
/-- a char array whose places are chars -/
def Ch (a : Addr) (A : Cell) (U : State) : Prop := Arr .char a A U ∧ Typed .char A
theorem Ch.mv {a : Addr} {A : Cell} {U U' : State} (h : Ch a A U) (hal : U.vm.Alike U'.vm) (hh : U'.heap = U.heap) : Ch a A U' := ⟨h.1.mv hal hh, h.2⟩
theorem Ch.keep {a : Addr} {A : Cell} {U U' : State} (h : Ch a A U) (hal : U.vm.Alike U'.vm) (hk : U'.heap[a]? = some A) : Ch a A U' := ⟨h.1.keep hal hk, h.2⟩
/-- what place i of a char[]'s cell holds -/
def cv (A : Cell) (i : Nat) : Int32 := match A.slots[i]? with | some (.int x) => x | _ => 0
theorem Ch.get {a : Addr} {A : Cell} {U : State} (h : Ch a A U) {i : Nat} (hi : i < A.slots.size) : A.slots[i]? = some (.int (cv A i)) := by
  have e := Array.getElem?_eq_getElem hi
  have f := h.2 i _ e
  unfold cv; rw [e]
  generalize A.slots[i] = v at f
  cases v <;> simp [fits] at f ⊢
/-- the byte that i2b leaves of a char -/
def lo8 (x : Int32) : Int32 := x.toInt8.toInt32
theorem fits_lo8 (y : Int32) : fits .byte (.int (lo8 y)) = true := by
  have h1 := y.toInt8.le_toInt
  have h2 := y.toInt8.toInt_lt
  simp only [lo8, fits, Bool.and_eq_true, decide_eq_true_eq, Int32.le_iff_toInt_le, Int8.toInt_toInt32, show (-128 : Int32).toInt = -128 from by decide, show (127 : Int32).toInt = 127 from by decide]
  omega
/-- A' is A but that each place j of lo .. hi - 1 holds f j -/
def Laid (A A' : Cell) (lo hi : Nat) (f : Nat → Value) : Prop := A'.cls = A.cls ∧ A'.vm = A.vm ∧ A'.slots.size = A.slots.size ∧ ∀ i, A'.slots[i]? = if lo ≤ i ∧ i < hi then some (f i) else A.slots[i]?
theorem Laid.zero (A : Cell) (lo : Nat) (f : Nat → Value) : Laid A A lo (lo + 0) f := ⟨rfl, rfl, rfl, fun i => by rw [if_neg (by omega)]⟩
theorem Laid.step {A Ak : Cell} {lo k : Nat} {f : Nat → Value} {v : Value} (h : Laid A Ak lo k f) (hlo : lo ≤ k) (hk : k < Ak.slots.size) (hv : v = f k) : Laid A (Ak.setSlot k v) lo (k + 1) f := by
  refine ⟨h.1, h.2.1, by simpa [Cell.setSlot] using h.2.2.1, fun i => ?_⟩
  by_cases e : k = i
  · subst e; rw [Cell.slots_setSlot_self v hk, if_pos (by omega), hv]
  · rw [Cell.slots_setSlot_ne v e, h.2.2.2 i]
    by_cases q : lo ≤ i ∧ i < k
    · rw [if_pos q, if_pos (by omega)]
    · rw [if_neg q, if_neg (by omega)]
def U16 : String := "java/lang/StringUTF16"
namespace Cmp5
def yN : MethodName := ⟨"java/lang/StringUTF16", "compress", "([CI[BII)I"⟩
abbrev yB : ByteArray := jdk_52_method_21_code
theorem d0 : decode yB 0 = .ok (.iconst 0, 1) := by decide +kernel
theorem d1 : decode yB 1 = .ok (.istore 5, 2) := by decide +kernel
theorem d3 : decode yB 3 = .ok (.iload 5, 2) := by decide +kernel
theorem d5 : decode yB 5 = .ok (.iload 4, 2) := by decide +kernel
theorem d7 : decode yB 7 = .ok (.if_icmp (.ge) 37, 3) := by decide +kernel
theorem d10 : decode yB 10 = .ok (.aload_n 0, 1) := by decide +kernel
theorem d11 : decode yB 11 = .ok (.iload_n 1, 1) := by decide +kernel
theorem d12 : decode yB 12 = .ok (.caload, 1) := by decide +kernel
theorem d13 : decode yB 13 = .ok (.istore 6, 2) := by decide +kernel
theorem d15 : decode yB 15 = .ok (.iload 6, 2) := by decide +kernel
theorem d17 : decode yB 17 = .ok (.sipush 255, 3) := by decide +kernel
theorem d20 : decode yB 20 = .ok (.if_icmp (.le) 6, 3) := by decide +kernel
theorem d26 : decode yB 26 = .ok (.aload_n 2, 1) := by decide +kernel
theorem d27 : decode yB 27 = .ok (.iload_n 3, 1) := by decide +kernel
theorem d28 : decode yB 28 = .ok (.iload 6, 2) := by decide +kernel
theorem d30 : decode yB 30 = .ok (.i2b, 1) := by decide +kernel
theorem d31 : decode yB 31 = .ok (.bastore, 1) := by decide +kernel
theorem d32 : decode yB 32 = .ok (.iinc 1 1, 3) := by decide +kernel
theorem d35 : decode yB 35 = .ok (.iinc 3 1, 3) := by decide +kernel
theorem d38 : decode yB 38 = .ok (.iinc 5 1, 3) := by decide +kernel
theorem d41 : decode yB 41 = .ok (.goto (-38), 3) := by decide +kernel
theorem d44 : decode yB 44 = .ok (.iload 4, 2) := by decide +kernel
theorem d46 : decode yB 46 = .ok (.ireturn, 1) := by decide +kernel
def site : List Cond := []
def tab : Cond := tabOf yN yB 7 (some .int) site
def P (b : Addr) (A : Cell) (d : Addr) (B : Cell) (o q len : Nat) (args : Array Value) (s : State) : Prop := args = #[.ref b, .int (Int32.ofNat o), .ref d, .int (Int32.ofNat q), .int (Int32.ofNat len)] ∧ Ch b A s ∧ Arr .byte d B s ∧ b ≠ d ∧ o + len ≤ A.slots.size ∧ q + len ≤ B.slots.size ∧ ∀ i, i < len → ¬ 255 < cv A (o + i)
def E (b : Addr) (A : Cell) (d : Addr) (B : Cell) (o q len : Nat) (r : Option Value) (s u : State) : Prop := r = some (.int (Int32.ofNat len)) ∧ ∃ B', Put d B' s u ∧ Laid B B' q (q + len) (fun j => Value.int (lo8 (cv A (o + (j - q)))))
/-- no char of the range above 255: len; the places written hold each char's low byte -/
theorem law (l : Launch) (b : Addr) (A : Cell) (d : Addr) (B : Cell) (o q len : Nat) : Law l yN 5 5 0 0 yB 7 (some .int) site (P b A d B o q len) (E b A d B o q len) (copyLocs d q len) 0 0 := by
  refine Law.of_walk (plainFor_of_name (by decide +kernel)) (by decide +kernel) (by decide +kernel) (by decide) (fun _ _ h => by rw [h.1]; rfl) (fun _ U U' hal hh h => ⟨h.1, h.2.1.mv hal hh, h.2.2.1.mv hal hh, h.2.2.2⟩) (fun r U U' V V' h1 hal h2 h => ⟨h.1, h.2.elim fun B' q => ⟨B', q.1.mv h1 h2, q.2⟩⟩) ?_
  intro p e s m args below meth c s₁ X0 hexec hbytes hml hret hlk hnm hown hh0 W hP
  obtain ⟨rfl, hA, hB, hne, l1, l2, hp⟩ := hP
  have c1 : Steps p.tables e below (s₁.setTop (entryFrame m #[.ref b, .int (Int32.ofNat o), .ref d, .int (Int32.ofNat q), .int (Int32.ofNat len)] 7)) (s₁.setTop (mkF m 0 #[.val (.ref b), .val (.int (Int32.ofNat o)), .val (.ref d), .val (.int (Int32.ofNat q)), .val (.int (Int32.ofNat len)), .unset, .unset] [])) := entry rfl
  have hA0 := hA.1.mv X0.warmed.alike hh0
  have hB0 := hB.mv X0.warmed.alike hh0
  have a31 := hA.1.2.2.2
  have c2 : Steps p.tables e below (s₁.setTop (entryFrame m #[.ref b, .int (Int32.ofNat o), .ref d, .int (Int32.ofNat q), .int (Int32.ofNat len)] 7)) (s₁.setTop (mkF m 3 #[.val (.ref b), .val (.int (Int32.ofNat o)), .val (.ref d), .val (.int (Int32.ofNat q)), .val (.int (Int32.ofNat len)), .val (.int 0), .unset] [])) := c1.trans (by
    refine iconstV X0.here hexec rfl 0 (hb hbytes d0) (by decide) ?_
    refine XS.istore X0.here hexec rfl (hb hbytes d1) rfl rfl ?_
    exact Steps.refl _)
  have loop : ∀ (r i : Nat), i + r = len → ∀ (z : Slot), (z = .unset ∨ ∃ w, z = .val w ∧ w.category = 1) → ∀ (Tl : State) (Bk : Cell), Stand p l e { frames := 0, locals := 0, cells := 0, slots := 0 } s m #[.ref b, .int (Int32.ofNat o), .ref d, .int (Int32.ofNat q), .int (Int32.ofNat len)] below meth c Tl ([] ++ copyLocs d q i) 0 0 → Put d Bk s₁ Tl → Laid B Bk q (q + i) (fun j => Value.int (lo8 (cv A (o + (j - q))))) →
      Steps p.tables e below (s₁.setTop (entryFrame m #[.ref b, .int (Int32.ofNat o), .ref d, .int (Int32.ofNat q), .int (Int32.ofNat len)] 7)) (Tl.setTop (mkF m 3 #[.val (.ref b), .val (.int (Int32.ofNat (o + i))), .val (.ref d), .val (.int (Int32.ofNat (q + i))), .val (.int (Int32.ofNat len)), .val (.int (Int32.ofNat i)), z] [])) → ∃ (T' : State) (B' : Cell) (z' : Slot), Stand p l e { frames := 0, locals := 0, cells := 0, slots := 0 } s m #[.ref b, .int (Int32.ofNat o), .ref d, .int (Int32.ofNat q), .int (Int32.ofNat len)] below meth c T' ([] ++ copyLocs d q len) 0 0 ∧ Put d B' s₁ T' ∧ Laid B B' q (q + len) (fun j => Value.int (lo8 (cv A (o + (j - q))))) ∧
      Steps p.tables e below (s₁.setTop (entryFrame m #[.ref b, .int (Int32.ofNat o), .ref d, .int (Int32.ofNat q), .int (Int32.ofNat len)] 7)) (T'.setTop (mkF m 3 #[.val (.ref b), .val (.int (Int32.ofNat (o + len))), .val (.ref d), .val (.int (Int32.ofNat (q + len))), .val (.int (Int32.ofNat len)), .val (.int (Int32.ofNat len)), z'] [])) := by
    intro r
    induction r with
    | zero =>
      intro i hi z hz Tl Bk Xl pl fl cl
      have hil : i = len := by omega
      rw [hil] at Xl fl cl
      exact ⟨Tl, Bk, z, Xl, pl, fl, cl⟩
    | succ r ih =>
      intro i hi z hz Tl Bk Xl pl fl cl
      have all := X0.warmed.alike.symm.trans Xl.warmed.alike
      have hAl := hA0.keep all (pl.other hne hA0.1)
      have hBk := hB0.like all pl.1 fl.1 fl.2.1 fl.2.2.1
      have hlt : q + i < Bk.slots.size := by rw [fl.2.2.1]; omega
      have c3 : Steps p.tables e below (s₁.setTop (entryFrame m #[.ref b, .int (Int32.ofNat o), .ref d, .int (Int32.ofNat q), .int (Int32.ofNat len)] 7)) (Tl.setTop (mkF m 12 #[.val (.ref b), .val (.int (Int32.ofNat (o + i))), .val (.ref d), .val (.int (Int32.ofNat (q + i))), .val (.int (Int32.ofNat len)), .val (.int (Int32.ofNat i)), z] [.int (Int32.ofNat (o + i)), .ref b])) := cl.trans (by
        refine XS.iload Xl.here hexec rfl (hb hbytes d3) rfl ?_
        refine XS.iload Xl.here hexec rfl (hb hbytes d5) rfl ?_
        refine XS.icmpNo Xl.here hexec rfl (hb hbytes d7) rfl (ii_ge_f (lt32 (by omega) (by omega))) ?_
        refine XS.aloadN Xl.here hexec rfl (hb hbytes d10) rfl rfl ?_
        refine XS.iloadN Xl.here hexec rfl (hb hbytes d11) rfl ?_
        exact Steps.refl _)
      have c4 : Steps p.tables e below (s₁.setTop (entryFrame m #[.ref b, .int (Int32.ofNat o), .ref d, .int (Int32.ofNat q), .int (Int32.ofNat len)] 7)) (Tl.setTop (mkF m 13 #[.val (.ref b), .val (.int (Int32.ofNat (o + i))), .val (.ref d), .val (.int (Int32.ofNat (q + i))), .val (.int (Int32.ofNat len)), .val (.int (Int32.ofNat i)), z] [.int (cv A (o + i))])) := c3.trans (by
        refine Xl.aget hexec hAl rfl (hA.get (i := o + i) (by omega)) rfl rfl (hb hbytes d12) ?_
        exact Steps.refl _)
      have c5 : Steps p.tables e below (s₁.setTop (entryFrame m #[.ref b, .int (Int32.ofNat o), .ref d, .int (Int32.ofNat q), .int (Int32.ofNat len)] 7)) (Tl.setTop (mkF m 15 #[.val (.ref b), .val (.int (Int32.ofNat (o + i))), .val (.ref d), .val (.int (Int32.ofNat (q + i))), .val (.int (Int32.ofNat len)), .val (.int (Int32.ofNat i)), .val (.int (cv A (o + i)))] [])) := c4.trans (by
        refine XS.istoreS Xl.here hexec rfl (hb hbytes d13) rfl rfl hz ?_
        exact Steps.refl _)
      have c6 : Steps p.tables e below (s₁.setTop (entryFrame m #[.ref b, .int (Int32.ofNat o), .ref d, .int (Int32.ofNat q), .int (Int32.ofNat len)] 7)) (Tl.setTop (mkF m 31 #[.val (.ref b), .val (.int (Int32.ofNat (o + i))), .val (.ref d), .val (.int (Int32.ofNat (q + i))), .val (.int (Int32.ofNat len)), .val (.int (Int32.ofNat i)), .val (.int (cv A (o + i)))] [.int (lo8 (cv A (o + i))), .int (Int32.ofNat (q + i)), .ref d])) := c5.trans (by
        refine XS.iload Xl.here hexec rfl (hb hbytes d15) rfl ?_
        refine sipushV Xl.here hexec rfl 255 (hb hbytes d17) (by decide) ?_
        refine XS.icmpYes Xl.here hexec rfl (pc0 := 20) rfl (hb hbytes d20) rfl (ii_le_t (hp i (by omega))) (by decide) rfl ?_
        refine XS.aloadN Xl.here hexec rfl (hb hbytes d26) rfl rfl ?_
        refine XS.iloadN Xl.here hexec rfl (hb hbytes d27) rfl ?_
        refine XS.iload Xl.here hexec rfl (hb hbytes d28) rfl ?_
        refine i2b Xl.here hexec rfl (hb hbytes d30) rfl ?_
        exact Steps.refl _)
      obtain ⟨T7, X7, p7, st7⟩ := Xl.aput hexec hBk rfl hlt rfl (fits_lo8 (cv A (o + i))) (g := (mkF m 31 #[.val (.ref b), .val (.int (Int32.ofNat (o + i))), .val (.ref d), .val (.int (Int32.ofNat (q + i))), .val (.int (Int32.ofNat len)), .val (.int (Int32.ofNat i)), .val (.int (cv A (o + i)))] [.int (lo8 (cv A (o + i))), .int (Int32.ofNat (q + i)), .ref d])) rfl (rest := []) rfl (hb hbytes d31)
      have c8 : Steps p.tables e below (s₁.setTop (entryFrame m #[.ref b, .int (Int32.ofNat o), .ref d, .int (Int32.ofNat q), .int (Int32.ofNat len)] 7)) (T7.setTop (mkF m 32 #[.val (.ref b), .val (.int (Int32.ofNat (o + i))), .val (.ref d), .val (.int (Int32.ofNat (q + i))), .val (.int (Int32.ofNat len)), .val (.int (Int32.ofNat i)), .val (.int (cv A (o + i)))] [])) := c6.trans (st7 _ (Steps.refl _))
      have c9 : Steps p.tables e below (s₁.setTop (entryFrame m #[.ref b, .int (Int32.ofNat o), .ref d, .int (Int32.ofNat q), .int (Int32.ofNat len)] 7)) (T7.setTop (mkF m 3 #[.val (.ref b), .val (.int (Int32.ofNat (o + i) + 1)), .val (.ref d), .val (.int (Int32.ofNat (q + i) + 1)), .val (.int (Int32.ofNat len)), .val (.int (Int32.ofNat i + 1)), .val (.int (cv A (o + i)))] [])) := c8.trans (by
        refine iincV X7.here hexec rfl 1 (hb hbytes d32) (by decide) rfl rfl ?_
        refine iincV X7.here hexec rfl 1 (hb hbytes d35) (by decide) rfl rfl ?_
        refine iincV X7.here hexec rfl 1 (hb hbytes d38) (by decide) rfl rfl ?_
        refine XS.goto X7.here hexec rfl (pc0 := 41) rfl (hb hbytes d41) (by decide) rfl ?_
        exact Steps.refl _)
      have c10 : Steps p.tables e below (s₁.setTop (entryFrame m #[.ref b, .int (Int32.ofNat o), .ref d, .int (Int32.ofNat q), .int (Int32.ofNat len)] 7)) (T7.setTop (mkF m 3 #[.val (.ref b), .val (.int (Int32.ofNat (o + (i + 1)))), .val (.ref d), .val (.int (Int32.ofNat (q + (i + 1)))), .val (.int (Int32.ofNat len)), .val (.int (Int32.ofNat (i + 1))), .val (.int (cv A (o + i)))] [])) := by
        have := c9
        rw [succ32, succ32, succ32] at this
        exact this
      exact ih (i + 1) (by omega) _ (Or.inr ⟨_, rfl, rfl⟩) T7 _ (by rw [copyLocs_step, ← List.append_assoc]; exact X7) (pl.trans p7) (fl.step (by omega) hlt (by simp)) c10
  obtain ⟨T9, B9, z9, X9, p9, f9, g9⟩ := loop len 0 (by omega) .unset (Or.inl rfl) s₁ B (by simpa [copyLocs] using X0) ⟨hB0.1, fun _ _ => rfl, rfl⟩ (Laid.zero _ _ _) c2
  have c11 : Steps p.tables e below (s₁.setTop (entryFrame m #[.ref b, .int (Int32.ofNat o), .ref d, .int (Int32.ofNat q), .int (Int32.ofNat len)] 7)) (T9.setTop (mkF m 46 #[.val (.ref b), .val (.int (Int32.ofNat (o + len))), .val (.ref d), .val (.int (Int32.ofNat (q + len))), .val (.int (Int32.ofNat len)), .val (.int (Int32.ofNat len)), z9] [.int (Int32.ofNat len)])) := g9.trans (by
    refine XS.iload X9.here hexec rfl (hb hbytes d3) rfl ?_
    refine XS.iload X9.here hexec rfl (hb hbytes d5) rfl ?_
    refine XS.icmpYes X9.here hexec rfl (pc0 := 7) rfl (hb hbytes d7) rfl (ii_ge_t (nlt32 (by omega) (Nat.le_refl _))) (by decide) rfl ?_
    refine XS.iload X9.here hexec rfl (hb hbytes d44) rfl ?_
    exact Steps.refl _)
  exact ⟨T9, some (.int (Int32.ofNat len)), _, _, _, X9, by simp, rfl, rfl, (fun h => by cases h), ⟨rfl, B9, p9.from hh0, f9⟩, fun fs hl => c11.trans (X9.ireturnOut hexec hret rfl (Or.inl rfl) (hb hbytes d46) hl)⟩
end Cmp5
namespace Cmp3
def yN : MethodName := ⟨"java/lang/StringUTF16", "compress", "([CII)[B"⟩
abbrev yB : ByteArray := jdk_52_method_16_code
theorem d0 : decode yB 0 = .ok (.iload_n 2, 1) := by decide +kernel
theorem d1 : decode yB 1 = .ok (.newarray .byte, 2) := by decide +kernel
theorem d3 : decode yB 3 = .ok (.astore_n 3, 1) := by decide +kernel
theorem d4 : decode yB 4 = .ok (.aload_n 0, 1) := by decide +kernel
theorem d5 : decode yB 5 = .ok (.iload_n 1, 1) := by decide +kernel
theorem d6 : decode yB 6 = .ok (.aload_n 3, 1) := by decide +kernel
theorem d7 : decode yB 7 = .ok (.iconst 0, 1) := by decide +kernel
theorem d8 : decode yB 8 = .ok (.iload_n 2, 1) := by decide +kernel
theorem d9 : decode yB 9 = .ok (.invokestatic 115, 3) := by decide +kernel
theorem d12 : decode yB 12 = .ok (.istore 4, 2) := by decide +kernel
theorem d14 : decode yB 14 = .ok (.iload 4, 2) := by decide +kernel
theorem d16 : decode yB 16 = .ok (.iload_n 2, 1) := by decide +kernel
theorem d17 : decode yB 17 = .ok (.if_icmp (.eq) 40, 3) := by decide +kernel
theorem d57 : decode yB 57 = .ok (.aload_n 3, 1) := by decide +kernel
theorem d58 : decode yB 58 = .ok (.areturn, 1) := by decide +kernel
def site : List Cond := [.arrayClass .byte, Cmp5.tab] ++ staticW U16 115 Cmp5.yN
def tab : Cond := tabOf yN yB 6 (some (.array .byte)) site
def P (b : Addr) (A : Cell) (o len : Nat) (args : Array Value) (s : State) : Prop := args = #[.ref b, .int (Int32.ofNat o), .int (Int32.ofNat len)] ∧ Ch b A s ∧ o + len ≤ A.slots.size ∧ len ≤ 536870912 ∧ ∀ i, i < len → ¬ 255 < cv A (o + i)
def E (b : Addr) (A : Cell) (o len : Nat) (r : Option Value) (s u : State) : Prop := NewArr .byte "[B" len (fun j => .int (lo8 (cv A (o + j)))) r s u ∧ u.heap.size = s.heap.size + 1
/-- no char of the range above 255: a new byte[] of their low bytes -/
theorem law (l : Launch) (b : Addr) (A : Cell) (o len : Nat) : Law l yN 3 3 1 18 yB 6 (some (.array .byte)) site (P b A o len) (E b A o len) [] 1 len := by
  refine Law.of_walk (plainFor_of_name (by decide +kernel)) (by decide +kernel) (by decide +kernel) (by decide) (fun _ _ h => by rw [h.1]; rfl) (fun _ U U' hal hh h => ⟨h.1, h.2.1.mv hal hh, h.2.2⟩) (fun r U U' V V' h1 hal h2 h => ⟨NewArr.mv r U U' V V' h1 hal h2 h.1, by rw [h1, h2]; exact h.2⟩) ?_
  intro p e s m args below meth c s₁ X0 hexec hbytes hml hret hlk hnm hown hh0 W hP
  obtain ⟨rfl, hA, l1, l2, hp⟩ := hP
  have a31 := hA.1.2.2.2
  have c1 : Steps p.tables e below (s₁.setTop (entryFrame m #[.ref b, .int (Int32.ofNat o), .int (Int32.ofNat len)] 6)) (s₁.setTop (mkF m 0 #[.val (.ref b), .val (.int (Int32.ofNat o)), .val (.int (Int32.ofNat len)), .unset, .unset, .unset] [])) := entry rfl
  have c2 : Steps p.tables e below (s₁.setTop (entryFrame m #[.ref b, .int (Int32.ofNat o), .int (Int32.ofNat len)] 6)) (s₁.setTop (mkF m 1 #[.val (.ref b), .val (.int (Int32.ofNat o)), .val (.int (Int32.ofNat len)), .unset, .unset, .unset] [.int (Int32.ofNat len)])) := c1.trans (by
    refine XS.iloadN X0.here hexec rfl (hb hbytes d0) rfl ?_
    exact Steps.refl _)
  obtain ⟨T3, B3, X3, ba3, bs3, bv3, bh3, bf3, st3⟩ := X0.anew hexec (atype := .byte) (wk W (.arrayClass .byte)) rfl (by show len * 1 ≤ _; omega) (by omega) (g := (mkF m 1 #[.val (.ref b), .val (.int (Int32.ofNat o)), .val (.int (Int32.ofNat len)), .unset, .unset, .unset] [.int (Int32.ofNat len)])) rfl (hb hbytes d1) (rest := []) rfl (Nat.le_refl _) (by show 0 + len ≤ len; omega)
  rw [hh0] at ba3 st3
  have kp3 : XT.Kept s T3 := (XT.Kept.of_eq hh0).push bh3
  have hA3 := hA.keep X3.warmed.alike (kp3 _ _ hA.1.1)
  have hne : b ≠ s.heap.size := hA.1.ne
  have c4 : Steps p.tables e below (s₁.setTop (entryFrame m #[.ref b, .int (Int32.ofNat o), .int (Int32.ofNat len)] 6)) (T3.setTop (mkF m 3 #[.val (.ref b), .val (.int (Int32.ofNat o)), .val (.int (Int32.ofNat len)), .unset, .unset, .unset] [.ref s.heap.size])) := c2.trans (st3 _ (Steps.refl _))
  have c5 : Steps p.tables e below (s₁.setTop (entryFrame m #[.ref b, .int (Int32.ofNat o), .int (Int32.ofNat len)] 6)) (T3.setTop (mkF m 9 #[.val (.ref b), .val (.int (Int32.ofNat o)), .val (.int (Int32.ofNat len)), .val (.ref s.heap.size), .unset, .unset] [.int (Int32.ofNat len), .int 0, .ref s.heap.size, .int (Int32.ofNat o), .ref b])) := c4.trans (by
    refine XS.astoreN X3.here hexec rfl (hb hbytes d3) rfl rfl rfl ?_
    refine XS.aloadN X3.here hexec rfl (hb hbytes d4) rfl rfl ?_
    refine XS.iloadN X3.here hexec rfl (hb hbytes d5) rfl ?_
    refine XS.aloadN X3.here hexec rfl (hb hbytes d6) rfl rfl ?_
    refine iconstV X3.here hexec rfl 0 (hb hbytes d7) (by decide) ?_
    refine XS.iloadN X3.here hexec rfl (hb hbytes d8) rfl ?_
    exact Steps.refl _)
  obtain ⟨v6, T6, X6, E6, g6⟩ := X3.callS hexec (Cmp5.law l b A s.heap.size B3 o 0 len) hown (wks W (staticW U16 115 Cmp5.yN)) (wk W Cmp5.tab) (W := 0) (Nat.le_of_ble_eq_true rfl) (Nat.le_of_ble_eq_true rfl) (Nat.le_refl _) (by show 0 + len + 0 ≤ len; omega) (g := (mkF m 9 #[.val (.ref b), .val (.int (Int32.ofNat o)), .val (.int (Int32.ofNat len)), .val (.ref s.heap.size), .unset, .unset] [.int (Int32.ofNat len), .int (Int32.ofNat 0), .ref s.heap.size, .int (Int32.ofNat o), .ref b])) rfl (by rw [hml]; rfl) c5 (argsL := [.ref b, .int (Int32.ofNat o), .ref s.heap.size, .int (Int32.ofNat 0), .int (Int32.ofNat len)]) (rest := []) rfl rfl (by show 2 * 0 + 0 ≤ _; decide) (hb hbytes d9) (⟨rfl, hA3, ba3, hne, l1, by rw [bs3]; simp, hp⟩)
  obtain ⟨rfl, B6, p6, f6⟩ := E6
  have c7 : Steps p.tables e below (s₁.setTop (entryFrame m #[.ref b, .int (Int32.ofNat o), .int (Int32.ofNat len)] 6)) (T6.setTop (mkF m 12 #[.val (.ref b), .val (.int (Int32.ofNat o)), .val (.int (Int32.ofNat len)), .val (.ref s.heap.size), .unset, .unset] [.int (Int32.ofNat len)])) := g6
  have c8 : Steps p.tables e below (s₁.setTop (entryFrame m #[.ref b, .int (Int32.ofNat o), .int (Int32.ofNat len)] 6)) (T6.setTop (mkF m 58 #[.val (.ref b), .val (.int (Int32.ofNat o)), .val (.int (Int32.ofNat len)), .val (.ref s.heap.size), .val (.int (Int32.ofNat len)), .unset] [.ref s.heap.size])) := c7.trans (by
    refine XS.istore X6.here hexec rfl (hb hbytes d12) rfl rfl ?_
    refine XS.iload X6.here hexec rfl (hb hbytes d14) rfl ?_
    refine XS.iloadN X6.here hexec rfl (hb hbytes d16) rfl ?_
    refine XS.icmpYes X6.here hexec rfl (pc0 := 17) rfl (hb hbytes d17) rfl (ii_eq_t rfl) (by decide) rfl ?_
    refine XS.aloadN X6.here hexec rfl (hb hbytes d57) rfl rfl ?_
    exact Steps.refl _)
  have X8 := X6.wide (L' := []) (cells' := 1) (slots' := len) (fun x hx hlt => by
    simp only [List.nil_append, copyLocs, List.mem_map, List.mem_range] at hx
    obtain ⟨i, -, rfl⟩ := hx
    exact absurd hlt (Nat.lt_irrefl _)) (Nat.le_refl _) (by omega)
  exact ⟨T6, some (.ref s.heap.size), _, _, _, X8, rfl, rfl, rfl, (fun h => by cases h), ⟨⟨rfl, B6, ba3.like (X3.warmed.alike.symm.trans X6.warmed.alike) p6.1 f6.1 f6.2.1 f6.2.2.1, f6.2.1.trans bv3, by rw [X6.warmed.alike.findClass, f6.1]; exact bf3, by rw [f6.2.2.1, bs3]; simp, fun j hj => by rw [f6.2.2.2 j, if_pos (by omega)]; rfl, kp3.put p6 (Nat.le_refl _)⟩, by rw [p6.2.2, bh3, hh0]; simp⟩, fun fs hl => c8.trans (X8.areturnOut hexec rfl hret rfl (hb hbytes d58) hl)⟩
end Cmp3
namespace CodL
def yN : MethodName := ⟨"java/lang/StringUTF16", "coderFromArrayLen", "([BI)B"⟩
abbrev yB : ByteArray := jdk_52_method_15_code
theorem d0 : decode yB 0 = .ok (.iload_n 1, 1) := by decide +kernel
theorem d1 : decode yB 1 = .ok (.aload_n 0, 1) := by decide +kernel
theorem d2 : decode yB 2 = .ok (.arraylength, 1) := by decide +kernel
theorem d3 : decode yB 3 = .ok (.isub, 1) := by decide +kernel
theorem d4 : decode yB 4 = .ok (.bipush 31, 2) := by decide +kernel
theorem d6 : decode yB 6 = .ok (.iushr, 1) := by decide +kernel
theorem d7 : decode yB 7 = .ok (.i2b, 1) := by decide +kernel
theorem d8 : decode yB 8 = .ok (.ireturn, 1) := by decide +kernel
def site : List Cond := []
def tab : Cond := tabOf yN yB 2 (some .byte) site
def P (d : Addr) (B : Cell) (args : Array Value) (s : State) : Prop := args = #[.ref d, .int (Int32.ofNat B.slots.size)] ∧ Arr .byte d B s
def E (r : Option Value) (s u : State) : Prop := XT.PureE (some (.int 0)) r s u
/-- an array as long as the number of chars: LATIN1 -/
theorem law (l : Launch) (d : Addr) (B : Cell) : Law l yN 2 2 0 0 yB 2 (some .byte) site (P d B) E [] 0 0 := by
  refine Law.of_walk (plainFor_of_name (by decide +kernel)) (by decide +kernel) (by decide +kernel) (by decide) (fun _ _ h => by rw [h.1]; rfl) (fun _ U U' hal hh h => ⟨h.1, h.2.mv hal hh⟩) (fun r U U' V V' h1 hal h2 h => XT.PureE.mv r U U' V V' h1 hal h2 h) ?_
  intro p e s m args below meth c s₁ X0 hexec hbytes hml hret hlk hnm hown hh0 W hP
  obtain ⟨rfl, hB⟩ := hP
  have hB0 := hB.mv X0.warmed.alike hh0
  have c1 : Steps p.tables e below (s₁.setTop (entryFrame m #[.ref d, .int (Int32.ofNat B.slots.size)] 2)) (s₁.setTop (mkF m 0 #[.val (.ref d), .val (.int (Int32.ofNat B.slots.size))] [])) := entry rfl
  have c2 : Steps p.tables e below (s₁.setTop (entryFrame m #[.ref d, .int (Int32.ofNat B.slots.size)] 2)) (s₁.setTop (mkF m 2 #[.val (.ref d), .val (.int (Int32.ofNat B.slots.size))] [.ref d, .int (Int32.ofNat B.slots.size)])) := c1.trans (by
    refine XS.iloadN X0.here hexec rfl (hb hbytes d0) rfl ?_
    refine XS.aloadN X0.here hexec rfl (hb hbytes d1) rfl rfl ?_
    exact Steps.refl _)
  have c3 : Steps p.tables e below (s₁.setTop (entryFrame m #[.ref d, .int (Int32.ofNat B.slots.size)] 2)) (s₁.setTop (mkF m 8 #[.val (.ref d), .val (.int (Int32.ofNat B.slots.size))] [.int (lo8 (ushr (Int32.ofNat B.slots.size - Int32.ofNat B.slots.size) 31))])) := c2.trans (by
    refine X0.alen hexec hB0 rfl rfl (hb hbytes d2) ?_
    refine XS.isub X0.here hexec rfl (hb hbytes d3) rfl ?_
    refine bipushV X0.here hexec rfl 31 (hb hbytes d4) (by decide) ?_
    refine iushr X0.here hexec rfl (hb hbytes d6) rfl ?_
    refine i2b X0.here hexec rfl (hb hbytes d7) rfl ?_
    exact Steps.refl _)
  have e0 : lo8 (ushr (Int32.ofNat B.slots.size - Int32.ofNat B.slots.size) 31) = 0 := by rw [Int32.sub_self]; decide
  rw [e0] at c3
  exact ⟨s₁, some (.int 0), _, _, _, X0, rfl, rfl, rfl, (fun h => by cases h), ⟨rfl, hh0⟩, fun fs hl => c3.trans (X0.ireturnOut hexec hret rfl (Or.inr (Or.inr (Or.inl rfl))) (hb hbytes d8) hl)⟩
end CodL
/-- the String at a is Latin-1 over a new byte[] (the heap's one new cell): the low bytes of the len chars of A from o on; every cell but a is kept -/
def Got (a : Addr) (D : Cell) (fV fC : Field) (A : Cell) (o len : Nat) (r : Option Value) (s u : State) : Prop := r = none ∧ ∃ D' V : Cell, Blank "java/lang/String" a D' u ∧ Same D D' [fV.slot, fC.slot] ∧ D'.slots[fV.slot]? = some (.ref s.heap.size) ∧ D'.slots[fC.slot]? = some (.int 0) ∧ Arr .byte s.heap.size V u ∧ V.vm = .none ∧ u.vm.findClass "[B" = some V.cls ∧ V.slots.size = len ∧ (∀ j, j < len → V.slots[j]? = some (.int (lo8 (cv A (o + j))))) ∧ (∀ (y : Addr) (c : Cell), y ≠ a → s.heap[y]? = some c → u.heap[y]? = some c) ∧ u.heap.size = s.heap.size + 1
theorem Got.mv {a : Addr} {D A : Cell} {fV fC : Field} {o len : Nat} : ∀ r (U U' V V' : State), U'.heap = U.heap → V.vm.Alike V'.vm → V'.heap = V.heap → Got a D fV fC A o len r U V → Got a D fV fC A o len r U' V' :=
  fun r U U' V V' h1 hal h2 ⟨e0, D', X, a1, a2, a3, a4, a5, a6, a7, a8, a9, a10, a11⟩ => ⟨e0, D', X, a1.mv hal h2, a2, by rw [h1]; exact a3, a4, by rw [h1]; exact a5.mv hal h2, a6, by rw [hal.findClass]; exact a7, a8, a9, by rw [h1, h2]; exact a10, by rw [h1, h2]; exact a11⟩
namespace New4
def yN : MethodName := ⟨"java/lang/String", "<init>", "([CIILjava/lang/Void;)V"⟩
abbrev yB : ByteArray := jdk_42_method_149_code
theorem d0 : decode yB 0 = .ok (.aload_n 0, 1) := by decide +kernel
theorem d1 : decode yB 1 = .ok (.invokespecial 1, 3) := by decide +kernel
theorem d4 : decode yB 4 = .ok (.iload_n 3, 1) := by decide +kernel
theorem d5 : decode yB 5 = .ok (.ifCond (.ne) 22, 3) := by decide +kernel
theorem d27 : decode yB 27 = .ok (.getstatic 38, 3) := by decide +kernel
theorem d30 : decode yB 30 = .ok (.ifCond (.eq) 28, 3) := by decide +kernel
theorem d33 : decode yB 33 = .ok (.aload_n 1, 1) := by decide +kernel
theorem d34 : decode yB 34 = .ok (.iload_n 2, 1) := by decide +kernel
theorem d35 : decode yB 35 = .ok (.iload_n 3, 1) := by decide +kernel
theorem d36 : decode yB 36 = .ok (.invokestatic 177, 3) := by decide +kernel
theorem d39 : decode yB 39 = .ok (.astore 5, 2) := by decide +kernel
theorem d41 : decode yB 41 = .ok (.aload_n 0, 1) := by decide +kernel
theorem d42 : decode yB 42 = .ok (.aload 5, 2) := by decide +kernel
theorem d44 : decode yB 44 = .ok (.iload_n 3, 1) := by decide +kernel
theorem d45 : decode yB 45 = .ok (.invokestatic 47, 3) := by decide +kernel
theorem d48 : decode yB 48 = .ok (.putfield 15, 3) := by decide +kernel
theorem d51 : decode yB 51 = .ok (.aload_n 0, 1) := by decide +kernel
theorem d52 : decode yB 52 = .ok (.aload 5, 2) := by decide +kernel
theorem d54 : decode yB 54 = .ok (.putfield 9, 3) := by decide +kernel
theorem d57 : decode yB 57 = .ok (.return_, 1) := by decide +kernel
def site : List Cond := [.fieldLink "java/lang/String" 38 "java/lang/String" "COMPACT_STRINGS" "Z", Cmp3.tab, CodL.tab, .laysFinal "java/lang/String" "java/lang/String" "value" "[B", .fieldLink "java/lang/String" 9 "java/lang/String" "value" "[B", .laysFinal "java/lang/String" "java/lang/String" "coder" "B", .fieldLink "java/lang/String" 15 "java/lang/String" "coder" "B"] ++ objW "java/lang/String" 1 ++ staticW "java/lang/String" 177 Cmp3.yN ++ staticW "java/lang/String" 47 CodL.yN
def tab : Cond := tabOf yN yB 6 none site
def P (a : Addr) (D : Cell) (fV fC : Field) (b : Addr) (A : Cell) (z : Int32) (o len : Nat) (args : Array Value) (s : State) : Prop := args = #[.ref a, .ref b, .int (Int32.ofNat o), .int (Int32.ofNat len), .null] ∧ Blank "java/lang/String" a D s ∧ Found "java/lang/String" "value" "[B" fV s ∧ Found "java/lang/String" "coder" "B" fC s ∧ Ch b A s ∧ StaticIs s "java/lang/String" "COMPACT_STRINGS" "Z" (.int z) ∧ ¬ z = 0 ∧ 0 < len ∧ o + len ≤ A.slots.size ∧ len ≤ 536870912 ∧ ∀ i, i < len → ¬ 255 < cv A (o + i)
def E (a : Addr) (D : Cell) (fV fC : Field) (A : Cell) (o len : Nat) (r : Option Value) (s u : State) : Prop := Got a D fV fC A o len r s u
/-- len > 0, no char of the range above 255: a Latin-1 String of their low bytes -/
theorem law (l : Launch) (a : Addr) (D : Cell) (fV fC : Field) (b : Addr) (A : Cell) (z : Int32) (o len : Nat) : Law l yN 5 4 2 35 yB 6 none site (P a D fV fC b A z o len) (E a D fV fC A o len) [⟨a, fC.slot⟩, ⟨a, fV.slot⟩] 1 len := by
  refine Law.of_walk (plainFor_of_name (by decide +kernel)) (by decide +kernel) (by decide +kernel) (by decide) (fun _ _ h => by rw [h.1]; rfl) (fun _ U U' hal hh h => ⟨h.1, h.2.1.mv hal hh, h.2.2.1.al hal, h.2.2.2.1.al hal, h.2.2.2.2.1.mv hal hh, h.2.2.2.2.2.1.there hal hh, h.2.2.2.2.2.2⟩) (fun r U U' V V' h1 hal h2 h => Got.mv r U U' V V' h1 hal h2 h) ?_
  intro p e s m args below meth c s₁ X0 hexec hbytes hml hret hlk hnm hown hh0 W hP
  obtain ⟨rfl, hB, f1, f2, hA, s1, hz, l0, l1, l2, hp⟩ := hP
  have a31 := hA.1.2.2.2
  have c1 : Steps p.tables e below (s₁.setTop (entryFrame m #[.ref a, .ref b, .int (Int32.ofNat o), .int (Int32.ofNat len), .null] 6)) (s₁.setTop (mkF m 0 #[.val (.ref a), .val (.ref b), .val (.int (Int32.ofNat o)), .val (.int (Int32.ofNat len)), .val .null, .unset] [])) := entry rfl
  have c2 : Steps p.tables e below (s₁.setTop (entryFrame m #[.ref a, .ref b, .int (Int32.ofNat o), .int (Int32.ofNat len), .null] 6)) (s₁.setTop (mkF m 1 #[.val (.ref a), .val (.ref b), .val (.int (Int32.ofNat o)), .val (.int (Int32.ofNat len)), .val .null, .unset] [.ref a])) := c1.trans (by
    refine XS.aloadN X0.here hexec rfl (hb hbytes d0) rfl rfl ?_
    exact Steps.refl _)
  obtain ⟨T3, X3, q3, st3⟩ := X0.oinit hexec hown (wks W (objW "java/lang/String" 1)) (g := (mkF m 1 #[.val (.ref a), .val (.ref b), .val (.int (Int32.ofNat o)), .val (.int (Int32.ofNat len)), .val .null, .unset] [.ref a])) rfl (by rw [hml]; rfl) (rest := []) rfl (hb hbytes d1) (W := 0) (by show 2 * 0 + 0 ≤ _; decide) (Nat.le_of_ble_eq_true rfl) (Nat.le_of_ble_eq_true rfl)
  have hh3 := q3.trans hh0
  have c4 : Steps p.tables e below (s₁.setTop (entryFrame m #[.ref a, .ref b, .int (Int32.ofNat o), .int (Int32.ofNat len), .null] 6)) (T3.setTop (mkF m 27 #[.val (.ref a), .val (.ref b), .val (.int (Int32.ofNat o)), .val (.int (Int32.ofNat len)), .val .null, .unset] [])) := (c2.trans (st3 _ (Steps.refl _))).trans (by
    refine XS.iloadN X3.here hexec rfl (hb hbytes d4) rfl ?_
    refine XS.ifYes X3.here hexec rfl (pc0 := 5) rfl (hb hbytes d5) rfl (i0_ne_t (nz32 (by omega) l0)) (by decide) rfl ?_
    exact Steps.refl _)
  obtain ⟨T5, X5, q5, st5⟩ := X3.sget hexec hown (wk W (.fieldLink "java/lang/String" 38 "java/lang/String" "COMPACT_STRINGS" "Z")) s1 (fun _ _ h => by rw [hh3]; exact h) (g := (mkF m 27 #[.val (.ref a), .val (.ref b), .val (.int (Int32.ofNat o)), .val (.int (Int32.ofNat len)), .val .null, .unset] [])) rfl (hb hbytes d27)
  have hh5 := q5.trans hh3
  have c6 : Steps p.tables e below (s₁.setTop (entryFrame m #[.ref a, .ref b, .int (Int32.ofNat o), .int (Int32.ofNat len), .null] 6)) (T5.setTop (mkF m 30 #[.val (.ref a), .val (.ref b), .val (.int (Int32.ofNat o)), .val (.int (Int32.ofNat len)), .val .null, .unset] [.int z])) := c4.trans (st5 _ (Steps.refl _))
  have c7 : Steps p.tables e below (s₁.setTop (entryFrame m #[.ref a, .ref b, .int (Int32.ofNat o), .int (Int32.ofNat len), .null] 6)) (T5.setTop (mkF m 36 #[.val (.ref a), .val (.ref b), .val (.int (Int32.ofNat o)), .val (.int (Int32.ofNat len)), .val .null, .unset] [.int (Int32.ofNat len), .int (Int32.ofNat o), .ref b])) := c6.trans (by
    refine XS.ifNo X5.here hexec rfl (hb hbytes d30) rfl (i0_eq_f hz) ?_
    refine XS.aloadN X5.here hexec rfl (hb hbytes d33) rfl rfl ?_
    refine XS.iloadN X5.here hexec rfl (hb hbytes d34) rfl ?_
    refine XS.iloadN X5.here hexec rfl (hb hbytes d35) rfl ?_
    exact Steps.refl _)
  obtain ⟨v8, T8, X8, E8, g8⟩ := X5.callS hexec (Cmp3.law l b A o len) hown (wks W (staticW "java/lang/String" 177 Cmp3.yN)) (wk W Cmp3.tab) (W := 0) (Nat.le_of_ble_eq_true rfl) (Nat.le_of_ble_eq_true rfl) (Nat.le_refl _) (by show 0 + len ≤ len; omega) (g := (mkF m 36 #[.val (.ref a), .val (.ref b), .val (.int (Int32.ofNat o)), .val (.int (Int32.ofNat len)), .val .null, .unset] [.int (Int32.ofNat len), .int (Int32.ofNat o), .ref b])) rfl (by rw [hml]; rfl) c7 (argsL := [.ref b, .int (Int32.ofNat o), .int (Int32.ofNat len)]) (rest := []) rfl rfl (by show 2 * 0 + 0 ≤ _; decide) (hb hbytes d36) (⟨rfl, hA.mv X5.warmed.alike hh5, l1, l2, hp⟩)
  obtain ⟨e8, z8⟩ := E8
  obtain ⟨rfl, N, n1, n2, n3, n4, n5, n6⟩ := NewArr.mv _ T5 s _ _ hh5.symm (Vm.Alike.refl _) rfl e8
  rw [hh5] at z8
  have hB1 := hB.keep X8.warmed.alike (n6 _ _ hB.1)
  have hne : s.heap.size ≠ a := (Nat.ne_of_lt (Array.getElem?_eq_some_iff.mp hB.1).1).symm
  have c9 : Steps p.tables e below (s₁.setTop (entryFrame m #[.ref a, .ref b, .int (Int32.ofNat o), .int (Int32.ofNat len), .null] 6)) (T8.setTop (mkF m 39 #[.val (.ref a), .val (.ref b), .val (.int (Int32.ofNat o)), .val (.int (Int32.ofNat len)), .val .null, .unset] [.ref s.heap.size])) := g8
  have c10 : Steps p.tables e below (s₁.setTop (entryFrame m #[.ref a, .ref b, .int (Int32.ofNat o), .int (Int32.ofNat len), .null] 6)) (T8.setTop (mkF m 45 #[.val (.ref a), .val (.ref b), .val (.int (Int32.ofNat o)), .val (.int (Int32.ofNat len)), .val .null, .val (.ref s.heap.size)] [.int (Int32.ofNat N.slots.size), .ref s.heap.size, .ref a])) := by
    have hc : Steps p.tables e below (s₁.setTop (entryFrame m #[.ref a, .ref b, .int (Int32.ofNat o), .int (Int32.ofNat len), .null] 6)) (T8.setTop (mkF m 45 #[.val (.ref a), .val (.ref b), .val (.int (Int32.ofNat o)), .val (.int (Int32.ofNat len)), .val .null, .val (.ref s.heap.size)] [.int (Int32.ofNat len), .ref s.heap.size, .ref a])) := c9.trans (by
      refine XS.astore X8.here hexec rfl (hb hbytes d39) rfl rfl rfl ?_
      refine XS.aloadN X8.here hexec rfl (hb hbytes d41) rfl rfl ?_
      refine XS.aload X8.here hexec rfl (hb hbytes d42) rfl rfl ?_
      refine XS.iloadN X8.here hexec rfl (hb hbytes d44) rfl ?_
      exact Steps.refl _)
    rw [n4]; exact hc
  obtain ⟨v11, T11, X11, E11, g11⟩ := X8.callS hexec (CodL.law l s.heap.size N) hown (wks W (staticW "java/lang/String" 47 CodL.yN)) (wk W CodL.tab) (W := 1) (Nat.le_of_ble_eq_true rfl) (Nat.le_of_ble_eq_true rfl) (Nat.le_refl _) (by show 0 + len + 0 ≤ len; omega) (g := (mkF m 45 #[.val (.ref a), .val (.ref b), .val (.int (Int32.ofNat o)), .val (.int (Int32.ofNat len)), .val .null, .val (.ref s.heap.size)] [.int (Int32.ofNat N.slots.size), .ref s.heap.size, .ref a])) rfl (by rw [hml]; rfl) c10 (argsL := [.ref s.heap.size, .int (Int32.ofNat N.slots.size)]) (rest := [.ref a]) rfl rfl (by show 2 * 0 + (1 + 0) ≤ _; decide) (hb hbytes d45) (⟨rfl, n1⟩)
  obtain ⟨rfl, q11⟩ := E11
  have hB11 := hB1.mv (X8.warmed.alike.symm.trans X11.warmed.alike) q11
  have c12 : Steps p.tables e below (s₁.setTop (entryFrame m #[.ref a, .ref b, .int (Int32.ofNat o), .int (Int32.ofNat len), .null] 6)) (T11.setTop (mkF m 48 #[.val (.ref a), .val (.ref b), .val (.int (Int32.ofNat o)), .val (.int (Int32.ofNat len)), .val .null, .val (.ref s.heap.size)] [.int 0, .ref a])) := g11
  obtain ⟨T13, X13, p13, bl13, sl13, st13⟩ := X11.finit hexec hown (wk W (.fieldLink "java/lang/String" 15 "java/lang/String" "coder" "B")) (Or.inr ⟨_, (wk W (.laysFinal "java/lang/String" "java/lang/String" "coder" "B"))⟩) (Or.inl ⟨rfl, hnm⟩) f2 (Or.inl rfl) hB11 (t := .byte) (by decide +kernel) rfl (g := (mkF m 48 #[.val (.ref a), .val (.ref b), .val (.int (Int32.ofNat o)), .val (.int (Int32.ofNat len)), .val .null, .val (.ref s.heap.size)] [.int 0, .ref a])) rfl (rest := []) rfl (hb hbytes d48)
  have c14 : Steps p.tables e below (s₁.setTop (entryFrame m #[.ref a, .ref b, .int (Int32.ofNat o), .int (Int32.ofNat len), .null] 6)) (T13.setTop (mkF m 54 #[.val (.ref a), .val (.ref b), .val (.int (Int32.ofNat o)), .val (.int (Int32.ofNat len)), .val .null, .val (.ref s.heap.size)] [.ref s.heap.size, .ref a])) := (c12.trans (st13 _ (Steps.refl _))).trans (by
    refine XS.aloadN X13.here hexec rfl (hb hbytes d51) rfl rfl ?_
    refine XS.aload X13.here hexec rfl (hb hbytes d52) rfl rfl ?_
    exact Steps.refl _)
  obtain ⟨T15, X15, p15, bl15, sl15, st15⟩ := X13.finit hexec hown (wk W (.fieldLink "java/lang/String" 9 "java/lang/String" "value" "[B")) (Or.inr ⟨_, (wk W (.laysFinal "java/lang/String" "java/lang/String" "value" "[B"))⟩) (Or.inl ⟨rfl, hnm⟩) f1 (Or.inl rfl) bl13 (t := (.array .byte)) (by decide +kernel) rfl (g := (mkF m 54 #[.val (.ref a), .val (.ref b), .val (.int (Int32.ofNat o)), .val (.int (Int32.ofNat len)), .val .null, .val (.ref s.heap.size)] [.ref s.heap.size, .ref a])) rfl (rest := []) rfl (hb hbytes d54)
  have c16 : Steps p.tables e below (s₁.setTop (entryFrame m #[.ref a, .ref b, .int (Int32.ofNat o), .int (Int32.ofNat len), .null] 6)) (T15.setTop (mkF m 57 #[.val (.ref a), .val (.ref b), .val (.int (Int32.ofNat o)), .val (.int (Int32.ofNat len)), .val .null, .val (.ref s.heap.size)] [])) := c14.trans (st15 _ (Steps.refl _))
  have ap := apart (Or.inr ⟨_, (wk W (.laysFinal "java/lang/String" "java/lang/String" "value" "[B"))⟩) (Or.inr ⟨_, (wk W (.laysFinal "java/lang/String" "java/lang/String" "coder" "B"))⟩) f1 f2 (t₁ := .array .byte) (t₂ := .byte) (by decide +kernel) (by decide +kernel) (by decide)
  have al := X8.warmed.alike.symm.trans X15.warmed.alike
  have n7 : T11.heap[s.heap.size]? = some N := by rw [q11]; exact n1.1
  exact ⟨T15, none, _, _, _, X15, by simp, rfl, by omega, (fun _ => rfl), ⟨rfl, _, N, bl15, ((Same.refl D _).set _ (by simp)).set _ (by simp), sl15, (Cell.slots_setSlot_ne _ ap).trans sl13, n1.keep al (p15.other hne (p13.other hne n7)), n2, by rw [al.findClass]; exact n3, n4, n5, fun y c h1 h2 => p15.other h1 (p13.other h1 (by rw [q11]; exact n6 y c h2)), by rw [p15.2.2, p13.2.2, q11]; exact z8⟩, fun fs hl => c16.trans (X15.returnOut hexec hret (hb hbytes d57) hl)⟩
end New4
namespace New1
def yN : MethodName := ⟨"java/lang/String", "<init>", "([C)V"⟩
abbrev yB : ByteArray := jdk_42_method_3_code
theorem d0 : decode yB 0 = .ok (.aload_n 0, 1) := by decide +kernel
theorem d1 : decode yB 1 = .ok (.aload_n 1, 1) := by decide +kernel
theorem d2 : decode yB 2 = .ok (.iconst 0, 1) := by decide +kernel
theorem d3 : decode yB 3 = .ok (.aload_n 1, 1) := by decide +kernel
theorem d4 : decode yB 4 = .ok (.arraylength, 1) := by decide +kernel
theorem d5 : decode yB 5 = .ok (.aconst_null, 1) := by decide +kernel
theorem d6 : decode yB 6 = .ok (.invokespecial 27, 3) := by decide +kernel
theorem d9 : decode yB 9 = .ok (.return_, 1) := by decide +kernel
def site : List Cond := [New4.tab] ++ initW "java/lang/String" 27 New4.yN
def tab : Cond := tabOf yN yB 2 none site
def P (a : Addr) (D : Cell) (fV fC : Field) (b : Addr) (A : Cell) (z : Int32) (args : Array Value) (s : State) : Prop := args = #[.ref a, .ref b] ∧ Blank "java/lang/String" a D s ∧ Found "java/lang/String" "value" "[B" fV s ∧ Found "java/lang/String" "coder" "B" fC s ∧ Ch b A s ∧ StaticIs s "java/lang/String" "COMPACT_STRINGS" "Z" (.int z) ∧ ¬ z = 0 ∧ 0 < A.slots.size ∧ A.slots.size ≤ 536870912 ∧ ∀ i, i < A.slots.size → ¬ 255 < cv A i
def E (a : Addr) (D : Cell) (fV fC : Field) (A : Cell) (r : Option Value) (s u : State) : Prop := Got a D fV fC A 0 A.slots.size r s u
/-- new String(chars), not empty, no char above 255: a Latin-1 String of their low bytes -/
theorem law (l : Launch) (a : Addr) (D : Cell) (fV fC : Field) (b : Addr) (A : Cell) (z : Int32) : Law l yN 2 1 3 52 yB 2 none site (P a D fV fC b A z) (E a D fV fC A) [⟨a, fC.slot⟩, ⟨a, fV.slot⟩] 1 A.slots.size := by
  refine Law.of_walk (plainFor_of_name (by decide +kernel)) (by decide +kernel) (by decide +kernel) (by decide) (fun _ _ h => by rw [h.1]; rfl) (fun _ U U' hal hh h => ⟨h.1, h.2.1.mv hal hh, h.2.2.1.al hal, h.2.2.2.1.al hal, h.2.2.2.2.1.mv hal hh, h.2.2.2.2.2.1.there hal hh, h.2.2.2.2.2.2⟩) (fun r U U' V V' h1 hal h2 h => Got.mv r U U' V V' h1 hal h2 h) ?_
  intro p e s m args below meth c s₁ X0 hexec hbytes hml hret hlk hnm hown hh0 W hP
  obtain ⟨rfl, hB, f1, f2, hA, s1, hz, l0, l2, hp⟩ := hP
  have c1 : Steps p.tables e below (s₁.setTop (entryFrame m #[.ref a, .ref b] 2)) (s₁.setTop (mkF m 0 #[.val (.ref a), .val (.ref b)] [])) := entry rfl
  have c2 : Steps p.tables e below (s₁.setTop (entryFrame m #[.ref a, .ref b] 2)) (s₁.setTop (mkF m 6 #[.val (.ref a), .val (.ref b)] [.null, .int (Int32.ofNat A.slots.size), .int 0, .ref b, .ref a])) := c1.trans (by
    refine XS.aloadN X0.here hexec rfl (hb hbytes d0) rfl rfl ?_
    refine XS.aloadN X0.here hexec rfl (hb hbytes d1) rfl rfl ?_
    refine iconstV X0.here hexec rfl 0 (hb hbytes d2) (by decide) ?_
    refine XS.aloadN X0.here hexec rfl (hb hbytes d3) rfl rfl ?_
    refine X0.alen hexec (hA.1.mv X0.warmed.alike hh0) rfl rfl (hb hbytes d4) ?_
    refine XS.aconstNull X0.here hexec rfl (hb hbytes d5) ?_
    exact Steps.refl _)
  obtain ⟨v3, T3, X3, E3, g3⟩ := X0.callN hexec (New4.law l a D fV fC b A z 0 A.slots.size) rfl hown (wks W (initW "java/lang/String" 27 New4.yN)) (W New4.tab (by simp only [site, List.mem_cons, List.mem_append, true_or, or_true])) (W := 0) (Nat.le_of_ble_eq_true rfl) (Nat.le_of_ble_eq_true rfl) (Nat.le_refl _) (by show 0 + A.slots.size ≤ A.slots.size; omega) (g := (mkF m 6 #[.val (.ref a), .val (.ref b)] [.null, .int (Int32.ofNat A.slots.size), .int (Int32.ofNat 0), .ref b, .ref a])) rfl (by rw [hml]; rfl) c2 (argsL := [.ref b, .int (Int32.ofNat 0), .int (Int32.ofNat A.slots.size), .null]) (rest := []) rfl rfl (by show 2 * 0 + 0 ≤ _; decide) (hb hbytes d6) (⟨rfl, hB.mv X0.warmed.alike hh0, f1.al X0.warmed.alike, f2.al X0.warmed.alike, hA.mv X0.warmed.alike hh0, s1.there X0.warmed.alike hh0, hz, l0, by omega, l2, fun i hi => by rw [Nat.zero_add]; exact hp i hi⟩)
  have e0 := Got.mv _ s₁ s _ _ hh0.symm (Vm.Alike.refl _) rfl E3
  obtain rfl := e0.1
  have c4 : Steps p.tables e below (s₁.setTop (entryFrame m #[.ref a, .ref b] 2)) (T3.setTop (mkF m 9 #[.val (.ref a), .val (.ref b)] [])) := g3
  exact ⟨T3, none, _, _, _, X3, by simp, rfl, by omega, (fun _ => rfl), e0, fun fs hl => c4.trans (X3.returnOut hexec hret (hb hbytes d9) hl)⟩
theorem pays {l : Launch} {R : Room} {p : Program} {e : Env} {below : List Frame} {s : State} {sargs : Array Value} {len W : Nat} (a : Addr) (D : Cell) (fV fC : Field) (b : Addr) (A : Cell) (z : Int32) (htab : tab.before sargs s = true) (hfr : 4 ≤ R.frames) (hlo : W + 65 ≤ R.locals) :
    Back l R p e below s sargs yN len W (fun A₁ a₁ => A₁.cells + 1 ≤ R.cells ∧ A₁.slots + A.slots.size ≤ R.slots ∧ P a D fV fC b A z a₁ A₁.U) (fun A₁ _ v₁ B₁ => E a D fV fC A v₁ A₁.U B₁.U ∧ B₁.locs = A₁.locs ++ [⟨a, fC.slot⟩, ⟨a, fV.slot⟩] ∧ B₁.cells = A₁.cells + 1 ∧ B₁.slots = A₁.slots + A.slots.size) :=
  (law l a D fV fC b A z).pays htab hfr (by omega)
end New1
end StrChars
namespace StrChars.Road
open Jvm Sem ClassFile Op Lib Jvm.Stand Jvm.Free Jvm.Free.XT
open Jvm.Lib.Cold (StaticIs)
abbrev ST : String := "java/lang/String"
/-- every table word that New1's law asks, flat -/
abbrev words : List Jvm.Cond := [.code New1.yN New1.yB 2 none, .initialized ST, .methodLink ST 27 New4.yN, .instanceMethod New4.yN,
  .code New4.yN New4.yB 6 none, .fieldLink ST 38 ST "COMPACT_STRINGS" "Z", .laysFinal ST ST "value" "[B", .fieldLink ST 9 ST "value" "[B", .laysFinal ST ST "coder" "B", .fieldLink ST 15 ST "coder" "B",
  .methodLink ST 1 Lib.objectInit, .instanceMethod Lib.objectInit, .code Lib.objectInit ⟨#[0xb1]⟩ 1 none, .methodLink ST 177 Cmp3.yN, .static Cmp3.yN, .methodLink ST 47 CodL.yN, .static CodL.yN,
  .code Cmp3.yN Cmp3.yB 6 (some (.array .byte)), .initialized U16, .arrayClass .byte, .methodLink U16 115 Cmp5.yN, .static Cmp5.yN, .code Cmp5.yN Cmp5.yB 7 (some .int), .code CodL.yN CodL.yB 2 (some .byte)]
theorem tab_of {a : Array Value} {s : State} (h : ∀ w ∈ words, w.before a s = true) : New1.tab.before a s = true := by
  have h5 : Cmp5.tab.before a s = true := unparts (wk h (.code Cmp5.yN Cmp5.yB 7 (some .int))) (wks h (.initialized Cmp5.yN.cls :: Cmp5.site))
  have hc : CodL.tab.before a s = true := unparts (wk h (.code CodL.yN CodL.yB 2 (some .byte))) (wks h (.initialized CodL.yN.cls :: CodL.site))
  have q5 : ∀ w ∈ Cmp5.tab :: words, w.before a s = true := fun w hw => (List.mem_cons.mp hw).elim (fun e => e ▸ h5) (h w)
  have h3 : Cmp3.tab.before a s = true := unparts (wk q5 (.code Cmp3.yN Cmp3.yB 6 (some (.array .byte)))) (wks q5 (.initialized Cmp3.yN.cls :: Cmp3.site))
  have q3 : ∀ w ∈ Cmp3.tab :: CodL.tab :: words, w.before a s = true := fun w hw => (List.mem_cons.mp hw).elim (fun e => e ▸ h3) fun hw => (List.mem_cons.mp hw).elim (fun e => e ▸ hc) (h w)
  have h4 : New4.tab.before a s = true := unparts (wk q3 (.code New4.yN New4.yB 6 none)) (wks q3 (.initialized New4.yN.cls :: New4.site))
  have q4 : ∀ w ∈ New4.tab :: words, w.before a s = true := fun w hw => (List.mem_cons.mp hw).elim (fun e => e ▸ h4) (h w)
  exact unparts (wk q4 (.code New1.yN New1.yB 2 none)) (wks q4 (.initialized New1.yN.cls :: New1.site))
/-- the words ride from the start Z to the walk's own state -/
theorem moved {Z s : State} {a0 args : Array Value} (hZ : Z.Warmed39 s.vm) (hw : ∀ d ∈ words, d.before a0 Z = true) : ∀ d ∈ words, d.before args s = true := fun d hd => by
  have q := hw d hd
  have t : ∀ d ∈ words, d = .arrayClass .byte ∨ (d.onTables && d.keepsFace) = true := by decide +kernel
  rcases t d hd with rfl | t
  · exact RoadKit.mvA hZ q
  · exact RoadKit.mv hZ q t
/-- WHAT COMES BACK, over the tables of the start Z: h the heap at the call, h' behind it -/
def Q (Z : State) (x : Addr) (A : Cell) (h : Heap) (v : Option Value) (h' : Heap) (L : List Loc) : Prop := v = none ∧ (∀ y ∈ L, y.base = x) ∧ RoadKit.Keep h h' [x] ∧ h'.size = h.size + 1 ∧ RoadKit.Exa Z h' x ST ∧ RoadKit.Fld Z h' x ST "value" "[B" (.ref h.size) ∧ RoadKit.Fld Z h' x ST "coder" "B" (.int 0) ∧
  (∃ V : Cell, RoadKit.Arr Z h' h.size V .byte ∧ V.vm = .none ∧ Z.vm.findClass "[B" = some V.cls ∧ V.slots.size = A.slots.size ∧ ∀ j, j < A.slots.size → V.slots[j]? = some (.int (lo8 (cv A j)))) ∧
  ∀ (O n d : String) (w : Value), RoadKit.Fld Z h x O n d w → RoadKit.slotOf Z O n d ≠ RoadKit.slotOf Z ST "value" "[B" → RoadKit.slotOf Z O n d ≠ RoadKit.slotOf Z ST "coder" "B" → RoadKit.Fld Z h' x O n d w
/-- **new String(chars) AT A CALL, IN THE ROAD'S FORM**: for specialBack behind newO: x the fresh String, b the char[] with the cell A -/
theorem back {p : Program} {l : Launch} {e : Env} {R : Room} {s : State} {args : Array Value} {below : List Frame} {len W : Nat} {Z : State} {a0 : Array Value} {h : Heap} (hZ : Z.Warmed39 s.vm) (hw : ∀ d ∈ words, d.before a0 Z = true) {kI : Nat} (wi : (Jvm.Cond.instantiable ST kI).before a0 Z = true)
    {x b : Addr} {A : Cell} {z : Int32} {v0 c0 : Value} (E : RoadKit.Exa Z h x ST) (V : RoadKit.Fld Z h x ST "value" "[B" v0) (C : RoadKit.Fld Z h x ST "coder" "B" c0) (K : RoadKit.Arr Z h b A .char) (hty : Typed .char A) (S : RoadKit.Sta Z h ST "COMPACT_STRINGS" "Z" (.int z)) (hz : ¬ z = 0)
    (l0 : 0 < A.slots.size) (l2 : A.slots.size ≤ 536870912) (hp : ∀ i, i < A.slots.size → ¬ 255 < cv A i) (hfr : 4 ≤ R.frames) (hlo : W + 65 ≤ R.locals) :
    Back l R p e below s args New1.yN len W (fun P a => a = #[.ref x, .ref b] ∧ P.U.heap = h ∧ P.cells + 1 ≤ R.cells ∧ P.slots + A.slots.size ≤ R.slots)
      (fun P _ v B => ∃ L, Q Z x A h v B.U.heap L ∧ B.locs = P.locs ++ L ∧ B.cells = P.cells + 1 ∧ B.slots = P.slots + A.slots.size) := by
  intro m meth c P g ig mk a X hg hsize hdg hW hn hp'
  obtain ⟨rfl, rfl, r1, r2⟩ := hp'
  have al : Z.vm.Alike P.U.vm := hZ.alike.trans X.warmed.alike
  obtain ⟨D, cfV, kV, iV, fV, hD, gV, stV, knV, obV, asV, slV⟩ := id V
  obtain ⟨D', cfC, kC, iC, fC, hD', gC, stC, -, -, asC, slC⟩ := id C
  cases hD.symm.trans hD'
  obtain ⟨D2, kD, e1, e2, e3, e4, e5⟩ := id E
  cases hD.symm.trans e1
  obtain ⟨c2, k2, i1, i2, i3, -⟩ := Cond.instantiable_spec wi
  cases e2.symm.trans i1
  cases e3.symm.trans i2
  obtain ⟨kU, u1, u2⟩ := al.2.2 _ _ e3
  have hB : Blank ST x D P.U := ⟨hD, ⟨knV, fun q hq => by rw [hq] at obV; cases obV⟩, by rw [al.findClass]; exact e2, kU, u1, by rw [u2]; exact i3, by rw [u2]; exact e5 i3⟩
  have F1 : Found ST "value" "[B" fV P.U := ⟨SBG.found_only al ⟨cfV, kV, iV, gV⟩, stV⟩
  have F2 : Found ST "coder" "B" fC P.U := ⟨SBG.found_only al ⟨cfC, kC, iC, gC⟩, stC⟩
  have hA : Ch b A P.U := ⟨⟨K.1, State.isArrayOf_alike al K.2.1, K.2.2, by omega⟩, hty⟩
  have hS : StaticIs P.U ST "COMPACT_STRINGS" "Z" (.int z) := by
    obtain ⟨cfS, iS, kS, fS, st, cS, t1, t2, t3, t4, t5, t6, t7⟩ := S
    exact StaticIs.there (s := { Z with heap := P.U.heap }) ⟨cfS, iS, kS, fS, st, cS, t1, t2, t3, t4, t5, (fun q => by rw [q] at t6; cases t6), t7⟩ al rfl
  obtain ⟨v, B, X', ⟨⟨hv, E', V', q1, q2, q3, q4, q5, q6, q7, q8, q9, q10, q11⟩, hl, hc, hs⟩, st⟩ := New1.pays x D fV fC b A z (tab_of (moved hZ hw)) hfr hlo m meth c P g ig mk _ X hg hsize hdg hW hn ⟨r1, r2, rfl, hB, F1, F2, hA, hS, hz, l0, l2, hp⟩
  have al' : Z.vm.Alike B.U.vm := hZ.alike.trans X'.warmed.alike
  have hsz : E'.slots.size = D.slots.size := by
    obtain ⟨-, -, -, kB, w1, w2, w3⟩ := q1
    obtain ⟨kB', y1, y2⟩ := al'.2.2 _ _ e3
    rw [q2.2.1] at w1
    cases w1.symm.trans y1
    rw [w3, e5 i3, y2]
  refine ⟨v, B, X', ⟨_, ⟨hv, ?_, ⟨by omega, fun y cy hy hn' => q10 y cy (by simpa using hn') hy, fun y cy hy => ?_⟩, q11, ⟨E', _, q1.1, by rw [q2.2.1]; exact e2, by rw [q2.2.1]; exact e3, by rw [q2.1]; exact obV, fun _ => by rw [hsz]; exact e5 i3⟩,
    ⟨E', cfV, kV, iV, fV, q1.1, gV, stV, by rw [q2.1]; exact knV, by rw [q2.1]; exact obV, by rw [q2.2.1]; exact asV, q3⟩, ⟨E', cfC, kC, iC, fC, q1.1, gC, stC, by rw [q2.1]; exact knV, by rw [q2.1]; exact obV, by rw [q2.2.1]; exact asC, q4⟩,
    ⟨V', ⟨q5.1, State.isArrayOf_alike al'.symm q5.2.1, q5.2.2.1⟩, q6, by rw [← al'.findClass]; exact q7, q8, fun j hj => by have := q9 j hj; rwa [Nat.zero_add] at this⟩, fun O n d w F n1 n2 => ?_⟩, hl, hc, hs⟩, st⟩
  · intro y hy
    simp only [List.mem_cons, List.not_mem_nil, or_false] at hy
    rcases hy with rfl | rfl <;> rfl
  · by_cases q : y = x
    · subst q
      cases hD.symm.trans hy
      exact ⟨E', q1.1, q2.2.1, q2.1, hsz⟩
    · exact ⟨cy, q10 y cy q hy, rfl, rfl, rfl⟩
  · obtain ⟨D3, cf, k, i, f, g1, g2, g3, g4, g5, g6, g7⟩ := F
    cases hD.symm.trans g1
    simp only [RoadKit.slotOf, g2, gV, gC, Option.map_some, Option.getD_some] at n1 n2
    exact ⟨E', cf, k, i, f, q1.1, g2, g3, by rw [q2.1]; exact g4, by rw [q2.1]; exact g5, by rw [q2.2.1]; exact g6, by rw [q2.2.2 f.slot (by simp [n1, n2])]; exact g7⟩
end StrChars.Road
namespace StrChars.Road
open Jvm Sem ClassFile Op Lib Jvm.Stand Jvm.Free Jvm.Free.XT
/-- WHAT COMES BACK, the byte[] as a list of values -/
def QA (Z : State) (x : Addr) (zn : Int32) (cs : List Int32) (h : Heap) (v : Option Value) (h' : Heap) (L : List Loc) : Prop := v = none ∧ (∀ y ∈ L, y.base = x) ∧ RoadKit.Keep h h' [x] ∧ h'.size = h.size + 1 ∧ RoadKit.Exa Z h' x ST ∧ RoadKit.Fld Z h' x ST "value" "[B" (.ref h.size) ∧ RoadKit.Fld Z h' x ST "coder" "B" (.int 0) ∧
  (∃ kb, Z.vm.findClass "[B" = some kb ∧ RoadKit.Arv Z h' h.size kb .byte zn (cs.map fun c => .int (lo8 c)) (.int 0)) ∧
  ∀ (O n d : String) (w : Value), RoadKit.Fld Z h x O n d w → RoadKit.slotOf Z O n d ≠ RoadKit.slotOf Z ST "value" "[B" → RoadKit.slotOf Z O n d ≠ RoadKit.slotOf Z ST "coder" "B" → RoadKit.Fld Z h' x O n d w
/-- **new String(chars) AT A CALL, THE ARRAYS AS LISTS**: the char[] at b holds cs, not empty, no char above 255 -/
theorem backArv {p : Program} {l : Launch} {e : Env} {R : Room} {s : State} {args : Array Value} {below : List Frame} {len W : Nat} {Z : State} {a0 : Array Value} {h : Heap} (hZ : Z.Warmed39 s.vm) (hw : ∀ d ∈ words, d.before a0 Z = true) {kI : Nat} (wi : (Jvm.Cond.instantiable ST kI).before a0 Z = true)
    {x b : Addr} {k : ClassId} {zn z : Int32} {cs : List Int32} {dv v0 c0 : Value} (E : RoadKit.Exa Z h x ST) (V : RoadKit.Fld Z h x ST "value" "[B" v0) (C : RoadKit.Fld Z h x ST "coder" "B" c0) (K : RoadKit.Arv Z h b k .char zn (cs.map Value.int) dv) (S : RoadKit.Sta Z h ST "COMPACT_STRINGS" "Z" (.int z)) (hz : ¬ z = 0)
    (hlen : zn.toNatClampNeg = cs.length) (h0 : 0 < cs.length) (hbig : cs.length ≤ 536870912) (hall : ∀ c ∈ cs, ¬ 255 < c) (hfr : 4 ≤ R.frames) (hlo : W + 65 ≤ R.locals) :
    Back l R p e below s args New1.yN len W (fun P a => a = #[.ref x, .ref b] ∧ P.U.heap = h ∧ P.cells + 1 ≤ R.cells ∧ P.slots + cs.length ≤ R.slots)
      (fun P _ v B => ∃ L, QA Z x zn cs h v B.U.heap L ∧ B.locs = P.locs ++ L ∧ B.cells = P.cells + 1 ∧ B.slots = P.slots + cs.length) := by
  obtain ⟨A, K1, K2, K3, K4, K5, K6⟩ := K
  have e : A.slots.size = cs.length := K3.trans hlen
  have hat : ∀ (i : Nat) (hi : i < cs.length), A.slots[i]? = some (.int cs[i]) := fun i hi => by rw [K5 i (by omega)]; simp [List.getD_eq_getElem?_getD, hi]
  have hcv : ∀ (i : Nat) (hi : i < cs.length), cv A i = cs[i] := fun i hi => by unfold cv; rw [hat i hi]
  have hty : Typed .char A := fun i v hv => by
    have hi : i < A.slots.size := (Array.getElem?_eq_some_iff.mp hv).1
    have q := K5 i hi
    rw [hv] at q
    rw [Option.some.inj q]
    exact K6 i hi
  refine Back.mono (back hZ hw wi E V C K1 hty S hz (by omega) (by omega) (fun i hi => by rw [hcv i (by omega)]; exact hall _ (List.getElem_mem _)) hfr hlo) (fun P a hp => ⟨hp.1, hp.2.1, hp.2.2.1, by rw [e]; exact hp.2.2.2⟩) (fun P a v B hp hq => ?_)
  obtain ⟨L, ⟨q1, q2, q3, q4, q5, q6, q7, ⟨V', v1, v2, v3, v4, v5⟩, q9⟩, hl, hc, hs⟩ := hq
  refine ⟨L, ⟨q1, q2, q3, q4, q5, q6, q7, ⟨V'.cls, v3, V', v1, rfl, by rw [v4, e, hlen], K4, fun i hi => ?_, fun i hi => ?_⟩, q9⟩, hl, hc, by rw [hs, e]⟩
  · have hi' : i < cs.length := by omega
    rw [v5 i (by omega), hcv i hi']; simp [List.getD_eq_getElem?_getD, hi']
  · have hi' : i < cs.length := by omega
    simp only [List.getD_eq_getElem?_getD, List.getElem?_map, List.getElem?_eq_getElem hi', Option.map_some, Option.getD_some]
    exact fits_lo8 _
end StrChars.Road
namespace StrChars.Road
open Jvm Sem ClassFile Op Lib Jvm.Stand Jvm.Free Jvm.Free.XT
/-- WHAT COMES BACK, in the writer's own shape -/
def QV (Z : State) (x : Addr) (N : Int32) (bs : List Int32) (h : Heap) (n0 : Nat) (v : Option Value) (h' : Heap) (L : List Loc) : Prop := v = none ∧ RoadKit.Fr n0 L ∧ RoadKit.Keep h h' [x] ∧ RoadKit.Exa Z h' x ST ∧ RoadKit.Fld Z h' x ST "coder" "B" (.int 0) ∧
  ∃ (t : Addr) (kb : ClassId), n0 ≤ t ∧ h.size ≤ t ∧ ¬ t = x ∧ RoadKit.Fld Z h' x ST "value" "[B" (.ref t) ∧ RoadKit.Arv Z h' t kb .byte N (bs.map Value.int) (.int 0)
/-- **new String(chars) AT A CALL, FOR THE WRITER**: a char[] of n known ints, each 0 to 255 -/
theorem backV {p : Program} {l : Launch} {e : Env} {R : Room} {s : State} {args : Array Value} {below : List Frame} {len W : Nat} {Z : State} {a0 : Array Value} {h : Heap} (hZ : Z.Warmed39 s.vm) (hw : ∀ d ∈ words, d.before a0 Z = true) {kI : Nat} (wi : (Jvm.Cond.instantiable ST kI).before a0 Z = true)
    {x b : Addr} {kC : ClassId} {cs bs : List Int32} {d v0 c0 : Value} {z N : Int32} {n n0 : Nat} (hx0 : n0 ≤ x) (hh0 : n0 ≤ h.size) (E : RoadKit.Exa Z h x ST) (V : RoadKit.Fld Z h x ST "value" "[B" v0) (C : RoadKit.Fld Z h x ST "coder" "B" c0) (K : RoadKit.Arv Z h b kC .char N (cs.map Value.int) d) (S : RoadKit.Sta Z h ST "COMPACT_STRINGS" "Z" (.int z)) (hz : ¬ z = 0)
    (hn : cs.length = n) (hN : N = Int32.ofNat n) (l0 : 0 < n) (l2 : n ≤ 4000) (hp : ∀ c ∈ cs, ¬ c < 0 ∧ ¬ (255 : Int32) < c) (hb : bs = cs.map (fun c => c.toInt8.toInt32)) (hfr : 4 ≤ R.frames) (hlo : W + 65 ≤ R.locals) :
    Back l R p e below s args (⟨"java/lang/String", "<init>", "([C)V"⟩ : MethodName) len W (fun P a => a = #[.ref x, .ref b] ∧ P.U.heap = h ∧ P.cells + 1 ≤ R.cells ∧ P.slots + n ≤ R.slots)
      (fun P _ v B => ∃ L, QV Z x N bs h n0 v B.U.heap L ∧ B.locs = P.locs ++ L ∧ B.cells = P.cells + 1 ∧ B.slots = P.slots + n) := by
  subst hn hN hb
  refine Back.mono (backArv hZ hw wi E V C K S hz (n32 (by omega)) l0 (by omega) (fun c hc => (hp c hc).2) hfr hlo) (fun P a hp => hp) (fun P a v B hp hq => ?_)
  obtain ⟨L, ⟨q1, q2, q3, q4, q5, q6, q7, ⟨kb, v1, v2⟩, q9⟩, hl, hc, hs⟩ := hq
  exact ⟨L, ⟨q1, fun y hy => by rw [q2 y hy]; exact hx0, q3, q5, q7, h.size, kb, hh0, Nat.le_refl _, Nat.ne_of_gt E.lt, q6, by rw [List.map_map]; exact v2⟩, hl, hc, hs⟩
end StrChars.Road
end Jvm.Pilot.@@N@@

namespace Jvm.Pilot.@@N@@
open Jvm Jvm.ClassFile Sem Op Lib Jvm.Free Jvm.Stand Jvm.LawKit Jvm.RoadKit Bundle Jvm.Pilot.@@N@@.Jvm.D
abbrev oi (x : Int32) : Slot := .val (.int x)
abbrev oa (x : Addr) : Slot := .val (.ref x)
abbrev oS {p : Program} {e : Env} {b : List Frame} (T : State) (f : JFrame) (t : State) : Prop := Steps p.tables e b (T.setTop f) t
abbrev own_S (p : Program) (e : Env) (b : List Frame) (T : State) (f : JFrame) (t : State) : Prop := Steps p.tables e b (T.setTop f) t
abbrev own_G (p : Program) (e : Env) (b : List Frame) (T : State) (f g : JFrame) : Prop := ∀ t, own_S p e b T f t → own_S p e b T g t
theorem own_t {a0 : Array Value} {Z : State} {d : Jvm.Cond} (hw : ∀ d ∈ tables_1, d.before a0 Z = true) (i : Nat) (h : tables_1[i]? = some d) : d.before a0 Z = true := hw _ (List.mem_of_getElem? h)
theorem own_opq {p : Program} {l : Launch} {e : Env} {R : Room} {s : State} {m : MethodId} {args : Array Value} {below : List Frame} {meth : Method} {c : Code} {T : State} {locs : List Loc} {cells slots n0 : Nat} (X : Stand p l e R s m args below meth c T locs cells slots) (N : Fr n0 locs) : ∃ G, Stand p l e R s m args below meth c T G cells slots ∧ Fr n0 G := ⟨_, X, N⟩
theorem own_sm {Z : State} {a0 : Array Value} {y z : MethodName} {C : String} (hd : (Cond.declares y).before a0 Z = true) (hz : (Cond.selects C z z).before a0 Z = true) (he : y.cls = z.cls) (hy : y.cls ≠ "java/lang/invoke/MethodHandle" ∧ y.cls ≠ "java/lang/invoke/VarHandle") : (Cond.sameMethod y.cls y.cls y.name y.desc).before a0 Z = true := by
  obtain ⟨r0, r, hn, -, -, -⟩ := Cond.declares_spec hd
  obtain ⟨c2, r2, m2, -, -, q3, -, kP, hkP, hkPi⟩ := Cond.selects_spec hz
  have hf := State.methodFound?_of_named hn hy
  have hc := findClass_of_methodNamed hn
  have hc2 := findClass_of_methodNamed q3
  rw [← he] at hc2
  have e := Option.some.inj (hc.symm.trans hc2)
  rw [← e] at hkP
  have hn' : Z.methodNamed? ⟨y.cls, y.name, y.desc⟩ = some r0 := hn
  simp [Cond.before, Cond.holds, Cond.value, hc, hf, hn', hkP, hkPi]
theorem own_nf {s : State} {args : Array Value} {y z : MethodName} {C : String} (hz : (Cond.selects C z z).before args s = true) (he : y.cls = z.cls) : NotFace s y := fun r0 h0 => by
  obtain ⟨c2, r2, m2, -, -, q3, -, kP, hkP, hkPi⟩ := Cond.selects_spec hz
  have hc := findClass_of_methodNamed h0
  have hc2 := findClass_of_methodNamed q3
  rw [← he] at hc2
  have e := Option.some.inj (hc.symm.trans hc2)
  rw [← e] at hkP
  exact ⟨kP, hkP, hkPi⟩
theorem own_selq {s : State} {args : Array Value} {y z : MethodName} {C : String} (hz : (Cond.selects C z z).before args s = true) (he : y.cls = z.cls) (hpriv : s.PrivateAt y) (hinst : (Cond.instanceMethod y).before args s = true) (hy : y.cls ≠ "java/lang/invoke/MethodHandle" ∧ y.cls ≠ "java/lang/invoke/VarHandle") : (Cond.selects y.cls y y).before args s = true := by
  obtain ⟨c2, r2, m2, -, -, q3, -, kP, hkP, hkPi⟩ := Cond.selects_spec hz
  exact Stand.selects_self_of_private (by rw [he]; exact findClass_of_methodNamed q3) hkP hkPi hpriv hinst hy
def own_ch (w : Int32) : Int32 := (((w &&& (255 : Int32)).toUInt32.toUInt16.toUInt32.toInt32).toUInt32.toUInt16.toUInt32.toInt32)
def own_cc (w : Int32) : Int32 := ((own_ch w).toUInt32.toUInt16.toUInt32.toInt32)
theorem own_ccv (c : Int32) (h0 : ¬ c < 0) (h1 : ¬ (255 : Int32) < c) : own_cc (c.toInt8.toInt32) = c := by
  have a := c_i2b c
  have b := c_mask (c.toInt8.toInt32) 255 8 (by decide) (by decide)
  have d := c_i2c ((c.toInt8.toInt32) &&& (255 : Int32))
  have e := c_i2c (((c.toInt8.toInt32) &&& (255 : Int32)).toUInt32.toUInt16.toUInt32.toInt32)
  have f := c_i2c ((((c.toInt8.toInt32) &&& (255 : Int32)).toUInt32.toUInt16.toUInt32.toInt32).toUInt32.toUInt16.toUInt32.toInt32)
  unfold own_cc own_ch
  simp only [Int32.lt_iff_toInt_lt, ← Int32.toInt_inj, Int32.reduceToInt, show ((2 ^ 8 : Nat) : Int) = 256 from rfl] at *
  omega
theorem own_shr0 (x : Int32) : x >>> ((0 : Int32) &&& 31) = x := by
  have a := c_ishr x 0 0 (by decide)
  rw [← Int32.toInt_inj, a]; simp
theorem own_int {s : State} {args : Array Value} {t : Term} {w : Int32} (h : (Cond.eq t (.int w)).value args s none s [] = some true) : t.eval args s none [] s = some (.int w) := by
  simp only [Cond.value, Term.int_eval] at h
  revert h
  cases hq : t.eval args s none [] s with
  | none => simp
  | some v => cases v <;> simp
theorem own_el {s : State} {args : Array Value} {t : Term} {a : Addr} {cl : Cell} {j w : Int32} (ev : t.eval args s none [] s = some (.ref a)) (hA : s.arrayAt? a = some cl) (hj : ¬ j < 0) (h : (Cond.eq (.elem t (.int j)) (.int w)).value args s none s [] = some true) : cl.slots[j.toNatClampNeg]? = some (.int w) := by
  rw [← elem_f (idx := []) (first := s) (o := none) ev (Term.int_eval j) hA hj]; exact own_int h
theorem own_ln {s : State} {args : Array Value} {t : Term} {a : Addr} {cl : Cell} {w : Int32} (ev : t.eval args s none [] s = some (.ref a)) (hA : s.arrayAt? a = some cl) (h : (Cond.eq (.length t) (.int w)).value args s none s [] = some true) : cl.slots.size < 2 ^ 31 ∧ cl.slots.size.toInt32 = w := by
  have h1 := own_int h
  obtain ⟨a', cl', ha', hA', hs, hv⟩ := Jvm.Lib.length_spec h1
  cases ev.symm.trans ha'
  cases hA.symm.trans hA'
  exact ⟨hs, (Value.int.inj hv).symm⟩

def own_r (d : Int32) : Prop := ¬ d < 0 ∧ ¬ (255 : Int32) < d
theorem own_i (i : Nat) (h : i < 2048) : (Int32.ofNat i).toInt = i := len_toInt (by omega)
theorem own_clamp (i : Nat) (h : i < 2048) : (Int32.ofNat i).toNatClampNeg = i := by
  simp only [Int32.toNatClampNeg, own_i i h]; rfl
theorem own_lt (i j : Nat) (hi : i < 2048) (hj : j < 2048) : (Int32.ofNat i < Int32.ofNat j) = (i < j) := by
  rw [Int32.lt_iff_toInt_lt, own_i i hi, own_i j hj]; exact propext (by omega)
theorem own_eq (i j : Nat) (hi : i < 2048) (hj : j < 2048) : (Int32.ofNat i = Int32.ofNat j) = (i = j) := by
  rw [← Int32.toInt_inj, own_i i hi, own_i j hj]; exact propext (by omega)
theorem own_add (i j : Nat) (hi : i < 512) (hj : j < 512) : Int32.ofNat i + Int32.ofNat j = Int32.ofNat (i + j) := by
  have a := c_iadd (Int32.ofNat i) (Int32.ofNat j)
  have b := rng32 (Int32.ofNat i + Int32.ofNat j)
  rw [← Int32.toInt_inj, own_i (i + j) (by omega)]
  rw [own_i i (by omega), own_i j (by omega)] at a
  omega
theorem own_sub (i j : Nat) (hi : i < 512) (hj : j ≤ i) : Int32.ofNat i - Int32.ofNat j = Int32.ofNat (i - j) := by
  have a := c_isub (Int32.ofNat i) (Int32.ofNat j)
  have b := rng32 (Int32.ofNat i - Int32.ofNat j)
  rw [← Int32.toInt_inj, own_i (i - j) (by omega)]
  rw [own_i i (by omega), own_i j (by omega)] at a
  omega
theorem own_shl0 (x : Int32) : x <<< ((0 : Int32) &&& 31) = x := by
  have a := c_ishl x 0 0 (by decide)
  have b := rng32 x
  have d := rng32 (x <<< ((0 : Int32) &&& 31))
  rw [← Int32.toInt_inj]
  simp only [show ((2 ^ 0 : Nat) : Int) = 1 from rfl] at a
  omega
theorem own_nn (i : Nat) (h : i < 2048) : ¬ Int32.ofNat i < (0 : Int32) := by
  simp only [Int32.lt_iff_toInt_lt, own_i i h, Int32.reduceToInt]; omega
def own_min (a b : Int32) : Int32 := if b < a then b else a
def own_max (a b : Int32) : Int32 := if a < b then b else a
theorem own_rng (l : List Value) (d : Value) : (List.range l.length).map (fun i => l.getD (0 + i) d) = l := by
  apply List.ext_getElem?
  intro i
  by_cases h : i < l.length
  · simp [h]
  · simp [h]
theorem own_txl (tx : List Int32) : ((tx.map (fun c => c.toInt8.toInt32)).map Value.int).length = tx.length := by simp
theorem own_app (bs wt : List Int32) (hbs : bs.length < 2048) (hw : wt.length < 2048) : (((bs.map (fun c => c.toInt8.toInt32)).map Value.int) ++ List.replicate wt.length (Value.int 0) : List Value).take (Int32.ofNat bs.length).toNatClampNeg ++ ((List.range (Int32.ofNat wt.length).toNatClampNeg).map fun i => (((wt.map (fun c => c.toInt8.toInt32)).map Value.int) : List Value).getD ((0 : Int32).toNatClampNeg + i) (Value.int 0)) ++ (((bs.map (fun c => c.toInt8.toInt32)).map Value.int) ++ List.replicate wt.length (Value.int 0) : List Value).drop ((Int32.ofNat bs.length).toNatClampNeg + (Int32.ofNat wt.length).toNatClampNeg) = (((bs ++ wt).map (fun c => c.toInt8.toInt32)).map Value.int) := by
  rw [own_clamp _ hbs, own_clamp _ hw, show (0 : Int32).toNatClampNeg = 0 from rfl]
  have e := own_rng (((wt.map (fun c => c.toInt8.toInt32)).map Value.int) : List Value) (Value.int 0)
  rw [own_txl] at e
  rw [e]
  have t : (((bs.map (fun c => c.toInt8.toInt32)).map Value.int) ++ List.replicate wt.length (Value.int 0) : List Value).take bs.length = ((bs.map (fun c => c.toInt8.toInt32)).map Value.int) := by
    rw [List.take_append_of_le_length (by simp)]; apply List.take_of_length_le; simp
  have u : (((bs.map (fun c => c.toInt8.toInt32)).map Value.int) ++ List.replicate wt.length (Value.int 0) : List Value).drop (bs.length + wt.length) = [] := by
    apply List.drop_of_length_le; simp
  rw [t, u]; simp
theorem own_cp (vs : List Value) (d : Value) (m k : Nat) (h : vs.length ≤ m) : ∀ i, vs.getD i d = (((List.range m).map fun i => vs.getD (0 + i) d) ++ List.replicate k d).getD i d := by
  intro i
  rw [pad_rep]
  by_cases q : i < m
  · simp [List.getD_eq_getElem?_getD, q]
  · simp only [List.getD_eq_getElem?_getD]
    rw [List.getElem?_eq_none (by omega), List.getElem?_eq_none (by simp; omega)]
theorem own_bbe (c : Int32) : (c.toInt8.toInt32).toInt8.toInt32 = c.toInt8.toInt32 := by
  have a := c_i2b c
  have b := c_i2b (c.toInt8.toInt32)
  rw [← Int32.toInt_inj]; omega
theorem own_nar (u : Int32) (h : own_r u) : (u.toUInt32.toUInt16.toUInt32.toInt32) = u := by
  unfold own_r at h
  have e := c_i2c u
  simp only [Int32.lt_iff_toInt_lt, Int32.reduceToInt] at h
  rw [← Int32.toInt_inj]; omega
theorem own_c8 (x : Int32) : own_r ((x &&& (255 : Int32)).toUInt32.toUInt16.toUInt32.toInt32) := by
  have a := c_mask x 255 8 (by decide) (by decide)
  have e := c_i2c (x &&& (255 : Int32))
  unfold own_r
  simp only [show ((2 ^ 8 : Nat) : Int) = 256 from rfl] at a
  simp only [Int32.lt_iff_toInt_lt, Int32.reduceToInt]; omega
theorem own_m3 (x : Int32) : ((x &&& (3 : Int32)) % (3 : Int32)) = 0 ∨ ((x &&& (3 : Int32)) % (3 : Int32)) = 1 ∨ ((x &&& (3 : Int32)) % (3 : Int32)) = 2 := by
  have a := c_mask x 3 2 (by decide) (by decide)
  simp only [show ((2 ^ 2 : Nat) : Int) = 4 from rfl] at a
  have b := (c_irem (x &&& (3 : Int32)) 3 3 rfl).1 (by omega)
  simp only [← Int32.toInt_inj, Int32.reduceToInt]; omega
def own_mk (n a b : Int32) : List Int32 := if n = (0 : Int32) then [] else if n = (1 : Int32) then [a] else [a, b]
theorem own_mkl (n a b : Int32) : (own_mk n a b).length ≤ 2 := by
  unfold own_mk; split; simp; split <;> simp
theorem own_safeN {Z : State} {EL : List (String × Nat)} {vm : Vm} {h : Heap} {x : Addr} (hal : Z.vm.Alike vm) (E : Exa Z h x "java/lang/String") (F : Fld Z h x "java/lang/String" "value" "[B" .null) : Safe Z EL vm h x := fun B => by
  obtain ⟨cell, k, e1, e2, e3, -, -⟩ := E
  obtain ⟨p, -, u, a, -, q, -, G, rfl | rfl⟩ := B
  · obtain ⟨cS, ⟨⟨s1, s2, s3, ⟨cv, kv, iv, s4, s4'⟩, -, s6, s7, s8, -⟩, hfS, hcS⟩, -⟩ := G
    obtain ⟨kv', z4⟩ := ff_back (U := Wst Z vm h) hal s4
    have V : Fld Z h q.sa "java/lang/String" "value" "[B" (.ref q.sd) := ⟨q.sC, cv, kv', iv, q.fSV, s1, z4, s6, s2, s3, by rw [← hal.assignable]; exact s4', s8⟩
    exact Fld.ne F V (by simp) rfl
  · have hd : h[q.sd]? = some q.SA := G.hd
    cases hd.symm.trans e1
    obtain ⟨cS, -, -, f, -⟩ := G
    rw [show (Wst Z vm h).vm = vm from rfl, hal.findClass] at f
    obtain ⟨k1, q1, q2⟩ := Vm.findClass_spec f
    obtain ⟨k2, q3, q4⟩ := Vm.findClass_spec e2
    cases q1.symm.trans q3
    exact absurd (q2.symm.trans q4) (by decide)

theorem own_three {Z : State} {h : Heap} {vb : Addr} {z : Int32} {n m : Nat} (hc : (z = (16 : Int32) ∧ Exa Z h vb "[B") ∨ z = (34 : Int32)) (hl : n + m ≤ 34) (hbs : n ≤ z.toNatClampNeg) : (z = (16 : Int32) ∧ Exa Z h vb "[B" ∧ n + m ≤ 16) ∨ (z = (16 : Int32) ∧ Exa Z h vb "[B" ∧ 16 < n + m) ∨ (z = (34 : Int32) ∧ n + m ≤ 34) := by
  rcases hc with ⟨a, b⟩ | a
  · by_cases q : n + m ≤ 16
    · exact Or.inl ⟨a, b, q⟩
    · exact Or.inr (Or.inl ⟨a, b, by omega⟩)
  · exact Or.inr (Or.inr ⟨a, hl⟩)
theorem own_glt (k : Nat) (h1 : 16 < k) (h2 : k ≤ 34) : (0 : Int32) < (Int32.ofNat k - ((16 : Int32) >>> ((0 : Int32) &&& 31))) := by
  rw [own_shr0, Int32.lt_iff_toInt_lt]
  have a := c_isub (Int32.ofNat k) 16
  have r := rng32 (Int32.ofNat k - 16)
  rw [own_i _ (by omega)] at a
  simp only [Int32.reduceToInt] at *
  omega
theorem own_grow (k : Nat) (h1 : 16 < k) (h2 : k ≤ 34) : own_max ((Int32.ofNat k <<< ((0 : Int32) &&& 31)) - (16 : Int32)) (18 : Int32) = (18 : Int32) := by
  rw [own_shl0]
  have a := c_isub (Int32.ofNat k) 16
  have r := rng32 (Int32.ofNat k - 16)
  rw [own_i _ (by omega)] at a
  unfold own_max
  by_cases q : (Int32.ofNat k - (16 : Int32)) < (18 : Int32)
  · rw [if_pos q]
  · rw [if_neg q, ← Int32.toInt_inj]
    simp only [Int32.lt_iff_toInt_lt, Int32.reduceToInt] at *
    omega
theorem own_crb (bs : List Int32) (hbs : bs.length < 2048) : (List.replicate bs.length (Value.int 0)).take (0 : Int32).toNatClampNeg ++ ((List.range (Int32.ofNat bs.length).toNatClampNeg).map fun i => ((bs.map (fun c => c.toInt8.toInt32)).map Value.int).getD ((0 : Int32).toNatClampNeg + i) (.int 0)) ++ (List.replicate bs.length (Value.int 0)).drop ((0 : Int32).toNatClampNeg + (Int32.ofNat bs.length).toNatClampNeg) = ((bs.map (fun c => c.toInt8.toInt32)).map Value.int) := by
  rw [own_clamp _ hbs, show (0 : Int32).toNatClampNeg = 0 from rfl]
  have e := own_rng ((bs.map (fun c => c.toInt8.toInt32)).map Value.int) (.int 0)
  rw [own_txl] at e
  rw [e]; simp
theorem own_sub0 (x : Int32) : x - (0 : Int32) = x := by
  have a := c_isub x 0
  have r := rng32 x
  have r' := rng32 (x - 0)
  rw [← Int32.toInt_inj]
  simp only [Int32.reduceToInt] at a; omega
theorem own_minr (z : Int32) (k : Nat) (hk : k < 2048) (h : k ≤ z.toNatClampNeg) (hz : ¬ z < 0) : own_min z (Int32.ofNat k) = Int32.ofNat k := by
  unfold own_min
  by_cases q : Int32.ofNat k < z
  · rw [if_pos q]
  · rw [if_neg q]
    have a := own_i k hk
    simp only [Int32.lt_iff_toInt_lt] at q
    rw [← Int32.toInt_inj, a]
    simp only [Int32.lt_iff_toInt_lt, Int32.reduceToInt] at hz
    simp only [Int32.toNatClampNeg] at h
    omega
theorem own_two {Z : State} {h : Heap} {vb : Addr} {z : Int32} {k : Nat} (hc : (z = (16 : Int32) ∧ Exa Z h vb "[B") ∨ z = (34 : Int32)) (h34 : k ≤ 34) (h20 : k ≤ 20) : (z = (16 : Int32) ∧ Exa Z h vb "[B" ∧ Int32.ofNat k = Int32.ofNat 16) ∨ ¬ Int32.ofNat k = z := by
  rcases hc with ⟨a, b⟩ | a
  · by_cases q : k = 16
    · exact Or.inl ⟨a, b, by rw [q]⟩
    · refine Or.inr ?_
      rw [a, show (16 : Int32) = Int32.ofNat 16 from rfl, own_eq _ _ (by omega) (by omega)]; exact q
  · refine Or.inr ?_
    rw [a, show (34 : Int32) = Int32.ofNat 34 from rfl, own_eq _ _ (by omega) (by omega)]; omega
theorem own_hi (i k : Nat) (h : i < k ∧ k < 2048) : ¬ Int32.ofNat i < 0 ∧ Int32.ofNat i < Int32.ofNat k := by
  rw [own_lt _ _ (by omega) h.2]; exact ⟨own_nn _ (by omega), h.1⟩
theorem own_bat (tx : List Int32) (i : Nat) (h : i < tx.length ∧ tx.length < 2048) (d : Value) : ((tx.map (fun c => c.toInt8.toInt32)).map Value.int).getD (Int32.ofNat i).toNatClampNeg d = .int ((tx.getD i 0).toInt8.toInt32) := by
  rw [own_clamp i (by omega), List.getD_eq_getElem?_getD, List.getD_eq_getElem?_getD]
  simp [h.1]
abbrev own_L (p0 p1 p2 p3 a : Int32) (d : Addr) (f w xa xb xc xd : Int32) (s t u : Addr) (v : Int32) (x y z : Slot) : Array Slot := #[.val (.int p0), .val (.int p1), .val (.int p2), .val (.int p3), .val (.int a), .val (.ref d), .val (.int f), .val (.int w), .val (.int xa), .val (.int xb), .val (.int xc), .val (.int xd), .val (.ref s), .val (.ref t), .val (.ref u), .val (.int v), x, y, z]
theorem own_add3 (k i : Nat) (h : k < 100) (hi : i < 3) : (Int32.ofNat k + (1 : Int32)) + Int32.ofNat i = Int32.ofNat (k + (1 + i)) := by
  rw [show (1 : Int32) = Int32.ofNat 1 from rfl, own_add k 1 (by omega) (by omega), own_add (k + 1) i (by omega) (by omega), Nat.add_assoc]
theorem own_lnw (vfl vwl xa xb xc xd : Int32) (h1 : vfl = 0 ∨ vfl = 1 ∨ vfl = 2) (h2 : vwl = 0 ∨ vwl = 1 ∨ vwl = 2) : (Int32.ofNat ((((((([] : List Int32) ++ ([99, 97, 110, 110, 111, 116, 32] : List Int32)) ++ ([119, 114, 105, 116, 101] : List Int32)) ++ ([32] : List Int32)) ++ (own_mk vfl xa xb)) ++ ([58, 32] : List Int32)) ++ (own_mk vwl xc xd)).length) = ((((((7 : Int32) + (5 : Int32)) + (1 : Int32)) + vfl) + (2 : Int32)) + vwl) := by
  rcases h1 with rfl | rfl | rfl <;> rcases h2 with rfl | rfl | rfl <;> rfl
theorem own_lnr (vfl vwl xa xb xc xd : Int32) (h1 : vfl = 0 ∨ vfl = 1 ∨ vfl = 2) (h2 : vwl = 0 ∨ vwl = 1 ∨ vwl = 2) : (Int32.ofNat ((((((([] : List Int32) ++ ([99, 97, 110, 110, 111, 116, 32] : List Int32)) ++ ([114, 101, 97, 100] : List Int32)) ++ ([32] : List Int32)) ++ (own_mk vfl xa xb)) ++ ([58, 32] : List Int32)) ++ (own_mk vwl xc xd)).length) = ((((((7 : Int32) + (4 : Int32)) + (1 : Int32)) + vfl) + (2 : Int32)) + vwl) := by
  rcases h1 with rfl | rfl | rfl <;> rcases h2 with rfl | rfl | rfl <;> rfl
abbrev yy_0 : MethodName := (⟨"jdk/internal/util/Preconditions", "checkIndex", "(IILjava/util/function/BiFunction;)I"⟩ : MethodName)
abbrev yy_1 : MethodName := (⟨"java/lang/String", "checkIndex", "(II)V"⟩ : MethodName)
abbrev yy_2 : MethodName := (⟨"java/lang/StringLatin1", "charAt", "([BI)C"⟩ : MethodName)
abbrev yy_3 : MethodName := (⟨"java/lang/String", "isLatin1", "()Z"⟩ : MethodName)
abbrev yy_4 : MethodName := (⟨"java/lang/String", "charAt", "(I)C"⟩ : MethodName)
abbrev yy_5 : MethodName := (⟨"java/lang/String", "coder", "()B"⟩ : MethodName)
abbrev yy_6 : MethodName := (⟨"java/lang/String", "length", "()I"⟩ : MethodName)
abbrev yy_7 : MethodName := (⟨"java/lang/Math", "min", "(II)I"⟩ : MethodName)
abbrev yy_8 : MethodName := (⟨"java/lang/Math", "max", "(II)I"⟩ : MethodName)
abbrev yy_9 : MethodName := (⟨"jdk/internal/util/ArraysSupport", "newLength", "(III)I"⟩ : MethodName)
abbrev yy_10 : MethodName := (⟨"java/lang/AbstractStringBuilder", "newCapacity", "(I)I"⟩ : MethodName)
abbrev yy_11 : MethodName := (⟨"java/util/Arrays", "copyOf", "([BI)[B"⟩ : MethodName)
abbrev yy_12 : MethodName := (⟨"java/lang/AbstractStringBuilder", "ensureCapacityInternal", "(I)V"⟩ : MethodName)
abbrev yy_13 : MethodName := (⟨"java/lang/AbstractStringBuilder", "inflateIfNeededFor", "(Ljava/lang/String;)V"⟩ : MethodName)
abbrev yy_14 : MethodName := (⟨"java/lang/String", "getBytes", "([BIB)V"⟩ : MethodName)
abbrev yy_15 : MethodName := (⟨"java/lang/AbstractStringBuilder", "putStringAt", "(ILjava/lang/String;)V"⟩ : MethodName)
abbrev yy_16 : MethodName := (⟨"java/lang/AbstractStringBuilder", "append", "(Ljava/lang/String;)Ljava/lang/AbstractStringBuilder;"⟩ : MethodName)
abbrev yy_17 : MethodName := (⟨"java/lang/StringBuilder", "append", "(Ljava/lang/String;)Ljava/lang/StringBuilder;"⟩ : MethodName)
abbrev yy_18 : MethodName := (⟨"java/lang/AbstractStringBuilder", "<init>", "(I)V"⟩ : MethodName)
abbrev yy_19 : MethodName := (⟨"java/lang/StringBuilder", "<init>", "()V"⟩ : MethodName)
abbrev yy_20 : MethodName := (⟨"java/lang/AbstractStringBuilder", "getValue", "()[B"⟩ : MethodName)
abbrev yy_21 : MethodName := (⟨"java/lang/AbstractStringBuilder", "length", "()I"⟩ : MethodName)
abbrev yy_22 : MethodName := (⟨"java/lang/StringBuilder", "length", "()I"⟩ : MethodName)
abbrev yy_23 : MethodName := (⟨"java/lang/AbstractStringBuilder", "isLatin1", "()Z"⟩ : MethodName)
abbrev yy_24 : MethodName := (⟨"java/util/Arrays", "checkLength", "(II)V"⟩ : MethodName)
abbrev yy_25 : MethodName := (⟨"java/util/Arrays", "copyOfRangeByte", "([BII)[B"⟩ : MethodName)
abbrev yy_26 : MethodName := (⟨"java/util/Arrays", "copyOfRange", "([BII)[B"⟩ : MethodName)
abbrev yy_27 : MethodName := (⟨"java/lang/String", "<init>", "(Ljava/lang/AbstractStringBuilder;Ljava/lang/Void;)V"⟩ : MethodName)
abbrev yy_28 : MethodName := (⟨"java/lang/String", "<init>", "(Ljava/lang/StringBuilder;)V"⟩ : MethodName)
abbrev yy_29 : MethodName := (⟨"java/lang/StringBuilder", "toString", "()Ljava/lang/String;"⟩ : MethodName)
abbrev yy_30 : MethodName := (⟨"java/lang/StringLatin1", "canEncode", "(C)Z"⟩ : MethodName)
abbrev yy_31 : MethodName := (⟨"java/lang/StringLatin1", "toBytes", "(C)[B"⟩ : MethodName)
abbrev yy_32 : MethodName := (⟨"java/lang/String", "<init>", "([BB)V"⟩ : MethodName)
abbrev yy_33 : MethodName := (⟨"java/lang/String", "valueOf", "(C)Ljava/lang/String;"⟩ : MethodName)
abbrev yy_34 : MethodName := (⟨"java/lang/String", "<init>", "([CIILjava/lang/Void;)V"⟩ : MethodName)
abbrev yy_35 : MethodName := (⟨"java/lang/String", "<init>", "([C)V"⟩ : MethodName)
abbrev yy_36 : MethodName := (⟨"com/example/emex/emex/read/FileRefusalLinePinLaw", "make", "(ICC)Ljava/lang/String;"⟩ : MethodName)
abbrev yy_37 : MethodName := (⟨"com/example/emex/emex/read/FileRefusal", "line", "(Ljava/lang/String;Ljava/lang/String;)Ljava/lang/String;"⟩ : MethodName)
theorem pd_0 : parseMethodDescriptor "(IILjava/util/function/BiFunction;)I" = some ⟨[.int, .int, (.object "java/util/function/BiFunction")], some .int⟩ := by decide +kernel
theorem pd_1 : parseMethodDescriptor "(II)V" = some ⟨[.int, .int], none⟩ := by decide +kernel
theorem pd_2 : parseMethodDescriptor "()Z" = some ⟨[], some .boolean⟩ := by decide +kernel
theorem pd_3 : parseMethodDescriptor "([BI)C" = some ⟨[(.array .byte), .int], some .char⟩ := by decide +kernel
theorem pd_4 : parseMethodDescriptor "()B" = some ⟨[], some .byte⟩ := by decide +kernel
theorem pd_5 : parseMethodDescriptor "(II)I" = some ⟨[.int, .int], some .int⟩ := by decide +kernel
theorem pd_6 : parseMethodDescriptor "(III)I" = some ⟨[.int, .int, .int], some .int⟩ := by decide +kernel
theorem pd_7 : parseMethodDescriptor "(I)I" = some ⟨[.int], some .int⟩ := by decide +kernel
theorem pd_8 : parseMethodDescriptor "([BI)[B" = some ⟨[(.array .byte), .int], some (.array .byte)⟩ := by decide +kernel
theorem pd_9 : parseMethodDescriptor "(Ljava/lang/String;)V" = some ⟨[(.object "java/lang/String")], none⟩ := by decide +kernel
theorem pd_10 : parseMethodDescriptor "([BIB)V" = some ⟨[(.array .byte), .int, .byte], none⟩ := by decide +kernel
theorem pd_11 : parseMethodDescriptor "()I" = some ⟨[], some .int⟩ := by decide +kernel
theorem pd_12 : parseMethodDescriptor "(I)V" = some ⟨[.int], none⟩ := by decide +kernel
theorem pd_13 : parseMethodDescriptor "(ILjava/lang/String;)V" = some ⟨[.int, (.object "java/lang/String")], none⟩ := by decide +kernel
theorem pd_14 : parseMethodDescriptor "(Ljava/lang/String;)Ljava/lang/AbstractStringBuilder;" = some ⟨[(.object "java/lang/String")], some (.object "java/lang/AbstractStringBuilder")⟩ := by decide +kernel
theorem pd_15 : parseMethodDescriptor "([BII)[B" = some ⟨[(.array .byte), .int, .int], some (.array .byte)⟩ := by decide +kernel
theorem pd_16 : parseMethodDescriptor "()[B" = some ⟨[], some (.array .byte)⟩ := by decide +kernel
theorem pd_17 : parseMethodDescriptor "(Ljava/lang/AbstractStringBuilder;Ljava/lang/Void;)V" = some ⟨[(.object "java/lang/AbstractStringBuilder"), (.object "java/lang/Void")], none⟩ := by decide +kernel
theorem pd_18 : parseMethodDescriptor "(Ljava/lang/StringBuilder;)V" = some ⟨[(.object "java/lang/StringBuilder")], none⟩ := by decide +kernel
theorem pd_19 : parseMethodDescriptor "(C)Z" = some ⟨[.char], some .boolean⟩ := by decide +kernel
theorem pd_20 : parseMethodDescriptor "(C)[B" = some ⟨[.char], some (.array .byte)⟩ := by decide +kernel
theorem pd_21 : parseMethodDescriptor "([BB)V" = some ⟨[(.array .byte), .byte], none⟩ := by decide +kernel
theorem pd_22 : parseMethodDescriptor "([CIILjava/lang/Void;)V" = some ⟨[(.array .char), .int, .int, (.object "java/lang/Void")], none⟩ := by decide +kernel
theorem pd_23 : parseMethodDescriptor "([C)V" = some ⟨[(.array .char)], none⟩ := by decide +kernel
theorem pd_24 : parseMethodDescriptor "(C)Ljava/lang/String;" = some ⟨[.char], some (.object "java/lang/String")⟩ := by decide +kernel
theorem pd_25 : parseMethodDescriptor "()V" = some ⟨[], none⟩ := by decide +kernel
theorem pd_26 : parseMethodDescriptor "(Ljava/lang/String;)Ljava/lang/StringBuilder;" = some ⟨[(.object "java/lang/String")], some (.object "java/lang/StringBuilder")⟩ := by decide +kernel
theorem pd_27 : parseMethodDescriptor "()Ljava/lang/String;" = some ⟨[], some (.object "java/lang/String")⟩ := by decide +kernel
theorem pd_28 : parseMethodDescriptor "(I)C" = some ⟨[.int], some .char⟩ := by decide +kernel
theorem pd_29 : parseMethodDescriptor "(ICC)Ljava/lang/String;" = some ⟨[.int, .char, .char], some (.object "java/lang/String")⟩ := by decide +kernel
theorem pd_30 : parseMethodDescriptor "(Ljava/lang/String;Ljava/lang/String;)Ljava/lang/String;" = some ⟨[(.object "java/lang/String"), (.object "java/lang/String")], some (.object "java/lang/String")⟩ := by decide +kernel
theorem d35_0 : decode jdk_41_method_11_code 0 = .ok (.iload_n 0, 1) := by decide +kernel
theorem d35_1 : decode jdk_41_method_11_code 1 = .ok (.ifCond .lt 8, 3) := by decide +kernel
theorem d35_4 : decode jdk_41_method_11_code 4 = .ok (.iload_n 0, 1) := by decide +kernel
theorem d35_5 : decode jdk_41_method_11_code 5 = .ok (.iload_n 1, 1) := by decide +kernel
theorem d35_6 : decode jdk_41_method_11_code 6 = .ok (.if_icmp .lt 10, 3) := by decide +kernel
theorem d35_16 : decode jdk_41_method_11_code 16 = .ok (.iload_n 0, 1) := by decide +kernel
theorem d35_17 : decode jdk_41_method_11_code 17 = .ok (.ireturn, 1) := by decide +kernel
theorem pn_35 : plainName "jdk/internal/util/Preconditions" = true := by first | (simp [plainName, overriddenIn]; done) | decide +kernel
theorem ef_35n (m : MethodId) (x0 : Int32) (x1 : Int32) : entryFrame m #[(.int x0), (.int x1), .null] 3 = mkF m 0 #[.val (.int x0), .val (.int x1), .val .null] [] := by first | (simp [entryFrame, mkF, argsToLocals, Value.category]; done) | rfl
def Q35n (Z : State) (p0 : Int32) (p1 : Int32) (h0 : Heap) (n0 : Nat) (v : Option Value) (h : Heap) (L : List Loc) : Prop := v = some (.int p0) ∧ Fr n0 L ∧ h = h0
set_option maxRecDepth 65536 in
set_option maxHeartbeats 40000000 in
theorem rm35n (l : Launch) (Z : State) (a0 : Array Value) (hw : ∀ d ∈ tables_1, d.before a0 Z = true) (ws : List Jvm.Cond) (p0 : Int32) (p1 : Int32)  (h0 : Heap) (n0 : Nat) (Z0 : n0 ≤ h0.size) (hp0 : ¬ p0 < (0 : Int32)) (hp1 : p0 < p1) :
    MetFree l yy_0 (head1 (Jvm.Cond.code yy_0 jdk_41_method_11_code 3 (some .int) :: ws) ({ frames := 0, cells := 0, slots := 0, locals := 0 } : Room)) (fun a U => a = #[(.int p0), (.int p1), .null] ∧ Z.Warmed39 U.vm ∧ U.heap = h0) (fun _ _ _ _ _ => True) (fun _ U o U' => ∃ v L, o = .returned v ∧ Q35n Z p0 p1 h0 n0 v U'.heap L ∧ FrameEnd U o U' L ({ frames := 0, cells := 0, slots := 0, locals := 0 } : Room).cells ({ frames := 0, cells := 0, slots := 0, locals := 0 } : Room).slots) := by
  refine MetFree.of_bodySF (plainFor_of_name pn_35) hisR ?_
  intro p e s m args below meth c s₁ Bd hml0 hP hK
  obtain ⟨rfl, hZ, hh⟩ := hP
  have hx := Bd.exec
  have hby := Bd.bytes
  have hml : c.maxLocals = 3 := hml0
  have hown : s.vm.findClass "jdk/internal/util/Preconditions" = some m.cls := findClass_of_methodNamed Bd.named
  have hnm := (name_of_methodNamed Bd.named Bd.method).1
  have X0 : Stand p l e ({ frames := 0, cells := 0, slots := 0, locals := 0 } : Room) s m #[(.int p0), (.int p1), .null] below meth c s₁ [] 0 0 := Stand.of_body Bd
  have e0 : s₁.heap = h0 := by rw [← hh, Bd.state]; rfl
  have N0 := Fr.nil n0
  have pre0 : ∀ t, Steps p.tables e below (s₁.setTop (mkF m 0 #[oi p0, oi p1, .val .null] [])) t → Steps p.tables e below (s₁.setTop (entryFrame m #[(.int p0), (.int p1), .null] 3)) t := fun t k => castTop (ef_35n m p0 p1) k
  have c2 : own_G p e below s₁ (mkF m 1 #[oi p0, oi p1, .val .null] [(.int p0)]) (mkF m 0 #[oi p0, oi p1, .val .null] []) := by
    intro t kt
    show oS s₁ (mkF m 0 #[oi p0, oi p1, .val .null] []) _
    refine XS.iloadN X0.here hx rfl (hb hby d35_0) rfl ?_
    exact kt
  have hd1 : ¬ (p0 < (0 : Int32)) := hp0
  have c4 : own_G p e below s₁ (mkF m 6 #[oi p0, oi p1, .val .null] [(.int p1), (.int p0)]) (mkF m 1 #[oi p0, oi p1, .val .null] [(.int p0)]) := by
    intro t kt
    show oS s₁ (mkF m 1 #[oi p0, oi p1, .val .null] [(.int p0)]) _
    refine XS.ifNo X0.here hx rfl (hb hby d35_1) rfl ((if0 _ _).trans (flt hd1).1) ?_
    show oS s₁ (mkF m 4 #[oi p0, oi p1, .val .null] []) _
    refine XS.iloadN X0.here hx rfl (hb hby d35_4) rfl ?_
    show oS s₁ (mkF m 5 #[oi p0, oi p1, .val .null] [(.int p0)]) _
    refine XS.iloadN X0.here hx rfl (hb hby d35_5) rfl ?_
    exact kt
  have hd3 : p0 < p1 := hp1
  have c5 : own_G p e below s₁ (mkF m 17 #[oi p0, oi p1, .val .null] [(.int p0)]) (mkF m 6 #[oi p0, oi p1, .val .null] [(.int p1), (.int p0)]) := by
    intro t kt
    show oS s₁ (mkF m 6 #[oi p0, oi p1, .val .null] [(.int p1), (.int p0)]) _
    refine XS.icmpYes X0.here hx rfl (pc0 := 6) (pc' := 16) rfl (hb hby d35_6) rfl (tlt hd3).1 (by decide) (by decide) ?_
    show oS s₁ (mkF m 16 #[oi p0, oi p1, .val .null] []) _
    refine XS.iloadN X0.here hx rfl (hb hby d35_16) rfl ?_
    exact kt
  obtain ⟨fs, hr, hrun, hended, hW, hsame⟩ := X0.leave (v := some (.int p0)) (fun h => by rw [Bd.returns] at h; cases h)
  refine ⟨_, _, pre0 _ (c2 _ (c4 _ (c5 _ (?_)))), hrun, hended, _, _, rfl, ?_, ⟨_, rfl⟩, hW, hsame.mono (by decide) (by decide)⟩
  · show Steps p.tables e below (s₁.setTop (mkF m 17 #[oi p0, oi p1, .val .null] [(.int p0)])) _
    exact retI X0 hx Bd.returns (hb hby d35_17) hr
  · show Q35n Z p0 p1 h0 n0 _ s₁.heap _
    rw [e0]
    exact ⟨congrArg (fun z => some (Value.int z)) (show p0 = p0 from by rfl), N0, rfl⟩
theorem ef_35 (m : MethodId) (x0 : Int32) (x1 : Int32) (x2 : Addr) : entryFrame m #[(.int x0), (.int x1), (.ref x2)] 3 = mkF m 0 #[.val (.int x0), .val (.int x1), .val (.ref x2)] [] := by first | (simp [entryFrame, mkF, argsToLocals, Value.category]; done) | rfl
def Q35r (Z : State) (p0 : Int32) (p1 : Int32) (r2 : Addr) (h0 : Heap) (n0 : Nat) (v : Option Value) (h : Heap) (L : List Loc) : Prop := v = some (.int p0) ∧ Fr n0 L ∧ h = h0
set_option maxRecDepth 65536 in
set_option maxHeartbeats 40000000 in
theorem rm35r (l : Launch) (Z : State) (a0 : Array Value) (hw : ∀ d ∈ tables_1, d.before a0 Z = true) (ws : List Jvm.Cond) (p0 : Int32) (p1 : Int32) (r2 : Addr)  (h0 : Heap) (n0 : Nat) (Z0 : n0 ≤ h0.size) (hp0 : ¬ p0 < (0 : Int32)) (hp1 : p0 < p1) :
    MetFree l yy_0 (head1 (Jvm.Cond.code yy_0 jdk_41_method_11_code 3 (some .int) :: ws) ({ frames := 0, cells := 0, slots := 0, locals := 0 } : Room)) (fun a U => a = #[(.int p0), (.int p1), (.ref r2)] ∧ Z.Warmed39 U.vm ∧ U.heap = h0) (fun _ _ _ _ _ => True) (fun _ U o U' => ∃ v L, o = .returned v ∧ Q35r Z p0 p1 r2 h0 n0 v U'.heap L ∧ FrameEnd U o U' L ({ frames := 0, cells := 0, slots := 0, locals := 0 } : Room).cells ({ frames := 0, cells := 0, slots := 0, locals := 0 } : Room).slots) := by
  refine MetFree.of_bodySF (plainFor_of_name pn_35) hisR ?_
  intro p e s m args below meth c s₁ Bd hml0 hP hK
  obtain ⟨rfl, hZ, hh⟩ := hP
  have hx := Bd.exec
  have hby := Bd.bytes
  have hml : c.maxLocals = 3 := hml0
  have hown : s.vm.findClass "jdk/internal/util/Preconditions" = some m.cls := findClass_of_methodNamed Bd.named
  have hnm := (name_of_methodNamed Bd.named Bd.method).1
  have X0 : Stand p l e ({ frames := 0, cells := 0, slots := 0, locals := 0 } : Room) s m #[(.int p0), (.int p1), (.ref r2)] below meth c s₁ [] 0 0 := Stand.of_body Bd
  have e0 : s₁.heap = h0 := by rw [← hh, Bd.state]; rfl
  have N0 := Fr.nil n0
  have pre0 : ∀ t, Steps p.tables e below (s₁.setTop (mkF m 0 #[oi p0, oi p1, oa r2] [])) t → Steps p.tables e below (s₁.setTop (entryFrame m #[(.int p0), (.int p1), (.ref r2)] 3)) t := fun t k => castTop (ef_35 m p0 p1 r2) k
  have c2 : own_G p e below s₁ (mkF m 1 #[oi p0, oi p1, oa r2] [(.int p0)]) (mkF m 0 #[oi p0, oi p1, oa r2] []) := by
    intro t kt
    show oS s₁ (mkF m 0 #[oi p0, oi p1, oa r2] []) _
    refine XS.iloadN X0.here hx rfl (hb hby d35_0) rfl ?_
    exact kt
  have hd1 : ¬ (p0 < (0 : Int32)) := hp0
  have c4 : own_G p e below s₁ (mkF m 6 #[oi p0, oi p1, oa r2] [(.int p1), (.int p0)]) (mkF m 1 #[oi p0, oi p1, oa r2] [(.int p0)]) := by
    intro t kt
    show oS s₁ (mkF m 1 #[oi p0, oi p1, oa r2] [(.int p0)]) _
    refine XS.ifNo X0.here hx rfl (hb hby d35_1) rfl ((if0 _ _).trans (flt hd1).1) ?_
    show oS s₁ (mkF m 4 #[oi p0, oi p1, oa r2] []) _
    refine XS.iloadN X0.here hx rfl (hb hby d35_4) rfl ?_
    show oS s₁ (mkF m 5 #[oi p0, oi p1, oa r2] [(.int p0)]) _
    refine XS.iloadN X0.here hx rfl (hb hby d35_5) rfl ?_
    exact kt
  have hd3 : p0 < p1 := hp1
  have c5 : own_G p e below s₁ (mkF m 17 #[oi p0, oi p1, oa r2] [(.int p0)]) (mkF m 6 #[oi p0, oi p1, oa r2] [(.int p1), (.int p0)]) := by
    intro t kt
    show oS s₁ (mkF m 6 #[oi p0, oi p1, oa r2] [(.int p1), (.int p0)]) _
    refine XS.icmpYes X0.here hx rfl (pc0 := 6) (pc' := 16) rfl (hb hby d35_6) rfl (tlt hd3).1 (by decide) (by decide) ?_
    show oS s₁ (mkF m 16 #[oi p0, oi p1, oa r2] []) _
    refine XS.iloadN X0.here hx rfl (hb hby d35_16) rfl ?_
    exact kt
  obtain ⟨fs, hr, hrun, hended, hW, hsame⟩ := X0.leave (v := some (.int p0)) (fun h => by rw [Bd.returns] at h; cases h)
  refine ⟨_, _, pre0 _ (c2 _ (c4 _ (c5 _ (?_)))), hrun, hended, _, _, rfl, ?_, ⟨_, rfl⟩, hW, hsame.mono (by decide) (by decide)⟩
  · show Steps p.tables e below (s₁.setTop (mkF m 17 #[oi p0, oi p1, oa r2] [(.int p0)])) _
    exact retI X0 hx Bd.returns (hb hby d35_17) hr
  · show Q35r Z p0 p1 r2 h0 n0 _ s₁.heap _
    rw [e0]
    exact ⟨congrArg (fun z => some (Value.int z)) (show p0 = p0 from by rfl), N0, rfl⟩
theorem d34_0 : decode jdk_42_method_155_code 0 = .ok (.iload_n 0, 1) := by decide +kernel
theorem d34_1 : decode jdk_42_method_155_code 1 = .ok (.iload_n 1, 1) := by decide +kernel
theorem d34_2 : decode jdk_42_method_155_code 2 = .ok (.getstatic 1053, 3) := by decide +kernel
theorem d34_5 : decode jdk_42_method_155_code 5 = .ok (.invokestatic 1059, 3) := by decide +kernel
theorem d34_8 : decode jdk_42_method_155_code 8 = .ok (.pop, 1) := by decide +kernel
theorem d34_9 : decode jdk_42_method_155_code 9 = .ok (.return_, 1) := by decide +kernel
theorem pn_34 : plainName "java/lang/String" = true := by first | (simp [plainName, overriddenIn]; done) | decide +kernel
theorem ef_34 (m : MethodId) (x0 : Int32) (x1 : Int32) : entryFrame m #[(.int x0), (.int x1)] 2 = mkF m 0 #[.val (.int x0), .val (.int x1)] [] := by first | (simp [entryFrame, mkF, argsToLocals, Value.category]; done) | rfl
def Q34 (Z : State) (p0 : Int32) (p1 : Int32) (fm : Value) (h0 : Heap) (n0 : Nat) (v : Option Value) (h : Heap) (L : List Loc) : Prop := v = none ∧ Fr n0 L ∧ h = h0
set_option maxRecDepth 65536 in
set_option maxHeartbeats 40000000 in
theorem rm34 (l : Launch) (Z : State) (a0 : Array Value) (hw : ∀ d ∈ tables_1, d.before a0 Z = true) (ws : List Jvm.Cond) (p0 : Int32) (p1 : Int32) (fm : Value) (h0 : Heap) (n0 : Nat) (Z0 : n0 ≤ h0.size) (hp0 : ¬ p0 < (0 : Int32)) (hp1 : p0 < p1) (SF : Sta Z h0 "jdk/internal/util/Preconditions" "SIOOBE_FORMATTER" "Ljava/util/function/BiFunction;" fm) (hfm : fm.isRef = true) :
    MetFree l yy_1 (head1 (Jvm.Cond.code yy_1 jdk_42_method_155_code 2 none :: ws) ({ frames := 1, cells := 0, slots := 0, locals := 14 } : Room)) (fun a U => a = #[(.int p0), (.int p1)] ∧ Z.Warmed39 U.vm ∧ U.heap = h0) (fun _ _ _ _ _ => True) (fun _ U o U' => ∃ v L, o = .returned v ∧ Q34 Z p0 p1 fm h0 n0 v U'.heap L ∧ FrameEnd U o U' L ({ frames := 1, cells := 0, slots := 0, locals := 14 } : Room).cells ({ frames := 1, cells := 0, slots := 0, locals := 14 } : Room).slots) := by
  refine MetFree.of_bodySF (plainFor_of_name pn_34) hisR ?_
  intro p e s m args below meth c s₁ Bd hml0 hP hK
  obtain ⟨rfl, hZ, hh⟩ := hP
  have hx := Bd.exec
  have hby := Bd.bytes
  have hml : c.maxLocals = 2 := hml0
  have hown : s.vm.findClass "java/lang/String" = some m.cls := findClass_of_methodNamed Bd.named
  have hnm := (name_of_methodNamed Bd.named Bd.method).1
  have X0 : Stand p l e ({ frames := 1, cells := 0, slots := 0, locals := 14 } : Room) s m #[(.int p0), (.int p1)] below meth c s₁ [] 0 0 := Stand.of_body Bd
  have e0 : s₁.heap = h0 := by rw [← hh, Bd.state]; rfl
  have N0 := Fr.nil n0
  have pre0 : ∀ t, Steps p.tables e below (s₁.setTop (mkF m 0 #[oi p0, oi p1] [])) t → Steps p.tables e below (s₁.setTop (entryFrame m #[(.int p0), (.int p1)] 2)) t := fun t k => castTop (ef_34 m p0 p1) k
  rcases ref_cases hfm with rfl | ⟨fa, rfl⟩
  · skip
    have c2 : own_G p e below s₁ (mkF m 2 #[oi p0, oi p1] [(.int p1), (.int p0)]) (mkF m 0 #[oi p0, oi p1] []) := by
      intro t kt
      show oS s₁ (mkF m 0 #[oi p0, oi p1] []) _
      refine XS.iloadN X0.here hx rfl (hb hby d34_0) rfl ?_
      show oS s₁ (mkF m 1 #[oi p0, oi p1] [(.int p0)]) _
      refine XS.iloadN X0.here hx rfl (hb hby d34_1) rfl ?_
      exact kt
    obtain ⟨T1, X1, e1, st1⟩ := getS2 X0 hx hZ hown (host := "") (Or.inl (own_t hw 181 rfl)) Via.refl e0 SF (g := (mkF m 2 #[oi p0, oi p1] [(.int p1), (.int p0)])) rfl (hb hby d34_2)
    obtain ⟨_, _, ⟨T3, L3, k3, n3⟩, -, X3, ⟨Lc3, hQ3, l3, y3, z3⟩, st3⟩ := Jvm.LawKit.callS X1 hx (y := yy_0) hown (mvT hZ (own_t hw 183 rfl)) (mvT hZ (own_t hw 184 rfl)) (mvT hZ (own_t hw 182 rfl)) (mvT hZ (own_t hw 185 rfl)) (by decide) (backOf (W := 0) (rm35n l Z a0 hw [] p0 p1  h0 n0 Z0 hp0 hp1) hZ (own_t hw 185 rfl) (own_t hw 182 rfl) (by decide) (by decide)) (g := (mkF m 5 #[oi p0, oi p1] [.null, (.int p1), (.int p0)])) rfl (by rw [hml]; rfl) (argsL := [(.int p0), (.int p1), .null]) (rest := []) (lenOf pd_0 rfl) rfl (by show 2 * 0 + _ ≤ _; exact Nat.le_of_eq rfl) (hb hby d34_5) (fun _ _ => ⟨rfl, e1, (by decide : 0 + 0 ≤ _), (by decide : 0 + 0 ≤ _)⟩)
    dsimp only [Pt.U, Pt.locs, Pt.cells, Pt.slots] at X3 l3 y3 z3 st3 hQ3
    subst l3 y3 z3
    obtain ⟨rfl, N3q, e3⟩ := hQ3
    have N3 := Fr.app N0 N3q
    have c4 : own_G p e below T3 (mkF m 9 #[oi p0, oi p1] []) (mkF m 8 #[oi p0, oi p1] [(.int p0)]) := by
      intro t kt
      show oS T3 (mkF m 8 #[oi p0, oi p1] [(.int p0)]) _
      refine XS.pop X3.here hx rfl (hb hby d34_8) rfl rfl ?_
      exact kt
    obtain ⟨fs, hr, hrun, hended, hW, hsame⟩ := X3.leave (v := none) (fun _ => rfl)
    refine ⟨_, _, pre0 _ (c2 _ (st1 _ (st3 _ (c4 _ (?_))))), hrun, hended, _, _, rfl, ?_, ⟨_, rfl⟩, hW, hsame.mono (by decide) (by decide)⟩
    · show Steps p.tables e below (T3.setTop (mkF m 9 #[oi p0, oi p1] [])) _
      exact X3.returnOut hx Bd.returns (hb hby d34_9) hr
    · show Q34 Z p0 p1 _ h0 n0 _ T3.heap _
      rw [e3]
      exact ⟨rfl, N3, rfl⟩
  · skip
    have c7 : own_G p e below s₁ (mkF m 2 #[oi p0, oi p1] [(.int p1), (.int p0)]) (mkF m 0 #[oi p0, oi p1] []) := by
      intro t kt
      show oS s₁ (mkF m 0 #[oi p0, oi p1] []) _
      refine XS.iloadN X0.here hx rfl (hb hby d34_0) rfl ?_
      show oS s₁ (mkF m 1 #[oi p0, oi p1] [(.int p0)]) _
      refine XS.iloadN X0.here hx rfl (hb hby d34_1) rfl ?_
      exact kt
    obtain ⟨T6, X6, e6, st6⟩ := getS2 X0 hx hZ hown (host := "") (Or.inl (own_t hw 181 rfl)) Via.refl e0 SF (g := (mkF m 2 #[oi p0, oi p1] [(.int p1), (.int p0)])) rfl (hb hby d34_2)
    obtain ⟨_, _, ⟨T8, L8, k8, n8⟩, -, X8, ⟨Lc8, hQ8, l8, y8, z8⟩, st8⟩ := Jvm.LawKit.callS X6 hx (y := yy_0) hown (mvT hZ (own_t hw 183 rfl)) (mvT hZ (own_t hw 184 rfl)) (mvT hZ (own_t hw 182 rfl)) (mvT hZ (own_t hw 185 rfl)) (by decide) (backOf (W := 0) (rm35r l Z a0 hw [] p0 p1 fa  h0 n0 Z0 hp0 hp1) hZ (own_t hw 185 rfl) (own_t hw 182 rfl) (by decide) (by decide)) (g := (mkF m 5 #[oi p0, oi p1] [(.ref fa), (.int p1), (.int p0)])) rfl (by rw [hml]; rfl) (argsL := [(.int p0), (.int p1), (.ref fa)]) (rest := []) (lenOf pd_0 rfl) rfl (by show 2 * 0 + _ ≤ _; exact Nat.le_of_eq rfl) (hb hby d34_5) (fun _ _ => ⟨rfl, e6, (by decide : 0 + 0 ≤ _), (by decide : 0 + 0 ≤ _)⟩)
    dsimp only [Pt.U, Pt.locs, Pt.cells, Pt.slots] at X8 l8 y8 z8 st8 hQ8
    subst l8 y8 z8
    obtain ⟨rfl, N8q, e8⟩ := hQ8
    have N8 := Fr.app N0 N8q
    have c9 : own_G p e below T8 (mkF m 9 #[oi p0, oi p1] []) (mkF m 8 #[oi p0, oi p1] [(.int p0)]) := by
      intro t kt
      show oS T8 (mkF m 8 #[oi p0, oi p1] [(.int p0)]) _
      refine XS.pop X8.here hx rfl (hb hby d34_8) rfl rfl ?_
      exact kt
    obtain ⟨fs, hr, hrun, hended, hW, hsame⟩ := X8.leave (v := none) (fun _ => rfl)
    refine ⟨_, _, pre0 _ (c7 _ (st6 _ (st8 _ (c9 _ (?_))))), hrun, hended, _, _, rfl, ?_, ⟨_, rfl⟩, hW, hsame.mono (by decide) (by decide)⟩
    · show Steps p.tables e below (T8.setTop (mkF m 9 #[oi p0, oi p1] [])) _
      exact X8.returnOut hx Bd.returns (hb hby d34_9) hr
    · show Q34 Z p0 p1 _ h0 n0 _ T8.heap _
      rw [e8]
      exact ⟨rfl, N8, rfl⟩
theorem d33_0 : decode jdk_43_method_2_code 0 = .ok (.iload_n 1, 1) := by decide +kernel
theorem d33_1 : decode jdk_43_method_2_code 1 = .ok (.aload_n 0, 1) := by decide +kernel
theorem d33_2 : decode jdk_43_method_2_code 2 = .ok (.arraylength, 1) := by decide +kernel
theorem d33_3 : decode jdk_43_method_2_code 3 = .ok (.invokestatic 9, 3) := by decide +kernel
theorem d33_6 : decode jdk_43_method_2_code 6 = .ok (.aload_n 0, 1) := by decide +kernel
theorem d33_7 : decode jdk_43_method_2_code 7 = .ok (.iload_n 1, 1) := by decide +kernel
theorem d33_8 : decode jdk_43_method_2_code 8 = .ok (.baload, 1) := by decide +kernel
theorem d33_9 : decode jdk_43_method_2_code 9 = .ok (.sipush 255, 3) := by decide +kernel
theorem d33_12 : decode jdk_43_method_2_code 12 = .ok (.iand, 1) := by decide +kernel
theorem d33_13 : decode jdk_43_method_2_code 13 = .ok (.i2c, 1) := by decide +kernel
theorem d33_14 : decode jdk_43_method_2_code 14 = .ok (.ireturn, 1) := by decide +kernel
theorem pn_33 : plainName "java/lang/StringLatin1" = true := by first | (simp [plainName, overriddenIn]; done) | decide +kernel
theorem ef_33 (m : MethodId) (x0 : Addr) (x1 : Int32) : entryFrame m #[(.ref x0), (.int x1)] 2 = mkF m 0 #[.val (.ref x0), .val (.int x1)] [] := by first | (simp [entryFrame, mkF, argsToLocals, Value.category]; done) | rfl
def Q33 (Z : State) (r0 : Addr) (p1 : Int32) (kk : ClassId) (zz : Int32) (vs : List Value) (dv : Value) (w0 : Int32) (fm : Value) (h0 : Heap) (n0 : Nat) (v : Option Value) (h : Heap) (L : List Loc) : Prop := v = some (.int (own_ch w0)) ∧ Fr n0 L ∧ h = h0
set_option maxRecDepth 65536 in
set_option maxHeartbeats 40000000 in
theorem rm33 (l : Launch) (Z : State) (a0 : Array Value) (hw : ∀ d ∈ tables_1, d.before a0 Z = true) (ws : List Jvm.Cond) (r0 : Addr) (p1 : Int32) (kk : ClassId) (zz : Int32) (vs : List Value) (dv : Value) (w0 : Int32) (fm : Value) (h0 : Heap) (n0 : Nat) (Z0 : n0 ≤ h0.size) (V : Arv Z h0 r0 kk .byte zz vs dv) (hi0 : ¬ p1 < 0 ∧ p1 < zz) (ha0 : vs.getD p1.toNatClampNeg dv = .int w0) (SF : Sta Z h0 "jdk/internal/util/Preconditions" "SIOOBE_FORMATTER" "Ljava/util/function/BiFunction;" fm) (hfm : fm.isRef = true) :
    MetFree l yy_2 (head1 (Jvm.Cond.code yy_2 jdk_43_method_2_code 2 (some .char) :: ws) ({ frames := 2, cells := 0, slots := 0, locals := 27 } : Room)) (fun a U => a = #[(.ref r0), (.int p1)] ∧ Z.Warmed39 U.vm ∧ U.heap = h0) (fun _ _ _ _ _ => True) (fun _ U o U' => ∃ v L, o = .returned v ∧ Q33 Z r0 p1 kk zz vs dv w0 fm h0 n0 v U'.heap L ∧ FrameEnd U o U' L ({ frames := 2, cells := 0, slots := 0, locals := 27 } : Room).cells ({ frames := 2, cells := 0, slots := 0, locals := 27 } : Room).slots) := by
  refine MetFree.of_bodySF (plainFor_of_name pn_33) hisR ?_
  intro p e s m args below meth c s₁ Bd hml0 hP hK
  obtain ⟨rfl, hZ, hh⟩ := hP
  have hx := Bd.exec
  have hby := Bd.bytes
  have hml : c.maxLocals = 2 := hml0
  have hown : s.vm.findClass "java/lang/StringLatin1" = some m.cls := findClass_of_methodNamed Bd.named
  have hnm := (name_of_methodNamed Bd.named Bd.method).1
  have X0 : Stand p l e ({ frames := 2, cells := 0, slots := 0, locals := 27 } : Room) s m #[(.ref r0), (.int p1)] below meth c s₁ [] 0 0 := Stand.of_body Bd
  have e0 : s₁.heap = h0 := by rw [← hh, Bd.state]; rfl
  have N0 := Fr.nil n0
  have pre0 : ∀ t, Steps p.tables e below (s₁.setTop (mkF m 0 #[oa r0, oi p1] [])) t → Steps p.tables e below (s₁.setTop (entryFrame m #[(.ref r0), (.int p1)] 2)) t := fun t k => castTop (ef_33 m r0 p1) k
  have Vc1 := V
  obtain ⟨cl1, Ar1, qk1, S1, M1, H1, G1⟩ := Vc1
  have c2 : own_G p e below s₁ (mkF m 3 #[oa r0, oi p1] [(.int zz), (.int p1)]) (mkF m 0 #[oa r0, oi p1] []) := by
    intro t kt
    show oS s₁ (mkF m 0 #[oa r0, oi p1] []) _
    refine XS.iloadN X0.here hx rfl (hb hby d33_0) rfl ?_
    show oS s₁ (mkF m 1 #[oa r0, oi p1] [(.int p1)]) _
    refine XS.aloadN X0.here hx rfl (hb hby d33_1) rfl rfl ?_
    show oS s₁ (mkF m 2 #[oa r0, oi p1] [(.ref r0), (.int p1)]) _
    refine X0.arraylength hx (by rw [e0]; exact Ar1.1) (State.isArrayOf_alike hZ.alike Ar1.2.1) (g := (mkF m 2 #[oa r0, oi p1] [(.ref r0), (.int p1)])) rfl rfl (hb hby d33_2) _ ?_
    rw [len_of S1 M1]
    exact kt
  obtain ⟨_, _, ⟨T3, L3, k3, n3⟩, -, X3, ⟨Lc3, hQ3, l3, y3, z3⟩, st3⟩ := Jvm.LawKit.callS X0 hx (y := yy_1) hown (mvT hZ (own_t hw 178 rfl)) (mvT hZ (own_t hw 179 rfl)) (mvT hZ (own_t hw 9 rfl)) (mvT hZ (own_t hw 180 rfl)) (by decide) (backOf (W := 0) (rm34 l Z a0 hw [] p1 zz fm h0 n0 Z0 hi0.1 hi0.2 SF hfm) hZ (own_t hw 180 rfl) (own_t hw 9 rfl) (by decide) (by decide)) (g := (mkF m 3 #[oa r0, oi p1] [(.int zz), (.int p1)])) rfl (by rw [hml]; rfl) (argsL := [(.int p1), (.int zz)]) (rest := []) (lenOf pd_1 rfl) rfl (by show 2 * 0 + _ ≤ _; exact Nat.le_of_eq rfl) (hb hby d33_3) (fun _ _ => ⟨rfl, e0, (by decide : 0 + 0 ≤ _), (by decide : 0 + 0 ≤ _)⟩)
  dsimp only [Pt.U, Pt.locs, Pt.cells, Pt.slots] at X3 l3 y3 z3 st3 hQ3
  subst l3 y3 z3
  obtain ⟨rfl, N3q, e3⟩ := hQ3
  have N3 := Fr.app N0 N3q
  have Vc4 := V
  obtain ⟨cl4, Ar4, qk4, S4, M4, H4, G4⟩ := Vc4
  have hin4 : ¬ (p1 < 0 ∨ cl4.slots.size ≤ (p1).toNatClampNeg) := inb_of S4 hi0
  have hat4 : cl4.slots[(p1).toNatClampNeg]? = some (.int w0) := H4.at hin4 ha0
  have c5 : own_G p e below T3 (mkF m 14 #[oa r0, oi p1] [(.int ((w0 &&& (255 : Int32)).toUInt32.toUInt16.toUInt32.toInt32))]) (mkF m 6 #[oa r0, oi p1] []) := by
    intro t kt
    show oS T3 (mkF m 6 #[oa r0, oi p1] []) _
    refine XS.aloadN X3.here hx rfl (hb hby d33_6) rfl rfl ?_
    show oS T3 (mkF m 7 #[oa r0, oi p1] [(.ref r0)]) _
    refine XS.iloadN X3.here hx rfl (hb hby d33_7) rfl ?_
    show oS T3 (mkF m 8 #[oa r0, oi p1] [(.int p1), (.ref r0)]) _
    refine X3.baloadBytes hx (j := p1) (v := (.int w0)) (by rw [e3]; exact Ar4.1) (State.isArrayOf_alike hZ.alike Ar4.2.1) Ar4.2.2 hin4 hat4 (g := (mkF m 8 #[oa r0, oi p1] [(.int p1), (.ref r0)])) rfl rfl (hb hby d33_8) _ ?_
    show oS T3 (mkF m 9 #[oa r0, oi p1] [(.int w0)]) _
    refine XS.sipush X3.here hx rfl (hb hby d33_9) ?_
    show oS T3 (mkF m 12 #[oa r0, oi p1] [(.int (255 : Int32)), (.int w0)]) _
    refine XS.iand X3.here hx rfl (hb hby d33_12) rfl ?_
    show oS T3 (mkF m 13 #[oa r0, oi p1] [(.int (w0 &&& (255 : Int32)))]) _
    refine XS.i2c X3.here hx rfl (hb hby d33_13) rfl ?_
    exact kt
  obtain ⟨fs, hr, hrun, hended, hW, hsame⟩ := X3.leave (v := some (.int (((w0 &&& (255 : Int32)).toUInt32.toUInt16.toUInt32.toInt32).toUInt32.toUInt16.toUInt32.toInt32))) (fun h => by rw [Bd.returns] at h; cases h)
  refine ⟨_, _, pre0 _ (c2 _ (st3 _ (c5 _ (?_)))), hrun, hended, _, _, rfl, ?_, ⟨_, rfl⟩, hW, hsame.mono (by decide) (by decide)⟩
  · show Steps p.tables e below (T3.setTop (mkF m 14 #[oa r0, oi p1] [(.int ((w0 &&& (255 : Int32)).toUInt32.toUInt16.toUInt32.toInt32))])) _
    exact retN X3 hx (t := .char) Bd.returns (by simp) (hb hby d33_14) hr
  · show Q33 Z r0 p1 kk zz vs dv w0 fm h0 n0 _ T3.heap _
    rw [e3]
    exact ⟨congrArg (fun z => some (Value.int z)) (show (((w0 &&& (255 : Int32)).toUInt32.toUInt16.toUInt32.toInt32).toUInt32.toUInt16.toUInt32.toInt32) = (own_ch w0) from by rfl), N3, rfl⟩
theorem d32_0 : decode jdk_42_method_154_code 0 = .ok (.getstatic 38, 3) := by decide +kernel
theorem d32_3 : decode jdk_42_method_154_code 3 = .ok (.ifCond .eq 14, 3) := by decide +kernel
theorem d32_6 : decode jdk_42_method_154_code 6 = .ok (.aload_n 0, 1) := by decide +kernel
theorem d32_7 : decode jdk_42_method_154_code 7 = .ok (.getfield 15, 3) := by decide +kernel
theorem d32_10 : decode jdk_42_method_154_code 10 = .ok (.ifCond .ne 7, 3) := by decide +kernel
theorem d32_13 : decode jdk_42_method_154_code 13 = .ok (.iconst 1, 1) := by decide +kernel
theorem d32_14 : decode jdk_42_method_154_code 14 = .ok (.goto 4, 3) := by decide +kernel
theorem d32_18 : decode jdk_42_method_154_code 18 = .ok (.ireturn, 1) := by decide +kernel
theorem pn_32 : plainName "java/lang/String" = true := by first | (simp [plainName, overriddenIn]; done) | decide +kernel
theorem ef_32 (m : MethodId) (x0 : Addr) : entryFrame m #[(.ref x0)] 1 = mkF m 0 #[.val (.ref x0)] [] := by first | (simp [entryFrame, mkF, argsToLocals, Value.category]; done) | rfl
def Q32 (Z : State) (r0 : Addr) (cs : Int32) (h0 : Heap) (n0 : Nat) (v : Option Value) (h : Heap) (L : List Loc) : Prop := v = some (.int (1 : Int32)) ∧ Fr n0 L ∧ h = h0
set_option maxRecDepth 65536 in
set_option maxHeartbeats 40000000 in
theorem rm32 (l : Launch) (Z : State) (a0 : Array Value) (hw : ∀ d ∈ tables_1, d.before a0 Z = true) (ws : List Jvm.Cond) (r0 : Addr) (cs : Int32) (h0 : Heap) (n0 : Nat) (Z0 : n0 ≤ h0.size) (SC : Sta Z h0 "java/lang/String" "COMPACT_STRINGS" "Z" (.int cs)) (hcs : ¬ cs = (0 : Int32)) (C0 : Fld Z h0 r0 "java/lang/String" "coder" "B" (.int (0 : Int32))) :
    MetFree l yy_3 (head1 (Jvm.Cond.code yy_3 jdk_42_method_154_code 1 (some .boolean) :: ws) ({ frames := 0, cells := 0, slots := 0, locals := 0 } : Room)) (fun a U => a = #[(.ref r0)] ∧ Z.Warmed39 U.vm ∧ U.heap = h0) (fun _ _ _ _ _ => True) (fun _ U o U' => ∃ v L, o = .returned v ∧ Q32 Z r0 cs h0 n0 v U'.heap L ∧ FrameEnd U o U' L ({ frames := 0, cells := 0, slots := 0, locals := 0 } : Room).cells ({ frames := 0, cells := 0, slots := 0, locals := 0 } : Room).slots) := by
  refine MetFree.of_bodySF (plainFor_of_name pn_32) hisR ?_
  intro p e s m args below meth c s₁ Bd hml0 hP hK
  obtain ⟨rfl, hZ, hh⟩ := hP
  have hx := Bd.exec
  have hby := Bd.bytes
  have hml : c.maxLocals = 1 := hml0
  have hown : s.vm.findClass "java/lang/String" = some m.cls := findClass_of_methodNamed Bd.named
  have hnm := (name_of_methodNamed Bd.named Bd.method).1
  have X0 : Stand p l e ({ frames := 0, cells := 0, slots := 0, locals := 0 } : Room) s m #[(.ref r0)] below meth c s₁ [] 0 0 := Stand.of_body Bd
  have e0 : s₁.heap = h0 := by rw [← hh, Bd.state]; rfl
  have N0 := Fr.nil n0
  have pre0 : ∀ t, Steps p.tables e below (s₁.setTop (mkF m 0 #[oa r0] [])) t → Steps p.tables e below (s₁.setTop (entryFrame m #[(.ref r0)] 1)) t := fun t k => castTop (ef_32 m r0) k
  obtain ⟨T1, X1, e1, st1⟩ := getS2 X0 hx hZ hown (host := "") (Or.inl (own_t hw 11 rfl)) Via.refl e0 SC (g := (mkF m 0 #[oa r0] [])) rfl (hb hby d32_0)
  have hd2 : ¬ (cs = (0 : Int32)) := hcs
  have c4 : own_G p e below T1 (mkF m 7 #[oa r0] [(.ref r0)]) (mkF m 3 #[oa r0] [(.int cs)]) := by
    intro t kt
    show oS T1 (mkF m 3 #[oa r0] [(.int cs)]) _
    refine XS.ifNo X1.here hx rfl (hb hby d32_3) rfl ((if0 _ _).trans (feq hd2).1) ?_
    show oS T1 (mkF m 6 #[oa r0] []) _
    refine XS.aloadN X1.here hx rfl (hb hby d32_6) rfl rfl ?_
    exact kt
  obtain ⟨T3, X3, e3, st3⟩ := getF X1 hx hZ hown (host := "") (Or.inl (own_t hw 31 rfl)) Via.refl e1 C0 (g := (mkF m 7 #[oa r0] [(.ref r0)])) rfl rfl (hb hby d32_7)
  have c5 : own_G p e below T3 (mkF m 18 #[oa r0] [(.int (1 : Int32))]) (mkF m 10 #[oa r0] [(.int (0 : Int32))]) := by
    intro t kt
    show oS T3 (mkF m 10 #[oa r0] [(.int (0 : Int32))]) _
    refine XS.ifNo X3.here hx rfl (hb hby d32_10) rfl ((if0 _ _).trans (teq (by decide : (0 : Int32) = (0 : Int32))).2) ?_
    show oS T3 (mkF m 13 #[oa r0] []) _
    refine XS.iconst X3.here hx rfl (hb hby d32_13) ?_
    show oS T3 (mkF m 14 #[oa r0] [(.int (1 : Int32))]) _
    refine XS.goto X3.here hx rfl (pc0 := 14) (pc' := 18) rfl (hb hby d32_14) (by decide) (by decide) ?_
    exact kt
  obtain ⟨fs, hr, hrun, hended, hW, hsame⟩ := X3.leave (v := some (.int (1 : Int32))) (fun h => by rw [Bd.returns] at h; cases h)
  refine ⟨_, _, pre0 _ (st1 _ (c4 _ (st3 _ (c5 _ (?_))))), hrun, hended, _, _, rfl, ?_, ⟨_, rfl⟩, hW, hsame.mono (by decide) (by decide)⟩
  · show Steps p.tables e below (T3.setTop (mkF m 18 #[oa r0] [(.int (1 : Int32))])) _
    exact retN X3 hx (t := .boolean) Bd.returns (by simp) (hb hby d32_18) hr
  · show Q32 Z r0 cs h0 n0 _ T3.heap _
    rw [e3]
    exact ⟨congrArg (fun z => some (Value.int z)) (show (1 : Int32) = (1 : Int32) from by rfl), N0, rfl⟩
theorem d31_0 : decode jdk_42_method_56_code 0 = .ok (.aload_n 0, 1) := by decide +kernel
theorem d31_1 : decode jdk_42_method_56_code 1 = .ok (.invokevirtual 492, 3) := by decide +kernel
theorem d31_4 : decode jdk_42_method_56_code 4 = .ok (.ifCond .eq 12, 3) := by decide +kernel
theorem d31_7 : decode jdk_42_method_56_code 7 = .ok (.aload_n 0, 1) := by decide +kernel
theorem d31_8 : decode jdk_42_method_56_code 8 = .ok (.getfield 9, 3) := by decide +kernel
theorem d31_11 : decode jdk_42_method_56_code 11 = .ok (.iload_n 1, 1) := by decide +kernel
theorem d31_12 : decode jdk_42_method_56_code 12 = .ok (.invokestatic 495, 3) := by decide +kernel
theorem d31_15 : decode jdk_42_method_56_code 15 = .ok (.ireturn, 1) := by decide +kernel
theorem pn_31 : plainName "java/lang/String" = true := by first | (simp [plainName, overriddenIn]; done) | decide +kernel
theorem ef_31 (m : MethodId) (x0 : Addr) (x1 : Int32) : entryFrame m #[(.ref x0), (.int x1)] 2 = mkF m 0 #[.val (.ref x0), .val (.int x1)] [] := by first | (simp [entryFrame, mkF, argsToLocals, Value.category]; done) | rfl
def Q31 (Z : State) (r0 : Addr) (p1 : Int32) (rb : Addr) (kk : ClassId) (zz : Int32) (vs : List Value) (dv : Value) (w0 : Int32) (fm : Value) (cs : Int32) (h0 : Heap) (n0 : Nat) (v : Option Value) (h : Heap) (L : List Loc) : Prop := v = some (.int (own_cc w0)) ∧ Fr n0 L ∧ h = h0
set_option maxRecDepth 65536 in
set_option maxHeartbeats 40000000 in
theorem rm31 (l : Launch) (Z : State) (a0 : Array Value) (hw : ∀ d ∈ tables_1, d.before a0 Z = true) (ws : List Jvm.Cond) (r0 : Addr) (p1 : Int32) (rb : Addr) (kk : ClassId) (zz : Int32) (vs : List Value) (dv : Value) (w0 : Int32) (fm : Value) (cs : Int32) (h0 : Heap) (n0 : Nat) (Z0 : n0 ≤ h0.size) (E0 : Exa Z h0 r0 "java/lang/String") (F0 : Fld Z h0 r0 "java/lang/String" "value" "[B" (.ref rb)) (V : Arv Z h0 rb kk .byte zz vs dv) (hi0 : ¬ p1 < 0 ∧ p1 < zz) (ha0 : vs.getD p1.toNatClampNeg dv = .int w0) (SF : Sta Z h0 "jdk/internal/util/Preconditions" "SIOOBE_FORMATTER" "Ljava/util/function/BiFunction;" fm) (hfm : fm.isRef = true) (SC : Sta Z h0 "java/lang/String" "COMPACT_STRINGS" "Z" (.int cs)) (hcs : ¬ cs = (0 : Int32)) (C0 : Fld Z h0 r0 "java/lang/String" "coder" "B" (.int (0 : Int32))) :
    MetFree l yy_4 (head1 (Jvm.Cond.code yy_4 jdk_42_method_56_code 2 (some .char) :: ws) ({ frames := 3, cells := 0, slots := 0, locals := 40 } : Room)) (fun a U => a = #[(.ref r0), (.int p1)] ∧ Z.Warmed39 U.vm ∧ U.heap = h0) (fun _ _ _ _ _ => True) (fun _ U o U' => ∃ v L, o = .returned v ∧ Q31 Z r0 p1 rb kk zz vs dv w0 fm cs h0 n0 v U'.heap L ∧ FrameEnd U o U' L ({ frames := 3, cells := 0, slots := 0, locals := 40 } : Room).cells ({ frames := 3, cells := 0, slots := 0, locals := 40 } : Room).slots) := by
  refine MetFree.of_bodySF (plainFor_of_name pn_31) hisR ?_
  intro p e s m args below meth c s₁ Bd hml0 hP hK
  obtain ⟨rfl, hZ, hh⟩ := hP
  have hx := Bd.exec
  have hby := Bd.bytes
  have hml : c.maxLocals = 2 := hml0
  have hown : s.vm.findClass "java/lang/String" = some m.cls := findClass_of_methodNamed Bd.named
  have hnm := (name_of_methodNamed Bd.named Bd.method).1
  have X0 : Stand p l e ({ frames := 3, cells := 0, slots := 0, locals := 40 } : Room) s m #[(.ref r0), (.int p1)] below meth c s₁ [] 0 0 := Stand.of_body Bd
  have e0 : s₁.heap = h0 := by rw [← hh, Bd.state]; rfl
  have N0 := Fr.nil n0
  have pre0 : ∀ t, Steps p.tables e below (s₁.setTop (mkF m 0 #[oa r0, oi p1] [])) t → Steps p.tables e below (s₁.setTop (entryFrame m #[(.ref r0), (.int p1)] 2)) t := fun t k => castTop (ef_31 m r0 p1) k
  have c1 : own_G p e below s₁ (mkF m 1 #[oa r0, oi p1] [(.ref r0)]) (mkF m 0 #[oa r0, oi p1] []) := by
    intro t kt
    show oS s₁ (mkF m 0 #[oa r0, oi p1] []) _
    refine XS.aloadN X0.here hx rfl (hb hby d31_0) rfl rfl ?_
    exact kt
  obtain ⟨cq2, kq2, q2a, q2b, q2c⟩ := isOf hZ e0 E0
  obtain ⟨_, _, ⟨T3, L3, k3, n3⟩, -, X3, ⟨Lc3, hQ3, l3, y3, z3⟩, st3⟩ := X0.virtualBack hx (y := yy_3) (z := yy_3) hown (mvT hZ (own_t hw 170 rfl)) (mvT hZ (own_t hw 171 rfl)) (notFace_of_selects (args := #[]) (mvT hZ (own_t hw 173 rfl))) (mvT hZ (own_t hw 173 rfl)) (mvT hZ (own_t hw 172 rfl)) (by decide) (backOf (W := 0) (rm32 l Z a0 hw [] r0 cs h0 n0 Z0 SC hcs C0) hZ (own_t hw 174 rfl) (own_t hw 9 rfl) (by decide) (by decide)) q2a q2c (g := (mkF m 1 #[oa r0, oi p1] [(.ref r0)])) rfl (by rw [hml]; rfl) (Steps.refl _) (argsL := []) (rest := []) (lenOf pd_2 rfl) rfl (by show 2 * 0 + _ ≤ _; exact Nat.le_of_eq rfl) (hb hby d31_1) (fun _ _ => ⟨rfl, e0, (by decide : 0 + 0 ≤ _), (by decide : 0 + 0 ≤ _)⟩)
  dsimp only [Pt.U, Pt.locs, Pt.cells, Pt.slots] at X3 l3 y3 z3 st3 hQ3
  subst l3 y3 z3
  obtain ⟨rfl, N3q, e3⟩ := hQ3
  have N3 := Fr.app N0 N3q
  have c5 : own_G p e below T3 (mkF m 8 #[oa r0, oi p1] [(.ref r0)]) (mkF m 4 #[oa r0, oi p1] [(.int (1 : Int32))]) := by
    intro t kt
    show oS T3 (mkF m 4 #[oa r0, oi p1] [(.int (1 : Int32))]) _
    refine XS.ifNo X3.here hx rfl (hb hby d31_4) rfl ((if0 _ _).trans (feq (by decide : ¬ ((1 : Int32) = (0 : Int32)))).1) ?_
    show oS T3 (mkF m 7 #[oa r0, oi p1] []) _
    refine XS.aloadN X3.here hx rfl (hb hby d31_7) rfl rfl ?_
    exact kt
  obtain ⟨T4, X4, e4, st4⟩ := getF X3 hx hZ hown (host := "") (Or.inl (own_t hw 29 rfl)) Via.refl e3 F0 (g := (mkF m 8 #[oa r0, oi p1] [(.ref r0)])) rfl rfl (hb hby d31_8)
  have c6 : own_G p e below T4 (mkF m 12 #[oa r0, oi p1] [(.int p1), (.ref rb)]) (mkF m 11 #[oa r0, oi p1] [(.ref rb)]) := by
    intro t kt
    show oS T4 (mkF m 11 #[oa r0, oi p1] [(.ref rb)]) _
    refine XS.iloadN X4.here hx rfl (hb hby d31_11) rfl ?_
    exact kt
  obtain ⟨_, _, ⟨T7, L7, k7, n7⟩, -, X7, ⟨Lc7, hQ7, l7, y7, z7⟩, st7⟩ := Jvm.LawKit.callS X4 hx (y := yy_2) hown (mvT hZ (own_t hw 175 rfl)) (mvT hZ (own_t hw 176 rfl)) (mvT hZ (own_t hw 14 rfl)) (mvT hZ (own_t hw 177 rfl)) (by decide) (backOf (W := 0) (rm33 l Z a0 hw [] rb p1 kk zz vs dv w0 fm h0 n0 Z0 V hi0 ha0 SF hfm) hZ (own_t hw 177 rfl) (own_t hw 14 rfl) (by decide) (by decide)) (g := (mkF m 12 #[oa r0, oi p1] [(.int p1), (.ref rb)])) rfl (by rw [hml]; rfl) (argsL := [(.ref rb), (.int p1)]) (rest := []) (lenOf pd_3 rfl) rfl (by show 2 * 0 + _ ≤ _; exact Nat.le_of_eq rfl) (hb hby d31_12) (fun _ _ => ⟨rfl, e4, (by decide : 0 + 0 ≤ _), (by decide : 0 + 0 ≤ _)⟩)
  dsimp only [Pt.U, Pt.locs, Pt.cells, Pt.slots] at X7 l7 y7 z7 st7 hQ7
  subst l7 y7 z7
  obtain ⟨rfl, N7q, e7⟩ := hQ7
  have N7 := Fr.app N3 N7q
  obtain ⟨fs, hr, hrun, hended, hW, hsame⟩ := X7.leave (v := some (.int ((own_ch w0).toUInt32.toUInt16.toUInt32.toInt32))) (fun h => by rw [Bd.returns] at h; cases h)
  refine ⟨_, _, pre0 _ (c1 _ (st3.trans (c5 _ (st4 _ (c6 _ (st7 _ (?_))))))), hrun, hended, _, _, rfl, ?_, ⟨_, rfl⟩, hW, hsame.mono (by decide) (by decide)⟩
  · show Steps p.tables e below (T7.setTop (mkF m 15 #[oa r0, oi p1] [(.int (own_ch w0))])) _
    exact retN X7 hx (t := .char) Bd.returns (by simp) (hb hby d31_15) hr
  · show Q31 Z r0 p1 rb kk zz vs dv w0 fm cs h0 n0 _ T7.heap _
    rw [e7]
    exact ⟨congrArg (fun z => some (Value.int z)) (show ((own_ch w0).toUInt32.toUInt16.toUInt32.toInt32) = (own_cc w0) from by rfl), N7, rfl⟩
theorem d15_0 : decode jdk_42_method_152_code 0 = .ok (.getstatic 38, 3) := by decide +kernel
theorem d15_3 : decode jdk_42_method_152_code 3 = .ok (.ifCond .eq 10, 3) := by decide +kernel
theorem d15_6 : decode jdk_42_method_152_code 6 = .ok (.aload_n 0, 1) := by decide +kernel
theorem d15_7 : decode jdk_42_method_152_code 7 = .ok (.getfield 15, 3) := by decide +kernel
theorem d15_10 : decode jdk_42_method_152_code 10 = .ok (.goto 4, 3) := by decide +kernel
theorem d15_14 : decode jdk_42_method_152_code 14 = .ok (.ireturn, 1) := by decide +kernel
theorem pn_15 : plainName "java/lang/String" = true := by first | (simp [plainName, overriddenIn]; done) | decide +kernel
theorem ef_15 (m : MethodId) (x0 : Addr) : entryFrame m #[(.ref x0)] 1 = mkF m 0 #[.val (.ref x0)] [] := by first | (simp [entryFrame, mkF, argsToLocals, Value.category]; done) | rfl
def Q15 (Z : State) (r0 : Addr) (cs : Int32) (h0 : Heap) (n0 : Nat) (v : Option Value) (h : Heap) (L : List Loc) : Prop := v = some (.int (0 : Int32)) ∧ Fr n0 L ∧ h = h0
set_option maxRecDepth 65536 in
set_option maxHeartbeats 40000000 in
theorem rm15 (l : Launch) (Z : State) (a0 : Array Value) (hw : ∀ d ∈ tables_1, d.before a0 Z = true) (ws : List Jvm.Cond) (r0 : Addr) (cs : Int32) (h0 : Heap) (n0 : Nat) (Z0 : n0 ≤ h0.size) (SC : Sta Z h0 "java/lang/String" "COMPACT_STRINGS" "Z" (.int cs)) (hcs : ¬ cs = (0 : Int32)) (C0 : Fld Z h0 r0 "java/lang/String" "coder" "B" (.int (0 : Int32))) :
    MetFree l yy_5 (head1 (Jvm.Cond.code yy_5 jdk_42_method_152_code 1 (some .byte) :: ws) ({ frames := 0, cells := 0, slots := 0, locals := 0 } : Room)) (fun a U => a = #[(.ref r0)] ∧ Z.Warmed39 U.vm ∧ U.heap = h0) (fun _ _ _ _ _ => True) (fun _ U o U' => ∃ v L, o = .returned v ∧ Q15 Z r0 cs h0 n0 v U'.heap L ∧ FrameEnd U o U' L ({ frames := 0, cells := 0, slots := 0, locals := 0 } : Room).cells ({ frames := 0, cells := 0, slots := 0, locals := 0 } : Room).slots) := by
  refine MetFree.of_bodySF (plainFor_of_name pn_15) hisR ?_
  intro p e s m args below meth c s₁ Bd hml0 hP hK
  obtain ⟨rfl, hZ, hh⟩ := hP
  have hx := Bd.exec
  have hby := Bd.bytes
  have hml : c.maxLocals = 1 := hml0
  have hown : s.vm.findClass "java/lang/String" = some m.cls := findClass_of_methodNamed Bd.named
  have hnm := (name_of_methodNamed Bd.named Bd.method).1
  have X0 : Stand p l e ({ frames := 0, cells := 0, slots := 0, locals := 0 } : Room) s m #[(.ref r0)] below meth c s₁ [] 0 0 := Stand.of_body Bd
  have e0 : s₁.heap = h0 := by rw [← hh, Bd.state]; rfl
  have N0 := Fr.nil n0
  have pre0 : ∀ t, Steps p.tables e below (s₁.setTop (mkF m 0 #[oa r0] [])) t → Steps p.tables e below (s₁.setTop (entryFrame m #[(.ref r0)] 1)) t := fun t k => castTop (ef_15 m r0) k
  obtain ⟨T1, X1, e1, st1⟩ := getS2 X0 hx hZ hown (host := "") (Or.inl (own_t hw 11 rfl)) Via.refl e0 SC (g := (mkF m 0 #[oa r0] [])) rfl (hb hby d15_0)
  have hd2 : ¬ (cs = (0 : Int32)) := hcs
  have c4 : own_G p e below T1 (mkF m 7 #[oa r0] [(.ref r0)]) (mkF m 3 #[oa r0] [(.int cs)]) := by
    intro t kt
    show oS T1 (mkF m 3 #[oa r0] [(.int cs)]) _
    refine XS.ifNo X1.here hx rfl (hb hby d15_3) rfl ((if0 _ _).trans (feq hd2).1) ?_
    show oS T1 (mkF m 6 #[oa r0] []) _
    refine XS.aloadN X1.here hx rfl (hb hby d15_6) rfl rfl ?_
    exact kt
  obtain ⟨T3, X3, e3, st3⟩ := getF X1 hx hZ hown (host := "") (Or.inl (own_t hw 31 rfl)) Via.refl e1 C0 (g := (mkF m 7 #[oa r0] [(.ref r0)])) rfl rfl (hb hby d15_7)
  have c5 : own_G p e below T3 (mkF m 14 #[oa r0] [(.int (0 : Int32))]) (mkF m 10 #[oa r0] [(.int (0 : Int32))]) := by
    intro t kt
    show oS T3 (mkF m 10 #[oa r0] [(.int (0 : Int32))]) _
    refine XS.goto X3.here hx rfl (pc0 := 10) (pc' := 14) rfl (hb hby d15_10) (by decide) (by decide) ?_
    exact kt
  obtain ⟨fs, hr, hrun, hended, hW, hsame⟩ := X3.leave (v := some (.int (0 : Int32))) (fun h => by rw [Bd.returns] at h; cases h)
  refine ⟨_, _, pre0 _ (st1 _ (c4 _ (st3 _ (c5 _ (?_))))), hrun, hended, _, _, rfl, ?_, ⟨_, rfl⟩, hW, hsame.mono (by decide) (by decide)⟩
  · show Steps p.tables e below (T3.setTop (mkF m 14 #[oa r0] [(.int (0 : Int32))])) _
    exact retN X3 hx (t := .byte) Bd.returns (by simp) (hb hby d15_14) hr
  · show Q15 Z r0 cs h0 n0 _ T3.heap _
    rw [e3]
    exact ⟨congrArg (fun z => some (Value.int z)) (show (0 : Int32) = (0 : Int32) from by rfl), N0, rfl⟩
theorem d14_0 : decode jdk_42_method_54_code 0 = .ok (.aload_n 0, 1) := by decide +kernel
theorem d14_1 : decode jdk_42_method_54_code 1 = .ok (.getfield 9, 3) := by decide +kernel
theorem d14_4 : decode jdk_42_method_54_code 4 = .ok (.arraylength, 1) := by decide +kernel
theorem d14_5 : decode jdk_42_method_54_code 5 = .ok (.aload_n 0, 1) := by decide +kernel
theorem d14_6 : decode jdk_42_method_54_code 6 = .ok (.invokevirtual 335, 3) := by decide +kernel
theorem d14_9 : decode jdk_42_method_54_code 9 = .ok (.ishr, 1) := by decide +kernel
theorem d14_10 : decode jdk_42_method_54_code 10 = .ok (.ireturn, 1) := by decide +kernel
theorem pn_14 : plainName "java/lang/String" = true := by first | (simp [plainName, overriddenIn]; done) | decide +kernel
theorem ef_14 (m : MethodId) (x0 : Addr) : entryFrame m #[(.ref x0)] 1 = mkF m 0 #[.val (.ref x0)] [] := by first | (simp [entryFrame, mkF, argsToLocals, Value.category]; done) | rfl
def Q14 (Z : State) (r0 : Addr) (rb : Addr) (kk : ClassId) (zz : Int32) (vs : List Value) (dv : Value) (cs : Int32) (h0 : Heap) (n0 : Nat) (v : Option Value) (h : Heap) (L : List Loc) : Prop := v = some (.int zz) ∧ Fr n0 L ∧ h = h0
set_option maxRecDepth 65536 in
set_option maxHeartbeats 40000000 in
theorem rm14 (l : Launch) (Z : State) (a0 : Array Value) (hw : ∀ d ∈ tables_1, d.before a0 Z = true) (ws : List Jvm.Cond) (r0 : Addr) (rb : Addr) (kk : ClassId) (zz : Int32) (vs : List Value) (dv : Value) (cs : Int32) (h0 : Heap) (n0 : Nat) (Z0 : n0 ≤ h0.size) (E0 : Exa Z h0 r0 "java/lang/String") (F0 : Fld Z h0 r0 "java/lang/String" "value" "[B" (.ref rb)) (V : Arv Z h0 rb kk .byte zz vs dv) (SC : Sta Z h0 "java/lang/String" "COMPACT_STRINGS" "Z" (.int cs)) (hcs : ¬ cs = (0 : Int32)) (C0 : Fld Z h0 r0 "java/lang/String" "coder" "B" (.int (0 : Int32))) :
    MetFree l yy_6 (head1 (Jvm.Cond.code yy_6 jdk_42_method_54_code 1 (some .int) :: ws) ({ frames := 1, cells := 0, slots := 0, locals := 13 } : Room)) (fun a U => a = #[(.ref r0)] ∧ Z.Warmed39 U.vm ∧ U.heap = h0) (fun _ _ _ _ _ => True) (fun _ U o U' => ∃ v L, o = .returned v ∧ Q14 Z r0 rb kk zz vs dv cs h0 n0 v U'.heap L ∧ FrameEnd U o U' L ({ frames := 1, cells := 0, slots := 0, locals := 13 } : Room).cells ({ frames := 1, cells := 0, slots := 0, locals := 13 } : Room).slots) := by
  refine MetFree.of_bodySF (plainFor_of_name pn_14) hisR ?_
  intro p e s m args below meth c s₁ Bd hml0 hP hK
  obtain ⟨rfl, hZ, hh⟩ := hP
  have hx := Bd.exec
  have hby := Bd.bytes
  have hml : c.maxLocals = 1 := hml0
  have hown : s.vm.findClass "java/lang/String" = some m.cls := findClass_of_methodNamed Bd.named
  have hnm := (name_of_methodNamed Bd.named Bd.method).1
  have X0 : Stand p l e ({ frames := 1, cells := 0, slots := 0, locals := 13 } : Room) s m #[(.ref r0)] below meth c s₁ [] 0 0 := Stand.of_body Bd
  have e0 : s₁.heap = h0 := by rw [← hh, Bd.state]; rfl
  have N0 := Fr.nil n0
  have pre0 : ∀ t, Steps p.tables e below (s₁.setTop (mkF m 0 #[oa r0] [])) t → Steps p.tables e below (s₁.setTop (entryFrame m #[(.ref r0)] 1)) t := fun t k => castTop (ef_14 m r0) k
  have c2 : own_G p e below s₁ (mkF m 1 #[oa r0] [(.ref r0)]) (mkF m 0 #[oa r0] []) := by
    intro t kt
    show oS s₁ (mkF m 0 #[oa r0] []) _
    refine XS.aloadN X0.here hx rfl (hb hby d14_0) rfl rfl ?_
    exact kt
  obtain ⟨T1, X1, e1, st1⟩ := getF X0 hx hZ hown (host := "") (Or.inl (own_t hw 29 rfl)) Via.refl e0 F0 (g := (mkF m 1 #[oa r0] [(.ref r0)])) rfl rfl (hb hby d14_1)
  have Vc3 := V
  obtain ⟨cl3, Ar3, qk3, S3, M3, H3, G3⟩ := Vc3
  have c4 : own_G p e below T1 (mkF m 6 #[oa r0] [(.ref r0), (.int zz)]) (mkF m 4 #[oa r0] [(.ref rb)]) := by
    intro t kt
    show oS T1 (mkF m 4 #[oa r0] [(.ref rb)]) _
    refine X1.arraylength hx (by rw [e1]; exact Ar3.1) (State.isArrayOf_alike hZ.alike Ar3.2.1) (g := (mkF m 4 #[oa r0] [(.ref rb)])) rfl rfl (hb hby d14_4) _ ?_
    rw [len_of S3 M3]
    show oS T1 (mkF m 5 #[oa r0] [(.int zz)]) _
    refine XS.aloadN X1.here hx rfl (hb hby d14_5) rfl rfl ?_
    exact kt
  obtain ⟨cq5, kq5, q5a, q5b, q5c⟩ := isOf hZ e1 E0
  obtain ⟨_, _, ⟨T6, L6, k6, n6⟩, -, X6, ⟨Lc6, hQ6, l6, y6, z6⟩, st6⟩ := X1.virtualBack hx (y := yy_5) (z := yy_5) hown (mvT hZ (own_t hw 83 rfl)) (mvT hZ (own_t hw 84 rfl)) (notFace_of_selects (args := #[]) (mvT hZ (own_t hw 86 rfl))) (mvT hZ (own_t hw 86 rfl)) (mvT hZ (own_t hw 85 rfl)) (by decide) (backOf (W := 1) (rm15 l Z a0 hw [] r0 cs h0 n0 Z0 SC hcs C0) hZ (own_t hw 87 rfl) (own_t hw 9 rfl) (by decide) (by decide)) q5a q5c (g := (mkF m 6 #[oa r0] [(.ref r0), (.int zz)])) rfl (by rw [hml]; rfl) (Steps.refl _) (argsL := []) (rest := [(.int zz)]) (lenOf pd_4 rfl) rfl (by show 2 * 0 + _ ≤ _; exact Nat.le_of_eq rfl) (hb hby d14_6) (fun _ _ => ⟨rfl, e1, (by decide : 0 + 0 ≤ _), (by decide : 0 + 0 ≤ _)⟩)
  dsimp only [Pt.U, Pt.locs, Pt.cells, Pt.slots] at X6 l6 y6 z6 st6 hQ6
  subst l6 y6 z6
  obtain ⟨rfl, N6q, e6⟩ := hQ6
  have N6 := Fr.app N0 N6q
  have c7 : own_G p e below T6 (mkF m 10 #[oa r0] [(.int (zz >>> ((0 : Int32) &&& 31)))]) (mkF m 9 #[oa r0] [(.int (0 : Int32)), (.int zz)]) := by
    intro t kt
    show oS T6 (mkF m 9 #[oa r0] [(.int (0 : Int32)), (.int zz)]) _
    refine XS.ishr X6.here hx rfl (hb hby d14_9) rfl ?_
    exact kt
  obtain ⟨fs, hr, hrun, hended, hW, hsame⟩ := X6.leave (v := some (.int (zz >>> ((0 : Int32) &&& 31)))) (fun h => by rw [Bd.returns] at h; cases h)
  refine ⟨_, _, pre0 _ (c2 _ (st1 _ (c4 _ (st6.trans (c7 _ (?_)))))), hrun, hended, _, _, rfl, ?_, ⟨_, rfl⟩, hW, hsame.mono (by decide) (by decide)⟩
  · show Steps p.tables e below (T6.setTop (mkF m 10 #[oa r0] [(.int (zz >>> ((0 : Int32) &&& 31)))])) _
    exact retI X6 hx Bd.returns (hb hby d14_10) hr
  · show Q14 Z r0 rb kk zz vs dv cs h0 n0 _ T6.heap _
    rw [e6]
    exact ⟨congrArg (fun z => some (Value.int z)) (show (zz >>> ((0 : Int32) &&& 31)) = zz from by exact own_shr0 zz), N6, rfl⟩
theorem d30_0 : decode jdk_29_method_69_code 0 = .ok (.iload_n 0, 1) := by decide +kernel
theorem d30_1 : decode jdk_29_method_69_code 1 = .ok (.iload_n 1, 1) := by decide +kernel
theorem d30_2 : decode jdk_29_method_69_code 2 = .ok (.if_icmp .gt 7, 3) := by decide +kernel
theorem d30_5 : decode jdk_29_method_69_code 5 = .ok (.iload_n 0, 1) := by decide +kernel
theorem d30_6 : decode jdk_29_method_69_code 6 = .ok (.goto 4, 3) := by decide +kernel
theorem d30_9 : decode jdk_29_method_69_code 9 = .ok (.iload_n 1, 1) := by decide +kernel
theorem d30_10 : decode jdk_29_method_69_code 10 = .ok (.ireturn, 1) := by decide +kernel
theorem ef_30 (m : MethodId) (x0 : Int32) (x1 : Int32) : entryFrame m #[(.int x0), (.int x1)] 2 = mkF m 0 #[.val (.int x0), .val (.int x1)] [] := by first | (simp [entryFrame, mkF, argsToLocals, Value.category]; done) | rfl
def Q30 (Z : State) (p0 : Int32) (p1 : Int32) (h0 : Heap) (n0 : Nat) (v : Option Value) (h : Heap) (L : List Loc) : Prop := v = some (.int (own_min p0 p1)) ∧ Fr n0 L ∧ h = h0
set_option maxRecDepth 65536 in
set_option maxHeartbeats 40000000 in
theorem rm30 (l : Launch) (Z : State) (a0 : Array Value) (hw : ∀ d ∈ tables_1, d.before a0 Z = true) (ws : List Jvm.Cond) (p0 : Int32) (p1 : Int32)  (h0 : Heap) (n0 : Nat) (Z0 : n0 ≤ h0.size) :
    MetFree l yy_7 (head1 (Jvm.Cond.code yy_7 jdk_29_method_69_code 2 (some .int) :: ws) ({ frames := 0, cells := 0, slots := 0, locals := 0 } : Room)) (fun a U => a = #[(.int p0), (.int p1)] ∧ Z.Warmed39 U.vm ∧ U.heap = h0) (fun _ _ _ _ _ => True) (fun _ U o U' => ∃ v L, o = .returned v ∧ Q30 Z p0 p1 h0 n0 v U'.heap L ∧ FrameEnd U o U' L ({ frames := 0, cells := 0, slots := 0, locals := 0 } : Room).cells ({ frames := 0, cells := 0, slots := 0, locals := 0 } : Room).slots) := by
  refine MetFree.of_bodySF (Jvm.Free.JP.mathPlain rfl (by decide +kernel)) hisR ?_
  intro p e s m args below meth c s₁ Bd hml0 hP hK
  obtain ⟨rfl, hZ, hh⟩ := hP
  have hx := Bd.exec
  have hby := Bd.bytes
  have hml : c.maxLocals = 2 := hml0
  have hown : s.vm.findClass "java/lang/Math" = some m.cls := findClass_of_methodNamed Bd.named
  have hnm := (name_of_methodNamed Bd.named Bd.method).1
  have X0 : Stand p l e ({ frames := 0, cells := 0, slots := 0, locals := 0 } : Room) s m #[(.int p0), (.int p1)] below meth c s₁ [] 0 0 := Stand.of_body Bd
  have e0 : s₁.heap = h0 := by rw [← hh, Bd.state]; rfl
  have N0 := Fr.nil n0
  have pre0 : ∀ t, Steps p.tables e below (s₁.setTop (mkF m 0 #[oi p0, oi p1] [])) t → Steps p.tables e below (s₁.setTop (entryFrame m #[(.int p0), (.int p1)] 2)) t := fun t k => castTop (ef_30 m p0 p1) k
  have c1 : own_G p e below s₁ (mkF m 2 #[oi p0, oi p1] [(.int p1), (.int p0)]) (mkF m 0 #[oi p0, oi p1] []) := by
    intro t kt
    show oS s₁ (mkF m 0 #[oi p0, oi p1] []) _
    refine XS.iloadN X0.here hx rfl (hb hby d30_0) rfl ?_
    show oS s₁ (mkF m 1 #[oi p0, oi p1] [(.int p0)]) _
    refine XS.iloadN X0.here hx rfl (hb hby d30_1) rfl ?_
    exact kt
  by_cases hc2 : p1 < p0
  · -- it is
    have c2 : own_G p e below s₁ (mkF m 10 #[oi p0, oi p1] [(.int p1)]) (mkF m 2 #[oi p0, oi p1] [(.int p1), (.int p0)]) := by
      intro t kt
      show oS s₁ (mkF m 2 #[oi p0, oi p1] [(.int p1), (.int p0)]) _
      refine XS.icmpYes X0.here hx rfl (pc0 := 2) (pc' := 9) rfl (hb hby d30_2) rfl (tlt hc2).2.2.1 (by decide) (by decide) ?_
      show oS s₁ (mkF m 9 #[oi p0, oi p1] []) _
      refine XS.iloadN X0.here hx rfl (hb hby d30_9) rfl ?_
      exact kt
    obtain ⟨fs, hr, hrun, hended, hW, hsame⟩ := X0.leave (v := some (.int p1)) (fun h => by rw [Bd.returns] at h; cases h)
    refine ⟨_, _, pre0 _ (c1 _ (c2 _ (?_))), hrun, hended, _, _, rfl, ?_, ⟨_, rfl⟩, hW, hsame.mono (by decide) (by decide)⟩
    · show Steps p.tables e below (s₁.setTop (mkF m 10 #[oi p0, oi p1] [(.int p1)])) _
      exact retI X0 hx Bd.returns (hb hby d30_10) hr
    · show Q30 Z p0 p1 h0 n0 _ s₁.heap _
      rw [e0]
      exact ⟨congrArg (fun z => some (Value.int z)) (show p1 = (own_min p0 p1) from by unfold own_min; rw [if_pos hc2]), N0, rfl⟩
  · -- it isn't
    have c4 : own_G p e below s₁ (mkF m 10 #[oi p0, oi p1] [(.int p0)]) (mkF m 2 #[oi p0, oi p1] [(.int p1), (.int p0)]) := by
      intro t kt
      show oS s₁ (mkF m 2 #[oi p0, oi p1] [(.int p1), (.int p0)]) _
      refine XS.icmpNo X0.here hx rfl (hb hby d30_2) rfl (flt hc2).2.2.1 ?_
      show oS s₁ (mkF m 5 #[oi p0, oi p1] []) _
      refine XS.iloadN X0.here hx rfl (hb hby d30_5) rfl ?_
      show oS s₁ (mkF m 6 #[oi p0, oi p1] [(.int p0)]) _
      refine XS.goto X0.here hx rfl (pc0 := 6) (pc' := 10) rfl (hb hby d30_6) (by decide) (by decide) ?_
      exact kt
    obtain ⟨fs, hr, hrun, hended, hW, hsame⟩ := X0.leave (v := some (.int p0)) (fun h => by rw [Bd.returns] at h; cases h)
    refine ⟨_, _, pre0 _ (c1 _ (c4 _ (?_))), hrun, hended, _, _, rfl, ?_, ⟨_, rfl⟩, hW, hsame.mono (by decide) (by decide)⟩
    · show Steps p.tables e below (s₁.setTop (mkF m 10 #[oi p0, oi p1] [(.int p0)])) _
      exact retI X0 hx Bd.returns (hb hby d30_10) hr
    · show Q30 Z p0 p1 h0 n0 _ s₁.heap _
      rw [e0]
      exact ⟨congrArg (fun z => some (Value.int z)) (show p0 = (own_min p0 p1) from by unfold own_min; rw [if_neg hc2]), N0, rfl⟩
theorem d41_0 : decode jdk_29_method_65_code 0 = .ok (.iload_n 0, 1) := by decide +kernel
theorem d41_1 : decode jdk_29_method_65_code 1 = .ok (.iload_n 1, 1) := by decide +kernel
theorem d41_2 : decode jdk_29_method_65_code 2 = .ok (.if_icmp .lt 7, 3) := by decide +kernel
theorem d41_5 : decode jdk_29_method_65_code 5 = .ok (.iload_n 0, 1) := by decide +kernel
theorem d41_6 : decode jdk_29_method_65_code 6 = .ok (.goto 4, 3) := by decide +kernel
theorem d41_9 : decode jdk_29_method_65_code 9 = .ok (.iload_n 1, 1) := by decide +kernel
theorem d41_10 : decode jdk_29_method_65_code 10 = .ok (.ireturn, 1) := by decide +kernel
theorem ef_41 (m : MethodId) (x0 : Int32) (x1 : Int32) : entryFrame m #[(.int x0), (.int x1)] 2 = mkF m 0 #[.val (.int x0), .val (.int x1)] [] := by first | (simp [entryFrame, mkF, argsToLocals, Value.category]; done) | rfl
def Q41 (Z : State) (p0 : Int32) (p1 : Int32) (h0 : Heap) (n0 : Nat) (v : Option Value) (h : Heap) (L : List Loc) : Prop := v = some (.int (own_max p0 p1)) ∧ Fr n0 L ∧ h = h0
set_option maxRecDepth 65536 in
set_option maxHeartbeats 40000000 in
theorem rm41 (l : Launch) (Z : State) (a0 : Array Value) (hw : ∀ d ∈ tables_1, d.before a0 Z = true) (ws : List Jvm.Cond) (p0 : Int32) (p1 : Int32)  (h0 : Heap) (n0 : Nat) (Z0 : n0 ≤ h0.size) :
    MetFree l yy_8 (head1 (Jvm.Cond.code yy_8 jdk_29_method_65_code 2 (some .int) :: ws) ({ frames := 0, cells := 0, slots := 0, locals := 0 } : Room)) (fun a U => a = #[(.int p0), (.int p1)] ∧ Z.Warmed39 U.vm ∧ U.heap = h0) (fun _ _ _ _ _ => True) (fun _ U o U' => ∃ v L, o = .returned v ∧ Q41 Z p0 p1 h0 n0 v U'.heap L ∧ FrameEnd U o U' L ({ frames := 0, cells := 0, slots := 0, locals := 0 } : Room).cells ({ frames := 0, cells := 0, slots := 0, locals := 0 } : Room).slots) := by
  refine MetFree.of_bodySF (Jvm.Free.JP.mathPlain rfl (by decide +kernel)) hisR ?_
  intro p e s m args below meth c s₁ Bd hml0 hP hK
  obtain ⟨rfl, hZ, hh⟩ := hP
  have hx := Bd.exec
  have hby := Bd.bytes
  have hml : c.maxLocals = 2 := hml0
  have hown : s.vm.findClass "java/lang/Math" = some m.cls := findClass_of_methodNamed Bd.named
  have hnm := (name_of_methodNamed Bd.named Bd.method).1
  have X0 : Stand p l e ({ frames := 0, cells := 0, slots := 0, locals := 0 } : Room) s m #[(.int p0), (.int p1)] below meth c s₁ [] 0 0 := Stand.of_body Bd
  have e0 : s₁.heap = h0 := by rw [← hh, Bd.state]; rfl
  have N0 := Fr.nil n0
  have pre0 : ∀ t, Steps p.tables e below (s₁.setTop (mkF m 0 #[oi p0, oi p1] [])) t → Steps p.tables e below (s₁.setTop (entryFrame m #[(.int p0), (.int p1)] 2)) t := fun t k => castTop (ef_41 m p0 p1) k
  have c1 : own_G p e below s₁ (mkF m 2 #[oi p0, oi p1] [(.int p1), (.int p0)]) (mkF m 0 #[oi p0, oi p1] []) := by
    intro t kt
    show oS s₁ (mkF m 0 #[oi p0, oi p1] []) _
    refine XS.iloadN X0.here hx rfl (hb hby d41_0) rfl ?_
    show oS s₁ (mkF m 1 #[oi p0, oi p1] [(.int p0)]) _
    refine XS.iloadN X0.here hx rfl (hb hby d41_1) rfl ?_
    exact kt
  by_cases hc2 : p0 < p1
  · -- it is
    have c2 : own_G p e below s₁ (mkF m 10 #[oi p0, oi p1] [(.int p1)]) (mkF m 2 #[oi p0, oi p1] [(.int p1), (.int p0)]) := by
      intro t kt
      show oS s₁ (mkF m 2 #[oi p0, oi p1] [(.int p1), (.int p0)]) _
      refine XS.icmpYes X0.here hx rfl (pc0 := 2) (pc' := 9) rfl (hb hby d41_2) rfl (tlt hc2).1 (by decide) (by decide) ?_
      show oS s₁ (mkF m 9 #[oi p0, oi p1] []) _
      refine XS.iloadN X0.here hx rfl (hb hby d41_9) rfl ?_
      exact kt
    obtain ⟨fs, hr, hrun, hended, hW, hsame⟩ := X0.leave (v := some (.int p1)) (fun h => by rw [Bd.returns] at h; cases h)
    refine ⟨_, _, pre0 _ (c1 _ (c2 _ (?_))), hrun, hended, _, _, rfl, ?_, ⟨_, rfl⟩, hW, hsame.mono (by decide) (by decide)⟩
    · show Steps p.tables e below (s₁.setTop (mkF m 10 #[oi p0, oi p1] [(.int p1)])) _
      exact retI X0 hx Bd.returns (hb hby d41_10) hr
    · show Q41 Z p0 p1 h0 n0 _ s₁.heap _
      rw [e0]
      exact ⟨congrArg (fun z => some (Value.int z)) (show p1 = (own_max p0 p1) from by unfold own_max; rw [if_pos hc2]), N0, rfl⟩
  · -- it isn't
    have c4 : own_G p e below s₁ (mkF m 10 #[oi p0, oi p1] [(.int p0)]) (mkF m 2 #[oi p0, oi p1] [(.int p1), (.int p0)]) := by
      intro t kt
      show oS s₁ (mkF m 2 #[oi p0, oi p1] [(.int p1), (.int p0)]) _
      refine XS.icmpNo X0.here hx rfl (hb hby d41_2) rfl (flt hc2).1 ?_
      show oS s₁ (mkF m 5 #[oi p0, oi p1] []) _
      refine XS.iloadN X0.here hx rfl (hb hby d41_5) rfl ?_
      show oS s₁ (mkF m 6 #[oi p0, oi p1] [(.int p0)]) _
      refine XS.goto X0.here hx rfl (pc0 := 6) (pc' := 10) rfl (hb hby d41_6) (by decide) (by decide) ?_
      exact kt
    obtain ⟨fs, hr, hrun, hended, hW, hsame⟩ := X0.leave (v := some (.int p0)) (fun h => by rw [Bd.returns] at h; cases h)
    refine ⟨_, _, pre0 _ (c1 _ (c4 _ (?_))), hrun, hended, _, _, rfl, ?_, ⟨_, rfl⟩, hW, hsame.mono (by decide) (by decide)⟩
    · show Steps p.tables e below (s₁.setTop (mkF m 10 #[oi p0, oi p1] [(.int p0)])) _
      exact retI X0 hx Bd.returns (hb hby d41_10) hr
    · show Q41 Z p0 p1 h0 n0 _ s₁.heap _
      rw [e0]
      exact ⟨congrArg (fun z => some (Value.int z)) (show p0 = (own_max p0 p1) from by unfold own_max; rw [if_neg hc2]), N0, rfl⟩
theorem d40_0 : decode jdk_48_method_27_code 0 = .ok (.iload_n 0, 1) := by decide +kernel
theorem d40_1 : decode jdk_48_method_27_code 1 = .ok (.iload_n 1, 1) := by decide +kernel
theorem d40_2 : decode jdk_48_method_27_code 2 = .ok (.iload_n 2, 1) := by decide +kernel
theorem d40_3 : decode jdk_48_method_27_code 3 = .ok (.invokestatic 194, 3) := by decide +kernel
theorem d40_6 : decode jdk_48_method_27_code 6 = .ok (.iadd, 1) := by decide +kernel
theorem d40_7 : decode jdk_48_method_27_code 7 = .ok (.istore_n 3, 1) := by decide +kernel
theorem d40_8 : decode jdk_48_method_27_code 8 = .ok (.iconst 0, 1) := by decide +kernel
theorem d40_9 : decode jdk_48_method_27_code 9 = .ok (.iload_n 3, 1) := by decide +kernel
theorem d40_10 : decode jdk_48_method_27_code 10 = .ok (.if_icmp .ge 11, 3) := by decide +kernel
theorem d40_13 : decode jdk_48_method_27_code 13 = .ok (.iload_n 3, 1) := by decide +kernel
theorem d40_14 : decode jdk_48_method_27_code 14 = .ok (.ldc 200, 2) := by decide +kernel
theorem d40_16 : decode jdk_48_method_27_code 16 = .ok (.if_icmp .gt 5, 3) := by decide +kernel
theorem d40_19 : decode jdk_48_method_27_code 19 = .ok (.iload_n 3, 1) := by decide +kernel
theorem d40_20 : decode jdk_48_method_27_code 20 = .ok (.ireturn, 1) := by decide +kernel
theorem pn_40 : plainName "jdk/internal/util/ArraysSupport" = true := by first | (simp [plainName, overriddenIn]; done) | decide +kernel
theorem ef_40 (m : MethodId) (x0 : Int32) (x1 : Int32) (x2 : Int32) : entryFrame m #[(.int x0), (.int x1), (.int x2)] 4 = mkF m 0 #[.val (.int x0), .val (.int x1), .val (.int x2), .unset] [] := by first | (simp [entryFrame, mkF, argsToLocals, Value.category]; done) | rfl
def Q40 (Z : State) (p1 : Int32) (h0 : Heap) (n0 : Nat) (v : Option Value) (h : Heap) (L : List Loc) : Prop := v = some (.int (34 : Int32)) ∧ Fr n0 L ∧ h = h0
set_option maxRecDepth 65536 in
set_option maxHeartbeats 40000000 in
theorem rm40 (l : Launch) (Z : State) (a0 : Array Value) (hw : ∀ d ∈ tables_1, d.before a0 Z = true) (ws : List Jvm.Cond) (p1 : Int32)  (h0 : Heap) (n0 : Nat) (Z0 : n0 ≤ h0.size) (hg : own_max p1 (18 : Int32) = (18 : Int32)) :
    MetFree l yy_9 (head1 (Jvm.Cond.code yy_9 jdk_48_method_27_code 4 (some .int) :: ws) ({ frames := 1, cells := 0, slots := 0, locals := 14 } : Room)) (fun a U => a = #[(.int (16 : Int32)), (.int p1), (.int (18 : Int32))] ∧ Z.Warmed39 U.vm ∧ U.heap = h0) (fun _ _ _ _ _ => True) (fun _ U o U' => ∃ v L, o = .returned v ∧ Q40 Z p1 h0 n0 v U'.heap L ∧ FrameEnd U o U' L ({ frames := 1, cells := 0, slots := 0, locals := 14 } : Room).cells ({ frames := 1, cells := 0, slots := 0, locals := 14 } : Room).slots) := by
  refine MetFree.of_bodySF (plainFor_of_name pn_40) hisR ?_
  intro p e s m args below meth c s₁ Bd hml0 hP hK
  obtain ⟨rfl, hZ, hh⟩ := hP
  have hx := Bd.exec
  have hby := Bd.bytes
  have hml : c.maxLocals = 4 := hml0
  have hown : s.vm.findClass "jdk/internal/util/ArraysSupport" = some m.cls := findClass_of_methodNamed Bd.named
  have hnm := (name_of_methodNamed Bd.named Bd.method).1
  have X0 : Stand p l e ({ frames := 1, cells := 0, slots := 0, locals := 14 } : Room) s m #[(.int (16 : Int32)), (.int p1), (.int (18 : Int32))] below meth c s₁ [] 0 0 := Stand.of_body Bd
  have e0 : s₁.heap = h0 := by rw [← hh, Bd.state]; rfl
  have N0 := Fr.nil n0
  have pre0 : ∀ t, Steps p.tables e below (s₁.setTop (mkF m 0 #[oi 16, oi p1, oi 18, .unset] [])) t → Steps p.tables e below (s₁.setTop (entryFrame m #[(.int (16 : Int32)), (.int p1), (.int (18 : Int32))] 4)) t := fun t k => castTop (ef_40 m (16 : Int32) p1 (18 : Int32)) k
  have c1 : own_G p e below s₁ (mkF m 3 #[oi 16, oi p1, oi 18, .unset] [(.int (18 : Int32)), (.int p1), (.int (16 : Int32))]) (mkF m 0 #[oi 16, oi p1, oi 18, .unset] []) := by
    intro t kt
    show oS s₁ (mkF m 0 #[oi 16, oi p1, oi 18, .unset] []) _
    refine XS.iloadN X0.here hx rfl (hb hby d40_0) rfl ?_
    show oS s₁ (mkF m 1 #[oi 16, oi p1, oi 18, .unset] [(.int (16 : Int32))]) _
    refine XS.iloadN X0.here hx rfl (hb hby d40_1) rfl ?_
    show oS s₁ (mkF m 2 #[oi 16, oi p1, oi 18, .unset] [(.int p1), (.int (16 : Int32))]) _
    refine XS.iloadN X0.here hx rfl (hb hby d40_2) rfl ?_
    exact kt
  obtain ⟨_, _, ⟨T2, L2, k2, n2⟩, -, X2, ⟨Lc2, hQ2, l2, y2, z2⟩, st2⟩ := Jvm.LawKit.callS X0 hx (y := yy_8) hown (mvT hZ (own_t hw 205 rfl)) (mvT hZ (own_t hw 206 rfl)) (mvT hZ (own_t hw 161 rfl)) (mvT hZ (own_t hw 207 rfl)) (by decide) (backOf (W := 1) (rm41 l Z a0 hw [] p1 (18 : Int32)  h0 n0 Z0 ) hZ (own_t hw 207 rfl) (own_t hw 161 rfl) (by decide) (by decide)) (g := (mkF m 3 #[oi 16, oi p1, oi 18, .unset] [(.int (18 : Int32)), (.int p1), (.int (16 : Int32))])) rfl (by rw [hml]; rfl) (argsL := [(.int p1), (.int (18 : Int32))]) (rest := [(.int (16 : Int32))]) (lenOf pd_5 rfl) rfl (by show 2 * 0 + _ ≤ _; exact Nat.le_of_eq rfl) (hb hby d40_3) (fun _ _ => ⟨rfl, e0, (by decide : 0 + 0 ≤ _), (by decide : 0 + 0 ≤ _)⟩)
  dsimp only [Pt.U, Pt.locs, Pt.cells, Pt.slots] at X2 l2 y2 z2 st2 hQ2
  subst l2 y2 z2
  obtain ⟨rfl, N2q, e2⟩ := hQ2
  have N2 := Fr.app N0 N2q
  have c3 : own_G p e below T2 (mkF m 6 #[oi 16, oi p1, oi 18, .unset] [(.int (18 : Int32)), (.int (16 : Int32))]) (mkF m 6 #[oi 16, oi p1, oi 18, .unset] [(.int (own_max p1 (18 : Int32))), (.int (16 : Int32))]) := fun t kt => castTop (congrArg (fun zv => (mkF m 6 #[oi 16, oi p1, oi 18, .unset] [(.int zv), (.int (16 : Int32))])) (show (own_max p1 (18 : Int32)) = (18 : Int32) from hg)) kt
  have c4 : own_G p e below T2 (mkF m 20 #[oi 16, oi p1, oi 18, oi ((16 : Int32) + (18 : Int32))] [(.int ((16 : Int32) + (18 : Int32)))]) (mkF m 6 #[oi 16, oi p1, oi 18, .unset] [(.int (18 : Int32)), (.int (16 : Int32))]) := by
    intro t kt
    show oS T2 (mkF m 6 #[oi 16, oi p1, oi 18, .unset] [(.int (18 : Int32)), (.int (16 : Int32))]) _
    refine XS.iadd X2.here hx rfl (hb hby d40_6) rfl ?_
    show oS T2 (mkF m 7 #[oi 16, oi p1, oi 18, .unset] [(.int ((16 : Int32) + (18 : Int32)))]) _
    refine XS.istoreN X2.here hx rfl (hb hby d40_7) rfl (l' := #[oi 16, oi p1, oi 18, oi ((16 : Int32) + (18 : Int32))]) rfl ?_
    show oS T2 (mkF m 8 #[oi 16, oi p1, oi 18, oi ((16 : Int32) + (18 : Int32))] []) _
    refine XS.iconst X2.here hx rfl (hb hby d40_8) ?_
    show oS T2 (mkF m 9 #[oi 16, oi p1, oi 18, oi ((16 : Int32) + (18 : Int32))] [(.int (0 : Int32))]) _
    refine XS.iloadN X2.here hx rfl (hb hby d40_9) rfl ?_
    show oS T2 (mkF m 10 #[oi 16, oi p1, oi 18, oi ((16 : Int32) + (18 : Int32))] [(.int ((16 : Int32) + (18 : Int32))), (.int (0 : Int32))]) _
    refine XS.icmpNo X2.here hx rfl (hb hby d40_10) rfl (tlt (by decide : (0 : Int32) < ((16 : Int32) + (18 : Int32)))).2.1 ?_
    show oS T2 (mkF m 13 #[oi 16, oi p1, oi 18, oi ((16 : Int32) + (18 : Int32))] []) _
    refine XS.iloadN X2.here hx rfl (hb hby d40_13) rfl ?_
    show oS T2 (mkF m 14 #[oi 16, oi p1, oi 18, oi ((16 : Int32) + (18 : Int32))] [(.int ((16 : Int32) + (18 : Int32)))]) _
    refine X2.ldcInt hx hown (mvT hZ (own_t hw 208 rfl)) (g := (mkF m 14 #[oi 16, oi p1, oi 18, oi ((16 : Int32) + (18 : Int32))] [(.int ((16 : Int32) + (18 : Int32)))])) rfl (hb hby d40_14) _ ?_
    show oS T2 (mkF m 16 #[oi 16, oi p1, oi 18, oi ((16 : Int32) + (18 : Int32))] [(.int (2147483639 : Int32)), (.int ((16 : Int32) + (18 : Int32)))]) _
    refine XS.icmpNo X2.here hx rfl (hb hby d40_16) rfl (flt (by decide : ¬ ((2147483639 : Int32) < ((16 : Int32) + (18 : Int32))))).2.2.1 ?_
    show oS T2 (mkF m 19 #[oi 16, oi p1, oi 18, oi ((16 : Int32) + (18 : Int32))] []) _
    refine XS.iloadN X2.here hx rfl (hb hby d40_19) rfl ?_
    exact kt
  obtain ⟨fs, hr, hrun, hended, hW, hsame⟩ := X2.leave (v := some (.int ((16 : Int32) + (18 : Int32)))) (fun h => by rw [Bd.returns] at h; cases h)
  refine ⟨_, _, pre0 _ (c1 _ (st2 _ (c3 _ (c4 _ (?_))))), hrun, hended, _, _, rfl, ?_, ⟨_, rfl⟩, hW, hsame.mono (by decide) (by decide)⟩
  · show Steps p.tables e below (T2.setTop (mkF m 20 #[oi 16, oi p1, oi 18, oi ((16 : Int32) + (18 : Int32))] [(.int ((16 : Int32) + (18 : Int32)))])) _
    exact retI X2 hx Bd.returns (hb hby d40_20) hr
  · show Q40 Z p1 h0 n0 _ T2.heap _
    rw [e2]
    exact ⟨congrArg (fun z => some (Value.int z)) (show ((16 : Int32) + (18 : Int32)) = (34 : Int32) from by decide), N2, rfl⟩
theorem d39_0 : decode jdk_68_method_10_code 0 = .ok (.aload_n 0, 1) := by decide +kernel
theorem d39_1 : decode jdk_68_method_10_code 1 = .ok (.getfield 15, 3) := by decide +kernel
theorem d39_4 : decode jdk_68_method_10_code 4 = .ok (.arraylength, 1) := by decide +kernel
theorem d39_5 : decode jdk_68_method_10_code 5 = .ok (.istore_n 2, 1) := by decide +kernel
theorem d39_6 : decode jdk_68_method_10_code 6 = .ok (.iload_n 1, 1) := by decide +kernel
theorem d39_7 : decode jdk_68_method_10_code 7 = .ok (.aload_n 0, 1) := by decide +kernel
theorem d39_8 : decode jdk_68_method_10_code 8 = .ok (.getfield 22, 3) := by decide +kernel
theorem d39_11 : decode jdk_68_method_10_code 11 = .ok (.ishl, 1) := by decide +kernel
theorem d39_12 : decode jdk_68_method_10_code 12 = .ok (.istore_n 3, 1) := by decide +kernel
theorem d39_13 : decode jdk_68_method_10_code 13 = .ok (.iload_n 3, 1) := by decide +kernel
theorem d39_14 : decode jdk_68_method_10_code 14 = .ok (.iload_n 2, 1) := by decide +kernel
theorem d39_15 : decode jdk_68_method_10_code 15 = .ok (.isub, 1) := by decide +kernel
theorem d39_16 : decode jdk_68_method_10_code 16 = .ok (.istore 4, 2) := by decide +kernel
theorem d39_18 : decode jdk_68_method_10_code 18 = .ok (.iload_n 2, 1) := by decide +kernel
theorem d39_19 : decode jdk_68_method_10_code 19 = .ok (.iload 4, 2) := by decide +kernel
theorem d39_21 : decode jdk_68_method_10_code 21 = .ok (.iload_n 2, 1) := by decide +kernel
theorem d39_22 : decode jdk_68_method_10_code 22 = .ok (.iconst 2, 1) := by decide +kernel
theorem d39_23 : decode jdk_68_method_10_code 23 = .ok (.aload_n 0, 1) := by decide +kernel
theorem d39_24 : decode jdk_68_method_10_code 24 = .ok (.getfield 22, 3) := by decide +kernel
theorem d39_27 : decode jdk_68_method_10_code 27 = .ok (.ishl, 1) := by decide +kernel
theorem d39_28 : decode jdk_68_method_10_code 28 = .ok (.iadd, 1) := by decide +kernel
theorem d39_29 : decode jdk_68_method_10_code 29 = .ok (.invokestatic 114, 3) := by decide +kernel
theorem d39_32 : decode jdk_68_method_10_code 32 = .ok (.istore 5, 2) := by decide +kernel
theorem d39_34 : decode jdk_68_method_10_code 34 = .ok (.iload 5, 2) := by decide +kernel
theorem d39_36 : decode jdk_68_method_10_code 36 = .ok (.ldc 39, 2) := by decide +kernel
theorem d39_38 : decode jdk_68_method_10_code 38 = .ok (.if_icmp .ne 13, 3) := by decide +kernel
theorem d39_51 : decode jdk_68_method_10_code 51 = .ok (.iload 5, 2) := by decide +kernel
theorem d39_53 : decode jdk_68_method_10_code 53 = .ok (.aload_n 0, 1) := by decide +kernel
theorem d39_54 : decode jdk_68_method_10_code 54 = .ok (.getfield 22, 3) := by decide +kernel
theorem d39_57 : decode jdk_68_method_10_code 57 = .ok (.ishr, 1) := by decide +kernel
theorem d39_58 : decode jdk_68_method_10_code 58 = .ok (.ireturn, 1) := by decide +kernel
theorem pn_39 : plainName "java/lang/AbstractStringBuilder" = true := by first | (simp [plainName, overriddenIn]; done) | decide +kernel
theorem ef_39 (m : MethodId) (x0 : Addr) (x1 : Int32) : entryFrame m #[(.ref x0), (.int x1)] 6 = mkF m 0 #[.val (.ref x0), .val (.int x1), .unset, .unset, .unset, .unset] [] := by first | (simp [entryFrame, mkF, argsToLocals, Value.category]; done) | rfl
def Q39 (Z : State) (r0 : Addr) (p1 : Int32) (vb : Addr) (kv : ClassId) (bs : List Int32) (h0 : Heap) (n0 : Nat) (v : Option Value) (h : Heap) (L : List Loc) : Prop := v = some (.int (34 : Int32)) ∧ Fr n0 L ∧ h = h0
set_option maxRecDepth 65536 in
set_option maxHeartbeats 40000000 in
theorem rm39 (l : Launch) (Z : State) (a0 : Array Value) (hw : ∀ d ∈ tables_1, d.before a0 Z = true) (ws : List Jvm.Cond) (r0 : Addr) (p1 : Int32) (vb : Addr) (kv : ClassId) (bs : List Int32) (h0 : Heap) (n0 : Nat) (Z0 : n0 ≤ h0.size) (Eb : Exa Z h0 r0 "java/lang/StringBuilder") (Bv : Fld Z h0 r0 "java/lang/AbstractStringBuilder" "value" "[B" (.ref vb)) (Bc : Fld Z h0 r0 "java/lang/AbstractStringBuilder" "coder" "B" (.int (0 : Int32))) (Bn : Fld Z h0 r0 "java/lang/AbstractStringBuilder" "count" "I" (.int (Int32.ofNat bs.length))) (Bb : Arv Z h0 vb kv .byte (16 : Int32) ((bs.map (fun c => c.toInt8.toInt32)).map Value.int) (.int 0)) (hg : own_max ((p1 <<< ((0 : Int32) &&& 31)) - (16 : Int32)) (18 : Int32) = (18 : Int32)) :
    MetFree l yy_10 (head1 (Jvm.Cond.code yy_10 jdk_68_method_10_code 6 (some .int) :: ws) ({ frames := 2, cells := 0, slots := 0, locals := 29 } : Room)) (fun a U => a = #[(.ref r0), (.int p1)] ∧ Z.Warmed39 U.vm ∧ U.heap = h0) (fun _ _ _ _ _ => True) (fun _ U o U' => ∃ v L, o = .returned v ∧ Q39 Z r0 p1 vb kv bs h0 n0 v U'.heap L ∧ FrameEnd U o U' L ({ frames := 2, cells := 0, slots := 0, locals := 29 } : Room).cells ({ frames := 2, cells := 0, slots := 0, locals := 29 } : Room).slots) := by
  refine MetFree.of_bodySF (plainFor_of_name pn_39) hisR ?_
  intro p e s m args below meth c s₁ Bd hml0 hP hK
  obtain ⟨rfl, hZ, hh⟩ := hP
  have hx := Bd.exec
  have hby := Bd.bytes
  have hml : c.maxLocals = 6 := hml0
  have hown : s.vm.findClass "java/lang/AbstractStringBuilder" = some m.cls := findClass_of_methodNamed Bd.named
  have hnm := (name_of_methodNamed Bd.named Bd.method).1
  have X0 : Stand p l e ({ frames := 2, cells := 0, slots := 0, locals := 29 } : Room) s m #[(.ref r0), (.int p1)] below meth c s₁ [] 0 0 := Stand.of_body Bd
  have e0 : s₁.heap = h0 := by rw [← hh, Bd.state]; rfl
  have N0 := Fr.nil n0
  have pre0 : ∀ t, Steps p.tables e below (s₁.setTop (mkF m 0 #[oa r0, oi p1, .unset, .unset, .unset, .unset] [])) t → Steps p.tables e below (s₁.setTop (entryFrame m #[(.ref r0), (.int p1)] 6)) t := fun t k => castTop (ef_39 m r0 p1) k
  have c2 : own_G p e below s₁ (mkF m 1 #[oa r0, oi p1, .unset, .unset, .unset, .unset] [(.ref r0)]) (mkF m 0 #[oa r0, oi p1, .unset, .unset, .unset, .unset] []) := by
    intro t kt
    show oS s₁ (mkF m 0 #[oa r0, oi p1, .unset, .unset, .unset, .unset] []) _
    refine XS.aloadN X0.here hx rfl (hb hby d39_0) rfl rfl ?_
    exact kt
  obtain ⟨T1, X1, e1, st1⟩ := getF X0 hx hZ hown (host := "") (Or.inl (own_t hw 63 rfl)) Via.refl e0 Bv (g := (mkF m 1 #[oa r0, oi p1, .unset, .unset, .unset, .unset] [(.ref r0)])) rfl rfl (hb hby d39_1)
  have Vc3 := Bb
  obtain ⟨cl3, Ar3, qk3, S3, M3, H3, G3⟩ := Vc3
  have c5 : own_G p e below T1 (mkF m 8 #[oa r0, oi p1, oi 16, .unset, .unset, .unset] [(.ref r0), (.int p1)]) (mkF m 4 #[oa r0, oi p1, .unset, .unset, .unset, .unset] [(.ref vb)]) := by
    intro t kt
    show oS T1 (mkF m 4 #[oa r0, oi p1, .unset, .unset, .unset, .unset] [(.ref vb)]) _
    refine X1.arraylength hx (by rw [e1]; exact Ar3.1) (State.isArrayOf_alike hZ.alike Ar3.2.1) (g := (mkF m 4 #[oa r0, oi p1, .unset, .unset, .unset, .unset] [(.ref vb)])) rfl rfl (hb hby d39_4) _ ?_
    rw [len_of S3 M3]
    show oS T1 (mkF m 5 #[oa r0, oi p1, .unset, .unset, .unset, .unset] [(.int (16 : Int32))]) _
    refine XS.istoreN X1.here hx rfl (hb hby d39_5) rfl (l' := #[oa r0, oi p1, oi 16, .unset, .unset, .unset]) rfl ?_
    show oS T1 (mkF m 6 #[oa r0, oi p1, oi 16, .unset, .unset, .unset] []) _
    refine XS.iloadN X1.here hx rfl (hb hby d39_6) rfl ?_
    show oS T1 (mkF m 7 #[oa r0, oi p1, oi 16, .unset, .unset, .unset] [(.int p1)]) _
    refine XS.aloadN X1.here hx rfl (hb hby d39_7) rfl rfl ?_
    exact kt
  obtain ⟨T4, X4, e4, st4⟩ := getF X1 hx hZ hown (host := "") (Or.inl (own_t hw 65 rfl)) Via.refl e1 Bc (g := (mkF m 8 #[oa r0, oi p1, oi 16, .unset, .unset, .unset] [(.ref r0), (.int p1)])) rfl rfl (hb hby d39_8)
  have c7 : own_G p e below T4 (mkF m 24 #[oa r0, oi p1, oi 16, oi (p1 <<< ((0 : Int32) &&& 31)), oi ((p1 <<< ((0 : Int32) &&& 31)) - (16 : Int32)), .unset] [(.ref r0), (.int (2 : Int32)), (.int (16 : Int32)), (.int ((p1 <<< ((0 : Int32) &&& 31)) - (16 : Int32))), (.int (16 : Int32))]) (mkF m 11 #[oa r0, oi p1, oi 16, .unset, .unset, .unset] [(.int (0 : Int32)), (.int p1)]) := by
    intro t kt
    show oS T4 (mkF m 11 #[oa r0, oi p1, oi 16, .unset, .unset, .unset] [(.int (0 : Int32)), (.int p1)]) _
    refine XS.ishl X4.here hx rfl (hb hby d39_11) rfl ?_
    show oS T4 (mkF m 12 #[oa r0, oi p1, oi 16, .unset, .unset, .unset] [(.int (p1 <<< ((0 : Int32) &&& 31)))]) _
    refine XS.istoreN X4.here hx rfl (hb hby d39_12) rfl (l' := #[oa r0, oi p1, oi 16, oi (p1 <<< ((0 : Int32) &&& 31)), .unset, .unset]) rfl ?_
    show oS T4 (mkF m 13 #[oa r0, oi p1, oi 16, oi (p1 <<< ((0 : Int32) &&& 31)), .unset, .unset] []) _
    refine XS.iloadN X4.here hx rfl (hb hby d39_13) rfl ?_
    show oS T4 (mkF m 14 #[oa r0, oi p1, oi 16, oi (p1 <<< ((0 : Int32) &&& 31)), .unset, .unset] [(.int (p1 <<< ((0 : Int32) &&& 31)))]) _
    refine XS.iloadN X4.here hx rfl (hb hby d39_14) rfl ?_
    show oS T4 (mkF m 15 #[oa r0, oi p1, oi 16, oi (p1 <<< ((0 : Int32) &&& 31)), .unset, .unset] [(.int (16 : Int32)), (.int (p1 <<< ((0 : Int32) &&& 31)))]) _
    refine XS.isub X4.here hx rfl (hb hby d39_15) rfl ?_
    show oS T4 (mkF m 16 #[oa r0, oi p1, oi 16, oi (p1 <<< ((0 : Int32) &&& 31)), .unset, .unset] [(.int ((p1 <<< ((0 : Int32) &&& 31)) - (16 : Int32)))]) _
    refine XS.istore X4.here hx rfl (hb hby d39_16) rfl (l' := #[oa r0, oi p1, oi 16, oi (p1 <<< ((0 : Int32) &&& 31)), oi ((p1 <<< ((0 : Int32) &&& 31)) - (16 : Int32)), .unset]) rfl ?_
    show oS T4 (mkF m 18 #[oa r0, oi p1, oi 16, oi (p1 <<< ((0 : Int32) &&& 31)), oi ((p1 <<< ((0 : Int32) &&& 31)) - (16 : Int32)), .unset] []) _
    refine XS.iloadN X4.here hx rfl (hb hby d39_18) rfl ?_
    show oS T4 (mkF m 19 #[oa r0, oi p1, oi 16, oi (p1 <<< ((0 : Int32) &&& 31)), oi ((p1 <<< ((0 : Int32) &&& 31)) - (16 : Int32)), .unset] [(.int (16 : Int32))]) _
    refine XS.iload X4.here hx rfl (hb hby d39_19) rfl ?_
    show oS T4 (mkF m 21 #[oa r0, oi p1, oi 16, oi (p1 <<< ((0 : Int32) &&& 31)), oi ((p1 <<< ((0 : Int32) &&& 31)) - (16 : Int32)), .unset] [(.int ((p1 <<< ((0 : Int32) &&& 31)) - (16 : Int32))), (.int (16 : Int32))]) _
    refine XS.iloadN X4.here hx rfl (hb hby d39_21) rfl ?_
    show oS T4 (mkF m 22 #[oa r0, oi p1, oi 16, oi (p1 <<< ((0 : Int32) &&& 31)), oi ((p1 <<< ((0 : Int32) &&& 31)) - (16 : Int32)), .unset] [(.int (16 : Int32)), (.int ((p1 <<< ((0 : Int32) &&& 31)) - (16 : Int32))), (.int (16 : Int32))]) _
    refine XS.iconst X4.here hx rfl (hb hby d39_22) ?_
    show oS T4 (mkF m 23 #[oa r0, oi p1, oi 16, oi (p1 <<< ((0 : Int32) &&& 31)), oi ((p1 <<< ((0 : Int32) &&& 31)) - (16 : Int32)), .unset] [(.int (2 : Int32)), (.int (16 : Int32)), (.int ((p1 <<< ((0 : Int32) &&& 31)) - (16 : Int32))), (.int (16 : Int32))]) _
    refine XS.aloadN X4.here hx rfl (hb hby d39_23) rfl rfl ?_
    exact kt
  obtain ⟨T6, X6, e6, st6⟩ := getF X4 hx hZ hown (host := "") (Or.inl (own_t hw 65 rfl)) Via.refl e4 Bc (g := (mkF m 24 #[oa r0, oi p1, oi 16, oi (p1 <<< ((0 : Int32) &&& 31)), oi ((p1 <<< ((0 : Int32) &&& 31)) - (16 : Int32)), .unset] [(.ref r0), (.int (2 : Int32)), (.int (16 : Int32)), (.int ((p1 <<< ((0 : Int32) &&& 31)) - (16 : Int32))), (.int (16 : Int32))])) rfl rfl (hb hby d39_24)
  have c8 : own_G p e below T6 (mkF m 29 #[oa r0, oi p1, oi 16, oi (p1 <<< ((0 : Int32) &&& 31)), oi ((p1 <<< ((0 : Int32) &&& 31)) - (16 : Int32)), .unset] [(.int ((16 : Int32) + ((2 : Int32) <<< ((0 : Int32) &&& 31)))), (.int ((p1 <<< ((0 : Int32) &&& 31)) - (16 : Int32))), (.int (16 : Int32))]) (mkF m 27 #[oa r0, oi p1, oi 16, oi (p1 <<< ((0 : Int32) &&& 31)), oi ((p1 <<< ((0 : Int32) &&& 31)) - (16 : Int32)), .unset] [(.int (0 : Int32)), (.int (2 : Int32)), (.int (16 : Int32)), (.int ((p1 <<< ((0 : Int32) &&& 31)) - (16 : Int32))), (.int (16 : Int32))]) := by
    intro t kt
    show oS T6 (mkF m 27 #[oa r0, oi p1, oi 16, oi (p1 <<< ((0 : Int32) &&& 31)), oi ((p1 <<< ((0 : Int32) &&& 31)) - (16 : Int32)), .unset] [(.int (0 : Int32)), (.int (2 : Int32)), (.int (16 : Int32)), (.int ((p1 <<< ((0 : Int32) &&& 31)) - (16 : Int32))), (.int (16 : Int32))]) _
    refine XS.ishl X6.here hx rfl (hb hby d39_27) rfl ?_
    show oS T6 (mkF m 28 #[oa r0, oi p1, oi 16, oi (p1 <<< ((0 : Int32) &&& 31)), oi ((p1 <<< ((0 : Int32) &&& 31)) - (16 : Int32)), .unset] [(.int ((2 : Int32) <<< ((0 : Int32) &&& 31))), (.int (16 : Int32)), (.int ((p1 <<< ((0 : Int32) &&& 31)) - (16 : Int32))), (.int (16 : Int32))]) _
    refine XS.iadd X6.here hx rfl (hb hby d39_28) rfl ?_
    exact kt
  have c9 : own_G p e below T6 (mkF m 29 #[oa r0, oi p1, oi 16, oi (p1 <<< ((0 : Int32) &&& 31)), oi ((p1 <<< ((0 : Int32) &&& 31)) - (16 : Int32)), .unset] [(.int (18 : Int32)), (.int ((p1 <<< ((0 : Int32) &&& 31)) - (16 : Int32))), (.int (16 : Int32))]) (mkF m 29 #[oa r0, oi p1, oi 16, oi (p1 <<< ((0 : Int32) &&& 31)), oi ((p1 <<< ((0 : Int32) &&& 31)) - (16 : Int32)), .unset] [(.int ((16 : Int32) + ((2 : Int32) <<< ((0 : Int32) &&& 31)))), (.int ((p1 <<< ((0 : Int32) &&& 31)) - (16 : Int32))), (.int (16 : Int32))]) := fun t kt => castTop (congrArg (fun zv => (mkF m 29 #[oa r0, oi p1, oi 16, oi (p1 <<< ((0 : Int32) &&& 31)), oi ((p1 <<< ((0 : Int32) &&& 31)) - (16 : Int32)), .unset] [(.int zv), (.int ((p1 <<< ((0 : Int32) &&& 31)) - (16 : Int32))), (.int (16 : Int32))])) (show ((16 : Int32) + ((2 : Int32) <<< ((0 : Int32) &&& 31))) = (18 : Int32) from by decide)) kt
  obtain ⟨_, _, ⟨T10, L10, k10, n10⟩, -, X10, ⟨Lc10, hQ10, l10, y10, z10⟩, st10⟩ := Jvm.LawKit.callS X6 hx (y := yy_9) hown (mvT hZ (own_t hw 201 rfl)) (mvT hZ (own_t hw 202 rfl)) (mvT hZ (own_t hw 203 rfl)) (mvT hZ (own_t hw 204 rfl)) (by decide) (backOf (W := 0) (rm40 l Z a0 hw []  ((p1 <<< ((0 : Int32) &&& 31)) - (16 : Int32)) h0 n0 Z0 hg) hZ (own_t hw 204 rfl) (own_t hw 203 rfl) (by decide) (by decide)) (g := (mkF m 29 #[oa r0, oi p1, oi 16, oi (p1 <<< ((0 : Int32) &&& 31)), oi ((p1 <<< ((0 : Int32) &&& 31)) - (16 : Int32)), .unset] [(.int (18 : Int32)), (.int ((p1 <<< ((0 : Int32) &&& 31)) - (16 : Int32))), (.int (16 : Int32))])) rfl (by rw [hml]; rfl) (argsL := [(.int (16 : Int32)), (.int ((p1 <<< ((0 : Int32) &&& 31)) - (16 : Int32))), (.int (18 : Int32))]) (rest := []) (lenOf pd_6 rfl) rfl (by show 2 * 0 + _ ≤ _; exact Nat.le_of_eq rfl) (hb hby d39_29) (fun _ _ => ⟨rfl, e6, (by decide : 0 + 0 ≤ _), (by decide : 0 + 0 ≤ _)⟩)
  dsimp only [Pt.U, Pt.locs, Pt.cells, Pt.slots] at X10 l10 y10 z10 st10 hQ10
  subst l10 y10 z10
  obtain ⟨rfl, N10q, e10⟩ := hQ10
  have N10 := Fr.app N0 N10q
  have c12 : own_G p e below T10 (mkF m 54 #[oa r0, oi p1, oi 16, oi (p1 <<< ((0 : Int32) &&& 31)), oi ((p1 <<< ((0 : Int32) &&& 31)) - (16 : Int32)), oi 34] [(.ref r0), (.int (34 : Int32))]) (mkF m 32 #[oa r0, oi p1, oi 16, oi (p1 <<< ((0 : Int32) &&& 31)), oi ((p1 <<< ((0 : Int32) &&& 31)) - (16 : Int32)), .unset] [(.int (34 : Int32))]) := by
    intro t kt
    show oS T10 (mkF m 32 #[oa r0, oi p1, oi 16, oi (p1 <<< ((0 : Int32) &&& 31)), oi ((p1 <<< ((0 : Int32) &&& 31)) - (16 : Int32)), .unset] [(.int (34 : Int32))]) _
    refine XS.istore X10.here hx rfl (hb hby d39_32) rfl (l' := #[oa r0, oi p1, oi 16, oi (p1 <<< ((0 : Int32) &&& 31)), oi ((p1 <<< ((0 : Int32) &&& 31)) - (16 : Int32)), oi 34]) rfl ?_
    show oS T10 (mkF m 34 #[oa r0, oi p1, oi 16, oi (p1 <<< ((0 : Int32) &&& 31)), oi ((p1 <<< ((0 : Int32) &&& 31)) - (16 : Int32)), oi 34] []) _
    refine XS.iload X10.here hx rfl (hb hby d39_34) rfl ?_
    show oS T10 (mkF m 36 #[oa r0, oi p1, oi 16, oi (p1 <<< ((0 : Int32) &&& 31)), oi ((p1 <<< ((0 : Int32) &&& 31)) - (16 : Int32)), oi 34] [(.int (34 : Int32))]) _
    refine X10.ldcInt hx hown (mvT hZ (own_t hw 209 rfl)) (g := (mkF m 36 #[oa r0, oi p1, oi 16, oi (p1 <<< ((0 : Int32) &&& 31)), oi ((p1 <<< ((0 : Int32) &&& 31)) - (16 : Int32)), oi 34] [(.int (34 : Int32))])) rfl (hb hby d39_36) _ ?_
    show oS T10 (mkF m 38 #[oa r0, oi p1, oi 16, oi (p1 <<< ((0 : Int32) &&& 31)), oi ((p1 <<< ((0 : Int32) &&& 31)) - (16 : Int32)), oi 34] [(.int (2147483647 : Int32)), (.int (34 : Int32))]) _
    refine XS.icmpYes X10.here hx rfl (pc0 := 38) (pc' := 51) rfl (hb hby d39_38) rfl (feq (by decide : ¬ ((34 : Int32) = (2147483647 : Int32)))).2 (by decide) (by decide) ?_
    show oS T10 (mkF m 51 #[oa r0, oi p1, oi 16, oi (p1 <<< ((0 : Int32) &&& 31)), oi ((p1 <<< ((0 : Int32) &&& 31)) - (16 : Int32)), oi 34] []) _
    refine XS.iload X10.here hx rfl (hb hby d39_51) rfl ?_
    show oS T10 (mkF m 53 #[oa r0, oi p1, oi 16, oi (p1 <<< ((0 : Int32) &&& 31)), oi ((p1 <<< ((0 : Int32) &&& 31)) - (16 : Int32)), oi 34] [(.int (34 : Int32))]) _
    refine XS.aloadN X10.here hx rfl (hb hby d39_53) rfl rfl ?_
    exact kt
  obtain ⟨T11, X11, e11, st11⟩ := getF X10 hx hZ hown (host := "") (Or.inl (own_t hw 65 rfl)) Via.refl e10 Bc (g := (mkF m 54 #[oa r0, oi p1, oi 16, oi (p1 <<< ((0 : Int32) &&& 31)), oi ((p1 <<< ((0 : Int32) &&& 31)) - (16 : Int32)), oi 34] [(.ref r0), (.int (34 : Int32))])) rfl rfl (hb hby d39_54)
  have c13 : own_G p e below T11 (mkF m 58 #[oa r0, oi p1, oi 16, oi (p1 <<< ((0 : Int32) &&& 31)), oi ((p1 <<< ((0 : Int32) &&& 31)) - (16 : Int32)), oi 34] [(.int ((34 : Int32) >>> ((0 : Int32) &&& 31)))]) (mkF m 57 #[oa r0, oi p1, oi 16, oi (p1 <<< ((0 : Int32) &&& 31)), oi ((p1 <<< ((0 : Int32) &&& 31)) - (16 : Int32)), oi 34] [(.int (0 : Int32)), (.int (34 : Int32))]) := by
    intro t kt
    show oS T11 (mkF m 57 #[oa r0, oi p1, oi 16, oi (p1 <<< ((0 : Int32) &&& 31)), oi ((p1 <<< ((0 : Int32) &&& 31)) - (16 : Int32)), oi 34] [(.int (0 : Int32)), (.int (34 : Int32))]) _
    refine XS.ishr X11.here hx rfl (hb hby d39_57) rfl ?_
    exact kt
  obtain ⟨fs, hr, hrun, hended, hW, hsame⟩ := X11.leave (v := some (.int ((34 : Int32) >>> ((0 : Int32) &&& 31)))) (fun h => by rw [Bd.returns] at h; cases h)
  refine ⟨_, _, pre0 _ (c2 _ (st1 _ (c5 _ (st4 _ (c7 _ (st6 _ (c8 _ (c9 _ (st10 _ (c12 _ (st11 _ (c13 _ (?_))))))))))))), hrun, hended, _, _, rfl, ?_, ⟨_, rfl⟩, hW, hsame.mono (by decide) (by decide)⟩
  · show Steps p.tables e below (T11.setTop (mkF m 58 #[oa r0, oi p1, oi 16, oi (p1 <<< ((0 : Int32) &&& 31)), oi ((p1 <<< ((0 : Int32) &&& 31)) - (16 : Int32)), oi 34] [(.int ((34 : Int32) >>> ((0 : Int32) &&& 31)))])) _
    exact retI X11 hx Bd.returns (hb hby d39_58) hr
  · show Q39 Z r0 p1 vb kv bs h0 n0 _ T11.heap _
    rw [e11]
    exact ⟨congrArg (fun z => some (Value.int z)) (show ((34 : Int32) >>> ((0 : Int32) &&& 31)) = (34 : Int32) from by decide), N10, rfl⟩
theorem d42_0 : decode jdk_65_method_121_code 0 = .ok (.iload_n 1, 1) := by decide +kernel
theorem d42_1 : decode jdk_65_method_121_code 1 = .ok (.aload_n 0, 1) := by decide +kernel
theorem d42_2 : decode jdk_65_method_121_code 2 = .ok (.arraylength, 1) := by decide +kernel
theorem d42_3 : decode jdk_65_method_121_code 3 = .ok (.if_icmp .ne 11, 3) := by decide +kernel
theorem d42_14 : decode jdk_65_method_121_code 14 = .ok (.iload_n 1, 1) := by decide +kernel
theorem d42_15 : decode jdk_65_method_121_code 15 = .ok (.newarray .byte, 2) := by decide +kernel
theorem d42_17 : decode jdk_65_method_121_code 17 = .ok (.astore_n 2, 1) := by decide +kernel
theorem d42_18 : decode jdk_65_method_121_code 18 = .ok (.aload_n 0, 1) := by decide +kernel
theorem d42_19 : decode jdk_65_method_121_code 19 = .ok (.iconst 0, 1) := by decide +kernel
theorem d42_20 : decode jdk_65_method_121_code 20 = .ok (.aload_n 2, 1) := by decide +kernel
theorem d42_21 : decode jdk_65_method_121_code 21 = .ok (.iconst 0, 1) := by decide +kernel
theorem d42_22 : decode jdk_65_method_121_code 22 = .ok (.aload_n 0, 1) := by decide +kernel
theorem d42_23 : decode jdk_65_method_121_code 23 = .ok (.arraylength, 1) := by decide +kernel
theorem d42_24 : decode jdk_65_method_121_code 24 = .ok (.iload_n 1, 1) := by decide +kernel
theorem d42_25 : decode jdk_65_method_121_code 25 = .ok (.invokestatic 304, 3) := by decide +kernel
theorem d42_28 : decode jdk_65_method_121_code 28 = .ok (.invokestatic 150, 3) := by decide +kernel
theorem d42_31 : decode jdk_65_method_121_code 31 = .ok (.aload_n 2, 1) := by decide +kernel
theorem d42_32 : decode jdk_65_method_121_code 32 = .ok (.areturn, 1) := by decide +kernel
theorem pn_42 : plainName "java/util/Arrays" = true := by first | (simp [plainName, overriddenIn]; done) | decide +kernel
theorem ef_42 (m : MethodId) (x0 : Addr) (x1 : Int32) : entryFrame m #[(.ref x0), (.int x1)] 3 = mkF m 0 #[.val (.ref x0), .val (.int x1), .unset] [] := by first | (simp [entryFrame, mkF, argsToLocals, Value.category]; done) | rfl
def Q42 (Z : State) (r0 : Addr) (kv : ClassId) (bs : List Int32) (h0 : Heap) (n0 : Nat) (v : Option Value) (h : Heap) (L : List Loc) : Prop := ∃ ra kx, v = some (.ref ra) ∧ Fr n0 L ∧ Keep h0 h [] ∧ h0.size ≤ ra ∧ n0 ≤ ra ∧ Arv Z h ra kx .byte (34 : Int32) ((bs.map (fun c => c.toInt8.toInt32)).map Value.int) (.int 0)
set_option maxRecDepth 65536 in
set_option maxHeartbeats 40000000 in
theorem rm42 (l : Launch) (Z : State) (a0 : Array Value) (hw : ∀ d ∈ tables_1, d.before a0 Z = true) (ws : List Jvm.Cond) (r0 : Addr) (kv : ClassId) (bs : List Int32) (h0 : Heap) (n0 : Nat) (Z0 : n0 ≤ h0.size) (Bb : Arv Z h0 r0 kv .byte (16 : Int32) ((bs.map (fun c => c.toInt8.toInt32)).map Value.int) (.int 0)) (hbs : bs.length ≤ 16) :
    MetFree l yy_11 (head1 (Jvm.Cond.code yy_11 jdk_65_method_121_code 3 (some (.array .byte)) :: ws) ({ frames := 1, cells := 1, slots := 34, locals := 64 } : Room)) (fun a U => a = #[(.ref r0), (.int (34 : Int32))] ∧ Z.Warmed39 U.vm ∧ U.heap = h0) (fun _ _ _ _ _ => True) (fun _ U o U' => ∃ v L, o = .returned v ∧ Q42 Z r0 kv bs h0 n0 v U'.heap L ∧ FrameEnd U o U' L ({ frames := 1, cells := 1, slots := 34, locals := 64 } : Room).cells ({ frames := 1, cells := 1, slots := 34, locals := 64 } : Room).slots) := by
  refine MetFree.of_bodySF (plainFor_of_name pn_42) hisR ?_
  intro p e s m args below meth c s₁ Bd hml0 hP hK
  obtain ⟨rfl, hZ, hh⟩ := hP
  have hx := Bd.exec
  have hby := Bd.bytes
  have hml : c.maxLocals = 3 := hml0
  have hown : s.vm.findClass "java/util/Arrays" = some m.cls := findClass_of_methodNamed Bd.named
  have hnm := (name_of_methodNamed Bd.named Bd.method).1
  have X0 : Stand p l e ({ frames := 1, cells := 1, slots := 34, locals := 64 } : Room) s m #[(.ref r0), (.int (34 : Int32))] below meth c s₁ [] 0 0 := Stand.of_body Bd
  have e0 : s₁.heap = h0 := by rw [← hh, Bd.state]; rfl
  have N0 := Fr.nil n0
  have pre0 : ∀ t, Steps p.tables e below (s₁.setTop (mkF m 0 #[oa r0, oi 34, .unset] [])) t → Steps p.tables e below (s₁.setTop (entryFrame m #[(.ref r0), (.int (34 : Int32))] 3)) t := fun t k => castTop (ef_42 m r0 (34 : Int32)) k
  have Vc1 := Bb
  obtain ⟨cl1, Ar1, qk1, S1, M1, H1, G1⟩ := Vc1
  have c3 : own_G p e below s₁ (mkF m 15 #[oa r0, oi 34, .unset] [(.int (34 : Int32))]) (mkF m 0 #[oa r0, oi 34, .unset] []) := by
    intro t kt
    show oS s₁ (mkF m 0 #[oa r0, oi 34, .unset] []) _
    refine XS.iloadN X0.here hx rfl (hb hby d42_0) rfl ?_
    show oS s₁ (mkF m 1 #[oa r0, oi 34, .unset] [(.int (34 : Int32))]) _
    refine XS.aloadN X0.here hx rfl (hb hby d42_1) rfl rfl ?_
    show oS s₁ (mkF m 2 #[oa r0, oi 34, .unset] [(.ref r0), (.int (34 : Int32))]) _
    refine X0.arraylength hx (by rw [e0]; exact Ar1.1) (State.isArrayOf_alike hZ.alike Ar1.2.1) (g := (mkF m 2 #[oa r0, oi 34, .unset] [(.ref r0), (.int (34 : Int32))])) rfl rfl (hb hby d42_2) _ ?_
    rw [len_of S1 M1]
    show oS s₁ (mkF m 3 #[oa r0, oi 34, .unset] [(.int (16 : Int32)), (.int (34 : Int32))]) _
    refine XS.icmpYes X0.here hx rfl (pc0 := 3) (pc' := 14) rfl (hb hby d42_3) rfl (feq (by decide : ¬ ((34 : Int32) = (16 : Int32)))).2 (by decide) (by decide) ?_
    show oS s₁ (mkF m 14 #[oa r0, oi 34, .unset] []) _
    refine XS.iloadN X0.here hx rfl (hb hby d42_14) rfl ?_
    exact kt
  obtain ⟨T2, h2, k2, X2, e2, E2, A2, st2⟩ := newP X0 hx hZ (own_t hw 21 rfl) e0 (g := (mkF m 15 #[oa r0, oi 34, .unset] [(.int (34 : Int32))])) rfl (hb hby d42_15) rfl (by decide) (cap := 34) (by decide) (by decide) (by decide) (by decide)
  obtain ⟨b2, g2⟩ : ∃ z, z = h0.size := ⟨_, rfl⟩
  rw [← g2] at A2 st2
  have g_b2 : n0 ≤ b2 := Nat.le_trans Z0 (Nat.le_of_eq g2.symm)
  have sz_b2 : h0.size ≤ b2 := Nat.le_trans (Keep.refl h0 []).1 (Nat.le_of_eq g2.symm)
  have lt_r0_2 := Bb.lt
  have V2 : Arv Z h2 b2 k2 .byte (34 : Int32) [(.int (0 : Int32)), (.int (0 : Int32)), (.int (0 : Int32)), (.int (0 : Int32)), (.int (0 : Int32)), (.int (0 : Int32)), (.int (0 : Int32)), (.int (0 : Int32)), (.int (0 : Int32)), (.int (0 : Int32)), (.int (0 : Int32)), (.int (0 : Int32)), (.int (0 : Int32)), (.int (0 : Int32)), (.int (0 : Int32)), (.int (0 : Int32)), (.int (0 : Int32)), (.int (0 : Int32)), (.int (0 : Int32)), (.int (0 : Int32)), (.int (0 : Int32)), (.int (0 : Int32)), (.int (0 : Int32)), (.int (0 : Int32)), (.int (0 : Int32)), (.int (0 : Int32)), (.int (0 : Int32)), (.int (0 : Int32)), (.int (0 : Int32)), (.int (0 : Int32)), (.int (0 : Int32)), (.int (0 : Int32)), (.int (0 : Int32)), (.int (0 : Int32))] (.int (0 : Int32)) := (Arv.new A2 (by decide)).pad (pad_rep [] (.int (0 : Int32)) 34)
  have f4 := (Bb.ext E2)
  have Vc5 := f4
  obtain ⟨cl5, Ar5, qk5, S5, M5, H5, G5⟩ := Vc5
  have c6 : own_G p e below T2 (mkF m 25 #[oa r0, oi 34, oa b2] [(.int (34 : Int32)), (.int (16 : Int32)), (.int (0 : Int32)), (.ref b2), (.int (0 : Int32)), (.ref r0)]) (mkF m 17 #[oa r0, oi 34, .unset] [(.ref b2)]) := by
    intro t kt
    show oS T2 (mkF m 17 #[oa r0, oi 34, .unset] [(.ref b2)]) _
    refine XS.astoreN X2.here hx rfl (hb hby d42_17) rfl rfl (l' := #[oa r0, oi 34, oa b2]) rfl ?_
    show oS T2 (mkF m 18 #[oa r0, oi 34, oa b2] []) _
    refine XS.aloadN X2.here hx rfl (hb hby d42_18) rfl rfl ?_
    show oS T2 (mkF m 19 #[oa r0, oi 34, oa b2] [(.ref r0)]) _
    refine XS.iconst X2.here hx rfl (hb hby d42_19) ?_
    show oS T2 (mkF m 20 #[oa r0, oi 34, oa b2] [(.int (0 : Int32)), (.ref r0)]) _
    refine XS.aloadN X2.here hx rfl (hb hby d42_20) rfl rfl ?_
    show oS T2 (mkF m 21 #[oa r0, oi 34, oa b2] [(.ref b2), (.int (0 : Int32)), (.ref r0)]) _
    refine XS.iconst X2.here hx rfl (hb hby d42_21) ?_
    show oS T2 (mkF m 22 #[oa r0, oi 34, oa b2] [(.int (0 : Int32)), (.ref b2), (.int (0 : Int32)), (.ref r0)]) _
    refine XS.aloadN X2.here hx rfl (hb hby d42_22) rfl rfl ?_
    show oS T2 (mkF m 23 #[oa r0, oi 34, oa b2] [(.ref r0), (.int (0 : Int32)), (.ref b2), (.int (0 : Int32)), (.ref r0)]) _
    refine X2.arraylength hx (by rw [e2]; exact Ar5.1) (State.isArrayOf_alike hZ.alike Ar5.2.1) (g := (mkF m 23 #[oa r0, oi 34, oa b2] [(.ref r0), (.int (0 : Int32)), (.ref b2), (.int (0 : Int32)), (.ref r0)])) rfl rfl (hb hby d42_23) _ ?_
    rw [len_of S5 M5]
    show oS T2 (mkF m 24 #[oa r0, oi 34, oa b2] [(.int (16 : Int32)), (.int (0 : Int32)), (.ref b2), (.int (0 : Int32)), (.ref r0)]) _
    refine XS.iloadN X2.here hx rfl (hb hby d42_24) rfl ?_
    exact kt
  have f7 := (Nat.le_trans Z0 E2.1)
  obtain ⟨_, _, ⟨T8, L8, k8, n8⟩, -, X8, ⟨Lc8, hQ8, l8, y8, z8⟩, st8⟩ := Jvm.LawKit.callS X2 hx (y := yy_7) hown (mvT hZ (own_t hw 159 rfl)) (mvT hZ (own_t hw 160 rfl)) (mvT hZ (own_t hw 161 rfl)) (mvT hZ (own_t hw 162 rfl)) (by decide) (backOf (W := 4) (rm30 l Z a0 hw [] (16 : Int32) (34 : Int32)  h2 n0 f7 ) hZ (own_t hw 162 rfl) (own_t hw 161 rfl) (by decide) (by decide)) (g := (mkF m 25 #[oa r0, oi 34, oa b2] [(.int (34 : Int32)), (.int (16 : Int32)), (.int (0 : Int32)), (.ref b2), (.int (0 : Int32)), (.ref r0)])) rfl (by rw [hml]; rfl) (argsL := [(.int (16 : Int32)), (.int (34 : Int32))]) (rest := [(.int (0 : Int32)), (.ref b2), (.int (0 : Int32)), (.ref r0)]) (lenOf pd_5 rfl) rfl (by show 2 * 0 + _ ≤ _; exact Nat.le_of_eq rfl) (hb hby d42_25) (fun _ _ => ⟨rfl, e2, (by decide : 1 + 0 ≤ _), (by decide : 34 + 0 ≤ _)⟩)
  dsimp only [Pt.U, Pt.locs, Pt.cells, Pt.slots] at X8 l8 y8 z8 st8 hQ8
  subst l8 y8 z8
  obtain ⟨rfl, N8q, e8⟩ := hQ8
  have N8 := Fr.app N0 N8q
  have c9 : own_G p e below T8 (mkF m 28 #[oa r0, oi 34, oa b2] [(.int (16 : Int32)), (.int (0 : Int32)), (.ref b2), (.int (0 : Int32)), (.ref r0)]) (mkF m 28 #[oa r0, oi 34, oa b2] [(.int (own_min (16 : Int32) (34 : Int32))), (.int (0 : Int32)), (.ref b2), (.int (0 : Int32)), (.ref r0)]) := fun t kt => castTop (congrArg (fun zv => (mkF m 28 #[oa r0, oi 34, oa b2] [(.int zv), (.int (0 : Int32)), (.ref b2), (.int (0 : Int32)), (.ref r0)])) (show (own_min (16 : Int32) (34 : Int32)) = (16 : Int32) from by decide)) kt
  obtain ⟨T10, h10, L10, X10, e10, N10, K10, V10, st10⟩ := cpA X8 hx hZ hown (own_t hw 163 rfl) (own_t hw 114 rfl) (own_t hw 112 rfl) (own_t hw 113 rfl) e8 (sp := (0 : Int32)) (dp := (0 : Int32)) (nn := (16 : Int32)) (us := ((List.range (16 : Int32).toNatClampNeg).map fun i => ((bs.map (fun c => c.toInt8.toInt32)).map Value.int).getD ((0 : Int32).toNatClampNeg + i) (.int 0))) f4 V2 (Or.inl ⟨rfl, rfl⟩) (by decide) (by decide) (by decide) (by decide) (by decide) rfl (by decide) N8 g_b2 (g := (mkF m 28 #[oa r0, oi 34, oa b2] [(.int (16 : Int32)), (.int (0 : Int32)), (.ref b2), (.int (0 : Int32)), (.ref r0)])) rfl (by rw [hml]; rfl) (rest := []) rfl (hb hby d42_28) (by decide) (W := 0) (by show 2 * 0 + _ ≤ _; exact Nat.le_of_eq rfl) (by decide)
  have V10x : Arv Z h10 b2 k2 .byte (34 : Int32) ((bs.map (fun c => c.toInt8.toInt32)).map Value.int) (.int (0 : Int32)) := (Arv.pad V10 (own_cp _ _ 16 18 (by simp; exact hbs)))
  have c11 : own_G p e below T10 (mkF m 32 #[oa r0, oi 34, oa b2] [(.ref b2)]) (mkF m 31 #[oa r0, oi 34, oa b2] []) := by
    intro t kt
    show oS T10 (mkF m 31 #[oa r0, oi 34, oa b2] []) _
    refine XS.aloadN X10.here hx rfl (hb hby d42_31) rfl rfl ?_
    exact kt
  obtain ⟨fs, hr, hrun, hended, hW, hsame⟩ := X10.leave (v := some (.ref b2)) (fun h => by rw [Bd.returns] at h; cases h)
  have f13 := (((Keep.refl h0 []).ext E2).trans K10 (allS (Or.inr sz_b2) all0))
  refine ⟨_, _, pre0 _ (c3 _ (st2 _ (c6 _ (st8 _ (c9 _ (st10 _ (c11 _ (?_)))))))), hrun, hended, _, _, rfl, ?_, ⟨_, rfl⟩, hW, hsame.mono (by decide) (by decide)⟩
  · show Steps p.tables e below (T10.setTop (mkF m 32 #[oa r0, oi 34, oa b2] [(.ref b2)])) _
    jvm_step X10.here [X10.here.top, hx, (hb hby d42_32), X10.method', Bd.returns, Value.isRef, FieldType.isReference]
    first | (intro acts; rw [hr _ acts rfl rfl rfl]) | rw [hr _ _ rfl rfl rfl]
    exact Steps.refl _
  · show Q42 Z r0 kv bs h0 n0 _ T10.heap _
    rw [e10]
    exact ⟨b2, k2, rfl, N10, f13, sz_b2, g_b2, V10x⟩
theorem d16_0 : decode jdk_68_method_9_code 0 = .ok (.aload_n 0, 1) := by decide +kernel
theorem d16_1 : decode jdk_68_method_9_code 1 = .ok (.getfield 15, 3) := by decide +kernel
theorem d16_4 : decode jdk_68_method_9_code 4 = .ok (.arraylength, 1) := by decide +kernel
theorem d16_5 : decode jdk_68_method_9_code 5 = .ok (.aload_n 0, 1) := by decide +kernel
theorem d16_6 : decode jdk_68_method_9_code 6 = .ok (.getfield 22, 3) := by decide +kernel
theorem d16_9 : decode jdk_68_method_9_code 9 = .ok (.ishr, 1) := by decide +kernel
theorem d16_10 : decode jdk_68_method_9_code 10 = .ok (.istore_n 2, 1) := by decide +kernel
theorem d16_11 : decode jdk_68_method_9_code 11 = .ok (.iload_n 1, 1) := by decide +kernel
theorem d16_12 : decode jdk_68_method_9_code 12 = .ok (.iload_n 2, 1) := by decide +kernel
theorem d16_13 : decode jdk_68_method_9_code 13 = .ok (.isub, 1) := by decide +kernel
theorem d16_14 : decode jdk_68_method_9_code 14 = .ok (.ifCond .le 24, 3) := by decide +kernel
theorem d16_38 : decode jdk_68_method_9_code 38 = .ok (.return_, 1) := by decide +kernel
theorem pn_16 : plainName "java/lang/AbstractStringBuilder" = true := by first | (simp [plainName, overriddenIn]; done) | decide +kernel
theorem ef_16 (m : MethodId) (x0 : Addr) (x1 : Int32) : entryFrame m #[(.ref x0), (.int x1)] 3 = mkF m 0 #[.val (.ref x0), .val (.int x1), .unset] [] := by first | (simp [entryFrame, mkF, argsToLocals, Value.category]; done) | rfl
def Q16s (Z : State) (r0 : Addr) (p1 : Int32) (vb : Addr) (kv : ClassId) (z : Int32) (bs : List Int32) (h0 : Heap) (n0 : Nat) (v : Option Value) (h : Heap) (L : List Loc) : Prop := v = none ∧ Fr n0 L ∧ h = h0
set_option maxRecDepth 65536 in
set_option maxHeartbeats 40000000 in
theorem rm16s (l : Launch) (Z : State) (a0 : Array Value) (hw : ∀ d ∈ tables_1, d.before a0 Z = true) (ws : List Jvm.Cond) (r0 : Addr) (p1 : Int32) (vb : Addr) (kv : ClassId) (z : Int32) (bs : List Int32) (h0 : Heap) (n0 : Nat) (Z0 : n0 ≤ h0.size) (Eb : Exa Z h0 r0 "java/lang/StringBuilder") (Bv : Fld Z h0 r0 "java/lang/AbstractStringBuilder" "value" "[B" (.ref vb)) (Bc : Fld Z h0 r0 "java/lang/AbstractStringBuilder" "coder" "B" (.int (0 : Int32))) (Bn : Fld Z h0 r0 "java/lang/AbstractStringBuilder" "count" "I" (.int (Int32.ofNat bs.length))) (Bb : Arv Z h0 vb kv .byte z ((bs.map (fun c => c.toInt8.toInt32)).map Value.int) (.int 0)) (hle : ¬ (0 : Int32) < (p1 - (z >>> ((0 : Int32) &&& 31)))) :
    MetFree l yy_12 (head1 (Jvm.Cond.code yy_12 jdk_68_method_9_code 3 none :: ws) ({ frames := 0, cells := 0, slots := 0, locals := 0 } : Room)) (fun a U => a = #[(.ref r0), (.int p1)] ∧ Z.Warmed39 U.vm ∧ U.heap = h0) (fun _ _ _ _ _ => True) (fun _ U o U' => ∃ v L, o = .returned v ∧ Q16s Z r0 p1 vb kv z bs h0 n0 v U'.heap L ∧ FrameEnd U o U' L ({ frames := 0, cells := 0, slots := 0, locals := 0 } : Room).cells ({ frames := 0, cells := 0, slots := 0, locals := 0 } : Room).slots) := by
  refine MetFree.of_bodySF (plainFor_of_name pn_16) hisR ?_
  intro p e s m args below meth c s₁ Bd hml0 hP hK
  obtain ⟨rfl, hZ, hh⟩ := hP
  have hx := Bd.exec
  have hby := Bd.bytes
  have hml : c.maxLocals = 3 := hml0
  have hown : s.vm.findClass "java/lang/AbstractStringBuilder" = some m.cls := findClass_of_methodNamed Bd.named
  have hnm := (name_of_methodNamed Bd.named Bd.method).1
  have X0 : Stand p l e ({ frames := 0, cells := 0, slots := 0, locals := 0 } : Room) s m #[(.ref r0), (.int p1)] below meth c s₁ [] 0 0 := Stand.of_body Bd
  have e0 : s₁.heap = h0 := by rw [← hh, Bd.state]; rfl
  have N0 := Fr.nil n0
  have pre0 : ∀ t, Steps p.tables e below (s₁.setTop (mkF m 0 #[oa r0, oi p1, .unset] [])) t → Steps p.tables e below (s₁.setTop (entryFrame m #[(.ref r0), (.int p1)] 3)) t := fun t k => castTop (ef_16 m r0 p1) k
  have c2 : own_G p e below s₁ (mkF m 1 #[oa r0, oi p1, .unset] [(.ref r0)]) (mkF m 0 #[oa r0, oi p1, .unset] []) := by
    intro t kt
    show oS s₁ (mkF m 0 #[oa r0, oi p1, .unset] []) _
    refine XS.aloadN X0.here hx rfl (hb hby d16_0) rfl rfl ?_
    exact kt
  obtain ⟨T1, X1, e1, st1⟩ := getF X0 hx hZ hown (host := "") (Or.inl (own_t hw 63 rfl)) Via.refl e0 Bv (g := (mkF m 1 #[oa r0, oi p1, .unset] [(.ref r0)])) rfl rfl (hb hby d16_1)
  have Vc3 := Bb
  obtain ⟨cl3, Ar3, qk3, S3, M3, H3, G3⟩ := Vc3
  have c5 : own_G p e below T1 (mkF m 6 #[oa r0, oi p1, .unset] [(.ref r0), (.int z)]) (mkF m 4 #[oa r0, oi p1, .unset] [(.ref vb)]) := by
    intro t kt
    show oS T1 (mkF m 4 #[oa r0, oi p1, .unset] [(.ref vb)]) _
    refine X1.arraylength hx (by rw [e1]; exact Ar3.1) (State.isArrayOf_alike hZ.alike Ar3.2.1) (g := (mkF m 4 #[oa r0, oi p1, .unset] [(.ref vb)])) rfl rfl (hb hby d16_4) _ ?_
    rw [len_of S3 M3]
    show oS T1 (mkF m 5 #[oa r0, oi p1, .unset] [(.int z)]) _
    refine XS.aloadN X1.here hx rfl (hb hby d16_5) rfl rfl ?_
    exact kt
  obtain ⟨T4, X4, e4, st4⟩ := getF X1 hx hZ hown (host := "") (Or.inl (own_t hw 65 rfl)) Via.refl e1 Bc (g := (mkF m 6 #[oa r0, oi p1, .unset] [(.ref r0), (.int z)])) rfl rfl (hb hby d16_6)
  have c7 : own_G p e below T4 (mkF m 14 #[oa r0, oi p1, oi (z >>> ((0 : Int32) &&& 31))] [(.int (p1 - (z >>> ((0 : Int32) &&& 31))))]) (mkF m 9 #[oa r0, oi p1, .unset] [(.int (0 : Int32)), (.int z)]) := by
    intro t kt
    show oS T4 (mkF m 9 #[oa r0, oi p1, .unset] [(.int (0 : Int32)), (.int z)]) _
    refine XS.ishr X4.here hx rfl (hb hby d16_9) rfl ?_
    show oS T4 (mkF m 10 #[oa r0, oi p1, .unset] [(.int (z >>> ((0 : Int32) &&& 31)))]) _
    refine XS.istoreN X4.here hx rfl (hb hby d16_10) rfl (l' := #[oa r0, oi p1, oi (z >>> ((0 : Int32) &&& 31))]) rfl ?_
    show oS T4 (mkF m 11 #[oa r0, oi p1, oi (z >>> ((0 : Int32) &&& 31))] []) _
    refine XS.iloadN X4.here hx rfl (hb hby d16_11) rfl ?_
    show oS T4 (mkF m 12 #[oa r0, oi p1, oi (z >>> ((0 : Int32) &&& 31))] [(.int p1)]) _
    refine XS.iloadN X4.here hx rfl (hb hby d16_12) rfl ?_
    show oS T4 (mkF m 13 #[oa r0, oi p1, oi (z >>> ((0 : Int32) &&& 31))] [(.int (z >>> ((0 : Int32) &&& 31))), (.int p1)]) _
    refine XS.isub X4.here hx rfl (hb hby d16_13) rfl ?_
    exact kt
  have hd6 : ¬ ((0 : Int32) < (p1 - (z >>> ((0 : Int32) &&& 31)))) := hle
  have c8 : own_G p e below T4 (mkF m 38 #[oa r0, oi p1, oi (z >>> ((0 : Int32) &&& 31))] []) (mkF m 14 #[oa r0, oi p1, oi (z >>> ((0 : Int32) &&& 31))] [(.int (p1 - (z >>> ((0 : Int32) &&& 31))))]) := by
    intro t kt
    show oS T4 (mkF m 14 #[oa r0, oi p1, oi (z >>> ((0 : Int32) &&& 31))] [(.int (p1 - (z >>> ((0 : Int32) &&& 31))))]) _
    refine XS.ifYes X4.here hx rfl (pc0 := 14) (pc' := 38) rfl (hb hby d16_14) rfl ((if0 _ _).trans (flt hd6).2.2.2) (by decide) (by decide) ?_
    exact kt
  obtain ⟨fs, hr, hrun, hended, hW, hsame⟩ := X4.leave (v := none) (fun _ => rfl)
  refine ⟨_, _, pre0 _ (c2 _ (st1 _ (c5 _ (st4 _ (c7 _ (c8 _ (?_))))))), hrun, hended, _, _, rfl, ?_, ⟨_, rfl⟩, hW, hsame.mono (by decide) (by decide)⟩
  · show Steps p.tables e below (T4.setTop (mkF m 38 #[oa r0, oi p1, oi (z >>> ((0 : Int32) &&& 31))] [])) _
    exact X4.returnOut hx Bd.returns (hb hby d16_38) hr
  · show Q16s Z r0 p1 vb kv z bs h0 n0 _ T4.heap _
    rw [e4]
    exact ⟨rfl, N0, rfl⟩
theorem d16_17 : decode jdk_68_method_9_code 17 = .ok (.aload_n 0, 1) := by decide +kernel
theorem d16_18 : decode jdk_68_method_9_code 18 = .ok (.aload_n 0, 1) := by decide +kernel
theorem d16_19 : decode jdk_68_method_9_code 19 = .ok (.getfield 15, 3) := by decide +kernel
theorem d16_22 : decode jdk_68_method_9_code 22 = .ok (.aload_n 0, 1) := by decide +kernel
theorem d16_23 : decode jdk_68_method_9_code 23 = .ok (.iload_n 1, 1) := by decide +kernel
theorem d16_24 : decode jdk_68_method_9_code 24 = .ok (.invokevirtual 104, 3) := by decide +kernel
theorem d16_27 : decode jdk_68_method_9_code 27 = .ok (.aload_n 0, 1) := by decide +kernel
theorem d16_28 : decode jdk_68_method_9_code 28 = .ok (.getfield 22, 3) := by decide +kernel
theorem d16_31 : decode jdk_68_method_9_code 31 = .ok (.ishl, 1) := by decide +kernel
theorem d16_32 : decode jdk_68_method_9_code 32 = .ok (.invokestatic 108, 3) := by decide +kernel
theorem d16_35 : decode jdk_68_method_9_code 35 = .ok (.putfield 15, 3) := by decide +kernel
def Q16g (Z : State) (r0 : Addr) (p1 : Int32) (vb : Addr) (kv : ClassId) (bs : List Int32) (h0 : Heap) (n0 : Nat) (v : Option Value) (h : Heap) (L : List Loc) : Prop := v = none ∧ Fr n0 L ∧ Keep h0 h [r0] ∧ Exa Z h r0 "java/lang/StringBuilder" ∧ ∃ ra kx, h0.size ≤ ra ∧ n0 ≤ ra ∧ Fld Z h r0 "java/lang/AbstractStringBuilder" "value" "[B" (.ref ra) ∧ Fld Z h r0 "java/lang/AbstractStringBuilder" "coder" "B" (.int (0 : Int32)) ∧ Fld Z h r0 "java/lang/AbstractStringBuilder" "count" "I" (.int (Int32.ofNat bs.length)) ∧ Arv Z h ra kx .byte (34 : Int32) ((bs.map (fun c => c.toInt8.toInt32)).map Value.int) (.int 0)
set_option maxRecDepth 65536 in
set_option maxHeartbeats 40000000 in
theorem rm16g (l : Launch) (Z : State) (a0 : Array Value) (hw : ∀ d ∈ tables_1, d.before a0 Z = true) (ws : List Jvm.Cond) (r0 : Addr) (p1 : Int32) (vb : Addr) (kv : ClassId) (bs : List Int32) (h0 : Heap) (n0 : Nat) (Z0 : n0 ≤ h0.size) (Eb : Exa Z h0 r0 "java/lang/StringBuilder") (Bv : Fld Z h0 r0 "java/lang/AbstractStringBuilder" "value" "[B" (.ref vb)) (Bc : Fld Z h0 r0 "java/lang/AbstractStringBuilder" "coder" "B" (.int (0 : Int32))) (Bn : Fld Z h0 r0 "java/lang/AbstractStringBuilder" "count" "I" (.int (Int32.ofNat bs.length))) (Bb : Arv Z h0 vb kv .byte (16 : Int32) ((bs.map (fun c => c.toInt8.toInt32)).map Value.int) (.int 0)) (hg : own_max ((p1 <<< ((0 : Int32) &&& 31)) - (16 : Int32)) (18 : Int32) = (18 : Int32)) (hlt : (0 : Int32) < (p1 - ((16 : Int32) >>> ((0 : Int32) &&& 31)))) (hbs : bs.length ≤ 16) (g_r0 : n0 ≤ r0) (hvr : vb ≠ r0) :
    MetFree l yy_12 (head1 (Jvm.Cond.code yy_12 jdk_68_method_9_code 3 none :: ws) ({ frames := 3, cells := 1, slots := 34, locals := 79 } : Room)) (fun a U => a = #[(.ref r0), (.int p1)] ∧ Z.Warmed39 U.vm ∧ U.heap = h0) (fun _ _ _ _ _ => True) (fun _ U o U' => ∃ v L, o = .returned v ∧ Q16g Z r0 p1 vb kv bs h0 n0 v U'.heap L ∧ FrameEnd U o U' L ({ frames := 3, cells := 1, slots := 34, locals := 79 } : Room).cells ({ frames := 3, cells := 1, slots := 34, locals := 79 } : Room).slots) := by
  refine MetFree.of_bodySF (plainFor_of_name pn_16) hisR ?_
  intro p e s m args below meth c s₁ Bd hml0 hP hK
  obtain ⟨rfl, hZ, hh⟩ := hP
  have hx := Bd.exec
  have hby := Bd.bytes
  have hml : c.maxLocals = 3 := hml0
  have hown : s.vm.findClass "java/lang/AbstractStringBuilder" = some m.cls := findClass_of_methodNamed Bd.named
  have hnm := (name_of_methodNamed Bd.named Bd.method).1
  have X0 : Stand p l e ({ frames := 3, cells := 1, slots := 34, locals := 79 } : Room) s m #[(.ref r0), (.int p1)] below meth c s₁ [] 0 0 := Stand.of_body Bd
  have e0 : s₁.heap = h0 := by rw [← hh, Bd.state]; rfl
  have N0 := Fr.nil n0
  have pre0 : ∀ t, Steps p.tables e below (s₁.setTop (mkF m 0 #[oa r0, oi p1, .unset] [])) t → Steps p.tables e below (s₁.setTop (entryFrame m #[(.ref r0), (.int p1)] 3)) t := fun t k => castTop (ef_16 m r0 p1) k
  have c2 : own_G p e below s₁ (mkF m 1 #[oa r0, oi p1, .unset] [(.ref r0)]) (mkF m 0 #[oa r0, oi p1, .unset] []) := by
    intro t kt
    show oS s₁ (mkF m 0 #[oa r0, oi p1, .unset] []) _
    refine XS.aloadN X0.here hx rfl (hb hby d16_0) rfl rfl ?_
    exact kt
  obtain ⟨T1, X1, e1, st1⟩ := getF X0 hx hZ hown (host := "") (Or.inl (own_t hw 63 rfl)) Via.refl e0 Bv (g := (mkF m 1 #[oa r0, oi p1, .unset] [(.ref r0)])) rfl rfl (hb hby d16_1)
  have Vc3 := Bb
  obtain ⟨cl3, Ar3, qk3, S3, M3, H3, G3⟩ := Vc3
  have c5 : own_G p e below T1 (mkF m 6 #[oa r0, oi p1, .unset] [(.ref r0), (.int (16 : Int32))]) (mkF m 4 #[oa r0, oi p1, .unset] [(.ref vb)]) := by
    intro t kt
    show oS T1 (mkF m 4 #[oa r0, oi p1, .unset] [(.ref vb)]) _
    refine X1.arraylength hx (by rw [e1]; exact Ar3.1) (State.isArrayOf_alike hZ.alike Ar3.2.1) (g := (mkF m 4 #[oa r0, oi p1, .unset] [(.ref vb)])) rfl rfl (hb hby d16_4) _ ?_
    rw [len_of S3 M3]
    show oS T1 (mkF m 5 #[oa r0, oi p1, .unset] [(.int (16 : Int32))]) _
    refine XS.aloadN X1.here hx rfl (hb hby d16_5) rfl rfl ?_
    exact kt
  obtain ⟨T4, X4, e4, st4⟩ := getF X1 hx hZ hown (host := "") (Or.inl (own_t hw 65 rfl)) Via.refl e1 Bc (g := (mkF m 6 #[oa r0, oi p1, .unset] [(.ref r0), (.int (16 : Int32))])) rfl rfl (hb hby d16_6)
  have c7 : own_G p e below T4 (mkF m 14 #[oa r0, oi p1, oi ((16 : Int32) >>> ((0 : Int32) &&& 31))] [(.int (p1 - ((16 : Int32) >>> ((0 : Int32) &&& 31))))]) (mkF m 9 #[oa r0, oi p1, .unset] [(.int (0 : Int32)), (.int (16 : Int32))]) := by
    intro t kt
    show oS T4 (mkF m 9 #[oa r0, oi p1, .unset] [(.int (0 : Int32)), (.int (16 : Int32))]) _
    refine XS.ishr X4.here hx rfl (hb hby d16_9) rfl ?_
    show oS T4 (mkF m 10 #[oa r0, oi p1, .unset] [(.int ((16 : Int32) >>> ((0 : Int32) &&& 31)))]) _
    refine XS.istoreN X4.here hx rfl (hb hby d16_10) rfl (l' := #[oa r0, oi p1, oi ((16 : Int32) >>> ((0 : Int32) &&& 31))]) rfl ?_
    show oS T4 (mkF m 11 #[oa r0, oi p1, oi ((16 : Int32) >>> ((0 : Int32) &&& 31))] []) _
    refine XS.iloadN X4.here hx rfl (hb hby d16_11) rfl ?_
    show oS T4 (mkF m 12 #[oa r0, oi p1, oi ((16 : Int32) >>> ((0 : Int32) &&& 31))] [(.int p1)]) _
    refine XS.iloadN X4.here hx rfl (hb hby d16_12) rfl ?_
    show oS T4 (mkF m 13 #[oa r0, oi p1, oi ((16 : Int32) >>> ((0 : Int32) &&& 31))] [(.int ((16 : Int32) >>> ((0 : Int32) &&& 31))), (.int p1)]) _
    refine XS.isub X4.here hx rfl (hb hby d16_13) rfl ?_
    exact kt
  have hd6 : (0 : Int32) < (p1 - ((16 : Int32) >>> ((0 : Int32) &&& 31))) := hlt
  have c9 : own_G p e below T4 (mkF m 19 #[oa r0, oi p1, oi ((16 : Int32) >>> ((0 : Int32) &&& 31))] [(.ref r0), (.ref r0)]) (mkF m 14 #[oa r0, oi p1, oi ((16 : Int32) >>> ((0 : Int32) &&& 31))] [(.int (p1 - ((16 : Int32) >>> ((0 : Int32) &&& 31))))]) := by
    intro t kt
    show oS T4 (mkF m 14 #[oa r0, oi p1, oi ((16 : Int32) >>> ((0 : Int32) &&& 31))] [(.int (p1 - ((16 : Int32) >>> ((0 : Int32) &&& 31))))]) _
    refine XS.ifNo X4.here hx rfl (hb hby d16_14) rfl ((if0 _ _).trans (tlt hd6).2.2.2) ?_
    show oS T4 (mkF m 17 #[oa r0, oi p1, oi ((16 : Int32) >>> ((0 : Int32) &&& 31))] []) _
    refine XS.aloadN X4.here hx rfl (hb hby d16_17) rfl rfl ?_
    show oS T4 (mkF m 18 #[oa r0, oi p1, oi ((16 : Int32) >>> ((0 : Int32) &&& 31))] [(.ref r0)]) _
    refine XS.aloadN X4.here hx rfl (hb hby d16_18) rfl rfl ?_
    exact kt
  obtain ⟨T8, X8, e8, st8⟩ := getF X4 hx hZ hown (host := "") (Or.inl (own_t hw 63 rfl)) Via.refl e4 Bv (g := (mkF m 19 #[oa r0, oi p1, oi ((16 : Int32) >>> ((0 : Int32) &&& 31))] [(.ref r0), (.ref r0)])) rfl rfl (hb hby d16_19)
  have c10 : own_G p e below T8 (mkF m 24 #[oa r0, oi p1, oi ((16 : Int32) >>> ((0 : Int32) &&& 31))] [(.int p1), (.ref r0), (.ref vb), (.ref r0)]) (mkF m 22 #[oa r0, oi p1, oi ((16 : Int32) >>> ((0 : Int32) &&& 31))] [(.ref vb), (.ref r0)]) := by
    intro t kt
    show oS T8 (mkF m 22 #[oa r0, oi p1, oi ((16 : Int32) >>> ((0 : Int32) &&& 31))] [(.ref vb), (.ref r0)]) _
    refine XS.aloadN X8.here hx rfl (hb hby d16_22) rfl rfl ?_
    show oS T8 (mkF m 23 #[oa r0, oi p1, oi ((16 : Int32) >>> ((0 : Int32) &&& 31))] [(.ref r0), (.ref vb), (.ref r0)]) _
    refine XS.iloadN X8.here hx rfl (hb hby d16_23) rfl ?_
    exact kt
  obtain ⟨cq11, rq11, rq11'⟩ := Eb.cell
  obtain ⟨_, _, ⟨T12, L12, k12, n12⟩, -, X12, ⟨Lc12, hQ12, l12, y12, z12⟩, st12⟩ := X8.privateBack hx (y := yy_10) hown (mvT hZ (own_t hw 196 rfl)) (mvT hZ (own_t hw 197 rfl)) (own_selq (y := yy_10) (z := yy_12) (mvT hZ (own_t hw 93 rfl)) rfl (Cond.privateMethod_at (mvP hZ (own_t hw 198 rfl) (args := #[]))) (mvT hZ (own_t hw 197 rfl)) (by decide)) (Cond.privateMethod_at (mvP hZ (own_t hw 198 rfl) (args := #[]))) (mvT hZ (own_t hw 200 rfl)) (by decide) (backOf (W := 2) (rm39 l Z a0 hw [] r0 p1 vb kv bs h0 n0 Z0 Eb Bv Bc Bn Bb hg) hZ (own_t hw 200 rfl) (own_t hw 59 rfl) (by decide) (by decide)) (g := (mkF m 24 #[oa r0, oi p1, oi ((16 : Int32) >>> ((0 : Int32) &&& 31))] [(.int p1), (.ref r0), (.ref vb), (.ref r0)])) rfl (by rw [hml]; rfl) (Steps.refl _) (a := r0) (by rw [e8]; exact rq11) rq11' (argsL := [(.int p1)]) (rest := [(.ref vb), (.ref r0)]) (lenOf pd_7 rfl) rfl (by show 2 * 0 + _ ≤ _; exact Nat.le_of_eq rfl) (hb hby d16_24) (fun _ _ => ⟨rfl, e8, (by decide : 0 + 0 ≤ _), (by decide : 0 + 0 ≤ _)⟩)
  dsimp only [Pt.U, Pt.locs, Pt.cells, Pt.slots] at X12 l12 y12 z12 st12 hQ12
  subst l12 y12 z12
  obtain ⟨rfl, N12q, e12⟩ := hQ12
  have N12 := Fr.app N0 N12q
  have c14 : own_G p e below T12 (mkF m 28 #[oa r0, oi p1, oi ((16 : Int32) >>> ((0 : Int32) &&& 31))] [(.ref r0), (.int (34 : Int32)), (.ref vb), (.ref r0)]) (mkF m 27 #[oa r0, oi p1, oi ((16 : Int32) >>> ((0 : Int32) &&& 31))] [(.int (34 : Int32)), (.ref vb), (.ref r0)]) := by
    intro t kt
    show oS T12 (mkF m 27 #[oa r0, oi p1, oi ((16 : Int32) >>> ((0 : Int32) &&& 31))] [(.int (34 : Int32)), (.ref vb), (.ref r0)]) _
    refine XS.aloadN X12.here hx rfl (hb hby d16_27) rfl rfl ?_
    exact kt
  obtain ⟨T13, X13, e13, st13⟩ := getF X12 hx hZ hown (host := "") (Or.inl (own_t hw 65 rfl)) Via.refl e12 Bc (g := (mkF m 28 #[oa r0, oi p1, oi ((16 : Int32) >>> ((0 : Int32) &&& 31))] [(.ref r0), (.int (34 : Int32)), (.ref vb), (.ref r0)])) rfl rfl (hb hby d16_28)
  have c15 : own_G p e below T13 (mkF m 32 #[oa r0, oi p1, oi ((16 : Int32) >>> ((0 : Int32) &&& 31))] [(.int ((34 : Int32) <<< ((0 : Int32) &&& 31))), (.ref vb), (.ref r0)]) (mkF m 31 #[oa r0, oi p1, oi ((16 : Int32) >>> ((0 : Int32) &&& 31))] [(.int (0 : Int32)), (.int (34 : Int32)), (.ref vb), (.ref r0)]) := by
    intro t kt
    show oS T13 (mkF m 31 #[oa r0, oi p1, oi ((16 : Int32) >>> ((0 : Int32) &&& 31))] [(.int (0 : Int32)), (.int (34 : Int32)), (.ref vb), (.ref r0)]) _
    refine XS.ishl X13.here hx rfl (hb hby d16_31) rfl ?_
    exact kt
  have c16 : own_G p e below T13 (mkF m 32 #[oa r0, oi p1, oi ((16 : Int32) >>> ((0 : Int32) &&& 31))] [(.int (34 : Int32)), (.ref vb), (.ref r0)]) (mkF m 32 #[oa r0, oi p1, oi ((16 : Int32) >>> ((0 : Int32) &&& 31))] [(.int ((34 : Int32) <<< ((0 : Int32) &&& 31))), (.ref vb), (.ref r0)]) := fun t kt => castTop (congrArg (fun zv => (mkF m 32 #[oa r0, oi p1, oi ((16 : Int32) >>> ((0 : Int32) &&& 31))] [(.int zv), (.ref vb), (.ref r0)])) (show ((34 : Int32) <<< ((0 : Int32) &&& 31)) = (34 : Int32) from by decide)) kt
  obtain ⟨_, _, ⟨T17, L17, k17, n17⟩, -, X17, ⟨Lc17, hQ17, l17, y17, z17⟩, st17⟩ := Jvm.LawKit.callS X13 hx (y := yy_11) hown (mvT hZ (own_t hw 210 rfl)) (mvT hZ (own_t hw 211 rfl)) (mvT hZ (own_t hw 151 rfl)) (mvT hZ (own_t hw 212 rfl)) (by decide) (backOf (W := 1) (rm42 l Z a0 hw []  vb kv bs h0 n0 Z0 Bb hbs) hZ (own_t hw 212 rfl) (own_t hw 151 rfl) (by decide) (by decide)) (g := (mkF m 32 #[oa r0, oi p1, oi ((16 : Int32) >>> ((0 : Int32) &&& 31))] [(.int (34 : Int32)), (.ref vb), (.ref r0)])) rfl (by rw [hml]; rfl) (argsL := [(.ref vb), (.int (34 : Int32))]) (rest := [(.ref r0)]) (lenOf pd_8 rfl) rfl (by show 2 * 0 + _ ≤ _; exact Nat.le_of_eq rfl) (hb hby d16_32) (fun _ _ => ⟨rfl, e13, (by decide : 0 + 1 ≤ _), (by decide : 0 + 34 ≤ _)⟩)
  dsimp only [Pt.U, Pt.locs, Pt.cells, Pt.slots] at X17 l17 y17 z17 st17 hQ17
  subst l17 y17 z17
  obtain ⟨ra17, kx17, rfl, N17q, Kq17, szq17, g_ra17, Vq17⟩ := hQ17
  have N17 := Fr.app N12 N17q
  have lt_r0_17 := Eb.lt
  have lt_vb_17 := Bb.lt
  have sz_ra17 : h0.size ≤ ra17 := Nat.le_trans (Keep.refl h0 [r0]).1 szq17
  have f18 := (Bv.keep Kq17 nin0)
  have f19 := (Eb.keep Kq17)
  obtain ⟨T20, h20, X20, e20, W20, st20⟩ := putF X17 hx hZ hown (host := "") (Or.inl (own_t hw 63 rfl)) Via.refl rfl f18 f19 (Or.inl (own_t hw 64 rfl)) (own_t hw 50 rfl) (ty := (.array .byte)) (by decide) rfl rfl (g := (mkF m 35 #[oa r0, oi p1, oi ((16 : Int32) >>> ((0 : Int32) &&& 31))] [(.ref ra17), (.ref r0)])) rfl rfl (hb hby d16_35)
  have Fw20 := f18.same W20
  have N20 := Fr.snoc X20 N17 g_r0
  obtain ⟨fs, hr, hrun, hended, hW, hsame⟩ := X20.leave (v := none) (fun _ => rfl)
  have f22 := (((Keep.refl h0 [r0]).trans Kq17 all0).wr W20 (Or.inl (List.mem_of_getElem? (i := 0) rfl)))
  have f23 := (f19.wr W20)
  have f24 := ((Bc.keep Kq17 nin0).other W20 (Or.inr (slot_ne (a0 := a0) (Or.inl (own_t hw 66 rfl)) (Or.inl (own_t hw 64 rfl)) (by decide) (t := .byte) (t' := (.array .byte)) (by decide) (by decide))))
  have f25 := ((Bn.keep Kq17 nin0).other W20 (Or.inr (slot_ne (a0 := a0) (Or.inl (own_t hw 89 rfl)) (Or.inl (own_t hw 64 rfl)) (by decide) (t := .int) (t' := (.array .byte)) (by decide) (by decide))))
  have f26 := (Vq17.other W20 (Ne.symm (Nat.ne_of_lt (Nat.lt_of_lt_of_le lt_r0_17 szq17))))
  refine ⟨_, _, pre0 _ (c2 _ (st1 _ (c5 _ (st4 _ (c7 _ (c9 _ (st8 _ (c10 _ (st12.trans (c14 _ (st13 _ (c15 _ (c16 _ (st17 _ (st20 _ (?_)))))))))))))))), hrun, hended, _, _, rfl, ?_, ⟨_, rfl⟩, hW, hsame.mono (by decide) (by decide)⟩
  · show Steps p.tables e below (T20.setTop (mkF m 38 #[oa r0, oi p1, oi ((16 : Int32) >>> ((0 : Int32) &&& 31))] [])) _
    exact X20.returnOut hx Bd.returns (hb hby d16_38) hr
  · show Q16g Z r0 p1 vb kv bs h0 n0 _ T20.heap _
    rw [e20]
    exact ⟨rfl, N20, f22, f23, ⟨ra17, kx17, sz_ra17, g_ra17, Fw20, f24, f25, f26⟩⟩
theorem d18_0 : decode jdk_68_method_71_code 0 = .ok (.getstatic 18, 3) := by decide +kernel
theorem d18_3 : decode jdk_68_method_71_code 3 = .ok (.ifCond .eq 18, 3) := by decide +kernel
theorem d18_6 : decode jdk_68_method_71_code 6 = .ok (.aload_n 0, 1) := by decide +kernel
theorem d18_7 : decode jdk_68_method_71_code 7 = .ok (.getfield 22, 3) := by decide +kernel
theorem d18_10 : decode jdk_68_method_71_code 10 = .ok (.aload_n 1, 1) := by decide +kernel
theorem d18_11 : decode jdk_68_method_71_code 11 = .ok (.invokevirtual 40, 3) := by decide +kernel
theorem d18_14 : decode jdk_68_method_71_code 14 = .ok (.if_icmp .eq 7, 3) := by decide +kernel
theorem d18_21 : decode jdk_68_method_71_code 21 = .ok (.return_, 1) := by decide +kernel
theorem pn_18 : plainName "java/lang/AbstractStringBuilder" = true := by first | (simp [plainName, overriddenIn]; done) | decide +kernel
theorem ef_18 (m : MethodId) (x0 : Addr) (x1 : Addr) : entryFrame m #[(.ref x0), (.ref x1)] 2 = mkF m 0 #[.val (.ref x0), .val (.ref x1)] [] := by first | (simp [entryFrame, mkF, argsToLocals, Value.category]; done) | rfl
def Q18 (Z : State) (r0 : Addr) (r1 : Addr) (cs : Int32) (h0 : Heap) (n0 : Nat) (v : Option Value) (h : Heap) (L : List Loc) : Prop := v = none ∧ Fr n0 L ∧ h = h0
set_option maxRecDepth 65536 in
set_option maxHeartbeats 40000000 in
theorem rm18 (l : Launch) (Z : State) (a0 : Array Value) (hw : ∀ d ∈ tables_1, d.before a0 Z = true) (ws : List Jvm.Cond) (r0 : Addr) (r1 : Addr) (cs : Int32) (h0 : Heap) (n0 : Nat) (Z0 : n0 ≤ h0.size) (Bc : Fld Z h0 r0 "java/lang/AbstractStringBuilder" "coder" "B" (.int (0 : Int32))) (Ea : Exa Z h0 r1 "java/lang/String") (Ca : Fld Z h0 r1 "java/lang/String" "coder" "B" (.int (0 : Int32))) (SC : Sta Z h0 "java/lang/String" "COMPACT_STRINGS" "Z" (.int cs)) (hcs : ¬ cs = (0 : Int32)) :
    MetFree l yy_13 (head1 (Jvm.Cond.code yy_13 jdk_68_method_71_code 2 none :: ws) ({ frames := 1, cells := 0, slots := 0, locals := 13 } : Room)) (fun a U => a = #[(.ref r0), (.ref r1)] ∧ Z.Warmed39 U.vm ∧ U.heap = h0) (fun _ _ _ _ _ => True) (fun _ U o U' => ∃ v L, o = .returned v ∧ Q18 Z r0 r1 cs h0 n0 v U'.heap L ∧ FrameEnd U o U' L ({ frames := 1, cells := 0, slots := 0, locals := 13 } : Room).cells ({ frames := 1, cells := 0, slots := 0, locals := 13 } : Room).slots) := by
  refine MetFree.of_bodySF (plainFor_of_name pn_18) hisR ?_
  intro p e s m args below meth c s₁ Bd hml0 hP hK
  obtain ⟨rfl, hZ, hh⟩ := hP
  have hx := Bd.exec
  have hby := Bd.bytes
  have hml : c.maxLocals = 2 := hml0
  have hown : s.vm.findClass "java/lang/AbstractStringBuilder" = some m.cls := findClass_of_methodNamed Bd.named
  have hnm := (name_of_methodNamed Bd.named Bd.method).1
  have X0 : Stand p l e ({ frames := 1, cells := 0, slots := 0, locals := 13 } : Room) s m #[(.ref r0), (.ref r1)] below meth c s₁ [] 0 0 := Stand.of_body Bd
  have e0 : s₁.heap = h0 := by rw [← hh, Bd.state]; rfl
  have N0 := Fr.nil n0
  have pre0 : ∀ t, Steps p.tables e below (s₁.setTop (mkF m 0 #[oa r0, oa r1] [])) t → Steps p.tables e below (s₁.setTop (entryFrame m #[(.ref r0), (.ref r1)] 2)) t := fun t k => castTop (ef_18 m r0 r1) k
  obtain ⟨T1, X1, e1, st1⟩ := getS2 X0 hx hZ hown (host := "") (Or.inl (own_t hw 62 rfl)) Via.refl e0 SC (g := (mkF m 0 #[oa r0, oa r1] [])) rfl (hb hby d18_0)
  have hd2 : ¬ (cs = (0 : Int32)) := hcs
  have c4 : own_G p e below T1 (mkF m 7 #[oa r0, oa r1] [(.ref r0)]) (mkF m 3 #[oa r0, oa r1] [(.int cs)]) := by
    intro t kt
    show oS T1 (mkF m 3 #[oa r0, oa r1] [(.int cs)]) _
    refine XS.ifNo X1.here hx rfl (hb hby d18_3) rfl ((if0 _ _).trans (feq hd2).1) ?_
    show oS T1 (mkF m 6 #[oa r0, oa r1] []) _
    refine XS.aloadN X1.here hx rfl (hb hby d18_6) rfl rfl ?_
    exact kt
  obtain ⟨T3, X3, e3, st3⟩ := getF X1 hx hZ hown (host := "") (Or.inl (own_t hw 65 rfl)) Via.refl e1 Bc (g := (mkF m 7 #[oa r0, oa r1] [(.ref r0)])) rfl rfl (hb hby d18_7)
  have c5 : own_G p e below T3 (mkF m 11 #[oa r0, oa r1] [(.ref r1), (.int (0 : Int32))]) (mkF m 10 #[oa r0, oa r1] [(.int (0 : Int32))]) := by
    intro t kt
    show oS T3 (mkF m 10 #[oa r0, oa r1] [(.int (0 : Int32))]) _
    refine XS.aloadN X3.here hx rfl (hb hby d18_10) rfl rfl ?_
    exact kt
  obtain ⟨cq6, kq6, q6a, q6b, q6c⟩ := isOf hZ e3 Ea
  obtain ⟨_, _, ⟨T7, L7, k7, n7⟩, -, X7, ⟨Lc7, hQ7, l7, y7, z7⟩, st7⟩ := X3.virtualBack hx (y := yy_5) (z := yy_5) hown (mvT hZ (own_t hw 105 rfl)) (mvT hZ (own_t hw 84 rfl)) (notFace_of_selects (args := #[]) (mvT hZ (own_t hw 86 rfl))) (mvT hZ (own_t hw 86 rfl)) (mvT hZ (own_t hw 85 rfl)) (by decide) (backOf (W := 1) (rm15 l Z a0 hw [] r1 cs h0 n0 Z0 SC hcs Ca) hZ (own_t hw 87 rfl) (own_t hw 9 rfl) (by decide) (by decide)) q6a q6c (g := (mkF m 11 #[oa r0, oa r1] [(.ref r1), (.int (0 : Int32))])) rfl (by rw [hml]; rfl) (Steps.refl _) (argsL := []) (rest := [(.int (0 : Int32))]) (lenOf pd_4 rfl) rfl (by show 2 * 0 + _ ≤ _; exact Nat.le_of_eq rfl) (hb hby d18_11) (fun _ _ => ⟨rfl, e3, (by decide : 0 + 0 ≤ _), (by decide : 0 + 0 ≤ _)⟩)
  dsimp only [Pt.U, Pt.locs, Pt.cells, Pt.slots] at X7 l7 y7 z7 st7 hQ7
  subst l7 y7 z7
  obtain ⟨rfl, N7q, e7⟩ := hQ7
  have N7 := Fr.app N0 N7q
  have c8 : own_G p e below T7 (mkF m 21 #[oa r0, oa r1] []) (mkF m 14 #[oa r0, oa r1] [(.int (0 : Int32)), (.int (0 : Int32))]) := by
    intro t kt
    show oS T7 (mkF m 14 #[oa r0, oa r1] [(.int (0 : Int32)), (.int (0 : Int32))]) _
    refine XS.icmpYes X7.here hx rfl (pc0 := 14) (pc' := 21) rfl (hb hby d18_14) rfl (teq (by decide : (0 : Int32) = (0 : Int32))).1 (by decide) (by decide) ?_
    exact kt
  obtain ⟨fs, hr, hrun, hended, hW, hsame⟩ := X7.leave (v := none) (fun _ => rfl)
  refine ⟨_, _, pre0 _ (st1 _ (c4 _ (st3 _ (c5 _ (st7.trans (c8 _ (?_))))))), hrun, hended, _, _, rfl, ?_, ⟨_, rfl⟩, hW, hsame.mono (by decide) (by decide)⟩
  · show Steps p.tables e below (T7.setTop (mkF m 21 #[oa r0, oa r1] [])) _
    exact X7.returnOut hx Bd.returns (hb hby d18_21) hr
  · show Q18 Z r0 r1 cs h0 n0 _ T7.heap _
    rw [e7]
    exact ⟨rfl, N7, rfl⟩
theorem d19_0 : decode jdk_42_method_147_code 0 = .ok (.aload_n 0, 1) := by decide +kernel
theorem d19_1 : decode jdk_42_method_147_code 1 = .ok (.invokevirtual 335, 3) := by decide +kernel
theorem d19_4 : decode jdk_42_method_147_code 4 = .ok (.iload_n 3, 1) := by decide +kernel
theorem d19_5 : decode jdk_42_method_147_code 5 = .ok (.if_icmp .ne 23, 3) := by decide +kernel
theorem d19_8 : decode jdk_42_method_147_code 8 = .ok (.aload_n 0, 1) := by decide +kernel
theorem d19_9 : decode jdk_42_method_147_code 9 = .ok (.getfield 9, 3) := by decide +kernel
theorem d19_12 : decode jdk_42_method_147_code 12 = .ok (.iconst 0, 1) := by decide +kernel
theorem d19_13 : decode jdk_42_method_147_code 13 = .ok (.aload_n 1, 1) := by decide +kernel
theorem d19_14 : decode jdk_42_method_147_code 14 = .ok (.iload_n 2, 1) := by decide +kernel
theorem d19_15 : decode jdk_42_method_147_code 15 = .ok (.iload_n 3, 1) := by decide +kernel
theorem d19_16 : decode jdk_42_method_147_code 16 = .ok (.ishl, 1) := by decide +kernel
theorem d19_17 : decode jdk_42_method_147_code 17 = .ok (.aload_n 0, 1) := by decide +kernel
theorem d19_18 : decode jdk_42_method_147_code 18 = .ok (.getfield 9, 3) := by decide +kernel
theorem d19_21 : decode jdk_42_method_147_code 21 = .ok (.arraylength, 1) := by decide +kernel
theorem d19_22 : decode jdk_42_method_147_code 22 = .ok (.invokestatic 212, 3) := by decide +kernel
theorem d19_25 : decode jdk_42_method_147_code 25 = .ok (.goto 18, 3) := by decide +kernel
theorem d19_43 : decode jdk_42_method_147_code 43 = .ok (.return_, 1) := by decide +kernel
theorem pn_19 : plainName "java/lang/String" = true := by first | (simp [plainName, overriddenIn]; done) | decide +kernel
theorem ef_19 (m : MethodId) (x0 : Addr) (x1 : Addr) (x2 : Int32) (x3 : Int32) : entryFrame m #[(.ref x0), (.ref x1), (.int x2), (.int x3)] 4 = mkF m 0 #[.val (.ref x0), .val (.ref x1), .val (.int x2), .val (.int x3)] [] := by first | (simp [entryFrame, mkF, argsToLocals, Value.category]; done) | rfl
def Q19 (Z : State) (r0 : Addr) (r1 : Addr) (rb : Addr) (kb kv : ClassId) (z : Int32) (bs wt : List Int32) (cs : Int32) (h0 : Heap) (n0 : Nat) (v : Option Value) (h : Heap) (L : List Loc) : Prop := v = none ∧ Fr n0 L ∧ Keep h0 h [r1] ∧ Arv Z h r1 kv .byte z (((bs ++ wt).map (fun c => c.toInt8.toInt32)).map Value.int) (.int 0)
set_option maxRecDepth 65536 in
set_option maxHeartbeats 40000000 in
theorem rm19 (l : Launch) (Z : State) (a0 : Array Value) (hw : ∀ d ∈ tables_1, d.before a0 Z = true) (ws : List Jvm.Cond) (r0 : Addr) (r1 : Addr) (rb : Addr) (kb kv : ClassId) (z : Int32) (bs wt : List Int32) (cs : Int32) (h0 : Heap) (n0 : Nat) (Z0 : n0 ≤ h0.size) (Ea : Exa Z h0 r0 "java/lang/String") (Fa : Fld Z h0 r0 "java/lang/String" "value" "[B" (.ref rb)) (Ca : Fld Z h0 r0 "java/lang/String" "coder" "B" (.int (0 : Int32))) (Va : Arv Z h0 rb kb .byte (Int32.ofNat wt.length) ((wt.map (fun c => c.toInt8.toInt32)).map Value.int) (.int 0)) (Bb : Arv Z h0 r1 kv .byte z ((bs.map (fun c => c.toInt8.toInt32)).map Value.int) (.int 0)) (hbz : bs.length + wt.length ≤ z.toNatClampNeg) (hl34 : bs.length + wt.length ≤ 34) (SC : Sta Z h0 "java/lang/String" "COMPACT_STRINGS" "Z" (.int cs)) (hcs : ¬ cs = (0 : Int32)) (g_r1 : n0 ≤ r1) :
    MetFree l yy_14 (head1 (Jvm.Cond.code yy_14 jdk_42_method_147_code 4 none :: ws) ({ frames := 1, cells := 0, slots := 0, locals := 64 } : Room)) (fun a U => a = #[(.ref r0), (.ref r1), (.int (Int32.ofNat bs.length)), (.int (0 : Int32))] ∧ Z.Warmed39 U.vm ∧ U.heap = h0) (fun _ _ _ _ _ => True) (fun _ U o U' => ∃ v L, o = .returned v ∧ Q19 Z r0 r1 rb kb kv z bs wt cs h0 n0 v U'.heap L ∧ FrameEnd U o U' L ({ frames := 1, cells := 0, slots := 0, locals := 64 } : Room).cells ({ frames := 1, cells := 0, slots := 0, locals := 64 } : Room).slots) := by
  refine MetFree.of_bodySF (plainFor_of_name pn_19) hisR ?_
  intro p e s m args below meth c s₁ Bd hml0 hP hK
  obtain ⟨rfl, hZ, hh⟩ := hP
  have hx := Bd.exec
  have hby := Bd.bytes
  have hml : c.maxLocals = 4 := hml0
  have hown : s.vm.findClass "java/lang/String" = some m.cls := findClass_of_methodNamed Bd.named
  have hnm := (name_of_methodNamed Bd.named Bd.method).1
  have X0 : Stand p l e ({ frames := 1, cells := 0, slots := 0, locals := 64 } : Room) s m #[(.ref r0), (.ref r1), (.int (Int32.ofNat bs.length)), (.int (0 : Int32))] below meth c s₁ [] 0 0 := Stand.of_body Bd
  have e0 : s₁.heap = h0 := by rw [← hh, Bd.state]; rfl
  have N0 := Fr.nil n0
  have pre0 : ∀ t, Steps p.tables e below (s₁.setTop (mkF m 0 #[oa r0, oa r1, oi (Int32.ofNat bs.length), oi 0] [])) t → Steps p.tables e below (s₁.setTop (entryFrame m #[(.ref r0), (.ref r1), (.int (Int32.ofNat bs.length)), (.int (0 : Int32))] 4)) t := fun t k => castTop (ef_19 m r0 r1 (Int32.ofNat bs.length) (0 : Int32)) k
  have c1 : own_G p e below s₁ (mkF m 1 #[oa r0, oa r1, oi (Int32.ofNat bs.length), oi 0] [(.ref r0)]) (mkF m 0 #[oa r0, oa r1, oi (Int32.ofNat bs.length), oi 0] []) := by
    intro t kt
    show oS s₁ (mkF m 0 #[oa r0, oa r1, oi (Int32.ofNat bs.length), oi 0] []) _
    refine XS.aloadN X0.here hx rfl (hb hby d19_0) rfl rfl ?_
    exact kt
  obtain ⟨cq2, kq2, q2a, q2b, q2c⟩ := isOf hZ e0 Ea
  obtain ⟨_, _, ⟨T3, L3, k3, n3⟩, -, X3, ⟨Lc3, hQ3, l3, y3, z3⟩, st3⟩ := X0.virtualBack hx (y := yy_5) (z := yy_5) hown (mvT hZ (own_t hw 83 rfl)) (mvT hZ (own_t hw 84 rfl)) (notFace_of_selects (args := #[]) (mvT hZ (own_t hw 86 rfl))) (mvT hZ (own_t hw 86 rfl)) (mvT hZ (own_t hw 85 rfl)) (by decide) (backOf (W := 0) (rm15 l Z a0 hw [] r0 cs h0 n0 Z0 SC hcs Ca) hZ (own_t hw 87 rfl) (own_t hw 9 rfl) (by decide) (by decide)) q2a q2c (g := (mkF m 1 #[oa r0, oa r1, oi (Int32.ofNat bs.length), oi 0] [(.ref r0)])) rfl (by rw [hml]; rfl) (Steps.refl _) (argsL := []) (rest := []) (lenOf pd_4 rfl) rfl (by show 2 * 0 + _ ≤ _; exact Nat.le_of_eq rfl) (hb hby d19_1) (fun _ _ => ⟨rfl, e0, (by decide : 0 + 0 ≤ _), (by decide : 0 + 0 ≤ _)⟩)
  dsimp only [Pt.U, Pt.locs, Pt.cells, Pt.slots] at X3 l3 y3 z3 st3 hQ3
  subst l3 y3 z3
  obtain ⟨rfl, N3q, e3⟩ := hQ3
  have N3 := Fr.app N0 N3q
  have c5 : own_G p e below T3 (mkF m 9 #[oa r0, oa r1, oi (Int32.ofNat bs.length), oi 0] [(.ref r0)]) (mkF m 4 #[oa r0, oa r1, oi (Int32.ofNat bs.length), oi 0] [(.int (0 : Int32))]) := by
    intro t kt
    show oS T3 (mkF m 4 #[oa r0, oa r1, oi (Int32.ofNat bs.length), oi 0] [(.int (0 : Int32))]) _
    refine XS.iloadN X3.here hx rfl (hb hby d19_4) rfl ?_
    show oS T3 (mkF m 5 #[oa r0, oa r1, oi (Int32.ofNat bs.length), oi 0] [(.int (0 : Int32)), (.int (0 : Int32))]) _
    refine XS.icmpNo X3.here hx rfl (hb hby d19_5) rfl (teq (by decide : (0 : Int32) = (0 : Int32))).2 ?_
    show oS T3 (mkF m 8 #[oa r0, oa r1, oi (Int32.ofNat bs.length), oi 0] []) _
    refine XS.aloadN X3.here hx rfl (hb hby d19_8) rfl rfl ?_
    exact kt
  obtain ⟨T4, X4, e4, st4⟩ := getF X3 hx hZ hown (host := "") (Or.inl (own_t hw 29 rfl)) Via.refl e3 Fa (g := (mkF m 9 #[oa r0, oa r1, oi (Int32.ofNat bs.length), oi 0] [(.ref r0)])) rfl rfl (hb hby d19_9)
  have c7 : own_G p e below T4 (mkF m 18 #[oa r0, oa r1, oi (Int32.ofNat bs.length), oi 0] [(.ref r0), (.int ((Int32.ofNat bs.length) <<< ((0 : Int32) &&& 31))), (.ref r1), (.int (0 : Int32)), (.ref rb)]) (mkF m 12 #[oa r0, oa r1, oi (Int32.ofNat bs.length), oi 0] [(.ref rb)]) := by
    intro t kt
    show oS T4 (mkF m 12 #[oa r0, oa r1, oi (Int32.ofNat bs.length), oi 0] [(.ref rb)]) _
    refine XS.iconst X4.here hx rfl (hb hby d19_12) ?_
    show oS T4 (mkF m 13 #[oa r0, oa r1, oi (Int32.ofNat bs.length), oi 0] [(.int (0 : Int32)), (.ref rb)]) _
    refine XS.aloadN X4.here hx rfl (hb hby d19_13) rfl rfl ?_
    show oS T4 (mkF m 14 #[oa r0, oa r1, oi (Int32.ofNat bs.length), oi 0] [(.ref r1), (.int (0 : Int32)), (.ref rb)]) _
    refine XS.iloadN X4.here hx rfl (hb hby d19_14) rfl ?_
    show oS T4 (mkF m 15 #[oa r0, oa r1, oi (Int32.ofNat bs.length), oi 0] [(.int (Int32.ofNat bs.length)), (.ref r1), (.int (0 : Int32)), (.ref rb)]) _
    refine XS.iloadN X4.here hx rfl (hb hby d19_15) rfl ?_
    show oS T4 (mkF m 16 #[oa r0, oa r1, oi (Int32.ofNat bs.length), oi 0] [(.int (0 : Int32)), (.int (Int32.ofNat bs.length)), (.ref r1), (.int (0 : Int32)), (.ref rb)]) _
    refine XS.ishl X4.here hx rfl (hb hby d19_16) rfl ?_
    show oS T4 (mkF m 17 #[oa r0, oa r1, oi (Int32.ofNat bs.length), oi 0] [(.int ((Int32.ofNat bs.length) <<< ((0 : Int32) &&& 31))), (.ref r1), (.int (0 : Int32)), (.ref rb)]) _
    refine XS.aloadN X4.here hx rfl (hb hby d19_17) rfl rfl ?_
    exact kt
  obtain ⟨T6, X6, e6, st6⟩ := getF X4 hx hZ hown (host := "") (Or.inl (own_t hw 29 rfl)) Via.refl e4 Fa (g := (mkF m 18 #[oa r0, oa r1, oi (Int32.ofNat bs.length), oi 0] [(.ref r0), (.int ((Int32.ofNat bs.length) <<< ((0 : Int32) &&& 31))), (.ref r1), (.int (0 : Int32)), (.ref rb)])) rfl rfl (hb hby d19_18)
  have Vc8 := Va
  obtain ⟨cl8, Ar8, qk8, S8, M8, H8, G8⟩ := Vc8
  have c9 : own_G p e below T6 (mkF m 22 #[oa r0, oa r1, oi (Int32.ofNat bs.length), oi 0] [(.int (Int32.ofNat wt.length)), (.int ((Int32.ofNat bs.length) <<< ((0 : Int32) &&& 31))), (.ref r1), (.int (0 : Int32)), (.ref rb)]) (mkF m 21 #[oa r0, oa r1, oi (Int32.ofNat bs.length), oi 0] [(.ref rb), (.int ((Int32.ofNat bs.length) <<< ((0 : Int32) &&& 31))), (.ref r1), (.int (0 : Int32)), (.ref rb)]) := by
    intro t kt
    show oS T6 (mkF m 21 #[oa r0, oa r1, oi (Int32.ofNat bs.length), oi 0] [(.ref rb), (.int ((Int32.ofNat bs.length) <<< ((0 : Int32) &&& 31))), (.ref r1), (.int (0 : Int32)), (.ref rb)]) _
    refine X6.arraylength hx (by rw [e6]; exact Ar8.1) (State.isArrayOf_alike hZ.alike Ar8.2.1) (g := (mkF m 21 #[oa r0, oa r1, oi (Int32.ofNat bs.length), oi 0] [(.ref rb), (.int ((Int32.ofNat bs.length) <<< ((0 : Int32) &&& 31))), (.ref r1), (.int (0 : Int32)), (.ref rb)])) rfl rfl (hb hby d19_21) _ ?_
    rw [len_of S8 M8]
    exact kt
  have c10 : own_G p e below T6 (mkF m 22 #[oa r0, oa r1, oi (Int32.ofNat bs.length), oi 0] [(.int (Int32.ofNat wt.length)), (.int (Int32.ofNat bs.length)), (.ref r1), (.int (0 : Int32)), (.ref rb)]) (mkF m 22 #[oa r0, oa r1, oi (Int32.ofNat bs.length), oi 0] [(.int (Int32.ofNat wt.length)), (.int ((Int32.ofNat bs.length) <<< ((0 : Int32) &&& 31))), (.ref r1), (.int (0 : Int32)), (.ref rb)]) := fun t kt => castTop (congrArg (fun zv => (mkF m 22 #[oa r0, oa r1, oi (Int32.ofNat bs.length), oi 0] [(.int (Int32.ofNat wt.length)), (.int zv), (.ref r1), (.int (0 : Int32)), (.ref rb)])) (show ((Int32.ofNat bs.length) <<< ((0 : Int32) &&& 31)) = (Int32.ofNat bs.length) from own_shl0 _)) kt
  have VP := Arv.pad Bb (pad_rep ((bs.map (fun c => c.toInt8.toInt32)).map Value.int) (.int 0) wt.length)
  obtain ⟨T11, h11, L11, X11, e11, N11, K11, V11, st11⟩ := cpA X6 hx hZ hown (own_t hw 111 rfl) (own_t hw 114 rfl) (own_t hw 112 rfl) (own_t hw 113 rfl) e6 (sp := (0 : Int32)) (dp := (Int32.ofNat bs.length)) (nn := (Int32.ofNat wt.length)) (us := ((List.range (Int32.ofNat wt.length).toNatClampNeg).map fun i => ((wt.map (fun c => c.toInt8.toInt32)).map Value.int).getD ((0 : Int32).toNatClampNeg + i) (.int 0))) Va VP (Or.inl ⟨rfl, rfl⟩) (by decide) (own_nn _ (by omega)) (own_nn _ (by omega)) (by rw [own_clamp _ (by omega)]; show 0 + _ ≤ _; omega) (by rw [own_clamp _ (by omega), own_clamp _ (by omega)]; exact hbz) rfl (by rw [own_clamp _ (by omega), own_clamp _ (by omega)]; simp) N3 g_r1 (g := (mkF m 22 #[oa r0, oa r1, oi (Int32.ofNat bs.length), oi 0] [(.int (Int32.ofNat wt.length)), (.int (Int32.ofNat bs.length)), (.ref r1), (.int (0 : Int32)), (.ref rb)])) rfl (by rw [hml]; rfl) (rest := []) rfl (hb hby d19_22) (by decide) (W := 0) (by show 2 * 0 + _ ≤ _; exact Nat.le_of_eq rfl) (by decide)
  have V11x : Arv Z h11 r1 kv .byte z (((bs ++ wt).map (fun c => c.toInt8.toInt32)).map Value.int) (.int 0) := (own_app bs wt (by omega) (by omega) ▸ V11)
  have c12 : own_G p e below T11 (mkF m 43 #[oa r0, oa r1, oi (Int32.ofNat bs.length), oi 0] []) (mkF m 25 #[oa r0, oa r1, oi (Int32.ofNat bs.length), oi 0] []) := by
    intro t kt
    show oS T11 (mkF m 25 #[oa r0, oa r1, oi (Int32.ofNat bs.length), oi 0] []) _
    refine XS.goto X11.here hx rfl (pc0 := 25) (pc' := 43) rfl (hb hby d19_25) (by decide) (by decide) ?_
    exact kt
  obtain ⟨fs, hr, hrun, hended, hW, hsame⟩ := X11.leave (v := none) (fun _ => rfl)
  have f14 := ((Keep.refl h0 [r1]).trans K11 (allS (Or.inl (List.mem_of_getElem? (i := 0) rfl)) all0))
  refine ⟨_, _, pre0 _ (c1 _ (st3.trans (c5 _ (st4 _ (c7 _ (st6 _ (c9 _ (c10 _ (st11 _ (c12 _ (?_))))))))))), hrun, hended, _, _, rfl, ?_, ⟨_, rfl⟩, hW, hsame.mono (by decide) (by decide)⟩
  · show Steps p.tables e below (T11.setTop (mkF m 43 #[oa r0, oa r1, oi (Int32.ofNat bs.length), oi 0] [])) _
    exact X11.returnOut hx Bd.returns (hb hby d19_43) hr
  · show Q19 Z r0 r1 rb kb kv z bs wt cs h0 n0 _ T11.heap _
    rw [e11]
    exact ⟨rfl, N11, f14, V11x⟩
theorem d17_0 : decode jdk_68_method_73_code 0 = .ok (.aload_n 0, 1) := by decide +kernel
theorem d17_1 : decode jdk_68_method_73_code 1 = .ok (.aload_n 2, 1) := by decide +kernel
theorem d17_2 : decode jdk_68_method_73_code 2 = .ok (.invokevirtual 397, 3) := by decide +kernel
theorem d17_5 : decode jdk_68_method_73_code 5 = .ok (.aload_n 2, 1) := by decide +kernel
theorem d17_6 : decode jdk_68_method_73_code 6 = .ok (.aload_n 0, 1) := by decide +kernel
theorem d17_7 : decode jdk_68_method_73_code 7 = .ok (.getfield 15, 3) := by decide +kernel
theorem d17_10 : decode jdk_68_method_73_code 10 = .ok (.iload_n 1, 1) := by decide +kernel
theorem d17_11 : decode jdk_68_method_73_code 11 = .ok (.aload_n 0, 1) := by decide +kernel
theorem d17_12 : decode jdk_68_method_73_code 12 = .ok (.getfield 22, 3) := by decide +kernel
theorem d17_15 : decode jdk_68_method_73_code 15 = .ok (.invokevirtual 399, 3) := by decide +kernel
theorem d17_18 : decode jdk_68_method_73_code 18 = .ok (.return_, 1) := by decide +kernel
theorem pn_17 : plainName "java/lang/AbstractStringBuilder" = true := by first | (simp [plainName, overriddenIn]; done) | decide +kernel
theorem ef_17 (m : MethodId) (x0 : Addr) (x1 : Int32) (x2 : Addr) : entryFrame m #[(.ref x0), (.int x1), (.ref x2)] 3 = mkF m 0 #[.val (.ref x0), .val (.int x1), .val (.ref x2)] [] := by first | (simp [entryFrame, mkF, argsToLocals, Value.category]; done) | rfl
def Q17 (Z : State) (r0 : Addr) (r2 : Addr) (vb rb : Addr) (kv kb : ClassId) (z : Int32) (bs wt : List Int32) (cs : Int32) (h0 : Heap) (n0 : Nat) (v : Option Value) (h : Heap) (L : List Loc) : Prop := v = none ∧ Fr n0 L ∧ Keep h0 h [vb] ∧ Arv Z h vb kv .byte z (((bs ++ wt).map (fun c => c.toInt8.toInt32)).map Value.int) (.int 0)
set_option maxRecDepth 65536 in
set_option maxHeartbeats 40000000 in
theorem rm17 (l : Launch) (Z : State) (a0 : Array Value) (hw : ∀ d ∈ tables_1, d.before a0 Z = true) (ws : List Jvm.Cond) (r0 : Addr) (r2 : Addr) (vb rb : Addr) (kv kb : ClassId) (z : Int32) (bs wt : List Int32) (cs : Int32) (h0 : Heap) (n0 : Nat) (Z0 : n0 ≤ h0.size) (Eb : Exa Z h0 r0 "java/lang/StringBuilder") (Bv : Fld Z h0 r0 "java/lang/AbstractStringBuilder" "value" "[B" (.ref vb)) (Bc : Fld Z h0 r0 "java/lang/AbstractStringBuilder" "coder" "B" (.int (0 : Int32))) (Bn : Fld Z h0 r0 "java/lang/AbstractStringBuilder" "count" "I" (.int (Int32.ofNat bs.length))) (Bb : Arv Z h0 vb kv .byte z ((bs.map (fun c => c.toInt8.toInt32)).map Value.int) (.int 0)) (Ea : Exa Z h0 r2 "java/lang/String") (Fa : Fld Z h0 r2 "java/lang/String" "value" "[B" (.ref rb)) (Ca : Fld Z h0 r2 "java/lang/String" "coder" "B" (.int (0 : Int32))) (Va : Arv Z h0 rb kb .byte (Int32.ofNat wt.length) ((wt.map (fun c => c.toInt8.toInt32)).map Value.int) (.int 0)) (hbz : bs.length + wt.length ≤ z.toNatClampNeg) (hl34 : bs.length + wt.length ≤ 34) (SC : Sta Z h0 "java/lang/String" "COMPACT_STRINGS" "Z" (.int cs)) (hcs : ¬ cs = (0 : Int32)) (g_vb : n0 ≤ vb) :
    MetFree l yy_15 (head1 (Jvm.Cond.code yy_15 jdk_68_method_73_code 3 none :: ws) ({ frames := 2, cells := 0, slots := 0, locals := 79 } : Room)) (fun a U => a = #[(.ref r0), (.int (Int32.ofNat bs.length)), (.ref r2)] ∧ Z.Warmed39 U.vm ∧ U.heap = h0) (fun _ _ _ _ _ => True) (fun _ U o U' => ∃ v L, o = .returned v ∧ Q17 Z r0 r2 vb rb kv kb z bs wt cs h0 n0 v U'.heap L ∧ FrameEnd U o U' L ({ frames := 2, cells := 0, slots := 0, locals := 79 } : Room).cells ({ frames := 2, cells := 0, slots := 0, locals := 79 } : Room).slots) := by
  refine MetFree.of_bodySF (plainFor_of_name pn_17) hisR ?_
  intro p e s m args below meth c s₁ Bd hml0 hP hK
  obtain ⟨rfl, hZ, hh⟩ := hP
  have hx := Bd.exec
  have hby := Bd.bytes
  have hml : c.maxLocals = 3 := hml0
  have hown : s.vm.findClass "java/lang/AbstractStringBuilder" = some m.cls := findClass_of_methodNamed Bd.named
  have hnm := (name_of_methodNamed Bd.named Bd.method).1
  have X0 : Stand p l e ({ frames := 2, cells := 0, slots := 0, locals := 79 } : Room) s m #[(.ref r0), (.int (Int32.ofNat bs.length)), (.ref r2)] below meth c s₁ [] 0 0 := Stand.of_body Bd
  have e0 : s₁.heap = h0 := by rw [← hh, Bd.state]; rfl
  have N0 := Fr.nil n0
  have pre0 : ∀ t, Steps p.tables e below (s₁.setTop (mkF m 0 #[oa r0, oi (Int32.ofNat bs.length), oa r2] [])) t → Steps p.tables e below (s₁.setTop (entryFrame m #[(.ref r0), (.int (Int32.ofNat bs.length)), (.ref r2)] 3)) t := fun t k => castTop (ef_17 m r0 (Int32.ofNat bs.length) r2) k
  have c1 : own_G p e below s₁ (mkF m 2 #[oa r0, oi (Int32.ofNat bs.length), oa r2] [(.ref r2), (.ref r0)]) (mkF m 0 #[oa r0, oi (Int32.ofNat bs.length), oa r2] []) := by
    intro t kt
    show oS s₁ (mkF m 0 #[oa r0, oi (Int32.ofNat bs.length), oa r2] []) _
    refine XS.aloadN X0.here hx rfl (hb hby d17_0) rfl rfl ?_
    show oS s₁ (mkF m 1 #[oa r0, oi (Int32.ofNat bs.length), oa r2] [(.ref r0)]) _
    refine XS.aloadN X0.here hx rfl (hb hby d17_1) rfl rfl ?_
    exact kt
  obtain ⟨cq2, rq2, rq2'⟩ := Eb.cell
  obtain ⟨_, _, ⟨T3, L3, k3, n3⟩, -, X3, ⟨Lc3, hQ3, l3, y3, z3⟩, st3⟩ := X0.privateBack hx (y := yy_13) hown (mvT hZ (own_t hw 100 rfl)) (mvT hZ (own_t hw 101 rfl)) (own_selq (y := yy_13) (z := yy_12) (mvT hZ (own_t hw 93 rfl)) rfl (Cond.privateMethod_at (mvP hZ (own_t hw 102 rfl) (args := #[]))) (mvT hZ (own_t hw 101 rfl)) (by decide)) (Cond.privateMethod_at (mvP hZ (own_t hw 102 rfl) (args := #[]))) (mvT hZ (own_t hw 104 rfl)) (by decide) (backOf (W := 0) (rm18 l Z a0 hw [] r0 r2 cs h0 n0 Z0 Bc Ea Ca SC hcs) hZ (own_t hw 104 rfl) (own_t hw 59 rfl) (by decide) (by decide)) (g := (mkF m 2 #[oa r0, oi (Int32.ofNat bs.length), oa r2] [(.ref r2), (.ref r0)])) rfl (by rw [hml]; rfl) (Steps.refl _) (a := r0) (by rw [e0]; exact rq2) rq2' (argsL := [(.ref r2)]) (rest := []) (lenOf pd_9 rfl) rfl (by show 2 * 0 + _ ≤ _; exact Nat.le_of_eq rfl) (hb hby d17_2) (fun _ _ => ⟨rfl, e0, (by decide : 0 + 0 ≤ _), (by decide : 0 + 0 ≤ _)⟩)
  dsimp only [Pt.U, Pt.locs, Pt.cells, Pt.slots] at X3 l3 y3 z3 st3 hQ3
  subst l3 y3 z3
  obtain ⟨rfl, N3q, e3⟩ := hQ3
  have N3 := Fr.app N0 N3q
  have c5 : own_G p e below T3 (mkF m 7 #[oa r0, oi (Int32.ofNat bs.length), oa r2] [(.ref r0), (.ref r2)]) (mkF m 5 #[oa r0, oi (Int32.ofNat bs.length), oa r2] []) := by
    intro t kt
    show oS T3 (mkF m 5 #[oa r0, oi (Int32.ofNat bs.length), oa r2] []) _
    refine XS.aloadN X3.here hx rfl (hb hby d17_5) rfl rfl ?_
    show oS T3 (mkF m 6 #[oa r0, oi (Int32.ofNat bs.length), oa r2] [(.ref r2)]) _
    refine XS.aloadN X3.here hx rfl (hb hby d17_6) rfl rfl ?_
    exact kt
  obtain ⟨T4, X4, e4, st4⟩ := getF X3 hx hZ hown (host := "") (Or.inl (own_t hw 63 rfl)) Via.refl e3 Bv (g := (mkF m 7 #[oa r0, oi (Int32.ofNat bs.length), oa r2] [(.ref r0), (.ref r2)])) rfl rfl (hb hby d17_7)
  have c7 : own_G p e below T4 (mkF m 12 #[oa r0, oi (Int32.ofNat bs.length), oa r2] [(.ref r0), (.int (Int32.ofNat bs.length)), (.ref vb), (.ref r2)]) (mkF m 10 #[oa r0, oi (Int32.ofNat bs.length), oa r2] [(.ref vb), (.ref r2)]) := by
    intro t kt
    show oS T4 (mkF m 10 #[oa r0, oi (Int32.ofNat bs.length), oa r2] [(.ref vb), (.ref r2)]) _
    refine XS.iloadN X4.here hx rfl (hb hby d17_10) rfl ?_
    show oS T4 (mkF m 11 #[oa r0, oi (Int32.ofNat bs.length), oa r2] [(.int (Int32.ofNat bs.length)), (.ref vb), (.ref r2)]) _
    refine XS.aloadN X4.here hx rfl (hb hby d17_11) rfl rfl ?_
    exact kt
  obtain ⟨T6, X6, e6, st6⟩ := getF X4 hx hZ hown (host := "") (Or.inl (own_t hw 65 rfl)) Via.refl e4 Bc (g := (mkF m 12 #[oa r0, oi (Int32.ofNat bs.length), oa r2] [(.ref r0), (.int (Int32.ofNat bs.length)), (.ref vb), (.ref r2)])) rfl rfl (hb hby d17_12)
  obtain ⟨cq8, kq8, q8a, q8b, q8c⟩ := isOf hZ e6 Ea
  obtain ⟨_, _, ⟨T9, L9, k9, n9⟩, -, X9, ⟨Lc9, hQ9, l9, y9, z9⟩, st9⟩ := X6.virtualBack hx (y := yy_14) (z := yy_14) hown (mvT hZ (own_t hw 106 rfl)) (mvT hZ (own_t hw 107 rfl)) (notFace_of_selects (args := #[]) (mvT hZ (own_t hw 109 rfl))) (mvT hZ (own_t hw 109 rfl)) (mvT hZ (own_t hw 108 rfl)) (by decide) (backOf (W := 0) (rm19 l Z a0 hw []  r2 vb rb kb kv z bs wt cs h0 n0 Z0 Ea Fa Ca Va Bb hbz hl34 SC hcs g_vb) hZ (own_t hw 110 rfl) (own_t hw 9 rfl) (by decide) (by decide)) q8a q8c (g := (mkF m 15 #[oa r0, oi (Int32.ofNat bs.length), oa r2] [(.int (0 : Int32)), (.int (Int32.ofNat bs.length)), (.ref vb), (.ref r2)])) rfl (by rw [hml]; rfl) (Steps.refl _) (argsL := [(.ref vb), (.int (Int32.ofNat bs.length)), (.int (0 : Int32))]) (rest := []) (lenOf pd_10 rfl) rfl (by show 2 * 0 + _ ≤ _; exact Nat.le_of_eq rfl) (hb hby d17_15) (fun _ _ => ⟨rfl, e6, (by decide : 0 + 0 ≤ _), (by decide : 0 + 0 ≤ _)⟩)
  dsimp only [Pt.U, Pt.locs, Pt.cells, Pt.slots] at X9 l9 y9 z9 st9 hQ9
  subst l9 y9 z9
  obtain ⟨rfl, N9q, Kq9, Vq9⟩ := hQ9
  have N9 := Fr.app N3 N9q
  obtain ⟨fs, hr, hrun, hended, hW, hsame⟩ := X9.leave (v := none) (fun _ => rfl)
  have f11 := ((Keep.refl h0 [vb]).trans Kq9 (allS (Or.inl (List.mem_of_getElem? (i := 0) rfl)) all0))
  refine ⟨_, _, pre0 _ (c1 _ (st3.trans (c5 _ (st4 _ (c7 _ (st6 _ (st9.trans (?_)))))))), hrun, hended, _, _, rfl, ?_, ⟨_, rfl⟩, hW, hsame.mono (by decide) (by decide)⟩
  · show Steps p.tables e below (T9.setTop (mkF m 18 #[oa r0, oi (Int32.ofNat bs.length), oa r2] [])) _
    exact X9.returnOut hx Bd.returns (hb hby d17_18) hr
  · show Q17 Z r0 r2 vb rb kv kb z bs wt cs h0 n0 _ T9.heap _
    exact ⟨rfl, N9, f11, Vq9⟩
theorem d13_0 : decode jdk_68_method_22_code 0 = .ok (.aload_n 1, 1) := by decide +kernel
theorem d13_1 : decode jdk_68_method_22_code 1 = .ok (.ifnonnull 8, 3) := by decide +kernel
theorem d13_9 : decode jdk_68_method_22_code 9 = .ok (.aload_n 1, 1) := by decide +kernel
theorem d13_10 : decode jdk_68_method_22_code 10 = .ok (.invokevirtual 32, 3) := by decide +kernel
theorem d13_13 : decode jdk_68_method_22_code 13 = .ok (.istore_n 2, 1) := by decide +kernel
theorem d13_14 : decode jdk_68_method_22_code 14 = .ok (.aload_n 0, 1) := by decide +kernel
theorem d13_15 : decode jdk_68_method_22_code 15 = .ok (.aload_n 0, 1) := by decide +kernel
theorem d13_16 : decode jdk_68_method_22_code 16 = .ok (.getfield 79, 3) := by decide +kernel
theorem d13_19 : decode jdk_68_method_22_code 19 = .ok (.iload_n 2, 1) := by decide +kernel
theorem d13_20 : decode jdk_68_method_22_code 20 = .ok (.iadd, 1) := by decide +kernel
theorem d13_21 : decode jdk_68_method_22_code 21 = .ok (.invokevirtual 100, 3) := by decide +kernel
theorem d13_24 : decode jdk_68_method_22_code 24 = .ok (.aload_n 0, 1) := by decide +kernel
theorem d13_25 : decode jdk_68_method_22_code 25 = .ok (.aload_n 0, 1) := by decide +kernel
theorem d13_26 : decode jdk_68_method_22_code 26 = .ok (.getfield 79, 3) := by decide +kernel
theorem d13_29 : decode jdk_68_method_22_code 29 = .ok (.aload_n 1, 1) := by decide +kernel
theorem d13_30 : decode jdk_68_method_22_code 30 = .ok (.invokevirtual 208, 3) := by decide +kernel
theorem d13_33 : decode jdk_68_method_22_code 33 = .ok (.aload_n 0, 1) := by decide +kernel
theorem d13_34 : decode jdk_68_method_22_code 34 = .ok (.dup, 1) := by decide +kernel
theorem d13_35 : decode jdk_68_method_22_code 35 = .ok (.getfield 79, 3) := by decide +kernel
theorem d13_38 : decode jdk_68_method_22_code 38 = .ok (.iload_n 2, 1) := by decide +kernel
theorem d13_39 : decode jdk_68_method_22_code 39 = .ok (.iadd, 1) := by decide +kernel
theorem d13_40 : decode jdk_68_method_22_code 40 = .ok (.putfield 79, 3) := by decide +kernel
theorem d13_43 : decode jdk_68_method_22_code 43 = .ok (.aload_n 0, 1) := by decide +kernel
theorem d13_44 : decode jdk_68_method_22_code 44 = .ok (.areturn, 1) := by decide +kernel
theorem pn_13 : plainName "java/lang/AbstractStringBuilder" = true := by first | (simp [plainName, overriddenIn]; done) | decide +kernel
theorem ef_13 (m : MethodId) (x0 : Addr) (x1 : Addr) : entryFrame m #[(.ref x0), (.ref x1)] 3 = mkF m 0 #[.val (.ref x0), .val (.ref x1), .unset] [] := by first | (simp [entryFrame, mkF, argsToLocals, Value.category]; done) | rfl
def Q13 (Z : State) (r0 : Addr) (r1 : Addr) (vb rb : Addr) (kv kb : ClassId) (z : Int32) (bs wt : List Int32) (cs : Int32) (h0 : Heap) (n0 : Nat) (v : Option Value) (h : Heap) (L : List Loc) : Prop := v = some (.ref r0) ∧ Fr n0 L ∧ Keep h0 h [r0, vb] ∧ Exa Z h r0 "java/lang/StringBuilder" ∧ ∃ vb' kv' z', n0 ≤ vb' ∧ (vb' = vb ∨ h0.size ≤ vb') ∧ (bs ++ wt).length ≤ z'.toNatClampNeg ∧ ((z' = (16 : Int32) ∧ Exa Z h vb' "[B") ∨ z' = (34 : Int32)) ∧ Fld Z h r0 "java/lang/AbstractStringBuilder" "value" "[B" (.ref vb') ∧ Fld Z h r0 "java/lang/AbstractStringBuilder" "coder" "B" (.int (0 : Int32)) ∧ Fld Z h r0 "java/lang/AbstractStringBuilder" "count" "I" (.int (Int32.ofNat (bs ++ wt).length)) ∧ Arv Z h vb' kv' .byte z' (((bs ++ wt).map (fun c => c.toInt8.toInt32)).map Value.int) (.int 0)
set_option maxRecDepth 65536 in
set_option maxHeartbeats 40000000 in
theorem rm13 (l : Launch) (Z : State) (a0 : Array Value) (hw : ∀ d ∈ tables_1, d.before a0 Z = true) (ws : List Jvm.Cond) (r0 : Addr) (r1 : Addr) (vb rb : Addr) (kv kb : ClassId) (z : Int32) (bs wt : List Int32) (cs : Int32) (h0 : Heap) (n0 : Nat) (Z0 : n0 ≤ h0.size) (Eb : Exa Z h0 r0 "java/lang/StringBuilder") (Bv : Fld Z h0 r0 "java/lang/AbstractStringBuilder" "value" "[B" (.ref vb)) (Bc : Fld Z h0 r0 "java/lang/AbstractStringBuilder" "coder" "B" (.int (0 : Int32))) (Bn : Fld Z h0 r0 "java/lang/AbstractStringBuilder" "count" "I" (.int (Int32.ofNat bs.length))) (Bb : Arv Z h0 vb kv .byte z ((bs.map (fun c => c.toInt8.toInt32)).map Value.int) (.int 0)) (Ea : Exa Z h0 r1 "java/lang/String") (Fa : Fld Z h0 r1 "java/lang/String" "value" "[B" (.ref rb)) (Ca : Fld Z h0 r1 "java/lang/String" "coder" "B" (.int (0 : Int32))) (Va : Arv Z h0 rb kb .byte (Int32.ofNat wt.length) ((wt.map (fun c => c.toInt8.toInt32)).map Value.int) (.int 0)) (hcap : (z = (16 : Int32) ∧ Exa Z h0 vb "[B") ∨ z = (34 : Int32)) (hl34 : bs.length + wt.length ≤ 34) (hbl : bs.length ≤ z.toNatClampNeg) (O0 : Old Z n0 h0) (SC : Sta Z Z.heap "java/lang/String" "COMPACT_STRINGS" "Z" (.int cs)) (hcs : ¬ cs = (0 : Int32)) (g_r0 : n0 ≤ r0) (g_vb : n0 ≤ vb) (hvr : vb ≠ r0) (hsr : r1 ≠ r0) (hbr : rb ≠ r0) :
    MetFree l yy_16 (head1 (Jvm.Cond.code yy_16 jdk_68_method_22_code 3 (some (.object "java/lang/AbstractStringBuilder")) :: ws) ({ frames := 4, cells := 1, slots := 34, locals := 93 } : Room)) (fun a U => a = #[(.ref r0), (.ref r1)] ∧ Z.Warmed39 U.vm ∧ U.heap = h0) (fun _ _ _ _ _ => True) (fun _ U o U' => ∃ v L, o = .returned v ∧ Q13 Z r0 r1 vb rb kv kb z bs wt cs h0 n0 v U'.heap L ∧ FrameEnd U o U' L ({ frames := 4, cells := 1, slots := 34, locals := 93 } : Room).cells ({ frames := 4, cells := 1, slots := 34, locals := 93 } : Room).slots) := by
  refine MetFree.of_bodySF (plainFor_of_name pn_13) hisR ?_
  intro p e s m args below meth c s₁ Bd hml0 hP hK
  obtain ⟨rfl, hZ, hh⟩ := hP
  have hx := Bd.exec
  have hby := Bd.bytes
  have hml : c.maxLocals = 3 := hml0
  have hown : s.vm.findClass "java/lang/AbstractStringBuilder" = some m.cls := findClass_of_methodNamed Bd.named
  have hnm := (name_of_methodNamed Bd.named Bd.method).1
  have X0 : Stand p l e ({ frames := 4, cells := 1, slots := 34, locals := 93 } : Room) s m #[(.ref r0), (.ref r1)] below meth c s₁ [] 0 0 := Stand.of_body Bd
  have e0 : s₁.heap = h0 := by rw [← hh, Bd.state]; rfl
  have N0 := Fr.nil n0
  have pre0 : ∀ t, Steps p.tables e below (s₁.setTop (mkF m 0 #[oa r0, oa r1, .unset] [])) t → Steps p.tables e below (s₁.setTop (entryFrame m #[(.ref r0), (.ref r1)] 3)) t := fun t k => castTop (ef_13 m r0 r1) k
  rcases own_three hcap hl34 hbl with ⟨hz, hEx, hcs_⟩ | ⟨hz, hEx, hcs_⟩ | ⟨hz, hcs_⟩
  · skip
    have hle : ¬ (0 : Int32) < ((Int32.ofNat (bs.length + wt.length)) - (z >>> ((0 : Int32) &&& 31))) := by
      rw [hz, own_shr0, Int32.lt_iff_toInt_lt]
      have a := c_isub (Int32.ofNat (bs.length + wt.length)) 16
      have r := rng32 (Int32.ofNat (bs.length + wt.length) - 16)
      rw [own_i _ (by omega)] at a
      simp only [Int32.reduceToInt] at *
      omega
    have hbz : bs.length + wt.length ≤ z.toNatClampNeg := by rw [hz]; exact hcs_
    have c1 : own_G p e below s₁ (mkF m 10 #[oa r0, oa r1, .unset] [(.ref r1)]) (mkF m 0 #[oa r0, oa r1, .unset] []) := by
      intro t kt
      show oS s₁ (mkF m 0 #[oa r0, oa r1, .unset] []) _
      refine XS.aloadN X0.here hx rfl (hb hby d13_0) rfl rfl ?_
      show oS s₁ (mkF m 1 #[oa r0, oa r1, .unset] [(.ref r1)]) _
      refine XS.ifnonnullYes X0.here hx rfl (pc0 := 1) (pc' := 9) rfl (hb hby d13_1) rfl (by decide) (by decide) ?_
      show oS s₁ (mkF m 9 #[oa r0, oa r1, .unset] []) _
      refine XS.aloadN X0.here hx rfl (hb hby d13_9) rfl rfl ?_
      exact kt
    obtain ⟨cq2, kq2, q2a, q2b, q2c⟩ := isOf hZ e0 Ea
    obtain ⟨_, _, ⟨T3, L3, k3, n3⟩, -, X3, ⟨Lc3, hQ3, l3, y3, z3⟩, st3⟩ := X0.virtualBack hx (y := yy_6) (z := yy_6) hown (mvT hZ (own_t hw 78 rfl)) (mvT hZ (own_t hw 79 rfl)) (notFace_of_selects (args := #[]) (mvT hZ (own_t hw 81 rfl))) (mvT hZ (own_t hw 81 rfl)) (mvT hZ (own_t hw 80 rfl)) (by decide) (backOf (W := 0) (rm14 l Z a0 hw [] r1 rb kb (Int32.ofNat wt.length) ((wt.map (fun c => c.toInt8.toInt32)).map Value.int) (.int 0) cs h0 n0 Z0 Ea Fa Va (SC.ext O0.2) hcs Ca) hZ (own_t hw 82 rfl) (own_t hw 9 rfl) (by decide) (by decide)) q2a q2c (g := (mkF m 10 #[oa r0, oa r1, .unset] [(.ref r1)])) rfl (by rw [hml]; rfl) (Steps.refl _) (argsL := []) (rest := []) (lenOf pd_11 rfl) rfl (by show 2 * 0 + _ ≤ _; exact Nat.le_of_eq rfl) (hb hby d13_10) (fun _ _ => ⟨rfl, e0, (by decide : 0 + 0 ≤ _), (by decide : 0 + 0 ≤ _)⟩)
    dsimp only [Pt.U, Pt.locs, Pt.cells, Pt.slots] at X3 l3 y3 z3 st3 hQ3
    subst l3 y3 z3
    obtain ⟨rfl, N3q, e3⟩ := hQ3
    have N3 := Fr.app N0 N3q
    have c5 : own_G p e below T3 (mkF m 16 #[oa r0, oa r1, oi (Int32.ofNat wt.length)] [(.ref r0), (.ref r0)]) (mkF m 13 #[oa r0, oa r1, .unset] [(.int (Int32.ofNat wt.length))]) := by
      intro t kt
      show oS T3 (mkF m 13 #[oa r0, oa r1, .unset] [(.int (Int32.ofNat wt.length))]) _
      refine XS.istoreN X3.here hx rfl (hb hby d13_13) rfl (l' := #[oa r0, oa r1, oi (Int32.ofNat wt.length)]) rfl ?_
      show oS T3 (mkF m 14 #[oa r0, oa r1, oi (Int32.ofNat wt.length)] []) _
      refine XS.aloadN X3.here hx rfl (hb hby d13_14) rfl rfl ?_
      show oS T3 (mkF m 15 #[oa r0, oa r1, oi (Int32.ofNat wt.length)] [(.ref r0)]) _
      refine XS.aloadN X3.here hx rfl (hb hby d13_15) rfl rfl ?_
      exact kt
    obtain ⟨T4, X4, e4, st4⟩ := getF X3 hx hZ hown (host := "") (Or.inl (own_t hw 88 rfl)) Via.refl e3 Bn (g := (mkF m 16 #[oa r0, oa r1, oi (Int32.ofNat wt.length)] [(.ref r0), (.ref r0)])) rfl rfl (hb hby d13_16)
    have c6 : own_G p e below T4 (mkF m 21 #[oa r0, oa r1, oi (Int32.ofNat wt.length)] [(.int ((Int32.ofNat bs.length) + (Int32.ofNat wt.length))), (.ref r0)]) (mkF m 19 #[oa r0, oa r1, oi (Int32.ofNat wt.length)] [(.int (Int32.ofNat bs.length)), (.ref r0)]) := by
      intro t kt
      show oS T4 (mkF m 19 #[oa r0, oa r1, oi (Int32.ofNat wt.length)] [(.int (Int32.ofNat bs.length)), (.ref r0)]) _
      refine XS.iloadN X4.here hx rfl (hb hby d13_19) rfl ?_
      show oS T4 (mkF m 20 #[oa r0, oa r1, oi (Int32.ofNat wt.length)] [(.int (Int32.ofNat wt.length)), (.int (Int32.ofNat bs.length)), (.ref r0)]) _
      refine XS.iadd X4.here hx rfl (hb hby d13_20) rfl ?_
      exact kt
    have c7 : own_G p e below T4 (mkF m 21 #[oa r0, oa r1, oi (Int32.ofNat wt.length)] [(.int (Int32.ofNat (bs.length + wt.length))), (.ref r0)]) (mkF m 21 #[oa r0, oa r1, oi (Int32.ofNat wt.length)] [(.int ((Int32.ofNat bs.length) + (Int32.ofNat wt.length))), (.ref r0)]) := fun t kt => castTop (congrArg (fun zv => (mkF m 21 #[oa r0, oa r1, oi (Int32.ofNat wt.length)] [(.int zv), (.ref r0)])) (show ((Int32.ofNat bs.length) + (Int32.ofNat wt.length)) = (Int32.ofNat (bs.length + wt.length)) from own_add _ _ (by omega) (by omega))) kt
    obtain ⟨cq8, rq8, rq8'⟩ := Eb.cell
    obtain ⟨_, _, ⟨T9, L9, k9, n9⟩, -, X9, ⟨Lc9, hQ9, l9, y9, z9⟩, st9⟩ := X4.privateBack hx (y := yy_12) hown (mvT hZ (own_t hw 90 rfl)) (mvT hZ (own_t hw 91 rfl)) (own_selq (y := yy_12) (z := yy_12) (mvT hZ (own_t hw 93 rfl)) rfl (Cond.privateMethod_at (mvP hZ (own_t hw 92 rfl) (args := #[]))) (mvT hZ (own_t hw 91 rfl)) (by decide)) (Cond.privateMethod_at (mvP hZ (own_t hw 92 rfl) (args := #[]))) (mvT hZ (own_t hw 94 rfl)) (by decide) (backOf (W := 0) (rm16s l Z a0 hw [] r0 (Int32.ofNat (bs.length + wt.length)) vb kv z bs h0 n0 Z0 Eb Bv Bc Bn Bb hle) hZ (own_t hw 94 rfl) (own_t hw 59 rfl) (by decide) (by decide)) (g := (mkF m 21 #[oa r0, oa r1, oi (Int32.ofNat wt.length)] [(.int (Int32.ofNat (bs.length + wt.length))), (.ref r0)])) rfl (by rw [hml]; rfl) (Steps.refl _) (a := r0) (by rw [e4]; exact rq8) rq8' (argsL := [(.int (Int32.ofNat (bs.length + wt.length)))]) (rest := []) (lenOf pd_12 rfl) rfl (by show 2 * 0 + _ ≤ _; exact Nat.le_of_eq rfl) (hb hby d13_21) (fun _ _ => ⟨rfl, e4, (by decide : 0 + 0 ≤ _), (by decide : 0 + 0 ≤ _)⟩)
    dsimp only [Pt.U, Pt.locs, Pt.cells, Pt.slots] at X9 l9 y9 z9 st9 hQ9
    subst l9 y9 z9
    obtain ⟨rfl, N9q, e9⟩ := hQ9
    have N9 := Fr.app N3 N9q
    have c11 : own_G p e below T9 (mkF m 26 #[oa r0, oa r1, oi (Int32.ofNat wt.length)] [(.ref r0), (.ref r0)]) (mkF m 24 #[oa r0, oa r1, oi (Int32.ofNat wt.length)] []) := by
      intro t kt
      show oS T9 (mkF m 24 #[oa r0, oa r1, oi (Int32.ofNat wt.length)] []) _
      refine XS.aloadN X9.here hx rfl (hb hby d13_24) rfl rfl ?_
      show oS T9 (mkF m 25 #[oa r0, oa r1, oi (Int32.ofNat wt.length)] [(.ref r0)]) _
      refine XS.aloadN X9.here hx rfl (hb hby d13_25) rfl rfl ?_
      exact kt
    obtain ⟨T10, X10, e10, st10⟩ := getF X9 hx hZ hown (host := "") (Or.inl (own_t hw 88 rfl)) Via.refl e9 Bn (g := (mkF m 26 #[oa r0, oa r1, oi (Int32.ofNat wt.length)] [(.ref r0), (.ref r0)])) rfl rfl (hb hby d13_26)
    have c12 : own_G p e below T10 (mkF m 30 #[oa r0, oa r1, oi (Int32.ofNat wt.length)] [(.ref r1), (.int (Int32.ofNat bs.length)), (.ref r0)]) (mkF m 29 #[oa r0, oa r1, oi (Int32.ofNat wt.length)] [(.int (Int32.ofNat bs.length)), (.ref r0)]) := by
      intro t kt
      show oS T10 (mkF m 29 #[oa r0, oa r1, oi (Int32.ofNat wt.length)] [(.int (Int32.ofNat bs.length)), (.ref r0)]) _
      refine XS.aloadN X10.here hx rfl (hb hby d13_29) rfl rfl ?_
      exact kt
    obtain ⟨cq13, rq13, rq13'⟩ := Eb.cell
    obtain ⟨_, _, ⟨T14, L14, k14, n14⟩, -, X14, ⟨Lc14, hQ14, l14, y14, z14⟩, st14⟩ := X10.privateBack hx (y := yy_15) hown (mvT hZ (own_t hw 95 rfl)) (mvT hZ (own_t hw 96 rfl)) (own_selq (y := yy_15) (z := yy_12) (mvT hZ (own_t hw 93 rfl)) rfl (Cond.privateMethod_at (mvP hZ (own_t hw 97 rfl) (args := #[]))) (mvT hZ (own_t hw 96 rfl)) (by decide)) (Cond.privateMethod_at (mvP hZ (own_t hw 97 rfl) (args := #[]))) (mvT hZ (own_t hw 99 rfl)) (by decide) (backOf (W := 0) (rm17 l Z a0 hw []  r0 r1 vb rb kv kb z bs wt cs h0 n0 Z0 Eb Bv Bc Bn Bb Ea Fa Ca Va hbz hl34 (SC.ext O0.2) hcs g_vb) hZ (own_t hw 99 rfl) (own_t hw 59 rfl) (by decide) (by decide)) (g := (mkF m 30 #[oa r0, oa r1, oi (Int32.ofNat wt.length)] [(.ref r1), (.int (Int32.ofNat bs.length)), (.ref r0)])) rfl (by rw [hml]; rfl) (Steps.refl _) (a := r0) (by rw [e10]; exact rq13) rq13' (argsL := [(.int (Int32.ofNat bs.length)), (.ref r1)]) (rest := []) (lenOf pd_13 rfl) rfl (by show 2 * 0 + _ ≤ _; exact Nat.le_of_eq rfl) (hb hby d13_30) (fun _ _ => ⟨rfl, e10, (by decide : 0 + 0 ≤ _), (by decide : 0 + 0 ≤ _)⟩)
    dsimp only [Pt.U, Pt.locs, Pt.cells, Pt.slots] at X14 l14 y14 z14 st14 hQ14
    subst l14 y14 z14
    obtain ⟨rfl, N14q, Kq14, Vq14⟩ := hQ14
    have N14 := Fr.app N9 N14q
    have f15 := (Bn.keep Kq14 (ninS (Ne.symm hvr) nin0))
    have c17 : own_G p e below T14 (mkF m 35 #[oa r0, oa r1, oi (Int32.ofNat wt.length)] [(.ref r0), (.ref r0)]) (mkF m 33 #[oa r0, oa r1, oi (Int32.ofNat wt.length)] []) := by
      intro t kt
      show oS T14 (mkF m 33 #[oa r0, oa r1, oi (Int32.ofNat wt.length)] []) _
      refine XS.aloadN X14.here hx rfl (hb hby d13_33) rfl rfl ?_
      show oS T14 (mkF m 34 #[oa r0, oa r1, oi (Int32.ofNat wt.length)] [(.ref r0)]) _
      refine XS.dup X14.here hx rfl (hb hby d13_34) rfl rfl ?_
      exact kt
    obtain ⟨T16, X16, e16, st16⟩ := getF X14 hx hZ hown (host := "") (Or.inl (own_t hw 88 rfl)) Via.refl rfl f15 (g := (mkF m 35 #[oa r0, oa r1, oi (Int32.ofNat wt.length)] [(.ref r0), (.ref r0)])) rfl rfl (hb hby d13_35)
    have c18 : own_G p e below T16 (mkF m 40 #[oa r0, oa r1, oi (Int32.ofNat wt.length)] [(.int ((Int32.ofNat bs.length) + (Int32.ofNat wt.length))), (.ref r0)]) (mkF m 38 #[oa r0, oa r1, oi (Int32.ofNat wt.length)] [(.int (Int32.ofNat bs.length)), (.ref r0)]) := by
      intro t kt
      show oS T16 (mkF m 38 #[oa r0, oa r1, oi (Int32.ofNat wt.length)] [(.int (Int32.ofNat bs.length)), (.ref r0)]) _
      refine XS.iloadN X16.here hx rfl (hb hby d13_38) rfl ?_
      show oS T16 (mkF m 39 #[oa r0, oa r1, oi (Int32.ofNat wt.length)] [(.int (Int32.ofNat wt.length)), (.int (Int32.ofNat bs.length)), (.ref r0)]) _
      refine XS.iadd X16.here hx rfl (hb hby d13_39) rfl ?_
      exact kt
    have c19 : own_G p e below T16 (mkF m 40 #[oa r0, oa r1, oi (Int32.ofNat wt.length)] [(.int (Int32.ofNat (bs.length + wt.length))), (.ref r0)]) (mkF m 40 #[oa r0, oa r1, oi (Int32.ofNat wt.length)] [(.int ((Int32.ofNat bs.length) + (Int32.ofNat wt.length))), (.ref r0)]) := fun t kt => castTop (congrArg (fun zv => (mkF m 40 #[oa r0, oa r1, oi (Int32.ofNat wt.length)] [(.int zv), (.ref r0)])) (show ((Int32.ofNat bs.length) + (Int32.ofNat wt.length)) = (Int32.ofNat (bs.length + wt.length)) from own_add _ _ (by omega) (by omega))) kt
    have f20 := (Eb.keep Kq14)
    obtain ⟨T21, h21, X21, e21, W21, st21⟩ := putF X16 hx hZ hown (host := "") (Or.inl (own_t hw 88 rfl)) Via.refl e16 f15 f20 (Or.inl (own_t hw 89 rfl)) (own_t hw 50 rfl) (ty := .int) (by decide) rfl rfl (g := (mkF m 40 #[oa r0, oa r1, oi (Int32.ofNat wt.length)] [(.int (Int32.ofNat (bs.length + wt.length))), (.ref r0)])) rfl rfl (hb hby d13_40)
    have Fw21 := f15.same W21
    have N21 := Fr.snoc X21 N14 g_r0
    have c22 : own_G p e below T21 (mkF m 44 #[oa r0, oa r1, oi (Int32.ofNat wt.length)] [(.ref r0)]) (mkF m 43 #[oa r0, oa r1, oi (Int32.ofNat wt.length)] []) := by
      intro t kt
      show oS T21 (mkF m 43 #[oa r0, oa r1, oi (Int32.ofNat wt.length)] []) _
      refine XS.aloadN X21.here hx rfl (hb hby d13_43) rfl rfl ?_
      exact kt
    obtain ⟨fs, hr, hrun, hended, hW, hsame⟩ := X21.leave (v := some (.ref r0)) (fun h => by rw [Bd.returns] at h; cases h)
    have f24 := ((hEx.keep Kq14).wr W21)
    have f25 := (Vq14.other W21 hvr)
    have f26 := (((Keep.refl h0 [r0, vb]).trans Kq14 (allS (Or.inl (List.mem_of_getElem? (i := 1) rfl)) all0)).wr W21 (Or.inl (List.mem_of_getElem? (i := 0) rfl)))
    have f27 := (f20.wr W21)
    have f28 := ((Bv.keep Kq14 (ninS (Ne.symm hvr) nin0)).other W21 (Or.inr (slot_ne (a0 := a0) (Or.inl (own_t hw 64 rfl)) (Or.inl (own_t hw 89 rfl)) (by decide) (t := (.array .byte)) (t' := .int) (by decide) (by decide))))
    have f29 := ((Bc.keep Kq14 (ninS (Ne.symm hvr) nin0)).other W21 (Or.inr (slot_ne (a0 := a0) (Or.inl (own_t hw 66 rfl)) (Or.inl (own_t hw 89 rfl)) (by decide) (t := .byte) (t' := .int) (by decide) (by decide))))
    refine ⟨_, _, pre0 _ (c1 _ (st3.trans (c5 _ (st4 _ (c6 _ (c7 _ (st9.trans (c11 _ (st10 _ (c12 _ (st14.trans (c17 _ (st16 _ (c18 _ (c19 _ (st21 _ (c22 _ (?_)))))))))))))))))), hrun, hended, _, _, rfl, ?_, ⟨_, rfl⟩, hW, hsame.mono (by decide) (by decide)⟩
    · show Steps p.tables e below (T21.setTop (mkF m 44 #[oa r0, oa r1, oi (Int32.ofNat wt.length)] [(.ref r0)])) _
      jvm_step X21.here [X21.here.top, hx, (hb hby d13_44), X21.method', Bd.returns, Value.isRef, FieldType.isReference]
      first | (intro acts; rw [hr _ acts rfl rfl rfl]) | rw [hr _ _ rfl rfl rfl]
      exact Steps.refl _
    · show Q13 Z r0 r1 vb rb kv kb z bs wt cs h0 n0 _ T21.heap _
      rw [e21]
      exact ⟨rfl, N21, f26, f27, vb, kv, z, g_vb, Or.inl rfl, (by rw [List.length_append]; exact hbz), (hcap.imp (fun q => ⟨q.1, f24⟩) id), f28, f29, (by rw [List.length_append]; exact Fw21), f25⟩
  · skip
    have Bb6 := Bb
    rw [hz] at Bb6
    have hb16 : bs.length ≤ 16 := by rw [hz] at hbl; exact hbl
    have hg : own_max (((Int32.ofNat (bs.length + wt.length)) <<< ((0 : Int32) &&& 31)) - (16 : Int32)) (18 : Int32) = (18 : Int32) := own_grow _ (by omega) (by omega)
    have hlt : (0 : Int32) < ((Int32.ofNat (bs.length + wt.length)) - ((16 : Int32) >>> ((0 : Int32) &&& 31))) := own_glt _ (by omega) (by omega)
    have c30 : own_G p e below s₁ (mkF m 10 #[oa r0, oa r1, .unset] [(.ref r1)]) (mkF m 0 #[oa r0, oa r1, .unset] []) := by
      intro t kt
      show oS s₁ (mkF m 0 #[oa r0, oa r1, .unset] []) _
      refine XS.aloadN X0.here hx rfl (hb hby d13_0) rfl rfl ?_
      show oS s₁ (mkF m 1 #[oa r0, oa r1, .unset] [(.ref r1)]) _
      refine XS.ifnonnullYes X0.here hx rfl (pc0 := 1) (pc' := 9) rfl (hb hby d13_1) rfl (by decide) (by decide) ?_
      show oS s₁ (mkF m 9 #[oa r0, oa r1, .unset] []) _
      refine XS.aloadN X0.here hx rfl (hb hby d13_9) rfl rfl ?_
      exact kt
    obtain ⟨cq31, kq31, q31a, q31b, q31c⟩ := isOf hZ e0 Ea
    obtain ⟨_, _, ⟨T32, L32, k32, n32⟩, -, X32, ⟨Lc32, hQ32, l32, y32, z32⟩, st32⟩ := X0.virtualBack hx (y := yy_6) (z := yy_6) hown (mvT hZ (own_t hw 78 rfl)) (mvT hZ (own_t hw 79 rfl)) (notFace_of_selects (args := #[]) (mvT hZ (own_t hw 81 rfl))) (mvT hZ (own_t hw 81 rfl)) (mvT hZ (own_t hw 80 rfl)) (by decide) (backOf (W := 0) (rm14 l Z a0 hw [] r1 rb kb (Int32.ofNat wt.length) ((wt.map (fun c => c.toInt8.toInt32)).map Value.int) (.int 0) cs h0 n0 Z0 Ea Fa Va (SC.ext O0.2) hcs Ca) hZ (own_t hw 82 rfl) (own_t hw 9 rfl) (by decide) (by decide)) q31a q31c (g := (mkF m 10 #[oa r0, oa r1, .unset] [(.ref r1)])) rfl (by rw [hml]; rfl) (Steps.refl _) (argsL := []) (rest := []) (lenOf pd_11 rfl) rfl (by show 2 * 0 + _ ≤ _; exact Nat.le_of_eq rfl) (hb hby d13_10) (fun _ _ => ⟨rfl, e0, (by decide : 0 + 0 ≤ _), (by decide : 0 + 0 ≤ _)⟩)
    dsimp only [Pt.U, Pt.locs, Pt.cells, Pt.slots] at X32 l32 y32 z32 st32 hQ32
    subst l32 y32 z32
    obtain ⟨rfl, N32q, e32⟩ := hQ32
    have N32 := Fr.app N0 N32q
    have c34 : own_G p e below T32 (mkF m 16 #[oa r0, oa r1, oi (Int32.ofNat wt.length)] [(.ref r0), (.ref r0)]) (mkF m 13 #[oa r0, oa r1, .unset] [(.int (Int32.ofNat wt.length))]) := by
      intro t kt
      show oS T32 (mkF m 13 #[oa r0, oa r1, .unset] [(.int (Int32.ofNat wt.length))]) _
      refine XS.istoreN X32.here hx rfl (hb hby d13_13) rfl (l' := #[oa r0, oa r1, oi (Int32.ofNat wt.length)]) rfl ?_
      show oS T32 (mkF m 14 #[oa r0, oa r1, oi (Int32.ofNat wt.length)] []) _
      refine XS.aloadN X32.here hx rfl (hb hby d13_14) rfl rfl ?_
      show oS T32 (mkF m 15 #[oa r0, oa r1, oi (Int32.ofNat wt.length)] [(.ref r0)]) _
      refine XS.aloadN X32.here hx rfl (hb hby d13_15) rfl rfl ?_
      exact kt
    obtain ⟨T33, X33, e33, st33⟩ := getF X32 hx hZ hown (host := "") (Or.inl (own_t hw 88 rfl)) Via.refl e32 Bn (g := (mkF m 16 #[oa r0, oa r1, oi (Int32.ofNat wt.length)] [(.ref r0), (.ref r0)])) rfl rfl (hb hby d13_16)
    have c35 : own_G p e below T33 (mkF m 21 #[oa r0, oa r1, oi (Int32.ofNat wt.length)] [(.int ((Int32.ofNat bs.length) + (Int32.ofNat wt.length))), (.ref r0)]) (mkF m 19 #[oa r0, oa r1, oi (Int32.ofNat wt.length)] [(.int (Int32.ofNat bs.length)), (.ref r0)]) := by
      intro t kt
      show oS T33 (mkF m 19 #[oa r0, oa r1, oi (Int32.ofNat wt.length)] [(.int (Int32.ofNat bs.length)), (.ref r0)]) _
      refine XS.iloadN X33.here hx rfl (hb hby d13_19) rfl ?_
      show oS T33 (mkF m 20 #[oa r0, oa r1, oi (Int32.ofNat wt.length)] [(.int (Int32.ofNat wt.length)), (.int (Int32.ofNat bs.length)), (.ref r0)]) _
      refine XS.iadd X33.here hx rfl (hb hby d13_20) rfl ?_
      exact kt
    have c36 : own_G p e below T33 (mkF m 21 #[oa r0, oa r1, oi (Int32.ofNat wt.length)] [(.int (Int32.ofNat (bs.length + wt.length))), (.ref r0)]) (mkF m 21 #[oa r0, oa r1, oi (Int32.ofNat wt.length)] [(.int ((Int32.ofNat bs.length) + (Int32.ofNat wt.length))), (.ref r0)]) := fun t kt => castTop (congrArg (fun zv => (mkF m 21 #[oa r0, oa r1, oi (Int32.ofNat wt.length)] [(.int zv), (.ref r0)])) (show ((Int32.ofNat bs.length) + (Int32.ofNat wt.length)) = (Int32.ofNat (bs.length + wt.length)) from own_add _ _ (by omega) (by omega))) kt
    obtain ⟨cq37, rq37, rq37'⟩ := Eb.cell
    obtain ⟨_, _, ⟨T38, L38, k38, n38⟩, -, X38, ⟨Lc38, hQ38, l38, y38, z38⟩, st38⟩ := X33.privateBack hx (y := yy_12) hown (mvT hZ (own_t hw 90 rfl)) (mvT hZ (own_t hw 91 rfl)) (own_selq (y := yy_12) (z := yy_12) (mvT hZ (own_t hw 93 rfl)) rfl (Cond.privateMethod_at (mvP hZ (own_t hw 92 rfl) (args := #[]))) (mvT hZ (own_t hw 91 rfl)) (by decide)) (Cond.privateMethod_at (mvP hZ (own_t hw 92 rfl) (args := #[]))) (mvT hZ (own_t hw 94 rfl)) (by decide) (backOf (W := 0) (rm16g l Z a0 hw [] r0 (Int32.ofNat (bs.length + wt.length)) vb kv bs h0 n0 Z0 Eb Bv Bc Bn Bb6 hg hlt hb16 g_r0 hvr) hZ (own_t hw 94 rfl) (own_t hw 59 rfl) (by decide) (by decide)) (g := (mkF m 21 #[oa r0, oa r1, oi (Int32.ofNat wt.length)] [(.int (Int32.ofNat (bs.length + wt.length))), (.ref r0)])) rfl (by rw [hml]; rfl) (Steps.refl _) (a := r0) (by rw [e33]; exact rq37) rq37' (argsL := [(.int (Int32.ofNat (bs.length + wt.length)))]) (rest := []) (lenOf pd_12 rfl) rfl (by show 2 * 0 + _ ≤ _; exact Nat.le_of_eq rfl) (hb hby d13_21) (fun _ _ => ⟨rfl, e33, (by decide : 0 + 1 ≤ _), (by decide : 0 + 34 ≤ _)⟩)
    dsimp only [Pt.U, Pt.locs, Pt.cells, Pt.slots] at X38 l38 y38 z38 st38 hQ38
    subst l38 y38 z38
    obtain ⟨rfl, N38q, Kq38, Eq38, ra38, kx38, szq38, g_ra38, Fv38, Fc38, Fn38, Vq38⟩ := hQ38
    have N38 := Fr.app N32 N38q
    have lt_r0_38 := Eb.lt
    have lt_vb_38 := Bb6.lt
    have lt_r1_38 := Ea.lt
    have lt_rb_38 := Va.lt
    have sz_ra38 : h0.size ≤ ra38 := Nat.le_trans (Keep.refl h0 [r0, vb]).1 szq38
    have c40 : own_G p e below T38 (mkF m 26 #[oa r0, oa r1, oi (Int32.ofNat wt.length)] [(.ref r0), (.ref r0)]) (mkF m 24 #[oa r0, oa r1, oi (Int32.ofNat wt.length)] []) := by
      intro t kt
      show oS T38 (mkF m 24 #[oa r0, oa r1, oi (Int32.ofNat wt.length)] []) _
      refine XS.aloadN X38.here hx rfl (hb hby d13_24) rfl rfl ?_
      show oS T38 (mkF m 25 #[oa r0, oa r1, oi (Int32.ofNat wt.length)] [(.ref r0)]) _
      refine XS.aloadN X38.here hx rfl (hb hby d13_25) rfl rfl ?_
      exact kt
    obtain ⟨T39, X39, e39, st39⟩ := getF X38 hx hZ hown (host := "") (Or.inl (own_t hw 88 rfl)) Via.refl rfl Fn38 (g := (mkF m 26 #[oa r0, oa r1, oi (Int32.ofNat wt.length)] [(.ref r0), (.ref r0)])) rfl rfl (hb hby d13_26)
    have c41 : own_G p e below T39 (mkF m 30 #[oa r0, oa r1, oi (Int32.ofNat wt.length)] [(.ref r1), (.int (Int32.ofNat bs.length)), (.ref r0)]) (mkF m 29 #[oa r0, oa r1, oi (Int32.ofNat wt.length)] [(.int (Int32.ofNat bs.length)), (.ref r0)]) := by
      intro t kt
      show oS T39 (mkF m 29 #[oa r0, oa r1, oi (Int32.ofNat wt.length)] [(.int (Int32.ofNat bs.length)), (.ref r0)]) _
      refine XS.aloadN X39.here hx rfl (hb hby d13_29) rfl rfl ?_
      exact kt
    have f42 := (Nat.le_trans Z0 Kq38.1)
    have f43 := (Ea.keep Kq38)
    have f44 := (Fa.keep Kq38 (ninS hsr nin0))
    have f45 := (Ca.keep Kq38 (ninS hsr nin0))
    have f46 := (Va.keep Kq38 (ninS hbr nin0))
    have f47 := (O0.keep Kq38 (allS g_r0 all0))
    obtain ⟨cq48, rq48, rq48'⟩ := Eq38.cell
    obtain ⟨_, _, ⟨T49, L49, k49, n49⟩, -, X49, ⟨Lc49, hQ49, l49, y49, z49⟩, st49⟩ := X39.privateBack hx (y := yy_15) hown (mvT hZ (own_t hw 95 rfl)) (mvT hZ (own_t hw 96 rfl)) (own_selq (y := yy_15) (z := yy_12) (mvT hZ (own_t hw 93 rfl)) rfl (Cond.privateMethod_at (mvP hZ (own_t hw 97 rfl) (args := #[]))) (mvT hZ (own_t hw 96 rfl)) (by decide)) (Cond.privateMethod_at (mvP hZ (own_t hw 97 rfl) (args := #[]))) (mvT hZ (own_t hw 99 rfl)) (by decide) (backOf (W := 0) (rm17 l Z a0 hw []  r0 r1 ra38 rb kx38 kb (34 : Int32) bs wt cs T38.heap n0 f42 Eq38 Fv38 Fc38 Fn38 Vq38 f43 f44 f45 f46 (by show _ ≤ 34; omega) hl34 (SC.ext f47.2) hcs g_ra38) hZ (own_t hw 99 rfl) (own_t hw 59 rfl) (by decide) (by decide)) (g := (mkF m 30 #[oa r0, oa r1, oi (Int32.ofNat wt.length)] [(.ref r1), (.int (Int32.ofNat bs.length)), (.ref r0)])) rfl (by rw [hml]; rfl) (Steps.refl _) (a := r0) (by rw [e39]; exact rq48) rq48' (argsL := [(.int (Int32.ofNat bs.length)), (.ref r1)]) (rest := []) (lenOf pd_13 rfl) rfl (by show 2 * 0 + _ ≤ _; exact Nat.le_of_eq rfl) (hb hby d13_30) (fun _ _ => ⟨rfl, e39, (by decide : 1 + 0 ≤ _), (by decide : 34 + 0 ≤ _)⟩)
    dsimp only [Pt.U, Pt.locs, Pt.cells, Pt.slots] at X49 l49 y49 z49 st49 hQ49
    subst l49 y49 z49
    obtain ⟨rfl, N49q, Kq49, Vq49⟩ := hQ49
    have N49 := Fr.app N38 N49q
    have f50 := (Fn38.keep Kq49 (ninS (Nat.ne_of_lt (Nat.lt_of_lt_of_le lt_r0_38 szq38)) nin0))
    have c52 : own_G p e below T49 (mkF m 35 #[oa r0, oa r1, oi (Int32.ofNat wt.length)] [(.ref r0), (.ref r0)]) (mkF m 33 #[oa r0, oa r1, oi (Int32.ofNat wt.length)] []) := by
      intro t kt
      show oS T49 (mkF m 33 #[oa r0, oa r1, oi (Int32.ofNat wt.length)] []) _
      refine XS.aloadN X49.here hx rfl (hb hby d13_33) rfl rfl ?_
      show oS T49 (mkF m 34 #[oa r0, oa r1, oi (Int32.ofNat wt.length)] [(.ref r0)]) _
      refine XS.dup X49.here hx rfl (hb hby d13_34) rfl rfl ?_
      exact kt
    obtain ⟨T51, X51, e51, st51⟩ := getF X49 hx hZ hown (host := "") (Or.inl (own_t hw 88 rfl)) Via.refl rfl f50 (g := (mkF m 35 #[oa r0, oa r1, oi (Int32.ofNat wt.length)] [(.ref r0), (.ref r0)])) rfl rfl (hb hby d13_35)
    have c53 : own_G p e below T51 (mkF m 40 #[oa r0, oa r1, oi (Int32.ofNat wt.length)] [(.int ((Int32.ofNat bs.length) + (Int32.ofNat wt.length))), (.ref r0)]) (mkF m 38 #[oa r0, oa r1, oi (Int32.ofNat wt.length)] [(.int (Int32.ofNat bs.length)), (.ref r0)]) := by
      intro t kt
      show oS T51 (mkF m 38 #[oa r0, oa r1, oi (Int32.ofNat wt.length)] [(.int (Int32.ofNat bs.length)), (.ref r0)]) _
      refine XS.iloadN X51.here hx rfl (hb hby d13_38) rfl ?_
      show oS T51 (mkF m 39 #[oa r0, oa r1, oi (Int32.ofNat wt.length)] [(.int (Int32.ofNat wt.length)), (.int (Int32.ofNat bs.length)), (.ref r0)]) _
      refine XS.iadd X51.here hx rfl (hb hby d13_39) rfl ?_
      exact kt
    have c54 : own_G p e below T51 (mkF m 40 #[oa r0, oa r1, oi (Int32.ofNat wt.length)] [(.int (Int32.ofNat (bs.length + wt.length))), (.ref r0)]) (mkF m 40 #[oa r0, oa r1, oi (Int32.ofNat wt.length)] [(.int ((Int32.ofNat bs.length) + (Int32.ofNat wt.length))), (.ref r0)]) := fun t kt => castTop (congrArg (fun zv => (mkF m 40 #[oa r0, oa r1, oi (Int32.ofNat wt.length)] [(.int zv), (.ref r0)])) (show ((Int32.ofNat bs.length) + (Int32.ofNat wt.length)) = (Int32.ofNat (bs.length + wt.length)) from own_add _ _ (by omega) (by omega))) kt
    have f55 := (Eq38.keep Kq49)
    obtain ⟨T56, h56, X56, e56, W56, st56⟩ := putF X51 hx hZ hown (host := "") (Or.inl (own_t hw 88 rfl)) Via.refl e51 f50 f55 (Or.inl (own_t hw 89 rfl)) (own_t hw 50 rfl) (ty := .int) (by decide) rfl rfl (g := (mkF m 40 #[oa r0, oa r1, oi (Int32.ofNat wt.length)] [(.int (Int32.ofNat (bs.length + wt.length))), (.ref r0)])) rfl rfl (hb hby d13_40)
    have Fw56 := f50.same W56
    have N56 := Fr.snoc X56 N49 g_r0
    have c57 : own_G p e below T56 (mkF m 44 #[oa r0, oa r1, oi (Int32.ofNat wt.length)] [(.ref r0)]) (mkF m 43 #[oa r0, oa r1, oi (Int32.ofNat wt.length)] []) := by
      intro t kt
      show oS T56 (mkF m 43 #[oa r0, oa r1, oi (Int32.ofNat wt.length)] []) _
      refine XS.aloadN X56.here hx rfl (hb hby d13_43) rfl rfl ?_
      exact kt
    obtain ⟨fs, hr, hrun, hended, hW, hsame⟩ := X56.leave (v := some (.ref r0)) (fun h => by rw [Bd.returns] at h; cases h)
    have f59 := (Vq49.other W56 (Ne.symm (Nat.ne_of_lt (Nat.lt_of_lt_of_le lt_r0_38 szq38))))
    have f60 := ((((Keep.refl h0 [r0, vb]).trans Kq38 (allS (Or.inl (List.mem_of_getElem? (i := 0) rfl)) all0)).trans Kq49 (allS (Or.inr sz_ra38) all0)).wr W56 (Or.inl (List.mem_of_getElem? (i := 0) rfl)))
    have f61 := (f55.wr W56)
    have f62 := ((Fv38.keep Kq49 (ninS (Nat.ne_of_lt (Nat.lt_of_lt_of_le lt_r0_38 szq38)) nin0)).other W56 (Or.inr (slot_ne (a0 := a0) (Or.inl (own_t hw 64 rfl)) (Or.inl (own_t hw 89 rfl)) (by decide) (t := (.array .byte)) (t' := .int) (by decide) (by decide))))
    have f63 := ((Fc38.keep Kq49 (ninS (Nat.ne_of_lt (Nat.lt_of_lt_of_le lt_r0_38 szq38)) nin0)).other W56 (Or.inr (slot_ne (a0 := a0) (Or.inl (own_t hw 66 rfl)) (Or.inl (own_t hw 89 rfl)) (by decide) (t := .byte) (t' := .int) (by decide) (by decide))))
    refine ⟨_, _, pre0 _ (c30 _ (st32.trans (c34 _ (st33 _ (c35 _ (c36 _ (st38.trans (c40 _ (st39 _ (c41 _ (st49.trans (c52 _ (st51 _ (c53 _ (c54 _ (st56 _ (c57 _ (?_)))))))))))))))))), hrun, hended, _, _, rfl, ?_, ⟨_, rfl⟩, hW, hsame.mono (by decide) (by decide)⟩
    · show Steps p.tables e below (T56.setTop (mkF m 44 #[oa r0, oa r1, oi (Int32.ofNat wt.length)] [(.ref r0)])) _
      jvm_step X56.here [X56.here.top, hx, (hb hby d13_44), X56.method', Bd.returns, Value.isRef, FieldType.isReference]
      first | (intro acts; rw [hr _ acts rfl rfl rfl]) | rw [hr _ _ rfl rfl rfl]
      exact Steps.refl _
    · show Q13 Z r0 r1 vb rb kv kb z bs wt cs h0 n0 _ T56.heap _
      rw [e56]
      exact ⟨rfl, N56, f60, f61, ra38, kx38, (34 : Int32), g_ra38, Or.inr sz_ra38, (by rw [List.length_append]; show _ ≤ 34; omega), Or.inr rfl, f62, f63, (by rw [List.length_append]; exact Fw56), f59⟩
  · skip
    have hle : ¬ (0 : Int32) < ((Int32.ofNat (bs.length + wt.length)) - (z >>> ((0 : Int32) &&& 31))) := by
      rw [hz, own_shr0, Int32.lt_iff_toInt_lt]
      have a := c_isub (Int32.ofNat (bs.length + wt.length)) 34
      have r := rng32 (Int32.ofNat (bs.length + wt.length) - 34)
      rw [own_i _ (by omega)] at a
      simp only [Int32.reduceToInt] at *
      omega
    have hbz : bs.length + wt.length ≤ z.toNatClampNeg := by rw [hz]; exact hcs_
    have c64 : own_G p e below s₁ (mkF m 10 #[oa r0, oa r1, .unset] [(.ref r1)]) (mkF m 0 #[oa r0, oa r1, .unset] []) := by
      intro t kt
      show oS s₁ (mkF m 0 #[oa r0, oa r1, .unset] []) _
      refine XS.aloadN X0.here hx rfl (hb hby d13_0) rfl rfl ?_
      show oS s₁ (mkF m 1 #[oa r0, oa r1, .unset] [(.ref r1)]) _
      refine XS.ifnonnullYes X0.here hx rfl (pc0 := 1) (pc' := 9) rfl (hb hby d13_1) rfl (by decide) (by decide) ?_
      show oS s₁ (mkF m 9 #[oa r0, oa r1, .unset] []) _
      refine XS.aloadN X0.here hx rfl (hb hby d13_9) rfl rfl ?_
      exact kt
    obtain ⟨cq65, kq65, q65a, q65b, q65c⟩ := isOf hZ e0 Ea
    obtain ⟨_, _, ⟨T66, L66, k66, n66⟩, -, X66, ⟨Lc66, hQ66, l66, y66, z66⟩, st66⟩ := X0.virtualBack hx (y := yy_6) (z := yy_6) hown (mvT hZ (own_t hw 78 rfl)) (mvT hZ (own_t hw 79 rfl)) (notFace_of_selects (args := #[]) (mvT hZ (own_t hw 81 rfl))) (mvT hZ (own_t hw 81 rfl)) (mvT hZ (own_t hw 80 rfl)) (by decide) (backOf (W := 0) (rm14 l Z a0 hw [] r1 rb kb (Int32.ofNat wt.length) ((wt.map (fun c => c.toInt8.toInt32)).map Value.int) (.int 0) cs h0 n0 Z0 Ea Fa Va (SC.ext O0.2) hcs Ca) hZ (own_t hw 82 rfl) (own_t hw 9 rfl) (by decide) (by decide)) q65a q65c (g := (mkF m 10 #[oa r0, oa r1, .unset] [(.ref r1)])) rfl (by rw [hml]; rfl) (Steps.refl _) (argsL := []) (rest := []) (lenOf pd_11 rfl) rfl (by show 2 * 0 + _ ≤ _; exact Nat.le_of_eq rfl) (hb hby d13_10) (fun _ _ => ⟨rfl, e0, (by decide : 0 + 0 ≤ _), (by decide : 0 + 0 ≤ _)⟩)
    dsimp only [Pt.U, Pt.locs, Pt.cells, Pt.slots] at X66 l66 y66 z66 st66 hQ66
    subst l66 y66 z66
    obtain ⟨rfl, N66q, e66⟩ := hQ66
    have N66 := Fr.app N0 N66q
    have c68 : own_G p e below T66 (mkF m 16 #[oa r0, oa r1, oi (Int32.ofNat wt.length)] [(.ref r0), (.ref r0)]) (mkF m 13 #[oa r0, oa r1, .unset] [(.int (Int32.ofNat wt.length))]) := by
      intro t kt
      show oS T66 (mkF m 13 #[oa r0, oa r1, .unset] [(.int (Int32.ofNat wt.length))]) _
      refine XS.istoreN X66.here hx rfl (hb hby d13_13) rfl (l' := #[oa r0, oa r1, oi (Int32.ofNat wt.length)]) rfl ?_
      show oS T66 (mkF m 14 #[oa r0, oa r1, oi (Int32.ofNat wt.length)] []) _
      refine XS.aloadN X66.here hx rfl (hb hby d13_14) rfl rfl ?_
      show oS T66 (mkF m 15 #[oa r0, oa r1, oi (Int32.ofNat wt.length)] [(.ref r0)]) _
      refine XS.aloadN X66.here hx rfl (hb hby d13_15) rfl rfl ?_
      exact kt
    obtain ⟨T67, X67, e67, st67⟩ := getF X66 hx hZ hown (host := "") (Or.inl (own_t hw 88 rfl)) Via.refl e66 Bn (g := (mkF m 16 #[oa r0, oa r1, oi (Int32.ofNat wt.length)] [(.ref r0), (.ref r0)])) rfl rfl (hb hby d13_16)
    have c69 : own_G p e below T67 (mkF m 21 #[oa r0, oa r1, oi (Int32.ofNat wt.length)] [(.int ((Int32.ofNat bs.length) + (Int32.ofNat wt.length))), (.ref r0)]) (mkF m 19 #[oa r0, oa r1, oi (Int32.ofNat wt.length)] [(.int (Int32.ofNat bs.length)), (.ref r0)]) := by
      intro t kt
      show oS T67 (mkF m 19 #[oa r0, oa r1, oi (Int32.ofNat wt.length)] [(.int (Int32.ofNat bs.length)), (.ref r0)]) _
      refine XS.iloadN X67.here hx rfl (hb hby d13_19) rfl ?_
      show oS T67 (mkF m 20 #[oa r0, oa r1, oi (Int32.ofNat wt.length)] [(.int (Int32.ofNat wt.length)), (.int (Int32.ofNat bs.length)), (.ref r0)]) _
      refine XS.iadd X67.here hx rfl (hb hby d13_20) rfl ?_
      exact kt
    have c70 : own_G p e below T67 (mkF m 21 #[oa r0, oa r1, oi (Int32.ofNat wt.length)] [(.int (Int32.ofNat (bs.length + wt.length))), (.ref r0)]) (mkF m 21 #[oa r0, oa r1, oi (Int32.ofNat wt.length)] [(.int ((Int32.ofNat bs.length) + (Int32.ofNat wt.length))), (.ref r0)]) := fun t kt => castTop (congrArg (fun zv => (mkF m 21 #[oa r0, oa r1, oi (Int32.ofNat wt.length)] [(.int zv), (.ref r0)])) (show ((Int32.ofNat bs.length) + (Int32.ofNat wt.length)) = (Int32.ofNat (bs.length + wt.length)) from own_add _ _ (by omega) (by omega))) kt
    obtain ⟨cq71, rq71, rq71'⟩ := Eb.cell
    obtain ⟨_, _, ⟨T72, L72, k72, n72⟩, -, X72, ⟨Lc72, hQ72, l72, y72, z72⟩, st72⟩ := X67.privateBack hx (y := yy_12) hown (mvT hZ (own_t hw 90 rfl)) (mvT hZ (own_t hw 91 rfl)) (own_selq (y := yy_12) (z := yy_12) (mvT hZ (own_t hw 93 rfl)) rfl (Cond.privateMethod_at (mvP hZ (own_t hw 92 rfl) (args := #[]))) (mvT hZ (own_t hw 91 rfl)) (by decide)) (Cond.privateMethod_at (mvP hZ (own_t hw 92 rfl) (args := #[]))) (mvT hZ (own_t hw 94 rfl)) (by decide) (backOf (W := 0) (rm16s l Z a0 hw [] r0 (Int32.ofNat (bs.length + wt.length)) vb kv z bs h0 n0 Z0 Eb Bv Bc Bn Bb hle) hZ (own_t hw 94 rfl) (own_t hw 59 rfl) (by decide) (by decide)) (g := (mkF m 21 #[oa r0, oa r1, oi (Int32.ofNat wt.length)] [(.int (Int32.ofNat (bs.length + wt.length))), (.ref r0)])) rfl (by rw [hml]; rfl) (Steps.refl _) (a := r0) (by rw [e67]; exact rq71) rq71' (argsL := [(.int (Int32.ofNat (bs.length + wt.length)))]) (rest := []) (lenOf pd_12 rfl) rfl (by show 2 * 0 + _ ≤ _; exact Nat.le_of_eq rfl) (hb hby d13_21) (fun _ _ => ⟨rfl, e67, (by decide : 0 + 0 ≤ _), (by decide : 0 + 0 ≤ _)⟩)
    dsimp only [Pt.U, Pt.locs, Pt.cells, Pt.slots] at X72 l72 y72 z72 st72 hQ72
    subst l72 y72 z72
    obtain ⟨rfl, N72q, e72⟩ := hQ72
    have N72 := Fr.app N66 N72q
    have c74 : own_G p e below T72 (mkF m 26 #[oa r0, oa r1, oi (Int32.ofNat wt.length)] [(.ref r0), (.ref r0)]) (mkF m 24 #[oa r0, oa r1, oi (Int32.ofNat wt.length)] []) := by
      intro t kt
      show oS T72 (mkF m 24 #[oa r0, oa r1, oi (Int32.ofNat wt.length)] []) _
      refine XS.aloadN X72.here hx rfl (hb hby d13_24) rfl rfl ?_
      show oS T72 (mkF m 25 #[oa r0, oa r1, oi (Int32.ofNat wt.length)] [(.ref r0)]) _
      refine XS.aloadN X72.here hx rfl (hb hby d13_25) rfl rfl ?_
      exact kt
    obtain ⟨T73, X73, e73, st73⟩ := getF X72 hx hZ hown (host := "") (Or.inl (own_t hw 88 rfl)) Via.refl e72 Bn (g := (mkF m 26 #[oa r0, oa r1, oi (Int32.ofNat wt.length)] [(.ref r0), (.ref r0)])) rfl rfl (hb hby d13_26)
    have c75 : own_G p e below T73 (mkF m 30 #[oa r0, oa r1, oi (Int32.ofNat wt.length)] [(.ref r1), (.int (Int32.ofNat bs.length)), (.ref r0)]) (mkF m 29 #[oa r0, oa r1, oi (Int32.ofNat wt.length)] [(.int (Int32.ofNat bs.length)), (.ref r0)]) := by
      intro t kt
      show oS T73 (mkF m 29 #[oa r0, oa r1, oi (Int32.ofNat wt.length)] [(.int (Int32.ofNat bs.length)), (.ref r0)]) _
      refine XS.aloadN X73.here hx rfl (hb hby d13_29) rfl rfl ?_
      exact kt
    obtain ⟨cq76, rq76, rq76'⟩ := Eb.cell
    obtain ⟨_, _, ⟨T77, L77, k77, n77⟩, -, X77, ⟨Lc77, hQ77, l77, y77, z77⟩, st77⟩ := X73.privateBack hx (y := yy_15) hown (mvT hZ (own_t hw 95 rfl)) (mvT hZ (own_t hw 96 rfl)) (own_selq (y := yy_15) (z := yy_12) (mvT hZ (own_t hw 93 rfl)) rfl (Cond.privateMethod_at (mvP hZ (own_t hw 97 rfl) (args := #[]))) (mvT hZ (own_t hw 96 rfl)) (by decide)) (Cond.privateMethod_at (mvP hZ (own_t hw 97 rfl) (args := #[]))) (mvT hZ (own_t hw 99 rfl)) (by decide) (backOf (W := 0) (rm17 l Z a0 hw []  r0 r1 vb rb kv kb z bs wt cs h0 n0 Z0 Eb Bv Bc Bn Bb Ea Fa Ca Va hbz hl34 (SC.ext O0.2) hcs g_vb) hZ (own_t hw 99 rfl) (own_t hw 59 rfl) (by decide) (by decide)) (g := (mkF m 30 #[oa r0, oa r1, oi (Int32.ofNat wt.length)] [(.ref r1), (.int (Int32.ofNat bs.length)), (.ref r0)])) rfl (by rw [hml]; rfl) (Steps.refl _) (a := r0) (by rw [e73]; exact rq76) rq76' (argsL := [(.int (Int32.ofNat bs.length)), (.ref r1)]) (rest := []) (lenOf pd_13 rfl) rfl (by show 2 * 0 + _ ≤ _; exact Nat.le_of_eq rfl) (hb hby d13_30) (fun _ _ => ⟨rfl, e73, (by decide : 0 + 0 ≤ _), (by decide : 0 + 0 ≤ _)⟩)
    dsimp only [Pt.U, Pt.locs, Pt.cells, Pt.slots] at X77 l77 y77 z77 st77 hQ77
    subst l77 y77 z77
    obtain ⟨rfl, N77q, Kq77, Vq77⟩ := hQ77
    have N77 := Fr.app N72 N77q
    have f78 := (Bn.keep Kq77 (ninS (Ne.symm hvr) nin0))
    have c80 : own_G p e below T77 (mkF m 35 #[oa r0, oa r1, oi (Int32.ofNat wt.length)] [(.ref r0), (.ref r0)]) (mkF m 33 #[oa r0, oa r1, oi (Int32.ofNat wt.length)] []) := by
      intro t kt
      show oS T77 (mkF m 33 #[oa r0, oa r1, oi (Int32.ofNat wt.length)] []) _
      refine XS.aloadN X77.here hx rfl (hb hby d13_33) rfl rfl ?_
      show oS T77 (mkF m 34 #[oa r0, oa r1, oi (Int32.ofNat wt.length)] [(.ref r0)]) _
      refine XS.dup X77.here hx rfl (hb hby d13_34) rfl rfl ?_
      exact kt
    obtain ⟨T79, X79, e79, st79⟩ := getF X77 hx hZ hown (host := "") (Or.inl (own_t hw 88 rfl)) Via.refl rfl f78 (g := (mkF m 35 #[oa r0, oa r1, oi (Int32.ofNat wt.length)] [(.ref r0), (.ref r0)])) rfl rfl (hb hby d13_35)
    have c81 : own_G p e below T79 (mkF m 40 #[oa r0, oa r1, oi (Int32.ofNat wt.length)] [(.int ((Int32.ofNat bs.length) + (Int32.ofNat wt.length))), (.ref r0)]) (mkF m 38 #[oa r0, oa r1, oi (Int32.ofNat wt.length)] [(.int (Int32.ofNat bs.length)), (.ref r0)]) := by
      intro t kt
      show oS T79 (mkF m 38 #[oa r0, oa r1, oi (Int32.ofNat wt.length)] [(.int (Int32.ofNat bs.length)), (.ref r0)]) _
      refine XS.iloadN X79.here hx rfl (hb hby d13_38) rfl ?_
      show oS T79 (mkF m 39 #[oa r0, oa r1, oi (Int32.ofNat wt.length)] [(.int (Int32.ofNat wt.length)), (.int (Int32.ofNat bs.length)), (.ref r0)]) _
      refine XS.iadd X79.here hx rfl (hb hby d13_39) rfl ?_
      exact kt
    have c82 : own_G p e below T79 (mkF m 40 #[oa r0, oa r1, oi (Int32.ofNat wt.length)] [(.int (Int32.ofNat (bs.length + wt.length))), (.ref r0)]) (mkF m 40 #[oa r0, oa r1, oi (Int32.ofNat wt.length)] [(.int ((Int32.ofNat bs.length) + (Int32.ofNat wt.length))), (.ref r0)]) := fun t kt => castTop (congrArg (fun zv => (mkF m 40 #[oa r0, oa r1, oi (Int32.ofNat wt.length)] [(.int zv), (.ref r0)])) (show ((Int32.ofNat bs.length) + (Int32.ofNat wt.length)) = (Int32.ofNat (bs.length + wt.length)) from own_add _ _ (by omega) (by omega))) kt
    have f83 := (Eb.keep Kq77)
    obtain ⟨T84, h84, X84, e84, W84, st84⟩ := putF X79 hx hZ hown (host := "") (Or.inl (own_t hw 88 rfl)) Via.refl e79 f78 f83 (Or.inl (own_t hw 89 rfl)) (own_t hw 50 rfl) (ty := .int) (by decide) rfl rfl (g := (mkF m 40 #[oa r0, oa r1, oi (Int32.ofNat wt.length)] [(.int (Int32.ofNat (bs.length + wt.length))), (.ref r0)])) rfl rfl (hb hby d13_40)
    have Fw84 := f78.same W84
    have N84 := Fr.snoc X84 N77 g_r0
    have c85 : own_G p e below T84 (mkF m 44 #[oa r0, oa r1, oi (Int32.ofNat wt.length)] [(.ref r0)]) (mkF m 43 #[oa r0, oa r1, oi (Int32.ofNat wt.length)] []) := by
      intro t kt
      show oS T84 (mkF m 43 #[oa r0, oa r1, oi (Int32.ofNat wt.length)] []) _
      refine XS.aloadN X84.here hx rfl (hb hby d13_43) rfl rfl ?_
      exact kt
    obtain ⟨fs, hr, hrun, hended, hW, hsame⟩ := X84.leave (v := some (.ref r0)) (fun h => by rw [Bd.returns] at h; cases h)
    have f87 := (Vq77.other W84 hvr)
    have f88 := (((Keep.refl h0 [r0, vb]).trans Kq77 (allS (Or.inl (List.mem_of_getElem? (i := 1) rfl)) all0)).wr W84 (Or.inl (List.mem_of_getElem? (i := 0) rfl)))
    have f89 := (f83.wr W84)
    have f90 := ((Bv.keep Kq77 (ninS (Ne.symm hvr) nin0)).other W84 (Or.inr (slot_ne (a0 := a0) (Or.inl (own_t hw 64 rfl)) (Or.inl (own_t hw 89 rfl)) (by decide) (t := (.array .byte)) (t' := .int) (by decide) (by decide))))
    have f91 := ((Bc.keep Kq77 (ninS (Ne.symm hvr) nin0)).other W84 (Or.inr (slot_ne (a0 := a0) (Or.inl (own_t hw 66 rfl)) (Or.inl (own_t hw 89 rfl)) (by decide) (t := .byte) (t' := .int) (by decide) (by decide))))
    refine ⟨_, _, pre0 _ (c64 _ (st66.trans (c68 _ (st67 _ (c69 _ (c70 _ (st72.trans (c74 _ (st73 _ (c75 _ (st77.trans (c80 _ (st79 _ (c81 _ (c82 _ (st84 _ (c85 _ (?_)))))))))))))))))), hrun, hended, _, _, rfl, ?_, ⟨_, rfl⟩, hW, hsame.mono (by decide) (by decide)⟩
    · show Steps p.tables e below (T84.setTop (mkF m 44 #[oa r0, oa r1, oi (Int32.ofNat wt.length)] [(.ref r0)])) _
      jvm_step X84.here [X84.here.top, hx, (hb hby d13_44), X84.method', Bd.returns, Value.isRef, FieldType.isReference]
      first | (intro acts; rw [hr _ acts rfl rfl rfl]) | rw [hr _ _ rfl rfl rfl]
      exact Steps.refl _
    · show Q13 Z r0 r1 vb rb kv kb z bs wt cs h0 n0 _ T84.heap _
      rw [e84]
      exact ⟨rfl, N84, f88, f89, vb, kv, z, g_vb, Or.inl rfl, (by rw [List.length_append]; exact hbz), Or.inr hz, f90, f91, (by rw [List.length_append]; exact Fw84), f87⟩
theorem d12_0 : decode jdk_67_method_7_code 0 = .ok (.aload_n 0, 1) := by decide +kernel
theorem d12_1 : decode jdk_67_method_7_code 1 = .ok (.aload_n 1, 1) := by decide +kernel
theorem d12_2 : decode jdk_67_method_7_code 2 = .ok (.invokespecial 29, 3) := by decide +kernel
theorem d12_5 : decode jdk_67_method_7_code 5 = .ok (.pop, 1) := by decide +kernel
theorem d12_6 : decode jdk_67_method_7_code 6 = .ok (.aload_n 0, 1) := by decide +kernel
theorem d12_7 : decode jdk_67_method_7_code 7 = .ok (.areturn, 1) := by decide +kernel
theorem pn_12 : plainName "java/lang/StringBuilder" = true := by first | (simp [plainName, overriddenIn]; done) | decide +kernel
theorem ef_12 (m : MethodId) (x0 : Addr) (x1 : Addr) : entryFrame m #[(.ref x0), (.ref x1)] 2 = mkF m 0 #[.val (.ref x0), .val (.ref x1)] [] := by first | (simp [entryFrame, mkF, argsToLocals, Value.category]; done) | rfl
def Q12 (Z : State) (r0 : Addr) (r1 : Addr) (vb rb : Addr) (kv kb : ClassId) (z : Int32) (bs wt : List Int32) (cs : Int32) (h0 : Heap) (n0 : Nat) (v : Option Value) (h : Heap) (L : List Loc) : Prop := v = some (.ref r0) ∧ Fr n0 L ∧ Keep h0 h [r0, vb] ∧ Exa Z h r0 "java/lang/StringBuilder" ∧ ∃ vb' kv' z', n0 ≤ vb' ∧ (vb' = vb ∨ h0.size ≤ vb') ∧ (bs ++ wt).length ≤ z'.toNatClampNeg ∧ ((z' = (16 : Int32) ∧ Exa Z h vb' "[B") ∨ z' = (34 : Int32)) ∧ Fld Z h r0 "java/lang/AbstractStringBuilder" "value" "[B" (.ref vb') ∧ Fld Z h r0 "java/lang/AbstractStringBuilder" "coder" "B" (.int (0 : Int32)) ∧ Fld Z h r0 "java/lang/AbstractStringBuilder" "count" "I" (.int (Int32.ofNat (bs ++ wt).length)) ∧ Arv Z h vb' kv' .byte z' (((bs ++ wt).map (fun c => c.toInt8.toInt32)).map Value.int) (.int 0)
set_option maxRecDepth 65536 in
set_option maxHeartbeats 40000000 in
theorem rm12 (l : Launch) (Z : State) (a0 : Array Value) (hw : ∀ d ∈ tables_1, d.before a0 Z = true) (ws : List Jvm.Cond) (r0 : Addr) (r1 : Addr) (vb rb : Addr) (kv kb : ClassId) (z : Int32) (bs wt : List Int32) (cs : Int32) (h0 : Heap) (n0 : Nat) (Z0 : n0 ≤ h0.size) (Eb : Exa Z h0 r0 "java/lang/StringBuilder") (Bv : Fld Z h0 r0 "java/lang/AbstractStringBuilder" "value" "[B" (.ref vb)) (Bc : Fld Z h0 r0 "java/lang/AbstractStringBuilder" "coder" "B" (.int (0 : Int32))) (Bn : Fld Z h0 r0 "java/lang/AbstractStringBuilder" "count" "I" (.int (Int32.ofNat bs.length))) (Bb : Arv Z h0 vb kv .byte z ((bs.map (fun c => c.toInt8.toInt32)).map Value.int) (.int 0)) (Ea : Exa Z h0 r1 "java/lang/String") (Fa : Fld Z h0 r1 "java/lang/String" "value" "[B" (.ref rb)) (Ca : Fld Z h0 r1 "java/lang/String" "coder" "B" (.int (0 : Int32))) (Va : Arv Z h0 rb kb .byte (Int32.ofNat wt.length) ((wt.map (fun c => c.toInt8.toInt32)).map Value.int) (.int 0)) (hcap : (z = (16 : Int32) ∧ Exa Z h0 vb "[B") ∨ z = (34 : Int32)) (hl34 : bs.length + wt.length ≤ 34) (hbl : bs.length ≤ z.toNatClampNeg) (O0 : Old Z n0 h0) (SC : Sta Z Z.heap "java/lang/String" "COMPACT_STRINGS" "Z" (.int cs)) (hcs : ¬ cs = (0 : Int32)) (g_r0 : n0 ≤ r0) (g_vb : n0 ≤ vb) (hvr : vb ≠ r0) (hsr : r1 ≠ r0) (hbr : rb ≠ r0) :
    MetFree l yy_17 (head1 (Jvm.Cond.code yy_17 jdk_67_method_7_code 2 (some (.object "java/lang/StringBuilder")) :: ws) ({ frames := 5, cells := 1, slots := 34, locals := 107 } : Room)) (fun a U => a = #[(.ref r0), (.ref r1)] ∧ Z.Warmed39 U.vm ∧ U.heap = h0) (fun _ _ _ _ _ => True) (fun _ U o U' => ∃ v L, o = .returned v ∧ Q12 Z r0 r1 vb rb kv kb z bs wt cs h0 n0 v U'.heap L ∧ FrameEnd U o U' L ({ frames := 5, cells := 1, slots := 34, locals := 107 } : Room).cells ({ frames := 5, cells := 1, slots := 34, locals := 107 } : Room).slots) := by
  refine MetFree.of_bodySF (plainFor_of_name pn_12) hisR ?_
  intro p e s m args below meth c s₁ Bd hml0 hP hK
  obtain ⟨rfl, hZ, hh⟩ := hP
  have hx := Bd.exec
  have hby := Bd.bytes
  have hml : c.maxLocals = 2 := hml0
  have hown : s.vm.findClass "java/lang/StringBuilder" = some m.cls := findClass_of_methodNamed Bd.named
  have hnm := (name_of_methodNamed Bd.named Bd.method).1
  have X0 : Stand p l e ({ frames := 5, cells := 1, slots := 34, locals := 107 } : Room) s m #[(.ref r0), (.ref r1)] below meth c s₁ [] 0 0 := Stand.of_body Bd
  have e0 : s₁.heap = h0 := by rw [← hh, Bd.state]; rfl
  have N0 := Fr.nil n0
  have pre0 : ∀ t, Steps p.tables e below (s₁.setTop (mkF m 0 #[oa r0, oa r1] [])) t → Steps p.tables e below (s₁.setTop (entryFrame m #[(.ref r0), (.ref r1)] 2)) t := fun t k => castTop (ef_12 m r0 r1) k
  have c1 : own_G p e below s₁ (mkF m 2 #[oa r0, oa r1] [(.ref r1), (.ref r0)]) (mkF m 0 #[oa r0, oa r1] []) := by
    intro t kt
    show oS s₁ (mkF m 0 #[oa r0, oa r1] []) _
    refine XS.aloadN X0.here hx rfl (hb hby d12_0) rfl rfl ?_
    show oS s₁ (mkF m 1 #[oa r0, oa r1] [(.ref r0)]) _
    refine XS.aloadN X0.here hx rfl (hb hby d12_1) rfl rfl ?_
    exact kt
  obtain ⟨_, _, ⟨T2, L2, k2, n2⟩, -, X2, ⟨Lc2, hQ2, l2, y2, z2⟩, st2⟩ := superBack X0 hx hZ (y := yy_16) hown (own_t hw 73 rfl) (own_sm (y := yy_16) (z := yy_12) (own_t hw 76 rfl) (own_t hw 93 rfl) rfl (by decide)) (own_t hw 74 rfl) (own_t hw 75 rfl) (by decide) (backOf (W := 0) (rm13 l Z a0 hw [] r0 r1 vb rb kv kb z bs wt cs h0 n0 Z0 Eb Bv Bc Bn Bb Ea Fa Ca Va hcap hl34 hbl O0 SC hcs g_r0 g_vb hvr hsr hbr) hZ (own_t hw 77 rfl) (own_t hw 59 rfl) (by decide) (by decide)) e0 (Ins.self Eb) (g := (mkF m 2 #[oa r0, oa r1] [(.ref r1), (.ref r0)])) rfl (by rw [hml]; rfl) (own_t hw 77 rfl) (argsL := [(.ref r1)]) (rest := []) (lenOf pd_14 rfl) rfl (by show 2 * 0 + _ ≤ _; exact Nat.le_of_eq rfl) (hb hby d12_2) (fun _ _ => ⟨rfl, e0, (by decide : 0 + 1 ≤ _), (by decide : 0 + 34 ≤ _)⟩)
  dsimp only [Pt.U, Pt.locs, Pt.cells, Pt.slots] at X2 l2 y2 z2 st2 hQ2
  subst l2 y2 z2
  obtain ⟨rfl, hQ2r⟩ := hQ2
  have N2 := Fr.app N0 hQ2r.1
  have c3 : own_G p e below T2 (mkF m 7 #[oa r0, oa r1] [(.ref r0)]) (mkF m 5 #[oa r0, oa r1] [(.ref r0)]) := by
    intro t kt
    show oS T2 (mkF m 5 #[oa r0, oa r1] [(.ref r0)]) _
    refine XS.pop X2.here hx rfl (hb hby d12_5) rfl rfl ?_
    show oS T2 (mkF m 6 #[oa r0, oa r1] []) _
    refine XS.aloadN X2.here hx rfl (hb hby d12_6) rfl rfl ?_
    exact kt
  obtain ⟨fs, hr, hrun, hended, hW, hsame⟩ := X2.leave (v := some (.ref r0)) (fun h => by rw [Bd.returns] at h; cases h)
  have f5 := ((Keep.refl h0 [r0, vb]).trans hQ2r.2.1 (allS (Or.inl (List.mem_of_getElem? (i := 0) rfl)) (allS (Or.inl (List.mem_of_getElem? (i := 1) rfl)) all0)))
  refine ⟨_, _, pre0 _ (c1 _ (st2.trans (c3 _ (?_)))), hrun, hended, _, _, rfl, ?_, ⟨_, rfl⟩, hW, hsame.mono (by decide) (by decide)⟩
  · show Steps p.tables e below (T2.setTop (mkF m 7 #[oa r0, oa r1] [(.ref r0)])) _
    jvm_step X2.here [X2.here.top, hx, (hb hby d12_7), X2.method', Bd.returns, Value.isRef, FieldType.isReference]
    first | (intro acts; rw [hr _ acts rfl rfl rfl]) | rw [hr _ _ rfl rfl rfl]
    exact Steps.refl _
  · show Q12 Z r0 r1 vb rb kv kb z bs wt cs h0 n0 _ T2.heap _
    exact ⟨rfl, N2, f5, hQ2r.2.2⟩
theorem d11_0 : decode jdk_68_method_2_code 0 = .ok (.aload_n 0, 1) := by decide +kernel
theorem d11_1 : decode jdk_68_method_2_code 1 = .ok (.invokespecial 3, 3) := by decide +kernel
theorem d11_4 : decode jdk_68_method_2_code 4 = .ok (.getstatic 18, 3) := by decide +kernel
theorem d11_7 : decode jdk_68_method_2_code 7 = .ok (.ifCond .eq 18, 3) := by decide +kernel
theorem d11_10 : decode jdk_68_method_2_code 10 = .ok (.aload_n 0, 1) := by decide +kernel
theorem d11_11 : decode jdk_68_method_2_code 11 = .ok (.iload_n 1, 1) := by decide +kernel
theorem d11_12 : decode jdk_68_method_2_code 12 = .ok (.newarray .byte, 2) := by decide +kernel
theorem d11_14 : decode jdk_68_method_2_code 14 = .ok (.putfield 15, 3) := by decide +kernel
theorem d11_17 : decode jdk_68_method_2_code 17 = .ok (.aload_n 0, 1) := by decide +kernel
theorem d11_18 : decode jdk_68_method_2_code 18 = .ok (.iconst 0, 1) := by decide +kernel
theorem d11_19 : decode jdk_68_method_2_code 19 = .ok (.putfield 22, 3) := by decide +kernel
theorem d11_22 : decode jdk_68_method_2_code 22 = .ok (.goto 16, 3) := by decide +kernel
theorem d11_38 : decode jdk_68_method_2_code 38 = .ok (.return_, 1) := by decide +kernel
theorem pn_11 : plainName "java/lang/AbstractStringBuilder" = true := by first | (simp [plainName, overriddenIn]; done) | decide +kernel
theorem ef_11 (m : MethodId) (x0 : Addr) (x1 : Int32) : entryFrame m #[(.ref x0), (.int x1)] 2 = mkF m 0 #[.val (.ref x0), .val (.int x1)] [] := by first | (simp [entryFrame, mkF, argsToLocals, Value.category]; done) | rfl
def Q11 (Z : State) (r0 : Addr) (cs : Int32) (h0 : Heap) (n0 : Nat) (v : Option Value) (h : Heap) (L : List Loc) : Prop := v = none ∧ Fr n0 L ∧ Keep h0 h [r0] ∧ Exa Z h r0 "java/lang/StringBuilder" ∧ ∃ vb kv, h0.size ≤ vb ∧ n0 ≤ vb ∧ Exa Z h vb "[B" ∧ Fld Z h r0 "java/lang/AbstractStringBuilder" "value" "[B" (.ref vb) ∧ Fld Z h r0 "java/lang/AbstractStringBuilder" "coder" "B" (.int (0 : Int32)) ∧ Fld Z h r0 "java/lang/AbstractStringBuilder" "count" "I" (.int (Int32.ofNat ([] : List Int32).length)) ∧ Arv Z h vb kv .byte (16 : Int32) ((([] : List Int32).map (fun c => c.toInt8.toInt32)).map Value.int) (.int 0)
set_option maxRecDepth 65536 in
set_option maxHeartbeats 40000000 in
theorem rm11 (l : Launch) (Z : State) (a0 : Array Value) (hw : ∀ d ∈ tables_1, d.before a0 Z = true) (ws : List Jvm.Cond) (r0 : Addr) (cs : Int32) (h0 : Heap) (n0 : Nat) (Z0 : n0 ≤ h0.size) (Eb : Exa Z h0 r0 "java/lang/StringBuilder") (Bv : Fld Z h0 r0 "java/lang/AbstractStringBuilder" "value" "[B" .null) (Bc : Fld Z h0 r0 "java/lang/AbstractStringBuilder" "coder" "B" (.int (0 : Int32))) (Bn : Fld Z h0 r0 "java/lang/AbstractStringBuilder" "count" "I" (.int (0 : Int32))) (g_r0 : n0 ≤ r0) (SC : Sta Z h0 "java/lang/String" "COMPACT_STRINGS" "Z" (.int cs)) (hcs : ¬ cs = (0 : Int32)) :
    MetFree l yy_18 (head1 (Jvm.Cond.code yy_18 jdk_68_method_2_code 2 none :: ws) ({ frames := 1, cells := 1, slots := 16, locals := 12 } : Room)) (fun a U => a = #[(.ref r0), (.int (16 : Int32))] ∧ Z.Warmed39 U.vm ∧ U.heap = h0) (fun _ _ _ _ _ => True) (fun _ U o U' => ∃ v L, o = .returned v ∧ Q11 Z r0 cs h0 n0 v U'.heap L ∧ FrameEnd U o U' L ({ frames := 1, cells := 1, slots := 16, locals := 12 } : Room).cells ({ frames := 1, cells := 1, slots := 16, locals := 12 } : Room).slots) := by
  refine MetFree.of_bodySF (plainFor_of_name pn_11) hisR ?_
  intro p e s m args below meth c s₁ Bd hml0 hP hK
  obtain ⟨rfl, hZ, hh⟩ := hP
  have hx := Bd.exec
  have hby := Bd.bytes
  have hml : c.maxLocals = 2 := hml0
  have hown : s.vm.findClass "java/lang/AbstractStringBuilder" = some m.cls := findClass_of_methodNamed Bd.named
  have hnm := (name_of_methodNamed Bd.named Bd.method).1
  have X0 : Stand p l e ({ frames := 1, cells := 1, slots := 16, locals := 12 } : Room) s m #[(.ref r0), (.int (16 : Int32))] below meth c s₁ [] 0 0 := Stand.of_body Bd
  have e0 : s₁.heap = h0 := by rw [← hh, Bd.state]; rfl
  have N0 := Fr.nil n0
  have pre0 : ∀ t, Steps p.tables e below (s₁.setTop (mkF m 0 #[oa r0, oi 16] [])) t → Steps p.tables e below (s₁.setTop (entryFrame m #[(.ref r0), (.int (16 : Int32))] 2)) t := fun t k => castTop (ef_11 m r0 (16 : Int32)) k
  have c2 : own_G p e below s₁ (mkF m 1 #[oa r0, oi 16] [(.ref r0)]) (mkF m 0 #[oa r0, oi 16] []) := by
    intro t kt
    show oS s₁ (mkF m 0 #[oa r0, oi 16] []) _
    refine XS.aloadN X0.here hx rfl (hb hby d11_0) rfl rfl ?_
    exact kt
  obtain ⟨T1, X1, e1, st1⟩ := initO X0 hx hZ hown (own_t hw 61 rfl) (own_t hw 27 rfl) (own_t hw 28 rfl) e0 (g := (mkF m 1 #[oa r0, oi 16] [(.ref r0)])) rfl (by rw [hml]; rfl) rfl (hb hby d11_1) (by decide) (W := 0) (by show 2 * 0 + _ ≤ _; exact Nat.le_of_eq rfl) (by decide)
  obtain ⟨T3, X3, e3, st3⟩ := getS2 X1 hx hZ hown (host := "") (Or.inl (own_t hw 62 rfl)) Via.refl e1 SC (g := (mkF m 4 #[oa r0, oi 16] [])) rfl (hb hby d11_4)
  have hd4 : ¬ (cs = (0 : Int32)) := hcs
  have c6 : own_G p e below T3 (mkF m 12 #[oa r0, oi 16] [(.int (16 : Int32)), (.ref r0)]) (mkF m 7 #[oa r0, oi 16] [(.int cs)]) := by
    intro t kt
    show oS T3 (mkF m 7 #[oa r0, oi 16] [(.int cs)]) _
    refine XS.ifNo X3.here hx rfl (hb hby d11_7) rfl ((if0 _ _).trans (feq hd4).1) ?_
    show oS T3 (mkF m 10 #[oa r0, oi 16] []) _
    refine XS.aloadN X3.here hx rfl (hb hby d11_10) rfl rfl ?_
    show oS T3 (mkF m 11 #[oa r0, oi 16] [(.ref r0)]) _
    refine XS.iloadN X3.here hx rfl (hb hby d11_11) rfl ?_
    exact kt
  obtain ⟨T5, h5, k5, X5, e5, E5, A5, EA5, st5⟩ := newPE X3 hx hZ (own_t hw 21 rfl) e3 (g := (mkF m 12 #[oa r0, oi 16] [(.int (16 : Int32)), (.ref r0)])) rfl (hb hby d11_12) rfl (by decide) (cap := 16) (by decide) (by decide) (by decide) (by decide) (ad := "[B") rfl
  obtain ⟨b5, g5⟩ : ∃ z, z = h0.size := ⟨_, rfl⟩
  rw [← g5] at A5 st5 EA5
  have g_b5 : n0 ≤ b5 := Nat.le_trans Z0 (Nat.le_of_eq g5.symm)
  have sz_b5 : h0.size ≤ b5 := Nat.le_trans (Keep.refl h0 [r0]).1 (Nat.le_of_eq g5.symm)
  have lt_r0_5 := Eb.lt
  have V5 : Arv Z h5 b5 k5 .byte (16 : Int32) [(.int (0 : Int32)), (.int (0 : Int32)), (.int (0 : Int32)), (.int (0 : Int32)), (.int (0 : Int32)), (.int (0 : Int32)), (.int (0 : Int32)), (.int (0 : Int32)), (.int (0 : Int32)), (.int (0 : Int32)), (.int (0 : Int32)), (.int (0 : Int32)), (.int (0 : Int32)), (.int (0 : Int32)), (.int (0 : Int32)), (.int (0 : Int32))] (.int (0 : Int32)) := (Arv.new A5 (by decide)).pad (pad_rep [] (.int (0 : Int32)) 16)
  have f7 := (Bv.ext E5)
  have f8 := (Eb.ext E5)
  obtain ⟨T9, h9, X9, e9, W9, st9⟩ := putF X5 hx hZ hown (host := "") (Or.inl (own_t hw 63 rfl)) Via.refl e5 f7 f8 (Or.inl (own_t hw 64 rfl)) (own_t hw 50 rfl) (ty := (.array .byte)) (by decide) rfl rfl (g := (mkF m 14 #[oa r0, oi 16] [(.ref b5), (.ref r0)])) rfl rfl (hb hby d11_14)
  have Fw9 := f7.same W9
  have N9 := Fr.snoc X9 N0 g_r0
  have f10 := ((Bc.ext E5).other W9 (Or.inr (slot_ne (a0 := a0) (Or.inl (own_t hw 66 rfl)) (Or.inl (own_t hw 64 rfl)) (by decide) (t := .byte) (t' := (.array .byte)) (by decide) (by decide))))
  have f11 := (f8.wr W9)
  have c13 : own_G p e below T9 (mkF m 19 #[oa r0, oi 16] [(.int (0 : Int32)), (.ref r0)]) (mkF m 17 #[oa r0, oi 16] []) := by
    intro t kt
    show oS T9 (mkF m 17 #[oa r0, oi 16] []) _
    refine XS.aloadN X9.here hx rfl (hb hby d11_17) rfl rfl ?_
    show oS T9 (mkF m 18 #[oa r0, oi 16] [(.ref r0)]) _
    refine XS.iconst X9.here hx rfl (hb hby d11_18) ?_
    exact kt
  obtain ⟨T12, h12, X12, e12, W12, st12⟩ := putFN X9 hx hZ hown (own_t hw 65 rfl) Via.refl e9 f10 f11 (Or.inl (own_t hw 66 rfl)) (own_t hw 50 rfl) (ty := .byte) (v' := (.int (0 : Int32))) (by decide) rfl rfl (g := (mkF m 19 #[oa r0, oi 16] [(.int (0 : Int32)), (.ref r0)])) rfl rfl (hb hby d11_19)
  have Fw12 := f10.same W12
  have N12 := Fr.snoc X12 N9 g_r0
  have c14 : own_G p e below T12 (mkF m 38 #[oa r0, oi 16] []) (mkF m 22 #[oa r0, oi 16] []) := by
    intro t kt
    show oS T12 (mkF m 22 #[oa r0, oi 16] []) _
    refine XS.goto X12.here hx rfl (pc0 := 22) (pc' := 38) rfl (hb hby d11_22) (by decide) (by decide) ?_
    exact kt
  obtain ⟨fs, hr, hrun, hended, hW, hsame⟩ := X12.leave (v := none) (fun _ => rfl)
  have f16 := ((((Keep.refl h0 [r0]).ext E5).wr W9 (Or.inl (List.mem_of_getElem? (i := 0) rfl))).wr W12 (Or.inl (List.mem_of_getElem? (i := 0) rfl)))
  have f17 := (f11.wr W12)
  have f18 := ((EA5.wr W9).wr W12)
  have f19 := (Fw9.other W12 (Or.inr (slot_ne (a0 := a0) (Or.inl (own_t hw 64 rfl)) (Or.inl (own_t hw 66 rfl)) (by decide) (t := (.array .byte)) (t' := .byte) (by decide) (by decide))))
  have f20 := (((Bn.ext E5).other W9 (Or.inr (slot_ne (a0 := a0) (Or.inl (own_t hw 89 rfl)) (Or.inl (own_t hw 64 rfl)) (by decide) (t := .int) (t' := (.array .byte)) (by decide) (by decide)))).other W12 (Or.inr (slot_ne (a0 := a0) (Or.inl (own_t hw 89 rfl)) (Or.inl (own_t hw 66 rfl)) (by decide) (t := .int) (t' := .byte) (by decide) (by decide))))
  have f21 := ((V5.other W9 (Ne.symm (Nat.ne_of_lt (Nat.lt_of_lt_of_le lt_r0_5 (Nat.le_of_eq g5.symm))))).other W12 (Ne.symm (Nat.ne_of_lt (Nat.lt_of_lt_of_le lt_r0_5 (Nat.le_of_eq g5.symm)))))
  refine ⟨_, _, pre0 _ (c2 _ (st1 _ (st3 _ (c6 _ (st5 _ (st9 _ (c13 _ (st12 _ (c14 _ (?_)))))))))), hrun, hended, _, _, rfl, ?_, ⟨_, rfl⟩, hW, hsame.mono (by decide) (by decide)⟩
  · show Steps p.tables e below (T12.setTop (mkF m 38 #[oa r0, oi 16] [])) _
    exact X12.returnOut hx Bd.returns (hb hby d11_38) hr
  · show Q11 Z r0 cs h0 n0 _ T12.heap _
    rw [e12]
    exact ⟨rfl, N12, f16, f17, ⟨b5, k5, sz_b5, g_b5, f18, f19, Fw12, f20, Arv.pad f21 (fun i => (pad_rep [] (.int 0) 16 i).symm)⟩⟩
theorem d10_0 : decode jdk_67_method_1_code 0 = .ok (.aload_n 0, 1) := by decide +kernel
theorem d10_1 : decode jdk_67_method_1_code 1 = .ok (.bipush 16, 2) := by decide +kernel
theorem d10_3 : decode jdk_67_method_1_code 3 = .ok (.invokespecial 1, 3) := by decide +kernel
theorem d10_6 : decode jdk_67_method_1_code 6 = .ok (.return_, 1) := by decide +kernel
theorem pn_10 : plainName "java/lang/StringBuilder" = true := by first | (simp [plainName, overriddenIn]; done) | decide +kernel
theorem ef_10 (m : MethodId) (x0 : Addr) : entryFrame m #[(.ref x0)] 1 = mkF m 0 #[.val (.ref x0)] [] := by first | (simp [entryFrame, mkF, argsToLocals, Value.category]; done) | rfl
def Q10 (Z : State) (r0 : Addr) (cs : Int32) (h0 : Heap) (n0 : Nat) (v : Option Value) (h : Heap) (L : List Loc) : Prop := v = none ∧ Fr n0 L ∧ Keep h0 h [r0] ∧ Exa Z h r0 "java/lang/StringBuilder" ∧ ∃ vb kv, h0.size ≤ vb ∧ n0 ≤ vb ∧ Exa Z h vb "[B" ∧ Fld Z h r0 "java/lang/AbstractStringBuilder" "value" "[B" (.ref vb) ∧ Fld Z h r0 "java/lang/AbstractStringBuilder" "coder" "B" (.int (0 : Int32)) ∧ Fld Z h r0 "java/lang/AbstractStringBuilder" "count" "I" (.int (Int32.ofNat ([] : List Int32).length)) ∧ Arv Z h vb kv .byte (16 : Int32) ((([] : List Int32).map (fun c => c.toInt8.toInt32)).map Value.int) (.int 0)
set_option maxRecDepth 65536 in
set_option maxHeartbeats 40000000 in
theorem rm10 (l : Launch) (Z : State) (a0 : Array Value) (hw : ∀ d ∈ tables_1, d.before a0 Z = true) (ws : List Jvm.Cond) (r0 : Addr) (cs : Int32) (h0 : Heap) (n0 : Nat) (Z0 : n0 ≤ h0.size) (Eb : Exa Z h0 r0 "java/lang/StringBuilder") (Bv : Fld Z h0 r0 "java/lang/AbstractStringBuilder" "value" "[B" .null) (Bc : Fld Z h0 r0 "java/lang/AbstractStringBuilder" "coder" "B" (.int (0 : Int32))) (Bn : Fld Z h0 r0 "java/lang/AbstractStringBuilder" "count" "I" (.int (0 : Int32))) (g_r0 : n0 ≤ r0) (SC : Sta Z h0 "java/lang/String" "COMPACT_STRINGS" "Z" (.int cs)) (hcs : ¬ cs = (0 : Int32)) :
    MetFree l yy_19 (head1 (Jvm.Cond.code yy_19 jdk_67_method_1_code 1 none :: ws) ({ frames := 2, cells := 1, slots := 16, locals := 25 } : Room)) (fun a U => a = #[(.ref r0)] ∧ Z.Warmed39 U.vm ∧ U.heap = h0) (fun _ _ _ _ _ => True) (fun _ U o U' => ∃ v L, o = .returned v ∧ Q10 Z r0 cs h0 n0 v U'.heap L ∧ FrameEnd U o U' L ({ frames := 2, cells := 1, slots := 16, locals := 25 } : Room).cells ({ frames := 2, cells := 1, slots := 16, locals := 25 } : Room).slots) := by
  refine MetFree.of_bodySF (plainFor_of_name pn_10) hisR ?_
  intro p e s m args below meth c s₁ Bd hml0 hP hK
  obtain ⟨rfl, hZ, hh⟩ := hP
  have hx := Bd.exec
  have hby := Bd.bytes
  have hml : c.maxLocals = 1 := hml0
  have hown : s.vm.findClass "java/lang/StringBuilder" = some m.cls := findClass_of_methodNamed Bd.named
  have hnm := (name_of_methodNamed Bd.named Bd.method).1
  have X0 : Stand p l e ({ frames := 2, cells := 1, slots := 16, locals := 25 } : Room) s m #[(.ref r0)] below meth c s₁ [] 0 0 := Stand.of_body Bd
  have e0 : s₁.heap = h0 := by rw [← hh, Bd.state]; rfl
  have N0 := Fr.nil n0
  have pre0 : ∀ t, Steps p.tables e below (s₁.setTop (mkF m 0 #[oa r0] [])) t → Steps p.tables e below (s₁.setTop (entryFrame m #[(.ref r0)] 1)) t := fun t k => castTop (ef_10 m r0) k
  have c1 : own_G p e below s₁ (mkF m 3 #[oa r0] [(.int (16 : Int32)), (.ref r0)]) (mkF m 0 #[oa r0] []) := by
    intro t kt
    show oS s₁ (mkF m 0 #[oa r0] []) _
    refine XS.aloadN X0.here hx rfl (hb hby d10_0) rfl rfl ?_
    show oS s₁ (mkF m 1 #[oa r0] [(.ref r0)]) _
    refine XS.bipush X0.here hx rfl (hb hby d10_1) ?_
    exact kt
  obtain ⟨_, _, ⟨T2, L2, k2, n2⟩, -, X2, ⟨Lc2, hQ2, l2, y2, z2⟩, st2⟩ := X0.specialBack hx (y := yy_18) rfl hown (mvT hZ (own_t hw 55 rfl)) (mvT hZ (own_t hw 56 rfl)) (mvT hZ (own_t hw 60 rfl)) (by decide) (backOf (W := 0) (rm11 l Z a0 hw []  r0 cs h0 n0 Z0 Eb Bv Bc Bn g_r0 SC hcs) hZ (own_t hw 60 rfl) (own_t hw 59 rfl) (by decide) (by decide)) (g := (mkF m 3 #[oa r0] [(.int (16 : Int32)), (.ref r0)])) rfl (by rw [hml]; rfl) (Steps.refl _) (a := r0) (argsL := [(.int (16 : Int32))]) (rest := []) (lenOf pd_12 rfl) rfl (by show 2 * 0 + _ ≤ _; exact Nat.le_of_eq rfl) (hb hby d10_3) (fun _ _ => ⟨rfl, e0, (by decide : 0 + 1 ≤ _), (by decide : 0 + 16 ≤ _)⟩)
  dsimp only [Pt.U, Pt.locs, Pt.cells, Pt.slots] at X2 l2 y2 z2 st2 hQ2
  subst l2 y2 z2
  obtain ⟨rfl, N2q, Kq2, hi2⟩ := hQ2
  have N2 := Fr.app N0 N2q
  obtain ⟨fs, hr, hrun, hended, hW, hsame⟩ := X2.leave (v := none) (fun _ => rfl)
  have f4 := ((Keep.refl h0 [r0]).trans Kq2 (allS (Or.inl (List.mem_of_getElem? (i := 0) rfl)) all0))
  refine ⟨_, _, pre0 _ (c1 _ (st2.trans (?_))), hrun, hended, _, _, rfl, ?_, ⟨_, rfl⟩, hW, hsame.mono (by decide) (by decide)⟩
  · show Steps p.tables e below (T2.setTop (mkF m 6 #[oa r0] [])) _
    exact X2.returnOut hx Bd.returns (hb hby d10_6) hr
  · show Q10 Z r0 cs h0 n0 _ T2.heap _
    exact ⟨rfl, N2, f4, hi2⟩
theorem d23_0 : decode jdk_68_method_64_code 0 = .ok (.aload_n 0, 1) := by decide +kernel
theorem d23_1 : decode jdk_68_method_64_code 1 = .ok (.getfield 15, 3) := by decide +kernel
theorem d23_4 : decode jdk_68_method_64_code 4 = .ok (.areturn, 1) := by decide +kernel
theorem pn_23 : plainName "java/lang/AbstractStringBuilder" = true := by first | (simp [plainName, overriddenIn]; done) | decide +kernel
theorem ef_23 (m : MethodId) (x0 : Addr) : entryFrame m #[(.ref x0)] 1 = mkF m 0 #[.val (.ref x0)] [] := by first | (simp [entryFrame, mkF, argsToLocals, Value.category]; done) | rfl
def Q23 (Z : State) (r0 : Addr) (vb : Addr) (h0 : Heap) (n0 : Nat) (v : Option Value) (h : Heap) (L : List Loc) : Prop := v = some (.ref vb) ∧ Fr n0 L ∧ h = h0
set_option maxRecDepth 65536 in
set_option maxHeartbeats 40000000 in
theorem rm23 (l : Launch) (Z : State) (a0 : Array Value) (hw : ∀ d ∈ tables_1, d.before a0 Z = true) (ws : List Jvm.Cond) (r0 : Addr) (vb : Addr) (h0 : Heap) (n0 : Nat) (Z0 : n0 ≤ h0.size) (Bv : Fld Z h0 r0 "java/lang/AbstractStringBuilder" "value" "[B" (.ref vb)) :
    MetFree l yy_20 (head1 (Jvm.Cond.code yy_20 jdk_68_method_64_code 1 (some (.array .byte)) :: ws) ({ frames := 0, cells := 0, slots := 0, locals := 0 } : Room)) (fun a U => a = #[(.ref r0)] ∧ Z.Warmed39 U.vm ∧ U.heap = h0) (fun _ _ _ _ _ => True) (fun _ U o U' => ∃ v L, o = .returned v ∧ Q23 Z r0 vb h0 n0 v U'.heap L ∧ FrameEnd U o U' L ({ frames := 0, cells := 0, slots := 0, locals := 0 } : Room).cells ({ frames := 0, cells := 0, slots := 0, locals := 0 } : Room).slots) := by
  refine MetFree.of_bodySF (plainFor_of_name pn_23) hisR ?_
  intro p e s m args below meth c s₁ Bd hml0 hP hK
  obtain ⟨rfl, hZ, hh⟩ := hP
  have hx := Bd.exec
  have hby := Bd.bytes
  have hml : c.maxLocals = 1 := hml0
  have hown : s.vm.findClass "java/lang/AbstractStringBuilder" = some m.cls := findClass_of_methodNamed Bd.named
  have hnm := (name_of_methodNamed Bd.named Bd.method).1
  have X0 : Stand p l e ({ frames := 0, cells := 0, slots := 0, locals := 0 } : Room) s m #[(.ref r0)] below meth c s₁ [] 0 0 := Stand.of_body Bd
  have e0 : s₁.heap = h0 := by rw [← hh, Bd.state]; rfl
  have N0 := Fr.nil n0
  have pre0 : ∀ t, Steps p.tables e below (s₁.setTop (mkF m 0 #[oa r0] [])) t → Steps p.tables e below (s₁.setTop (entryFrame m #[(.ref r0)] 1)) t := fun t k => castTop (ef_23 m r0) k
  have c2 : own_G p e below s₁ (mkF m 1 #[oa r0] [(.ref r0)]) (mkF m 0 #[oa r0] []) := by
    intro t kt
    show oS s₁ (mkF m 0 #[oa r0] []) _
    refine XS.aloadN X0.here hx rfl (hb hby d23_0) rfl rfl ?_
    exact kt
  obtain ⟨T1, X1, e1, st1⟩ := getF X0 hx hZ hown (host := "") (Or.inl (own_t hw 63 rfl)) Via.refl e0 Bv (g := (mkF m 1 #[oa r0] [(.ref r0)])) rfl rfl (hb hby d23_1)
  obtain ⟨fs, hr, hrun, hended, hW, hsame⟩ := X1.leave (v := some (.ref vb)) (fun h => by rw [Bd.returns] at h; cases h)
  refine ⟨_, _, pre0 _ (c2 _ (st1 _ (?_))), hrun, hended, _, _, rfl, ?_, ⟨_, rfl⟩, hW, hsame.mono (by decide) (by decide)⟩
  · show Steps p.tables e below (T1.setTop (mkF m 4 #[oa r0] [(.ref vb)])) _
    jvm_step X1.here [X1.here.top, hx, (hb hby d23_4), X1.method', Bd.returns, Value.isRef, FieldType.isReference]
    first | (intro acts; rw [hr _ acts rfl rfl rfl]) | rw [hr _ _ rfl rfl rfl]
    exact Steps.refl _
  · show Q23 Z r0 vb h0 n0 _ T1.heap _
    rw [e1]
    exact ⟨congrArg (fun z => some (Value.ref z)) (show vb = vb from rfl), N0, rfl⟩
theorem d25_0 : decode jdk_68_method_6_code 0 = .ok (.aload_n 0, 1) := by decide +kernel
theorem d25_1 : decode jdk_68_method_6_code 1 = .ok (.getfield 79, 3) := by decide +kernel
theorem d25_4 : decode jdk_68_method_6_code 4 = .ok (.ireturn, 1) := by decide +kernel
theorem pn_25 : plainName "java/lang/AbstractStringBuilder" = true := by first | (simp [plainName, overriddenIn]; done) | decide +kernel
theorem ef_25 (m : MethodId) (x0 : Addr) : entryFrame m #[(.ref x0)] 1 = mkF m 0 #[.val (.ref x0)] [] := by first | (simp [entryFrame, mkF, argsToLocals, Value.category]; done) | rfl
def Q25 (Z : State) (r0 : Addr) (cn : Int32) (h0 : Heap) (n0 : Nat) (v : Option Value) (h : Heap) (L : List Loc) : Prop := v = some (.int cn) ∧ Fr n0 L ∧ h = h0
set_option maxRecDepth 65536 in
set_option maxHeartbeats 40000000 in
theorem rm25 (l : Launch) (Z : State) (a0 : Array Value) (hw : ∀ d ∈ tables_1, d.before a0 Z = true) (ws : List Jvm.Cond) (r0 : Addr) (cn : Int32) (h0 : Heap) (n0 : Nat) (Z0 : n0 ≤ h0.size) (Bn : Fld Z h0 r0 "java/lang/AbstractStringBuilder" "count" "I" (.int cn)) :
    MetFree l yy_21 (head1 (Jvm.Cond.code yy_21 jdk_68_method_6_code 1 (some .int) :: ws) ({ frames := 0, cells := 0, slots := 0, locals := 0 } : Room)) (fun a U => a = #[(.ref r0)] ∧ Z.Warmed39 U.vm ∧ U.heap = h0) (fun _ _ _ _ _ => True) (fun _ U o U' => ∃ v L, o = .returned v ∧ Q25 Z r0 cn h0 n0 v U'.heap L ∧ FrameEnd U o U' L ({ frames := 0, cells := 0, slots := 0, locals := 0 } : Room).cells ({ frames := 0, cells := 0, slots := 0, locals := 0 } : Room).slots) := by
  refine MetFree.of_bodySF (plainFor_of_name pn_25) hisR ?_
  intro p e s m args below meth c s₁ Bd hml0 hP hK
  obtain ⟨rfl, hZ, hh⟩ := hP
  have hx := Bd.exec
  have hby := Bd.bytes
  have hml : c.maxLocals = 1 := hml0
  have hown : s.vm.findClass "java/lang/AbstractStringBuilder" = some m.cls := findClass_of_methodNamed Bd.named
  have hnm := (name_of_methodNamed Bd.named Bd.method).1
  have X0 : Stand p l e ({ frames := 0, cells := 0, slots := 0, locals := 0 } : Room) s m #[(.ref r0)] below meth c s₁ [] 0 0 := Stand.of_body Bd
  have e0 : s₁.heap = h0 := by rw [← hh, Bd.state]; rfl
  have N0 := Fr.nil n0
  have pre0 : ∀ t, Steps p.tables e below (s₁.setTop (mkF m 0 #[oa r0] [])) t → Steps p.tables e below (s₁.setTop (entryFrame m #[(.ref r0)] 1)) t := fun t k => castTop (ef_25 m r0) k
  have c2 : own_G p e below s₁ (mkF m 1 #[oa r0] [(.ref r0)]) (mkF m 0 #[oa r0] []) := by
    intro t kt
    show oS s₁ (mkF m 0 #[oa r0] []) _
    refine XS.aloadN X0.here hx rfl (hb hby d25_0) rfl rfl ?_
    exact kt
  obtain ⟨T1, X1, e1, st1⟩ := getF X0 hx hZ hown (host := "") (Or.inl (own_t hw 88 rfl)) Via.refl e0 Bn (g := (mkF m 1 #[oa r0] [(.ref r0)])) rfl rfl (hb hby d25_1)
  obtain ⟨fs, hr, hrun, hended, hW, hsame⟩ := X1.leave (v := some (.int cn)) (fun h => by rw [Bd.returns] at h; cases h)
  refine ⟨_, _, pre0 _ (c2 _ (st1 _ (?_))), hrun, hended, _, _, rfl, ?_, ⟨_, rfl⟩, hW, hsame.mono (by decide) (by decide)⟩
  · show Steps p.tables e below (T1.setTop (mkF m 4 #[oa r0] [(.int cn)])) _
    exact retI X1 hx Bd.returns (hb hby d25_4) hr
  · show Q25 Z r0 cn h0 n0 _ T1.heap _
    rw [e1]
    exact ⟨congrArg (fun z => some (Value.int z)) (show cn = cn from by rfl), N0, rfl⟩
theorem d24_0 : decode jdk_67_method_93_code 0 = .ok (.aload_n 0, 1) := by decide +kernel
theorem d24_1 : decode jdk_67_method_93_code 1 = .ok (.invokespecial 343, 3) := by decide +kernel
theorem d24_4 : decode jdk_67_method_93_code 4 = .ok (.ireturn, 1) := by decide +kernel
theorem pn_24 : plainName "java/lang/StringBuilder" = true := by first | (simp [plainName, overriddenIn]; done) | decide +kernel
theorem ef_24 (m : MethodId) (x0 : Addr) : entryFrame m #[(.ref x0)] 1 = mkF m 0 #[.val (.ref x0)] [] := by first | (simp [entryFrame, mkF, argsToLocals, Value.category]; done) | rfl
def Q24 (Z : State) (r0 : Addr) (cn : Int32) (h0 : Heap) (n0 : Nat) (v : Option Value) (h : Heap) (L : List Loc) : Prop := v = some (.int cn) ∧ Fr n0 L ∧ h = h0
set_option maxRecDepth 65536 in
set_option maxHeartbeats 40000000 in
theorem rm24 (l : Launch) (Z : State) (a0 : Array Value) (hw : ∀ d ∈ tables_1, d.before a0 Z = true) (ws : List Jvm.Cond) (r0 : Addr) (cn : Int32) (h0 : Heap) (n0 : Nat) (Z0 : n0 ≤ h0.size) (Bn : Fld Z h0 r0 "java/lang/AbstractStringBuilder" "count" "I" (.int cn)) (Eb : Exa Z h0 r0 "java/lang/StringBuilder") :
    MetFree l yy_22 (head1 (Jvm.Cond.code yy_22 jdk_67_method_93_code 1 (some .int) :: ws) ({ frames := 1, cells := 0, slots := 0, locals := 12 } : Room)) (fun a U => a = #[(.ref r0)] ∧ Z.Warmed39 U.vm ∧ U.heap = h0) (fun _ _ _ _ _ => True) (fun _ U o U' => ∃ v L, o = .returned v ∧ Q24 Z r0 cn h0 n0 v U'.heap L ∧ FrameEnd U o U' L ({ frames := 1, cells := 0, slots := 0, locals := 12 } : Room).cells ({ frames := 1, cells := 0, slots := 0, locals := 12 } : Room).slots) := by
  refine MetFree.of_bodySF (plainFor_of_name pn_24) hisR ?_
  intro p e s m args below meth c s₁ Bd hml0 hP hK
  obtain ⟨rfl, hZ, hh⟩ := hP
  have hx := Bd.exec
  have hby := Bd.bytes
  have hml : c.maxLocals = 1 := hml0
  have hown : s.vm.findClass "java/lang/StringBuilder" = some m.cls := findClass_of_methodNamed Bd.named
  have hnm := (name_of_methodNamed Bd.named Bd.method).1
  have X0 : Stand p l e ({ frames := 1, cells := 0, slots := 0, locals := 12 } : Room) s m #[(.ref r0)] below meth c s₁ [] 0 0 := Stand.of_body Bd
  have e0 : s₁.heap = h0 := by rw [← hh, Bd.state]; rfl
  have N0 := Fr.nil n0
  have pre0 : ∀ t, Steps p.tables e below (s₁.setTop (mkF m 0 #[oa r0] [])) t → Steps p.tables e below (s₁.setTop (entryFrame m #[(.ref r0)] 1)) t := fun t k => castTop (ef_24 m r0) k
  have c1 : own_G p e below s₁ (mkF m 1 #[oa r0] [(.ref r0)]) (mkF m 0 #[oa r0] []) := by
    intro t kt
    show oS s₁ (mkF m 0 #[oa r0] []) _
    refine XS.aloadN X0.here hx rfl (hb hby d24_0) rfl rfl ?_
    exact kt
  obtain ⟨_, _, ⟨T2, L2, k2, n2⟩, -, X2, ⟨Lc2, hQ2, l2, y2, z2⟩, st2⟩ := superBack X0 hx hZ (y := yy_21) hown (own_t hw 142 rfl) (own_sm (y := yy_21) (z := yy_12) (own_t hw 137 rfl) (own_t hw 93 rfl) rfl (by decide)) (own_t hw 138 rfl) (own_t hw 75 rfl) (by decide) (backOf (W := 0) (rm25 l Z a0 hw [] r0 cn h0 n0 Z0 Bn) hZ (own_t hw 143 rfl) (own_t hw 59 rfl) (by decide) (by decide)) e0 (Ins.self Eb) (g := (mkF m 1 #[oa r0] [(.ref r0)])) rfl (by rw [hml]; rfl) (own_t hw 143 rfl) (argsL := []) (rest := []) (lenOf pd_11 rfl) rfl (by show 2 * 0 + _ ≤ _; exact Nat.le_of_eq rfl) (hb hby d24_1) (fun _ _ => ⟨rfl, e0, (by decide : 0 + 0 ≤ _), (by decide : 0 + 0 ≤ _)⟩)
  dsimp only [Pt.U, Pt.locs, Pt.cells, Pt.slots] at X2 l2 y2 z2 st2 hQ2
  subst l2 y2 z2
  obtain ⟨rfl, N2q, e2⟩ := hQ2
  have N2 := Fr.app N0 N2q
  obtain ⟨fs, hr, hrun, hended, hW, hsame⟩ := X2.leave (v := some (.int cn)) (fun h => by rw [Bd.returns] at h; cases h)
  refine ⟨_, _, pre0 _ (c1 _ (st2.trans (?_))), hrun, hended, _, _, rfl, ?_, ⟨_, rfl⟩, hW, hsame.mono (by decide) (by decide)⟩
  · show Steps p.tables e below (T2.setTop (mkF m 4 #[oa r0] [(.int cn)])) _
    exact retI X2 hx Bd.returns (hb hby d24_4) hr
  · show Q24 Z r0 cn h0 n0 _ T2.heap _
    rw [e2]
    exact ⟨congrArg (fun z => some (Value.int z)) (show cn = cn from by rfl), N2, rfl⟩
theorem d26_0 : decode jdk_68_method_68_code 0 = .ok (.getstatic 18, 3) := by decide +kernel
theorem d26_3 : decode jdk_68_method_68_code 3 = .ok (.ifCond .eq 14, 3) := by decide +kernel
theorem d26_6 : decode jdk_68_method_68_code 6 = .ok (.aload_n 0, 1) := by decide +kernel
theorem d26_7 : decode jdk_68_method_68_code 7 = .ok (.getfield 22, 3) := by decide +kernel
theorem d26_10 : decode jdk_68_method_68_code 10 = .ok (.ifCond .ne 7, 3) := by decide +kernel
theorem d26_13 : decode jdk_68_method_68_code 13 = .ok (.iconst 1, 1) := by decide +kernel
theorem d26_14 : decode jdk_68_method_68_code 14 = .ok (.goto 4, 3) := by decide +kernel
theorem d26_18 : decode jdk_68_method_68_code 18 = .ok (.ireturn, 1) := by decide +kernel
theorem pn_26 : plainName "java/lang/AbstractStringBuilder" = true := by first | (simp [plainName, overriddenIn]; done) | decide +kernel
theorem ef_26 (m : MethodId) (x0 : Addr) : entryFrame m #[(.ref x0)] 1 = mkF m 0 #[.val (.ref x0)] [] := by first | (simp [entryFrame, mkF, argsToLocals, Value.category]; done) | rfl
def Q26 (Z : State) (r0 : Addr) (cs : Int32) (h0 : Heap) (n0 : Nat) (v : Option Value) (h : Heap) (L : List Loc) : Prop := v = some (.int (1 : Int32)) ∧ Fr n0 L ∧ h = h0
set_option maxRecDepth 65536 in
set_option maxHeartbeats 40000000 in
theorem rm26 (l : Launch) (Z : State) (a0 : Array Value) (hw : ∀ d ∈ tables_1, d.before a0 Z = true) (ws : List Jvm.Cond) (r0 : Addr) (cs : Int32) (h0 : Heap) (n0 : Nat) (Z0 : n0 ≤ h0.size) (Bc : Fld Z h0 r0 "java/lang/AbstractStringBuilder" "coder" "B" (.int (0 : Int32))) (SC : Sta Z h0 "java/lang/String" "COMPACT_STRINGS" "Z" (.int cs)) (hcs : ¬ cs = (0 : Int32)) :
    MetFree l yy_23 (head1 (Jvm.Cond.code yy_23 jdk_68_method_68_code 1 (some .boolean) :: ws) ({ frames := 0, cells := 0, slots := 0, locals := 0 } : Room)) (fun a U => a = #[(.ref r0)] ∧ Z.Warmed39 U.vm ∧ U.heap = h0) (fun _ _ _ _ _ => True) (fun _ U o U' => ∃ v L, o = .returned v ∧ Q26 Z r0 cs h0 n0 v U'.heap L ∧ FrameEnd U o U' L ({ frames := 0, cells := 0, slots := 0, locals := 0 } : Room).cells ({ frames := 0, cells := 0, slots := 0, locals := 0 } : Room).slots) := by
  refine MetFree.of_bodySF (plainFor_of_name pn_26) hisR ?_
  intro p e s m args below meth c s₁ Bd hml0 hP hK
  obtain ⟨rfl, hZ, hh⟩ := hP
  have hx := Bd.exec
  have hby := Bd.bytes
  have hml : c.maxLocals = 1 := hml0
  have hown : s.vm.findClass "java/lang/AbstractStringBuilder" = some m.cls := findClass_of_methodNamed Bd.named
  have hnm := (name_of_methodNamed Bd.named Bd.method).1
  have X0 : Stand p l e ({ frames := 0, cells := 0, slots := 0, locals := 0 } : Room) s m #[(.ref r0)] below meth c s₁ [] 0 0 := Stand.of_body Bd
  have e0 : s₁.heap = h0 := by rw [← hh, Bd.state]; rfl
  have N0 := Fr.nil n0
  have pre0 : ∀ t, Steps p.tables e below (s₁.setTop (mkF m 0 #[oa r0] [])) t → Steps p.tables e below (s₁.setTop (entryFrame m #[(.ref r0)] 1)) t := fun t k => castTop (ef_26 m r0) k
  obtain ⟨T1, X1, e1, st1⟩ := getS2 X0 hx hZ hown (host := "") (Or.inl (own_t hw 62 rfl)) Via.refl e0 SC (g := (mkF m 0 #[oa r0] [])) rfl (hb hby d26_0)
  have hd2 : ¬ (cs = (0 : Int32)) := hcs
  have c4 : own_G p e below T1 (mkF m 7 #[oa r0] [(.ref r0)]) (mkF m 3 #[oa r0] [(.int cs)]) := by
    intro t kt
    show oS T1 (mkF m 3 #[oa r0] [(.int cs)]) _
    refine XS.ifNo X1.here hx rfl (hb hby d26_3) rfl ((if0 _ _).trans (feq hd2).1) ?_
    show oS T1 (mkF m 6 #[oa r0] []) _
    refine XS.aloadN X1.here hx rfl (hb hby d26_6) rfl rfl ?_
    exact kt
  obtain ⟨T3, X3, e3, st3⟩ := getF X1 hx hZ hown (host := "") (Or.inl (own_t hw 65 rfl)) Via.refl e1 Bc (g := (mkF m 7 #[oa r0] [(.ref r0)])) rfl rfl (hb hby d26_7)
  have c5 : own_G p e below T3 (mkF m 18 #[oa r0] [(.int (1 : Int32))]) (mkF m 10 #[oa r0] [(.int (0 : Int32))]) := by
    intro t kt
    show oS T3 (mkF m 10 #[oa r0] [(.int (0 : Int32))]) _
    refine XS.ifNo X3.here hx rfl (hb hby d26_10) rfl ((if0 _ _).trans (teq (by decide : (0 : Int32) = (0 : Int32))).2) ?_
    show oS T3 (mkF m 13 #[oa r0] []) _
    refine XS.iconst X3.here hx rfl (hb hby d26_13) ?_
    show oS T3 (mkF m 14 #[oa r0] [(.int (1 : Int32))]) _
    refine XS.goto X3.here hx rfl (pc0 := 14) (pc' := 18) rfl (hb hby d26_14) (by decide) (by decide) ?_
    exact kt
  obtain ⟨fs, hr, hrun, hended, hW, hsame⟩ := X3.leave (v := some (.int (1 : Int32))) (fun h => by rw [Bd.returns] at h; cases h)
  refine ⟨_, _, pre0 _ (st1 _ (c4 _ (st3 _ (c5 _ (?_))))), hrun, hended, _, _, rfl, ?_, ⟨_, rfl⟩, hW, hsame.mono (by decide) (by decide)⟩
  · show Steps p.tables e below (T3.setTop (mkF m 18 #[oa r0] [(.int (1 : Int32))])) _
    exact retN X3 hx (t := .boolean) Bd.returns (by simp) (hb hby d26_18) hr
  · show Q26 Z r0 cs h0 n0 _ T3.heap _
    rw [e3]
    exact ⟨congrArg (fun z => some (Value.int z)) (show (1 : Int32) = (1 : Int32) from by rfl), N0, rfl⟩
theorem d29_0 : decode jdk_65_method_131_code 0 = .ok (.iload_n 1, 1) := by decide +kernel
theorem d29_1 : decode jdk_65_method_131_code 1 = .ok (.iload_n 0, 1) := by decide +kernel
theorem d29_2 : decode jdk_65_method_131_code 2 = .ok (.if_icmp .ge 35, 3) := by decide +kernel
theorem d29_37 : decode jdk_65_method_131_code 37 = .ok (.return_, 1) := by decide +kernel
theorem pn_29 : plainName "java/util/Arrays" = true := by first | (simp [plainName, overriddenIn]; done) | decide +kernel
theorem ef_29 (m : MethodId) (x0 : Int32) (x1 : Int32) : entryFrame m #[(.int x0), (.int x1)] 2 = mkF m 0 #[.val (.int x0), .val (.int x1)] [] := by first | (simp [entryFrame, mkF, argsToLocals, Value.category]; done) | rfl
def Q29 (Z : State) (p0 : Int32) (p1 : Int32) (h0 : Heap) (n0 : Nat) (v : Option Value) (h : Heap) (L : List Loc) : Prop := v = none ∧ Fr n0 L ∧ h = h0
set_option maxRecDepth 65536 in
set_option maxHeartbeats 40000000 in
theorem rm29 (l : Launch) (Z : State) (a0 : Array Value) (hw : ∀ d ∈ tables_1, d.before a0 Z = true) (ws : List Jvm.Cond) (p0 : Int32) (p1 : Int32)  (h0 : Heap) (n0 : Nat) (Z0 : n0 ≤ h0.size) (hp : ¬ p1 < p0) :
    MetFree l yy_24 (head1 (Jvm.Cond.code yy_24 jdk_65_method_131_code 2 none :: ws) ({ frames := 0, cells := 0, slots := 0, locals := 0 } : Room)) (fun a U => a = #[(.int p0), (.int p1)] ∧ Z.Warmed39 U.vm ∧ U.heap = h0) (fun _ _ _ _ _ => True) (fun _ U o U' => ∃ v L, o = .returned v ∧ Q29 Z p0 p1 h0 n0 v U'.heap L ∧ FrameEnd U o U' L ({ frames := 0, cells := 0, slots := 0, locals := 0 } : Room).cells ({ frames := 0, cells := 0, slots := 0, locals := 0 } : Room).slots) := by
  refine MetFree.of_bodySF (plainFor_of_name pn_29) hisR ?_
  intro p e s m args below meth c s₁ Bd hml0 hP hK
  obtain ⟨rfl, hZ, hh⟩ := hP
  have hx := Bd.exec
  have hby := Bd.bytes
  have hml : c.maxLocals = 2 := hml0
  have hown : s.vm.findClass "java/util/Arrays" = some m.cls := findClass_of_methodNamed Bd.named
  have hnm := (name_of_methodNamed Bd.named Bd.method).1
  have X0 : Stand p l e ({ frames := 0, cells := 0, slots := 0, locals := 0 } : Room) s m #[(.int p0), (.int p1)] below meth c s₁ [] 0 0 := Stand.of_body Bd
  have e0 : s₁.heap = h0 := by rw [← hh, Bd.state]; rfl
  have N0 := Fr.nil n0
  have pre0 : ∀ t, Steps p.tables e below (s₁.setTop (mkF m 0 #[oi p0, oi p1] [])) t → Steps p.tables e below (s₁.setTop (entryFrame m #[(.int p0), (.int p1)] 2)) t := fun t k => castTop (ef_29 m p0 p1) k
  have c2 : own_G p e below s₁ (mkF m 2 #[oi p0, oi p1] [(.int p0), (.int p1)]) (mkF m 0 #[oi p0, oi p1] []) := by
    intro t kt
    show oS s₁ (mkF m 0 #[oi p0, oi p1] []) _
    refine XS.iloadN X0.here hx rfl (hb hby d29_0) rfl ?_
    show oS s₁ (mkF m 1 #[oi p0, oi p1] [(.int p1)]) _
    refine XS.iloadN X0.here hx rfl (hb hby d29_1) rfl ?_
    exact kt
  have hd1 : ¬ (p1 < p0) := hp
  have c3 : own_G p e below s₁ (mkF m 37 #[oi p0, oi p1] []) (mkF m 2 #[oi p0, oi p1] [(.int p0), (.int p1)]) := by
    intro t kt
    show oS s₁ (mkF m 2 #[oi p0, oi p1] [(.int p0), (.int p1)]) _
    refine XS.icmpYes X0.here hx rfl (pc0 := 2) (pc' := 37) rfl (hb hby d29_2) rfl (flt hd1).2.1 (by decide) (by decide) ?_
    exact kt
  obtain ⟨fs, hr, hrun, hended, hW, hsame⟩ := X0.leave (v := none) (fun _ => rfl)
  refine ⟨_, _, pre0 _ (c2 _ (c3 _ (?_))), hrun, hended, _, _, rfl, ?_, ⟨_, rfl⟩, hW, hsame.mono (by decide) (by decide)⟩
  · show Steps p.tables e below (s₁.setTop (mkF m 37 #[oi p0, oi p1] [])) _
    exact X0.returnOut hx Bd.returns (hb hby d29_37) hr
  · show Q29 Z p0 p1 h0 n0 _ s₁.heap _
    rw [e0]
    exact ⟨rfl, N0, rfl⟩
theorem d28_0 : decode jdk_65_method_133_code 0 = .ok (.iload_n 1, 1) := by decide +kernel
theorem d28_1 : decode jdk_65_method_133_code 1 = .ok (.iload_n 2, 1) := by decide +kernel
theorem d28_2 : decode jdk_65_method_133_code 2 = .ok (.invokestatic 343, 3) := by decide +kernel
theorem d28_5 : decode jdk_65_method_133_code 5 = .ok (.iload_n 2, 1) := by decide +kernel
theorem d28_6 : decode jdk_65_method_133_code 6 = .ok (.iload_n 1, 1) := by decide +kernel
theorem d28_7 : decode jdk_65_method_133_code 7 = .ok (.isub, 1) := by decide +kernel
theorem d28_8 : decode jdk_65_method_133_code 8 = .ok (.istore_n 3, 1) := by decide +kernel
theorem d28_9 : decode jdk_65_method_133_code 9 = .ok (.iload_n 3, 1) := by decide +kernel
theorem d28_10 : decode jdk_65_method_133_code 10 = .ok (.newarray .byte, 2) := by decide +kernel
theorem d28_12 : decode jdk_65_method_133_code 12 = .ok (.astore 4, 2) := by decide +kernel
theorem d28_14 : decode jdk_65_method_133_code 14 = .ok (.aload_n 0, 1) := by decide +kernel
theorem d28_15 : decode jdk_65_method_133_code 15 = .ok (.iload_n 1, 1) := by decide +kernel
theorem d28_16 : decode jdk_65_method_133_code 16 = .ok (.aload 4, 2) := by decide +kernel
theorem d28_18 : decode jdk_65_method_133_code 18 = .ok (.iconst 0, 1) := by decide +kernel
theorem d28_19 : decode jdk_65_method_133_code 19 = .ok (.aload_n 0, 1) := by decide +kernel
theorem d28_20 : decode jdk_65_method_133_code 20 = .ok (.arraylength, 1) := by decide +kernel
theorem d28_21 : decode jdk_65_method_133_code 21 = .ok (.iload_n 1, 1) := by decide +kernel
theorem d28_22 : decode jdk_65_method_133_code 22 = .ok (.isub, 1) := by decide +kernel
theorem d28_23 : decode jdk_65_method_133_code 23 = .ok (.iload_n 3, 1) := by decide +kernel
theorem d28_24 : decode jdk_65_method_133_code 24 = .ok (.invokestatic 304, 3) := by decide +kernel
theorem d28_27 : decode jdk_65_method_133_code 27 = .ok (.invokestatic 150, 3) := by decide +kernel
theorem d28_30 : decode jdk_65_method_133_code 30 = .ok (.aload 4, 2) := by decide +kernel
theorem d28_32 : decode jdk_65_method_133_code 32 = .ok (.areturn, 1) := by decide +kernel
theorem pn_28 : plainName "java/util/Arrays" = true := by first | (simp [plainName, overriddenIn]; done) | decide +kernel
theorem ef_28 (m : MethodId) (x0 : Addr) (x1 : Int32) (x2 : Int32) : entryFrame m #[(.ref x0), (.int x1), (.int x2)] 5 = mkF m 0 #[.val (.ref x0), .val (.int x1), .val (.int x2), .unset, .unset] [] := by first | (simp [entryFrame, mkF, argsToLocals, Value.category]; done) | rfl
def Q28 (Z : State) (r0 : Addr) (kv : ClassId) (z : Int32) (bs : List Int32) (h0 : Heap) (n0 : Nat) (v : Option Value) (h : Heap) (L : List Loc) : Prop := ∃ ra kx, v = some (.ref ra) ∧ Fr n0 L ∧ Keep h0 h [] ∧ h0.size ≤ ra ∧ n0 ≤ ra ∧ Arv Z h ra kx .byte (Int32.ofNat bs.length) ((bs.map (fun c => c.toInt8.toInt32)).map Value.int) (.int 0)
set_option maxRecDepth 65536 in
set_option maxHeartbeats 40000000 in
theorem rm28 (l : Launch) (Z : State) (a0 : Array Value) (hw : ∀ d ∈ tables_1, d.before a0 Z = true) (ws : List Jvm.Cond) (r0 : Addr) (kv : ClassId) (z : Int32) (bs : List Int32) (h0 : Heap) (n0 : Nat) (Z0 : n0 ≤ h0.size) (Bb : Arv Z h0 r0 kv .byte z ((bs.map (fun c => c.toInt8.toInt32)).map Value.int) (.int 0)) (hbl : bs.length ≤ z.toNatClampNeg) (hl34 : bs.length ≤ 34) :
    MetFree l yy_25 (head1 (Jvm.Cond.code yy_25 jdk_65_method_133_code 5 (some (.array .byte)) :: ws) ({ frames := 1, cells := 1, slots := 34, locals := 64 } : Room)) (fun a U => a = #[(.ref r0), (.int (0 : Int32)), (.int (Int32.ofNat bs.length))] ∧ Z.Warmed39 U.vm ∧ U.heap = h0) (fun _ _ _ _ _ => True) (fun _ U o U' => ∃ v L, o = .returned v ∧ Q28 Z r0 kv z bs h0 n0 v U'.heap L ∧ FrameEnd U o U' L ({ frames := 1, cells := 1, slots := 34, locals := 64 } : Room).cells ({ frames := 1, cells := 1, slots := 34, locals := 64 } : Room).slots) := by
  refine MetFree.of_bodySF (plainFor_of_name pn_28) hisR ?_
  intro p e s m args below meth c s₁ Bd hml0 hP hK
  obtain ⟨rfl, hZ, hh⟩ := hP
  have hx := Bd.exec
  have hby := Bd.bytes
  have hml : c.maxLocals = 5 := hml0
  have hown : s.vm.findClass "java/util/Arrays" = some m.cls := findClass_of_methodNamed Bd.named
  have hnm := (name_of_methodNamed Bd.named Bd.method).1
  have X0 : Stand p l e ({ frames := 1, cells := 1, slots := 34, locals := 64 } : Room) s m #[(.ref r0), (.int (0 : Int32)), (.int (Int32.ofNat bs.length))] below meth c s₁ [] 0 0 := Stand.of_body Bd
  have e0 : s₁.heap = h0 := by rw [← hh, Bd.state]; rfl
  have N0 := Fr.nil n0
  have pre0 : ∀ t, Steps p.tables e below (s₁.setTop (mkF m 0 #[oa r0, oi 0, oi (Int32.ofNat bs.length), .unset, .unset] [])) t → Steps p.tables e below (s₁.setTop (entryFrame m #[(.ref r0), (.int (0 : Int32)), (.int (Int32.ofNat bs.length))] 5)) t := fun t k => castTop (ef_28 m r0 (0 : Int32) (Int32.ofNat bs.length)) k
  have c1 : own_G p e below s₁ (mkF m 2 #[oa r0, oi 0, oi (Int32.ofNat bs.length), .unset, .unset] [(.int (Int32.ofNat bs.length)), (.int (0 : Int32))]) (mkF m 0 #[oa r0, oi 0, oi (Int32.ofNat bs.length), .unset, .unset] []) := by
    intro t kt
    show oS s₁ (mkF m 0 #[oa r0, oi 0, oi (Int32.ofNat bs.length), .unset, .unset] []) _
    refine XS.iloadN X0.here hx rfl (hb hby d28_0) rfl ?_
    show oS s₁ (mkF m 1 #[oa r0, oi 0, oi (Int32.ofNat bs.length), .unset, .unset] [(.int (0 : Int32))]) _
    refine XS.iloadN X0.here hx rfl (hb hby d28_1) rfl ?_
    exact kt
  obtain ⟨_, _, ⟨T2, L2, k2, n2⟩, -, X2, ⟨Lc2, hQ2, l2, y2, z2⟩, st2⟩ := Jvm.LawKit.callS X0 hx (y := yy_24) hown (mvT hZ (own_t hw 156 rfl)) (mvT hZ (own_t hw 157 rfl)) (mvT hZ (own_t hw 151 rfl)) (mvT hZ (own_t hw 158 rfl)) (by decide) (backOf (W := 0) (rm29 l Z a0 hw [] (0 : Int32) (Int32.ofNat bs.length)  h0 n0 Z0 (own_nn _ (by omega))) hZ (own_t hw 158 rfl) (own_t hw 151 rfl) (by decide) (by decide)) (g := (mkF m 2 #[oa r0, oi 0, oi (Int32.ofNat bs.length), .unset, .unset] [(.int (Int32.ofNat bs.length)), (.int (0 : Int32))])) rfl (by rw [hml]; rfl) (argsL := [(.int (0 : Int32)), (.int (Int32.ofNat bs.length))]) (rest := []) (lenOf pd_1 rfl) rfl (by show 2 * 0 + _ ≤ _; exact Nat.le_of_eq rfl) (hb hby d28_2) (fun _ _ => ⟨rfl, e0, (by decide : 0 + 0 ≤ _), (by decide : 0 + 0 ≤ _)⟩)
  dsimp only [Pt.U, Pt.locs, Pt.cells, Pt.slots] at X2 l2 y2 z2 st2 hQ2
  subst l2 y2 z2
  obtain ⟨rfl, N2q, e2⟩ := hQ2
  have N2 := Fr.app N0 N2q
  have c3 : own_G p e below T2 (mkF m 8 #[oa r0, oi 0, oi (Int32.ofNat bs.length), .unset, .unset] [(.int ((Int32.ofNat bs.length) - (0 : Int32)))]) (mkF m 5 #[oa r0, oi 0, oi (Int32.ofNat bs.length), .unset, .unset] []) := by
    intro t kt
    show oS T2 (mkF m 5 #[oa r0, oi 0, oi (Int32.ofNat bs.length), .unset, .unset] []) _
    refine XS.iloadN X2.here hx rfl (hb hby d28_5) rfl ?_
    show oS T2 (mkF m 6 #[oa r0, oi 0, oi (Int32.ofNat bs.length), .unset, .unset] [(.int (Int32.ofNat bs.length))]) _
    refine XS.iloadN X2.here hx rfl (hb hby d28_6) rfl ?_
    show oS T2 (mkF m 7 #[oa r0, oi 0, oi (Int32.ofNat bs.length), .unset, .unset] [(.int (0 : Int32)), (.int (Int32.ofNat bs.length))]) _
    refine XS.isub X2.here hx rfl (hb hby d28_7) rfl ?_
    exact kt
  have c4 : own_G p e below T2 (mkF m 8 #[oa r0, oi 0, oi (Int32.ofNat bs.length), .unset, .unset] [(.int (Int32.ofNat bs.length))]) (mkF m 8 #[oa r0, oi 0, oi (Int32.ofNat bs.length), .unset, .unset] [(.int ((Int32.ofNat bs.length) - (0 : Int32)))]) := fun t kt => castTop (congrArg (fun zv => (mkF m 8 #[oa r0, oi 0, oi (Int32.ofNat bs.length), .unset, .unset] [(.int zv)])) (show ((Int32.ofNat bs.length) - (0 : Int32)) = (Int32.ofNat bs.length) from own_sub0 _)) kt
  have c6 : own_G p e below T2 (mkF m 10 #[oa r0, oi 0, oi (Int32.ofNat bs.length), oi (Int32.ofNat bs.length), .unset] [(.int (Int32.ofNat bs.length))]) (mkF m 8 #[oa r0, oi 0, oi (Int32.ofNat bs.length), .unset, .unset] [(.int (Int32.ofNat bs.length))]) := by
    intro t kt
    show oS T2 (mkF m 8 #[oa r0, oi 0, oi (Int32.ofNat bs.length), .unset, .unset] [(.int (Int32.ofNat bs.length))]) _
    refine XS.istoreN X2.here hx rfl (hb hby d28_8) rfl (l' := #[oa r0, oi 0, oi (Int32.ofNat bs.length), oi (Int32.ofNat bs.length), .unset]) rfl ?_
    show oS T2 (mkF m 9 #[oa r0, oi 0, oi (Int32.ofNat bs.length), oi (Int32.ofNat bs.length), .unset] []) _
    refine XS.iloadN X2.here hx rfl (hb hby d28_9) rfl ?_
    exact kt
  obtain ⟨T5, h5, k5, X5, e5, E5, A5, st5⟩ := newP X2 hx hZ (own_t hw 21 rfl) e2 (g := (mkF m 10 #[oa r0, oi 0, oi (Int32.ofNat bs.length), oi (Int32.ofNat bs.length), .unset] [(.int (Int32.ofNat bs.length))])) rfl (hb hby d28_10) rfl (own_nn _ (by omega)) (cap := 34) (by rw [own_clamp _ (by omega)]; exact hl34) (by decide) (by decide) (by decide)
  obtain ⟨b5, g5⟩ : ∃ z, z = h0.size := ⟨_, rfl⟩
  rw [← g5] at A5 st5
  have g_b5 : n0 ≤ b5 := Nat.le_trans Z0 (Nat.le_of_eq g5.symm)
  have sz_b5 : h0.size ≤ b5 := Nat.le_trans (Keep.refl h0 []).1 (Nat.le_of_eq g5.symm)
  have lt_r0_5 := Bb.lt
  have V5 : Arv Z h5 b5 k5 .byte (Int32.ofNat bs.length) [] (.int (0 : Int32)) := Arv.new A5 (own_nn _ (by omega))
  have VP7 : Arv Z h5 b5 k5 .byte (Int32.ofNat bs.length) (List.replicate bs.length (Value.int 0)) (.int 0) := Arv.pad V5 (pad_rep [] (.int 0) bs.length)
  have f8 := (Bb.ext E5)
  have Vc9 := f8
  obtain ⟨cl9, Ar9, qk9, S9, M9, H9, G9⟩ := Vc9
  have c10 : own_G p e below T5 (mkF m 24 #[oa r0, oi 0, oi (Int32.ofNat bs.length), oi (Int32.ofNat bs.length), oa b5] [(.int (Int32.ofNat bs.length)), (.int (z - (0 : Int32))), (.int (0 : Int32)), (.ref b5), (.int (0 : Int32)), (.ref r0)]) (mkF m 12 #[oa r0, oi 0, oi (Int32.ofNat bs.length), oi (Int32.ofNat bs.length), .unset] [(.ref b5)]) := by
    intro t kt
    show oS T5 (mkF m 12 #[oa r0, oi 0, oi (Int32.ofNat bs.length), oi (Int32.ofNat bs.length), .unset] [(.ref b5)]) _
    refine XS.astore X5.here hx rfl (hb hby d28_12) rfl rfl (l' := #[oa r0, oi 0, oi (Int32.ofNat bs.length), oi (Int32.ofNat bs.length), oa b5]) rfl ?_
    show oS T5 (mkF m 14 #[oa r0, oi 0, oi (Int32.ofNat bs.length), oi (Int32.ofNat bs.length), oa b5] []) _
    refine XS.aloadN X5.here hx rfl (hb hby d28_14) rfl rfl ?_
    show oS T5 (mkF m 15 #[oa r0, oi 0, oi (Int32.ofNat bs.length), oi (Int32.ofNat bs.length), oa b5] [(.ref r0)]) _
    refine XS.iloadN X5.here hx rfl (hb hby d28_15) rfl ?_
    show oS T5 (mkF m 16 #[oa r0, oi 0, oi (Int32.ofNat bs.length), oi (Int32.ofNat bs.length), oa b5] [(.int (0 : Int32)), (.ref r0)]) _
    refine XS.aload X5.here hx rfl (hb hby d28_16) rfl rfl ?_
    show oS T5 (mkF m 18 #[oa r0, oi 0, oi (Int32.ofNat bs.length), oi (Int32.ofNat bs.length), oa b5] [(.ref b5), (.int (0 : Int32)), (.ref r0)]) _
    refine XS.iconst X5.here hx rfl (hb hby d28_18) ?_
    show oS T5 (mkF m 19 #[oa r0, oi 0, oi (Int32.ofNat bs.length), oi (Int32.ofNat bs.length), oa b5] [(.int (0 : Int32)), (.ref b5), (.int (0 : Int32)), (.ref r0)]) _
    refine XS.aloadN X5.here hx rfl (hb hby d28_19) rfl rfl ?_
    show oS T5 (mkF m 20 #[oa r0, oi 0, oi (Int32.ofNat bs.length), oi (Int32.ofNat bs.length), oa b5] [(.ref r0), (.int (0 : Int32)), (.ref b5), (.int (0 : Int32)), (.ref r0)]) _
    refine X5.arraylength hx (by rw [e5]; exact Ar9.1) (State.isArrayOf_alike hZ.alike Ar9.2.1) (g := (mkF m 20 #[oa r0, oi 0, oi (Int32.ofNat bs.length), oi (Int32.ofNat bs.length), oa b5] [(.ref r0), (.int (0 : Int32)), (.ref b5), (.int (0 : Int32)), (.ref r0)])) rfl rfl (hb hby d28_20) _ ?_
    rw [len_of S9 M9]
    show oS T5 (mkF m 21 #[oa r0, oi 0, oi (Int32.ofNat bs.length), oi (Int32.ofNat bs.length), oa b5] [(.int z), (.int (0 : Int32)), (.ref b5), (.int (0 : Int32)), (.ref r0)]) _
    refine XS.iloadN X5.here hx rfl (hb hby d28_21) rfl ?_
    show oS T5 (mkF m 22 #[oa r0, oi 0, oi (Int32.ofNat bs.length), oi (Int32.ofNat bs.length), oa b5] [(.int (0 : Int32)), (.int z), (.int (0 : Int32)), (.ref b5), (.int (0 : Int32)), (.ref r0)]) _
    refine XS.isub X5.here hx rfl (hb hby d28_22) rfl ?_
    show oS T5 (mkF m 23 #[oa r0, oi 0, oi (Int32.ofNat bs.length), oi (Int32.ofNat bs.length), oa b5] [(.int (z - (0 : Int32))), (.int (0 : Int32)), (.ref b5), (.int (0 : Int32)), (.ref r0)]) _
    refine XS.iloadN X5.here hx rfl (hb hby d28_23) rfl ?_
    exact kt
  have c11 : own_G p e below T5 (mkF m 24 #[oa r0, oi 0, oi (Int32.ofNat bs.length), oi (Int32.ofNat bs.length), oa b5] [(.int (Int32.ofNat bs.length)), (.int z), (.int (0 : Int32)), (.ref b5), (.int (0 : Int32)), (.ref r0)]) (mkF m 24 #[oa r0, oi 0, oi (Int32.ofNat bs.length), oi (Int32.ofNat bs.length), oa b5] [(.int (Int32.ofNat bs.length)), (.int (z - (0 : Int32))), (.int (0 : Int32)), (.ref b5), (.int (0 : Int32)), (.ref r0)]) := fun t kt => castTop (congrArg (fun zv => (mkF m 24 #[oa r0, oi 0, oi (Int32.ofNat bs.length), oi (Int32.ofNat bs.length), oa b5] [(.int (Int32.ofNat bs.length)), (.int zv), (.int (0 : Int32)), (.ref b5), (.int (0 : Int32)), (.ref r0)])) (show (z - (0 : Int32)) = z from own_sub0 _)) kt
  have f12 := (Nat.le_trans Z0 E5.1)
  obtain ⟨_, _, ⟨T13, L13, k13, n13⟩, -, X13, ⟨Lc13, hQ13, l13, y13, z13⟩, st13⟩ := Jvm.LawKit.callS X5 hx (y := yy_7) hown (mvT hZ (own_t hw 159 rfl)) (mvT hZ (own_t hw 160 rfl)) (mvT hZ (own_t hw 161 rfl)) (mvT hZ (own_t hw 162 rfl)) (by decide) (backOf (W := 4) (rm30 l Z a0 hw [] z (Int32.ofNat bs.length)  h5 n0 f12 ) hZ (own_t hw 162 rfl) (own_t hw 161 rfl) (by decide) (by decide)) (g := (mkF m 24 #[oa r0, oi 0, oi (Int32.ofNat bs.length), oi (Int32.ofNat bs.length), oa b5] [(.int (Int32.ofNat bs.length)), (.int z), (.int (0 : Int32)), (.ref b5), (.int (0 : Int32)), (.ref r0)])) rfl (by rw [hml]; rfl) (argsL := [(.int z), (.int (Int32.ofNat bs.length))]) (rest := [(.int (0 : Int32)), (.ref b5), (.int (0 : Int32)), (.ref r0)]) (lenOf pd_5 rfl) rfl (by show 2 * 0 + _ ≤ _; exact Nat.le_of_eq rfl) (hb hby d28_24) (fun _ _ => ⟨rfl, e5, (by decide : 1 + 0 ≤ _), (by decide : 34 + 0 ≤ _)⟩)
  dsimp only [Pt.U, Pt.locs, Pt.cells, Pt.slots] at X13 l13 y13 z13 st13 hQ13
  subst l13 y13 z13
  obtain ⟨rfl, N13q, e13⟩ := hQ13
  have N13 := Fr.app N2 N13q
  have Vc14 := f8
  obtain ⟨cl14, Ar14, qk14, S14, M14, H14, G14⟩ := Vc14
  have c15 : own_G p e below T13 (mkF m 27 #[oa r0, oi 0, oi (Int32.ofNat bs.length), oi (Int32.ofNat bs.length), oa b5] [(.int (Int32.ofNat bs.length)), (.int (0 : Int32)), (.ref b5), (.int (0 : Int32)), (.ref r0)]) (mkF m 27 #[oa r0, oi 0, oi (Int32.ofNat bs.length), oi (Int32.ofNat bs.length), oa b5] [(.int (own_min z (Int32.ofNat bs.length))), (.int (0 : Int32)), (.ref b5), (.int (0 : Int32)), (.ref r0)]) := fun t kt => castTop (congrArg (fun zv => (mkF m 27 #[oa r0, oi 0, oi (Int32.ofNat bs.length), oi (Int32.ofNat bs.length), oa b5] [(.int zv), (.int (0 : Int32)), (.ref b5), (.int (0 : Int32)), (.ref r0)])) (show (own_min z (Int32.ofNat bs.length)) = (Int32.ofNat bs.length) from own_minr z bs.length (by omega) hbl M14)) kt
  obtain ⟨T16, h16, L16, X16, e16, N16, K16, V16, st16⟩ := cpA X13 hx hZ hown (own_t hw 163 rfl) (own_t hw 114 rfl) (own_t hw 112 rfl) (own_t hw 113 rfl) e13 (sp := (0 : Int32)) (dp := (0 : Int32)) (nn := (Int32.ofNat bs.length)) (us := ((List.range (Int32.ofNat bs.length).toNatClampNeg).map fun i => ((bs.map (fun c => c.toInt8.toInt32)).map Value.int).getD ((0 : Int32).toNatClampNeg + i) (.int 0))) f8 VP7 (Or.inl ⟨rfl, rfl⟩) (by decide) (by decide) (own_nn _ (by omega)) (by rw [own_clamp _ (by omega)]; show 0 + _ ≤ _; omega) (by show 0 + _ ≤ _; omega) rfl (by rw [own_clamp _ (by omega)]; show 0 + _ ≤ _; simp) N13 g_b5 (g := (mkF m 27 #[oa r0, oi 0, oi (Int32.ofNat bs.length), oi (Int32.ofNat bs.length), oa b5] [(.int (Int32.ofNat bs.length)), (.int (0 : Int32)), (.ref b5), (.int (0 : Int32)), (.ref r0)])) rfl (by rw [hml]; rfl) (rest := []) rfl (hb hby d28_27) (by decide) (W := 0) (by show 2 * 0 + _ ≤ _; exact Nat.le_of_eq rfl) (by decide)
  have V16x : Arv Z h16 b5 k5 .byte (Int32.ofNat bs.length) ((bs.map (fun c => c.toInt8.toInt32)).map Value.int) (.int 0) := (own_crb bs (by omega) ▸ V16)
  have c17 : own_G p e below T16 (mkF m 32 #[oa r0, oi 0, oi (Int32.ofNat bs.length), oi (Int32.ofNat bs.length), oa b5] [(.ref b5)]) (mkF m 30 #[oa r0, oi 0, oi (Int32.ofNat bs.length), oi (Int32.ofNat bs.length), oa b5] []) := by
    intro t kt
    show oS T16 (mkF m 30 #[oa r0, oi 0, oi (Int32.ofNat bs.length), oi (Int32.ofNat bs.length), oa b5] []) _
    refine XS.aload X16.here hx rfl (hb hby d28_30) rfl rfl ?_
    exact kt
  obtain ⟨fs, hr, hrun, hended, hW, hsame⟩ := X16.leave (v := some (.ref b5)) (fun h => by rw [Bd.returns] at h; cases h)
  have f19 := (((Keep.refl h0 []).ext E5).trans K16 (allS (Or.inr sz_b5) all0))
  refine ⟨_, _, pre0 _ (c1 _ (st2 _ (c3 _ (c4 _ (c6 _ (st5 _ (c10 _ (c11 _ (st13 _ (c15 _ (st16 _ (c17 _ (?_))))))))))))), hrun, hended, _, _, rfl, ?_, ⟨_, rfl⟩, hW, hsame.mono (by decide) (by decide)⟩
  · show Steps p.tables e below (T16.setTop (mkF m 32 #[oa r0, oi 0, oi (Int32.ofNat bs.length), oi (Int32.ofNat bs.length), oa b5] [(.ref b5)])) _
    jvm_step X16.here [X16.here.top, hx, (hb hby d28_32), X16.method', Bd.returns, Value.isRef, FieldType.isReference]
    first | (intro acts; rw [hr _ acts rfl rfl rfl]) | rw [hr _ _ rfl rfl rfl]
    exact Steps.refl _
  · show Q28 Z r0 kv z bs h0 n0 _ T16.heap _
    rw [e16]
    exact ⟨b5, k5, rfl, N16, f19, sz_b5, g_b5, V16x⟩
theorem d27_0 : decode jdk_65_method_132_code 0 = .ok (.iload_n 1, 1) := by decide +kernel
theorem d27_1 : decode jdk_65_method_132_code 1 = .ok (.ifCond .ne 9, 3) := by decide +kernel
theorem d27_4 : decode jdk_65_method_132_code 4 = .ok (.iload_n 2, 1) := by decide +kernel
theorem d27_5 : decode jdk_65_method_132_code 5 = .ok (.aload_n 0, 1) := by decide +kernel
theorem d27_6 : decode jdk_65_method_132_code 6 = .ok (.arraylength, 1) := by decide +kernel
theorem d27_7 : decode jdk_65_method_132_code 7 = .ok (.if_icmp .eq 10, 3) := by decide +kernel
theorem d27_10 : decode jdk_65_method_132_code 10 = .ok (.aload_n 0, 1) := by decide +kernel
theorem d27_11 : decode jdk_65_method_132_code 11 = .ok (.iload_n 1, 1) := by decide +kernel
theorem d27_12 : decode jdk_65_method_132_code 12 = .ok (.iload_n 2, 1) := by decide +kernel
theorem d27_13 : decode jdk_65_method_132_code 13 = .ok (.invokestatic 339, 3) := by decide +kernel
theorem d27_16 : decode jdk_65_method_132_code 16 = .ok (.areturn, 1) := by decide +kernel
theorem d27_17 : decode jdk_65_method_132_code 17 = .ok (.aload_n 0, 1) := by decide +kernel
theorem d27_18 : decode jdk_65_method_132_code 18 = .ok (.invokevirtual 310, 3) := by decide +kernel
theorem d27_21 : decode jdk_65_method_132_code 21 = .ok (.checkcast 311, 3) := by decide +kernel
theorem d27_24 : decode jdk_65_method_132_code 24 = .ok (.areturn, 1) := by decide +kernel
theorem pn_27 : plainName "java/util/Arrays" = true := by first | (simp [plainName, overriddenIn]; done) | decide +kernel
theorem ef_27 (m : MethodId) (x0 : Addr) (x1 : Int32) (x2 : Int32) : entryFrame m #[(.ref x0), (.int x1), (.int x2)] 3 = mkF m 0 #[.val (.ref x0), .val (.int x1), .val (.int x2)] [] := by first | (simp [entryFrame, mkF, argsToLocals, Value.category]; done) | rfl
def Q27 (Z : State) (r0 : Addr) (kv : ClassId) (z : Int32) (bs : List Int32) (h0 : Heap) (n0 : Nat) (v : Option Value) (h : Heap) (L : List Loc) : Prop := ∃ ra kx, v = some (.ref ra) ∧ Fr n0 L ∧ Keep h0 h [] ∧ h0.size ≤ ra ∧ n0 ≤ ra ∧ Arv Z h ra kx .byte (Int32.ofNat bs.length) ((bs.map (fun c => c.toInt8.toInt32)).map Value.int) (.int 0)
set_option maxRecDepth 65536 in
set_option maxHeartbeats 40000000 in
theorem rm27 (l : Launch) (Z : State) (a0 : Array Value) (hw : ∀ d ∈ tables_1, d.before a0 Z = true) (ws : List Jvm.Cond) (r0 : Addr) (kv : ClassId) (z : Int32) (bs : List Int32) (h0 : Heap) (n0 : Nat) (Z0 : n0 ≤ h0.size) (Bb : Arv Z h0 r0 kv .byte z ((bs.map (fun c => c.toInt8.toInt32)).map Value.int) (.int 0)) (hbl : bs.length ≤ z.toNatClampNeg) (hl34 : bs.length ≤ 34) (hcap : (z = (16 : Int32) ∧ Exa Z h0 r0 "[B") ∨ z = (34 : Int32)) (hl20 : bs.length ≤ 20) :
    MetFree l yy_26 (head1 (Jvm.Cond.code yy_26 jdk_65_method_132_code 3 (some (.array .byte)) :: ws) ({ frames := 2, cells := 1, slots := 34, locals := 80 } : Room)) (fun a U => a = #[(.ref r0), (.int (0 : Int32)), (.int (Int32.ofNat bs.length))] ∧ Z.Warmed39 U.vm ∧ U.heap = h0) (fun _ _ _ _ _ => True) (fun _ U o U' => ∃ v L, o = .returned v ∧ Q27 Z r0 kv z bs h0 n0 v U'.heap L ∧ FrameEnd U o U' L ({ frames := 2, cells := 1, slots := 34, locals := 80 } : Room).cells ({ frames := 2, cells := 1, slots := 34, locals := 80 } : Room).slots) := by
  refine MetFree.of_bodySF (plainFor_of_name pn_27) hisR ?_
  intro p e s m args below meth c s₁ Bd hml0 hP hK
  obtain ⟨rfl, hZ, hh⟩ := hP
  have hx := Bd.exec
  have hby := Bd.bytes
  have hml : c.maxLocals = 3 := hml0
  have hown : s.vm.findClass "java/util/Arrays" = some m.cls := findClass_of_methodNamed Bd.named
  have hnm := (name_of_methodNamed Bd.named Bd.method).1
  have X0 : Stand p l e ({ frames := 2, cells := 1, slots := 34, locals := 80 } : Room) s m #[(.ref r0), (.int (0 : Int32)), (.int (Int32.ofNat bs.length))] below meth c s₁ [] 0 0 := Stand.of_body Bd
  have e0 : s₁.heap = h0 := by rw [← hh, Bd.state]; rfl
  have N0 := Fr.nil n0
  have pre0 : ∀ t, Steps p.tables e below (s₁.setTop (mkF m 0 #[oa r0, oi 0, oi (Int32.ofNat bs.length)] [])) t → Steps p.tables e below (s₁.setTop (entryFrame m #[(.ref r0), (.int (0 : Int32)), (.int (Int32.ofNat bs.length))] 3)) t := fun t k => castTop (ef_27 m r0 (0 : Int32) (Int32.ofNat bs.length)) k
  rcases own_two hcap hl34 hl20 with ⟨hz, hEx, hq⟩ | hq
  · skip
    have h16 : bs.length = 16 := by rw [own_eq bs.length 16 (by omega) (by omega)] at hq; exact hq
    have Bb6 := Bb
    rw [hz] at Bb6
    have Vc1 := Bb6
    obtain ⟨cl1, Ar1, qk1, S1, M1, H1, G1⟩ := Vc1
    have c3 : own_G p e below s₁ (mkF m 7 #[oa r0, oi 0, oi (Int32.ofNat bs.length)] [(.int (16 : Int32)), (.int (Int32.ofNat bs.length))]) (mkF m 0 #[oa r0, oi 0, oi (Int32.ofNat bs.length)] []) := by
      intro t kt
      show oS s₁ (mkF m 0 #[oa r0, oi 0, oi (Int32.ofNat bs.length)] []) _
      refine XS.iloadN X0.here hx rfl (hb hby d27_0) rfl ?_
      show oS s₁ (mkF m 1 #[oa r0, oi 0, oi (Int32.ofNat bs.length)] [(.int (0 : Int32))]) _
      refine XS.ifNo X0.here hx rfl (hb hby d27_1) rfl ((if0 _ _).trans (teq (by decide : (0 : Int32) = (0 : Int32))).2) ?_
      show oS s₁ (mkF m 4 #[oa r0, oi 0, oi (Int32.ofNat bs.length)] []) _
      refine XS.iloadN X0.here hx rfl (hb hby d27_4) rfl ?_
      show oS s₁ (mkF m 5 #[oa r0, oi 0, oi (Int32.ofNat bs.length)] [(.int (Int32.ofNat bs.length))]) _
      refine XS.aloadN X0.here hx rfl (hb hby d27_5) rfl rfl ?_
      show oS s₁ (mkF m 6 #[oa r0, oi 0, oi (Int32.ofNat bs.length)] [(.ref r0), (.int (Int32.ofNat bs.length))]) _
      refine X0.arraylength hx (by rw [e0]; exact Ar1.1) (State.isArrayOf_alike hZ.alike Ar1.2.1) (g := (mkF m 6 #[oa r0, oi 0, oi (Int32.ofNat bs.length)] [(.ref r0), (.int (Int32.ofNat bs.length))])) rfl rfl (hb hby d27_6) _ ?_
      rw [len_of S1 M1]
      exact kt
    have hd2 : (Int32.ofNat bs.length) = (16 : Int32) := hq
    have c4 : own_G p e below s₁ (mkF m 18 #[oa r0, oi 0, oi (Int32.ofNat bs.length)] [(.ref r0)]) (mkF m 7 #[oa r0, oi 0, oi (Int32.ofNat bs.length)] [(.int (16 : Int32)), (.int (Int32.ofNat bs.length))]) := by
      intro t kt
      show oS s₁ (mkF m 7 #[oa r0, oi 0, oi (Int32.ofNat bs.length)] [(.int (16 : Int32)), (.int (Int32.ofNat bs.length))]) _
      refine XS.icmpYes X0.here hx rfl (pc0 := 7) (pc' := 17) rfl (hb hby d27_7) rfl (teq hd2).1 (by decide) (by decide) ?_
      show oS s₁ (mkF m 17 #[oa r0, oi 0, oi (Int32.ofNat bs.length)] []) _
      refine XS.aloadN X0.here hx rfl (hb hby d27_17) rfl rfl ?_
      exact kt
    have Vc5 := Bb6
    obtain ⟨cl5, Ar5, qk5, S5, M5, H5, G5⟩ := Vc5
    have FC : FitC Z cl5 := fitC_of Ar5 fun i hi v hv => by rw [H5 i hi] at hv; cases hv; exact G5 i hi
    obtain ⟨T6, h6, X6, e6, E6, A6, EA6, st6⟩ := cloneA X0 hx hZ hown (own_t hw 215 rfl) (own_t hw 216 rfl) (own_t hw 220 rfl) (own_t hw 218 rfl) (own_t hw 219 rfl) (own_t hw 221 rfl) e0 Ar5 hEx FC (g := (mkF m 18 #[oa r0, oi 0, oi (Int32.ofNat bs.length)] [(.ref r0)])) rfl (by rw [hml]; rfl) rfl (hb hby d27_18) (by decide) (W := 0) (cap := 34) (by show 2 * 0 + _ ≤ _; exact Nat.le_of_eq rfl) (by decide) (by rw [S5]; decide) (by decide) (by decide)
    obtain ⟨b6, g6⟩ : ∃ z, z = h0.size := ⟨_, rfl⟩
    rw [← g6] at A6 EA6 st6
    have g_b6 : n0 ≤ b6 := Nat.le_trans Z0 (Nat.le_of_eq g6.symm)
    have sz_b6 : h0.size ≤ b6 := Nat.le_trans (Keep.refl h0 []).1 (Nat.le_of_eq g6.symm)
    have lt_r0_6 := Bb6.lt
    have V6 : Arv Z h6 b6 kv .byte (16 : Int32) ((bs.map (fun c => c.toInt8.toInt32)).map Value.int) (.int 0) := ⟨_, A6, qk5, S5, M5, H5, G5⟩
    obtain ⟨T7, X7, e7, st7⟩ := castY X6 hx hZ hown (own_t hw 222 rfl) e6 (Ins.self EA6) (g := (mkF m 21 #[oa r0, oi 0, oi (Int32.ofNat bs.length)] [(.ref b6)])) rfl rfl (hb hby d27_21)
    obtain ⟨fs, hr, hrun, hended, hW, hsame⟩ := X7.leave (v := some (.ref b6)) (fun h => by rw [Bd.returns] at h; cases h)
    have f9 := ((Keep.refl h0 []).ext E6)
    refine ⟨_, _, pre0 _ (c3 _ (c4 _ (st6 _ (st7 _ (?_))))), hrun, hended, _, _, rfl, ?_, ⟨_, rfl⟩, hW, hsame.mono (by decide) (by decide)⟩
    · show Steps p.tables e below (T7.setTop (mkF m 24 #[oa r0, oi 0, oi (Int32.ofNat bs.length)] [(.ref b6)])) _
      jvm_step X7.here [X7.here.top, hx, (hb hby d27_24), X7.method', Bd.returns, Value.isRef, FieldType.isReference]
      first | (intro acts; rw [hr _ acts rfl rfl rfl]) | rw [hr _ _ rfl rfl rfl]
      exact Steps.refl _
    · show Q27 Z r0 kv z bs h0 n0 _ T7.heap _
      rw [e7]
      exact ⟨b6, kv, rfl, N0, f9, sz_b6, g_b6, (by rw [h16]; exact V6)⟩
  · skip
    have Vc10 := Bb
    obtain ⟨cl10, Ar10, qk10, S10, M10, H10, G10⟩ := Vc10
    have c12 : own_G p e below s₁ (mkF m 7 #[oa r0, oi 0, oi (Int32.ofNat bs.length)] [(.int z), (.int (Int32.ofNat bs.length))]) (mkF m 0 #[oa r0, oi 0, oi (Int32.ofNat bs.length)] []) := by
      intro t kt
      show oS s₁ (mkF m 0 #[oa r0, oi 0, oi (Int32.ofNat bs.length)] []) _
      refine XS.iloadN X0.here hx rfl (hb hby d27_0) rfl ?_
      show oS s₁ (mkF m 1 #[oa r0, oi 0, oi (Int32.ofNat bs.length)] [(.int (0 : Int32))]) _
      refine XS.ifNo X0.here hx rfl (hb hby d27_1) rfl ((if0 _ _).trans (teq (by decide : (0 : Int32) = (0 : Int32))).2) ?_
      show oS s₁ (mkF m 4 #[oa r0, oi 0, oi (Int32.ofNat bs.length)] []) _
      refine XS.iloadN X0.here hx rfl (hb hby d27_4) rfl ?_
      show oS s₁ (mkF m 5 #[oa r0, oi 0, oi (Int32.ofNat bs.length)] [(.int (Int32.ofNat bs.length))]) _
      refine XS.aloadN X0.here hx rfl (hb hby d27_5) rfl rfl ?_
      show oS s₁ (mkF m 6 #[oa r0, oi 0, oi (Int32.ofNat bs.length)] [(.ref r0), (.int (Int32.ofNat bs.length))]) _
      refine X0.arraylength hx (by rw [e0]; exact Ar10.1) (State.isArrayOf_alike hZ.alike Ar10.2.1) (g := (mkF m 6 #[oa r0, oi 0, oi (Int32.ofNat bs.length)] [(.ref r0), (.int (Int32.ofNat bs.length))])) rfl rfl (hb hby d27_6) _ ?_
      rw [len_of S10 M10]
      exact kt
    have hd11 : ¬ ((Int32.ofNat bs.length) = z) := hq
    have c13 : own_G p e below s₁ (mkF m 13 #[oa r0, oi 0, oi (Int32.ofNat bs.length)] [(.int (Int32.ofNat bs.length)), (.int (0 : Int32)), (.ref r0)]) (mkF m 7 #[oa r0, oi 0, oi (Int32.ofNat bs.length)] [(.int z), (.int (Int32.ofNat bs.length))]) := by
      intro t kt
      show oS s₁ (mkF m 7 #[oa r0, oi 0, oi (Int32.ofNat bs.length)] [(.int z), (.int (Int32.ofNat bs.length))]) _
      refine XS.icmpNo X0.here hx rfl (hb hby d27_7) rfl (feq hd11).1 ?_
      show oS s₁ (mkF m 10 #[oa r0, oi 0, oi (Int32.ofNat bs.length)] []) _
      refine XS.aloadN X0.here hx rfl (hb hby d27_10) rfl rfl ?_
      show oS s₁ (mkF m 11 #[oa r0, oi 0, oi (Int32.ofNat bs.length)] [(.ref r0)]) _
      refine XS.iloadN X0.here hx rfl (hb hby d27_11) rfl ?_
      show oS s₁ (mkF m 12 #[oa r0, oi 0, oi (Int32.ofNat bs.length)] [(.int (0 : Int32)), (.ref r0)]) _
      refine XS.iloadN X0.here hx rfl (hb hby d27_12) rfl ?_
      exact kt
    obtain ⟨_, _, ⟨T14, L14, k14, n14⟩, -, X14, ⟨Lc14, hQ14, l14, y14, z14⟩, st14⟩ := Jvm.LawKit.callS X0 hx (y := yy_25) hown (mvT hZ (own_t hw 153 rfl)) (mvT hZ (own_t hw 154 rfl)) (mvT hZ (own_t hw 151 rfl)) (mvT hZ (own_t hw 155 rfl)) (by decide) (backOf (W := 0) (rm28 l Z a0 hw []  r0 kv z bs h0 n0 Z0 Bb hbl hl34) hZ (own_t hw 155 rfl) (own_t hw 151 rfl) (by decide) (by decide)) (g := (mkF m 13 #[oa r0, oi 0, oi (Int32.ofNat bs.length)] [(.int (Int32.ofNat bs.length)), (.int (0 : Int32)), (.ref r0)])) rfl (by rw [hml]; rfl) (argsL := [(.ref r0), (.int (0 : Int32)), (.int (Int32.ofNat bs.length))]) (rest := []) (lenOf pd_15 rfl) rfl (by show 2 * 0 + _ ≤ _; exact Nat.le_of_eq rfl) (hb hby d27_13) (fun _ _ => ⟨rfl, e0, (by decide : 0 + 1 ≤ _), (by decide : 0 + 34 ≤ _)⟩)
    dsimp only [Pt.U, Pt.locs, Pt.cells, Pt.slots] at X14 l14 y14 z14 st14 hQ14
    subst l14 y14 z14
    obtain ⟨ra14, kx14, rfl, N14q, Kq14, szq14, g_ra14, Vq14⟩ := hQ14
    have N14 := Fr.app N0 N14q
    have lt_r0_14 := Bb.lt
    have sz_ra14 : h0.size ≤ ra14 := Nat.le_trans (Keep.refl h0 []).1 szq14
    obtain ⟨fs, hr, hrun, hended, hW, hsame⟩ := X14.leave (v := some (.ref ra14)) (fun h => by rw [Bd.returns] at h; cases h)
    have f16 := ((Keep.refl h0 []).trans Kq14 all0)
    refine ⟨_, _, pre0 _ (c12 _ (c13 _ (st14 _ (?_)))), hrun, hended, _, _, rfl, ?_, ⟨_, rfl⟩, hW, hsame.mono (by decide) (by decide)⟩
    · show Steps p.tables e below (T14.setTop (mkF m 16 #[oa r0, oi 0, oi (Int32.ofNat bs.length)] [(.ref ra14)])) _
      jvm_step X14.here [X14.here.top, hx, (hb hby d27_16), X14.method', Bd.returns, Value.isRef, FieldType.isReference]
      first | (intro acts; rw [hr _ acts rfl rfl rfl]) | rw [hr _ _ rfl rfl rfl]
      exact Steps.refl _
    · show Q27 Z r0 kv z bs h0 n0 _ T14.heap _
      exact ⟨ra14, kx14, rfl, N14, f16, sz_ra14, g_ra14, Vq14⟩
theorem d22_0 : decode jdk_42_method_150_code 0 = .ok (.aload_n 0, 1) := by decide +kernel
theorem d22_1 : decode jdk_42_method_150_code 1 = .ok (.invokespecial 1, 3) := by decide +kernel
theorem d22_4 : decode jdk_42_method_150_code 4 = .ok (.aload_n 1, 1) := by decide +kernel
theorem d22_5 : decode jdk_42_method_150_code 5 = .ok (.invokevirtual 552, 3) := by decide +kernel
theorem d22_8 : decode jdk_42_method_150_code 8 = .ok (.astore_n 3, 1) := by decide +kernel
theorem d22_9 : decode jdk_42_method_150_code 9 = .ok (.aload_n 1, 1) := by decide +kernel
theorem d22_10 : decode jdk_42_method_150_code 10 = .ok (.invokevirtual 549, 3) := by decide +kernel
theorem d22_13 : decode jdk_42_method_150_code 13 = .ok (.istore 4, 2) := by decide +kernel
theorem d22_15 : decode jdk_42_method_150_code 15 = .ok (.aload_n 1, 1) := by decide +kernel
theorem d22_16 : decode jdk_42_method_150_code 16 = .ok (.invokevirtual 1047, 3) := by decide +kernel
theorem d22_19 : decode jdk_42_method_150_code 19 = .ok (.ifCond .eq 22, 3) := by decide +kernel
theorem d22_22 : decode jdk_42_method_150_code 22 = .ok (.aload_n 0, 1) := by decide +kernel
theorem d22_23 : decode jdk_42_method_150_code 23 = .ok (.iconst 0, 1) := by decide +kernel
theorem d22_24 : decode jdk_42_method_150_code 24 = .ok (.putfield 15, 3) := by decide +kernel
theorem d22_27 : decode jdk_42_method_150_code 27 = .ok (.aload_n 0, 1) := by decide +kernel
theorem d22_28 : decode jdk_42_method_150_code 28 = .ok (.aload_n 3, 1) := by decide +kernel
theorem d22_29 : decode jdk_42_method_150_code 29 = .ok (.iconst 0, 1) := by decide +kernel
theorem d22_30 : decode jdk_42_method_150_code 30 = .ok (.iload 4, 2) := by decide +kernel
theorem d22_32 : decode jdk_42_method_150_code 32 = .ok (.invokestatic 54, 3) := by decide +kernel
theorem d22_35 : decode jdk_42_method_150_code 35 = .ok (.putfield 9, 3) := by decide +kernel
theorem d22_38 : decode jdk_42_method_150_code 38 = .ok (.goto 59, 3) := by decide +kernel
theorem d22_97 : decode jdk_42_method_150_code 97 = .ok (.return_, 1) := by decide +kernel
theorem pn_22 : plainName "java/lang/String" = true := by first | (simp [plainName, overriddenIn]; done) | decide +kernel
theorem ef_22 (m : MethodId) (x0 : Addr) (x1 : Addr) : entryFrame m #[(.ref x0), (.ref x1), .null] 5 = mkF m 0 #[.val (.ref x0), .val (.ref x1), .val .null, .unset, .unset] [] := by first | (simp [entryFrame, mkF, argsToLocals, Value.category]; done) | rfl
def Q22 (Z : State) (r0 : Addr) (r1 : Addr) (vb : Addr) (kv : ClassId) (z : Int32) (bs : List Int32) (cs : Int32) (h0 : Heap) (n0 : Nat) (v : Option Value) (h : Heap) (L : List Loc) : Prop := v = none ∧ Fr n0 L ∧ Keep h0 h [r0] ∧ Exa Z h r0 "java/lang/String" ∧ ∃ ra kx, h0.size ≤ ra ∧ n0 ≤ ra ∧ Fld Z h r0 "java/lang/String" "value" "[B" (.ref ra) ∧ Fld Z h r0 "java/lang/String" "coder" "B" (.int (0 : Int32)) ∧ Arv Z h ra kx .byte (Int32.ofNat bs.length) ((bs.map (fun c => c.toInt8.toInt32)).map Value.int) (.int 0)
set_option maxRecDepth 65536 in
set_option maxHeartbeats 40000000 in
theorem rm22 (l : Launch) (Z : State) (a0 : Array Value) (hw : ∀ d ∈ tables_1, d.before a0 Z = true) (ws : List Jvm.Cond) (r0 : Addr) (r1 : Addr) (vb : Addr) (kv : ClassId) (z : Int32) (bs : List Int32) (cs : Int32) (h0 : Heap) (n0 : Nat) (Z0 : n0 ≤ h0.size) (Eo : Exa Z h0 r0 "java/lang/String") (Fo : Fld Z h0 r0 "java/lang/String" "value" "[B" .null) (Co : Fld Z h0 r0 "java/lang/String" "coder" "B" (.int (0 : Int32))) (g_r0 : n0 ≤ r0) (Eb : Exa Z h0 r1 "java/lang/StringBuilder") (Bv : Fld Z h0 r1 "java/lang/AbstractStringBuilder" "value" "[B" (.ref vb)) (Bc : Fld Z h0 r1 "java/lang/AbstractStringBuilder" "coder" "B" (.int (0 : Int32))) (Bn : Fld Z h0 r1 "java/lang/AbstractStringBuilder" "count" "I" (.int (Int32.ofNat bs.length))) (Bb : Arv Z h0 vb kv .byte z ((bs.map (fun c => c.toInt8.toInt32)).map Value.int) (.int 0)) (hbl : bs.length ≤ z.toNatClampNeg) (hl34 : bs.length ≤ 34) (hcap : (z = (16 : Int32) ∧ Exa Z h0 vb "[B") ∨ z = (34 : Int32)) (hl20 : bs.length ≤ 20) (SC : Sta Z h0 "java/lang/String" "COMPACT_STRINGS" "Z" (.int cs)) (hcs : ¬ cs = (0 : Int32)) (hne : r1 ≠ r0) (hvr : vb ≠ r0) :
    MetFree l yy_27 (head1 (Jvm.Cond.code yy_27 jdk_42_method_150_code 5 none :: ws) ({ frames := 3, cells := 1, slots := 34, locals := 95 } : Room)) (fun a U => a = #[(.ref r0), (.ref r1), .null] ∧ Z.Warmed39 U.vm ∧ U.heap = h0) (fun _ _ _ _ _ => True) (fun _ U o U' => ∃ v L, o = .returned v ∧ Q22 Z r0 r1 vb kv z bs cs h0 n0 v U'.heap L ∧ FrameEnd U o U' L ({ frames := 3, cells := 1, slots := 34, locals := 95 } : Room).cells ({ frames := 3, cells := 1, slots := 34, locals := 95 } : Room).slots) := by
  refine MetFree.of_bodySF (plainFor_of_name pn_22) hisR ?_
  intro p e s m args below meth c s₁ Bd hml0 hP hK
  obtain ⟨rfl, hZ, hh⟩ := hP
  have hx := Bd.exec
  have hby := Bd.bytes
  have hml : c.maxLocals = 5 := hml0
  have hown : s.vm.findClass "java/lang/String" = some m.cls := findClass_of_methodNamed Bd.named
  have hnm := (name_of_methodNamed Bd.named Bd.method).1
  have X0 : Stand p l e ({ frames := 3, cells := 1, slots := 34, locals := 95 } : Room) s m #[(.ref r0), (.ref r1), .null] below meth c s₁ [] 0 0 := Stand.of_body Bd
  have e0 : s₁.heap = h0 := by rw [← hh, Bd.state]; rfl
  have N0 := Fr.nil n0
  have pre0 : ∀ t, Steps p.tables e below (s₁.setTop (mkF m 0 #[oa r0, oa r1, .val .null, .unset, .unset] [])) t → Steps p.tables e below (s₁.setTop (entryFrame m #[(.ref r0), (.ref r1), .null] 5)) t := fun t k => castTop (ef_22 m r0 r1) k
  have c2 : own_G p e below s₁ (mkF m 1 #[oa r0, oa r1, .val .null, .unset, .unset] [(.ref r0)]) (mkF m 0 #[oa r0, oa r1, .val .null, .unset, .unset] []) := by
    intro t kt
    show oS s₁ (mkF m 0 #[oa r0, oa r1, .val .null, .unset, .unset] []) _
    refine XS.aloadN X0.here hx rfl (hb hby d22_0) rfl rfl ?_
    exact kt
  obtain ⟨T1, X1, e1, st1⟩ := initO X0 hx hZ hown (own_t hw 26 rfl) (own_t hw 27 rfl) (own_t hw 28 rfl) e0 (g := (mkF m 1 #[oa r0, oa r1, .val .null, .unset, .unset] [(.ref r0)])) rfl (by rw [hml]; rfl) rfl (hb hby d22_1) (by decide) (W := 0) (by show 2 * 0 + _ ≤ _; exact Nat.le_of_eq rfl) (by decide)
  have c3 : own_G p e below T1 (mkF m 5 #[oa r0, oa r1, .val .null, .unset, .unset] [(.ref r1)]) (mkF m 4 #[oa r0, oa r1, .val .null, .unset, .unset] []) := by
    intro t kt
    show oS T1 (mkF m 4 #[oa r0, oa r1, .val .null, .unset, .unset] []) _
    refine XS.aloadN X1.here hx rfl (hb hby d22_4) rfl rfl ?_
    exact kt
  obtain ⟨cq4, kq4, q4a, q4b, q4c⟩ := isOf hZ e1 Eb
  obtain ⟨_, _, ⟨T5, L5, k5, n5⟩, -, X5, ⟨Lc5, hQ5, l5, y5, z5⟩, st5⟩ := X1.virtualBack hx (y := yy_20) (z := yy_20) hown (mvT hZ (own_t hw 131 rfl)) (mvT hZ (own_t hw 132 rfl)) (notFace_of_selects (args := #[]) (mvT hZ (own_t hw 134 rfl))) (mvT hZ (own_t hw 134 rfl)) (mvT hZ (own_t hw 133 rfl)) (by decide) (backOf (W := 0) (rm23 l Z a0 hw [] r1 vb h0 n0 Z0 Bv) hZ (own_t hw 135 rfl) (own_t hw 59 rfl) (by decide) (by decide)) q4a q4c (g := (mkF m 5 #[oa r0, oa r1, .val .null, .unset, .unset] [(.ref r1)])) rfl (by rw [hml]; rfl) (Steps.refl _) (argsL := []) (rest := []) (lenOf pd_16 rfl) rfl (by show 2 * 0 + _ ≤ _; exact Nat.le_of_eq rfl) (hb hby d22_5) (fun _ _ => ⟨rfl, e1, (by decide : 0 + 0 ≤ _), (by decide : 0 + 0 ≤ _)⟩)
  dsimp only [Pt.U, Pt.locs, Pt.cells, Pt.slots] at X5 l5 y5 z5 st5 hQ5
  subst l5 y5 z5
  obtain ⟨rfl, N5q, e5⟩ := hQ5
  have N5 := Fr.app N0 N5q
  have c6 : own_G p e below T5 (mkF m 10 #[oa r0, oa r1, .val .null, oa vb, .unset] [(.ref r1)]) (mkF m 8 #[oa r0, oa r1, .val .null, .unset, .unset] [(.ref vb)]) := by
    intro t kt
    show oS T5 (mkF m 8 #[oa r0, oa r1, .val .null, .unset, .unset] [(.ref vb)]) _
    refine XS.astoreN X5.here hx rfl (hb hby d22_8) rfl rfl (l' := #[oa r0, oa r1, .val .null, oa vb, .unset]) rfl ?_
    show oS T5 (mkF m 9 #[oa r0, oa r1, .val .null, oa vb, .unset] []) _
    refine XS.aloadN X5.here hx rfl (hb hby d22_9) rfl rfl ?_
    exact kt
  obtain ⟨cq7, kq7, q7a, q7b, q7c⟩ := isOf hZ e5 Eb
  obtain ⟨_, _, ⟨T8, L8, k8, n8⟩, -, X8, ⟨Lc8, hQ8, l8, y8, z8⟩, st8⟩ := X5.virtualBack hx (y := yy_21) (z := yy_22) hown (mvT hZ (own_t hw 136 rfl)) (mvT hZ (own_t hw 137 rfl)) (own_nf (args := #[]) (z := yy_12) (mvT hZ (own_t hw 93 rfl)) rfl) (mvT hZ (own_t hw 139 rfl)) (mvT hZ (own_t hw 140 rfl)) (by decide) (backOf (W := 0) (rm24 l Z a0 hw [] r1 (Int32.ofNat bs.length) h0 n0 Z0 Bn Eb) hZ (own_t hw 141 rfl) (own_t hw 51 rfl) (by decide) (by decide)) q7a q7c (g := (mkF m 10 #[oa r0, oa r1, .val .null, oa vb, .unset] [(.ref r1)])) rfl (by rw [hml]; rfl) (Steps.refl _) (argsL := []) (rest := []) (lenOf pd_11 rfl) rfl (by show 2 * 0 + _ ≤ _; exact Nat.le_of_eq rfl) (hb hby d22_10) (fun _ _ => ⟨rfl, e5, (by decide : 0 + 0 ≤ _), (by decide : 0 + 0 ≤ _)⟩)
  dsimp only [Pt.U, Pt.locs, Pt.cells, Pt.slots] at X8 l8 y8 z8 st8 hQ8
  subst l8 y8 z8
  obtain ⟨rfl, N8q, e8⟩ := hQ8
  have N8 := Fr.app N5 N8q
  have c9 : own_G p e below T8 (mkF m 16 #[oa r0, oa r1, .val .null, oa vb, oi (Int32.ofNat bs.length)] [(.ref r1)]) (mkF m 13 #[oa r0, oa r1, .val .null, oa vb, .unset] [(.int (Int32.ofNat bs.length))]) := by
    intro t kt
    show oS T8 (mkF m 13 #[oa r0, oa r1, .val .null, oa vb, .unset] [(.int (Int32.ofNat bs.length))]) _
    refine XS.istore X8.here hx rfl (hb hby d22_13) rfl (l' := #[oa r0, oa r1, .val .null, oa vb, oi (Int32.ofNat bs.length)]) rfl ?_
    show oS T8 (mkF m 15 #[oa r0, oa r1, .val .null, oa vb, oi (Int32.ofNat bs.length)] []) _
    refine XS.aloadN X8.here hx rfl (hb hby d22_15) rfl rfl ?_
    exact kt
  obtain ⟨cq10, kq10, q10a, q10b, q10c⟩ := isOf hZ e8 Eb
  obtain ⟨_, _, ⟨T11, L11, k11, n11⟩, -, X11, ⟨Lc11, hQ11, l11, y11, z11⟩, st11⟩ := X8.virtualBack hx (y := yy_23) (z := yy_23) hown (mvT hZ (own_t hw 144 rfl)) (mvT hZ (own_t hw 145 rfl)) (notFace_of_selects (args := #[]) (mvT hZ (own_t hw 147 rfl))) (mvT hZ (own_t hw 147 rfl)) (mvT hZ (own_t hw 146 rfl)) (by decide) (backOf (W := 0) (rm26 l Z a0 hw [] r1 cs h0 n0 Z0 Bc SC hcs) hZ (own_t hw 148 rfl) (own_t hw 59 rfl) (by decide) (by decide)) q10a q10c (g := (mkF m 16 #[oa r0, oa r1, .val .null, oa vb, oi (Int32.ofNat bs.length)] [(.ref r1)])) rfl (by rw [hml]; rfl) (Steps.refl _) (argsL := []) (rest := []) (lenOf pd_2 rfl) rfl (by show 2 * 0 + _ ≤ _; exact Nat.le_of_eq rfl) (hb hby d22_16) (fun _ _ => ⟨rfl, e8, (by decide : 0 + 0 ≤ _), (by decide : 0 + 0 ≤ _)⟩)
  dsimp only [Pt.U, Pt.locs, Pt.cells, Pt.slots] at X11 l11 y11 z11 st11 hQ11
  subst l11 y11 z11
  obtain ⟨rfl, N11q, e11⟩ := hQ11
  have N11 := Fr.app N8 N11q
  have c13 : own_G p e below T11 (mkF m 24 #[oa r0, oa r1, .val .null, oa vb, oi (Int32.ofNat bs.length)] [(.int (0 : Int32)), (.ref r0)]) (mkF m 19 #[oa r0, oa r1, .val .null, oa vb, oi (Int32.ofNat bs.length)] [(.int (1 : Int32))]) := by
    intro t kt
    show oS T11 (mkF m 19 #[oa r0, oa r1, .val .null, oa vb, oi (Int32.ofNat bs.length)] [(.int (1 : Int32))]) _
    refine XS.ifNo X11.here hx rfl (hb hby d22_19) rfl ((if0 _ _).trans (feq (by decide : ¬ ((1 : Int32) = (0 : Int32)))).1) ?_
    show oS T11 (mkF m 22 #[oa r0, oa r1, .val .null, oa vb, oi (Int32.ofNat bs.length)] []) _
    refine XS.aloadN X11.here hx rfl (hb hby d22_22) rfl rfl ?_
    show oS T11 (mkF m 23 #[oa r0, oa r1, .val .null, oa vb, oi (Int32.ofNat bs.length)] [(.ref r0)]) _
    refine XS.iconst X11.here hx rfl (hb hby d22_23) ?_
    exact kt
  obtain ⟨T12, h12, X12, e12, W12, st12⟩ := putFN X11 hx hZ hown (own_t hw 31 rfl) Via.refl e11 Co Eo (Or.inr ⟨(own_t hw 32 rfl), rfl, hnm⟩) (own_t hw 17 rfl) (ty := .byte) (v' := (.int (0 : Int32))) (by decide) rfl rfl (g := (mkF m 24 #[oa r0, oa r1, .val .null, oa vb, oi (Int32.ofNat bs.length)] [(.int (0 : Int32)), (.ref r0)])) rfl rfl (hb hby d22_24)
  have Fw12 := Co.same W12
  have N12 := Fr.snoc X12 N11 g_r0
  have c14 : own_G p e below T12 (mkF m 32 #[oa r0, oa r1, .val .null, oa vb, oi (Int32.ofNat bs.length)] [(.int (Int32.ofNat bs.length)), (.int (0 : Int32)), (.ref vb), (.ref r0)]) (mkF m 27 #[oa r0, oa r1, .val .null, oa vb, oi (Int32.ofNat bs.length)] []) := by
    intro t kt
    show oS T12 (mkF m 27 #[oa r0, oa r1, .val .null, oa vb, oi (Int32.ofNat bs.length)] []) _
    refine XS.aloadN X12.here hx rfl (hb hby d22_27) rfl rfl ?_
    show oS T12 (mkF m 28 #[oa r0, oa r1, .val .null, oa vb, oi (Int32.ofNat bs.length)] [(.ref r0)]) _
    refine XS.aloadN X12.here hx rfl (hb hby d22_28) rfl rfl ?_
    show oS T12 (mkF m 29 #[oa r0, oa r1, .val .null, oa vb, oi (Int32.ofNat bs.length)] [(.ref vb), (.ref r0)]) _
    refine XS.iconst X12.here hx rfl (hb hby d22_29) ?_
    show oS T12 (mkF m 30 #[oa r0, oa r1, .val .null, oa vb, oi (Int32.ofNat bs.length)] [(.int (0 : Int32)), (.ref vb), (.ref r0)]) _
    refine XS.iload X12.here hx rfl (hb hby d22_30) rfl ?_
    exact kt
  have f15 := (Nat.le_trans Z0 (Keep.of_wr W12).1)
  have f16 := (Bb.other W12 hvr)
  obtain ⟨_, _, ⟨T17, L17, k17, n17⟩, -, X17, ⟨Lc17, hQ17, l17, y17, z17⟩, st17⟩ := Jvm.LawKit.callS X12 hx (y := yy_26) hown (mvT hZ (own_t hw 149 rfl)) (mvT hZ (own_t hw 150 rfl)) (mvT hZ (own_t hw 151 rfl)) (mvT hZ (own_t hw 152 rfl)) (by decide) (backOf (W := 1) (rm27 l Z a0 hw []  vb kv z bs h12 n0 f15 f16 hbl hl34 (hcap.imp (fun q => ⟨q.1, (q.2.wr W12)⟩) id) hl20) hZ (own_t hw 152 rfl) (own_t hw 151 rfl) (by decide) (by decide)) (g := (mkF m 32 #[oa r0, oa r1, .val .null, oa vb, oi (Int32.ofNat bs.length)] [(.int (Int32.ofNat bs.length)), (.int (0 : Int32)), (.ref vb), (.ref r0)])) rfl (by rw [hml]; rfl) (argsL := [(.ref vb), (.int (0 : Int32)), (.int (Int32.ofNat bs.length))]) (rest := [(.ref r0)]) (lenOf pd_15 rfl) rfl (by show 2 * 0 + _ ≤ _; exact Nat.le_of_eq rfl) (hb hby d22_32) (fun _ _ => ⟨rfl, e12, (by decide : 0 + 1 ≤ _), (by decide : 0 + 34 ≤ _)⟩)
  dsimp only [Pt.U, Pt.locs, Pt.cells, Pt.slots] at X17 l17 y17 z17 st17 hQ17
  subst l17 y17 z17
  obtain ⟨ra17, kx17, rfl, N17q, Kq17, szq17, g_ra17, Vq17⟩ := hQ17
  have N17 := Fr.app N12 N17q
  have f18 := (Eo.wr W12)
  have lt_r0_17 := f18.lt
  have f19 := (Eb.wr W12)
  have lt_r1_17 := f19.lt
  have lt_vb_17 := f16.lt
  have f20 := ((Keep.refl h0 [r0]).wr W12 (Or.inl (List.mem_of_getElem? (i := 0) rfl)))
  have sz_ra17 : h0.size ≤ ra17 := Nat.le_trans f20.1 szq17
  have f21 := ((Fo.other W12 (Or.inr (slot_ne (a0 := a0) (Or.inr (own_t hw 30 rfl)) (Or.inr (own_t hw 32 rfl)) (by decide) (t := (.array .byte)) (t' := .byte) (by decide) (by decide)))).keep Kq17 nin0)
  have f22 := (f18.keep Kq17)
  obtain ⟨T23, h23, X23, e23, W23, st23⟩ := putF X17 hx hZ hown (host := "") (Or.inl (own_t hw 29 rfl)) Via.refl rfl f21 f22 (Or.inr ⟨(own_t hw 30 rfl), rfl, hnm⟩) (own_t hw 17 rfl) (ty := (.array .byte)) (by decide) rfl rfl (g := (mkF m 35 #[oa r0, oa r1, .val .null, oa vb, oi (Int32.ofNat bs.length)] [(.ref ra17), (.ref r0)])) rfl rfl (hb hby d22_35)
  have Fw23 := f21.same W23
  have N23 := Fr.snoc X23 N17 g_r0
  have c24 : own_G p e below T23 (mkF m 97 #[oa r0, oa r1, .val .null, oa vb, oi (Int32.ofNat bs.length)] []) (mkF m 38 #[oa r0, oa r1, .val .null, oa vb, oi (Int32.ofNat bs.length)] []) := by
    intro t kt
    show oS T23 (mkF m 38 #[oa r0, oa r1, .val .null, oa vb, oi (Int32.ofNat bs.length)] []) _
    refine XS.goto X23.here hx rfl (pc0 := 38) (pc' := 97) rfl (hb hby d22_38) (by decide) (by decide) ?_
    exact kt
  obtain ⟨fs, hr, hrun, hended, hW, hsame⟩ := X23.leave (v := none) (fun _ => rfl)
  have f26 := ((f20.trans Kq17 all0).wr W23 (Or.inl (List.mem_of_getElem? (i := 0) rfl)))
  have f27 := (f22.wr W23)
  have f28 := ((Fw12.keep Kq17 nin0).other W23 (Or.inr (slot_ne (a0 := a0) (Or.inr (own_t hw 32 rfl)) (Or.inr (own_t hw 30 rfl)) (by decide) (t := .byte) (t' := (.array .byte)) (by decide) (by decide))))
  have f29 := (Vq17.other W23 (Ne.symm (Nat.ne_of_lt (Nat.lt_of_lt_of_le lt_r0_17 szq17))))
  refine ⟨_, _, pre0 _ (c2 _ (st1 _ (c3 _ (st5.trans (c6 _ (st8.trans (c9 _ (st11.trans (c13 _ (st12 _ (c14 _ (st17 _ (st23 _ (c24 _ (?_))))))))))))))), hrun, hended, _, _, rfl, ?_, ⟨_, rfl⟩, hW, hsame.mono (by decide) (by decide)⟩
  · show Steps p.tables e below (T23.setTop (mkF m 97 #[oa r0, oa r1, .val .null, oa vb, oi (Int32.ofNat bs.length)] [])) _
    exact X23.returnOut hx Bd.returns (hb hby d22_97) hr
  · show Q22 Z r0 r1 vb kv z bs cs h0 n0 _ T23.heap _
    rw [e23]
    exact ⟨rfl, N23, f26, f27, ⟨ra17, kx17, sz_ra17, g_ra17, Fw23, f28, f29⟩⟩
theorem d21_0 : decode jdk_42_method_53_code 0 = .ok (.aload_n 0, 1) := by decide +kernel
theorem d21_1 : decode jdk_42_method_53_code 1 = .ok (.aload_n 1, 1) := by decide +kernel
theorem d21_2 : decode jdk_42_method_53_code 2 = .ok (.aconst_null, 1) := by decide +kernel
theorem d21_3 : decode jdk_42_method_53_code 3 = .ok (.invokespecial 489, 3) := by decide +kernel
theorem d21_6 : decode jdk_42_method_53_code 6 = .ok (.return_, 1) := by decide +kernel
theorem pn_21 : plainName "java/lang/String" = true := by first | (simp [plainName, overriddenIn]; done) | decide +kernel
theorem ef_21 (m : MethodId) (x0 : Addr) (x1 : Addr) : entryFrame m #[(.ref x0), (.ref x1)] 2 = mkF m 0 #[.val (.ref x0), .val (.ref x1)] [] := by first | (simp [entryFrame, mkF, argsToLocals, Value.category]; done) | rfl
def Q21 (Z : State) (r0 : Addr) (r1 : Addr) (vb : Addr) (kv : ClassId) (z : Int32) (bs : List Int32) (cs : Int32) (h0 : Heap) (n0 : Nat) (v : Option Value) (h : Heap) (L : List Loc) : Prop := v = none ∧ Fr n0 L ∧ Keep h0 h [r0] ∧ Exa Z h r0 "java/lang/String" ∧ ∃ ra kx, h0.size ≤ ra ∧ n0 ≤ ra ∧ Fld Z h r0 "java/lang/String" "value" "[B" (.ref ra) ∧ Fld Z h r0 "java/lang/String" "coder" "B" (.int (0 : Int32)) ∧ Arv Z h ra kx .byte (Int32.ofNat bs.length) ((bs.map (fun c => c.toInt8.toInt32)).map Value.int) (.int 0)
set_option maxRecDepth 65536 in
set_option maxHeartbeats 40000000 in
theorem rm21 (l : Launch) (Z : State) (a0 : Array Value) (hw : ∀ d ∈ tables_1, d.before a0 Z = true) (ws : List Jvm.Cond) (r0 : Addr) (r1 : Addr) (vb : Addr) (kv : ClassId) (z : Int32) (bs : List Int32) (cs : Int32) (h0 : Heap) (n0 : Nat) (Z0 : n0 ≤ h0.size) (Eo : Exa Z h0 r0 "java/lang/String") (Fo : Fld Z h0 r0 "java/lang/String" "value" "[B" .null) (Co : Fld Z h0 r0 "java/lang/String" "coder" "B" (.int (0 : Int32))) (g_r0 : n0 ≤ r0) (Eb : Exa Z h0 r1 "java/lang/StringBuilder") (Bv : Fld Z h0 r1 "java/lang/AbstractStringBuilder" "value" "[B" (.ref vb)) (Bc : Fld Z h0 r1 "java/lang/AbstractStringBuilder" "coder" "B" (.int (0 : Int32))) (Bn : Fld Z h0 r1 "java/lang/AbstractStringBuilder" "count" "I" (.int (Int32.ofNat bs.length))) (Bb : Arv Z h0 vb kv .byte z ((bs.map (fun c => c.toInt8.toInt32)).map Value.int) (.int 0)) (hbl : bs.length ≤ z.toNatClampNeg) (hl34 : bs.length ≤ 34) (hcap : (z = (16 : Int32) ∧ Exa Z h0 vb "[B") ∨ z = (34 : Int32)) (hl20 : bs.length ≤ 20) (SC : Sta Z h0 "java/lang/String" "COMPACT_STRINGS" "Z" (.int cs)) (hcs : ¬ cs = (0 : Int32)) (hne : r1 ≠ r0) (hvr : vb ≠ r0) :
    MetFree l yy_28 (head1 (Jvm.Cond.code yy_28 jdk_42_method_53_code 2 none :: ws) ({ frames := 4, cells := 1, slots := 34, locals := 111 } : Room)) (fun a U => a = #[(.ref r0), (.ref r1)] ∧ Z.Warmed39 U.vm ∧ U.heap = h0) (fun _ _ _ _ _ => True) (fun _ U o U' => ∃ v L, o = .returned v ∧ Q21 Z r0 r1 vb kv z bs cs h0 n0 v U'.heap L ∧ FrameEnd U o U' L ({ frames := 4, cells := 1, slots := 34, locals := 111 } : Room).cells ({ frames := 4, cells := 1, slots := 34, locals := 111 } : Room).slots) := by
  refine MetFree.of_bodySF (plainFor_of_name pn_21) hisR ?_
  intro p e s m args below meth c s₁ Bd hml0 hP hK
  obtain ⟨rfl, hZ, hh⟩ := hP
  have hx := Bd.exec
  have hby := Bd.bytes
  have hml : c.maxLocals = 2 := hml0
  have hown : s.vm.findClass "java/lang/String" = some m.cls := findClass_of_methodNamed Bd.named
  have hnm := (name_of_methodNamed Bd.named Bd.method).1
  have X0 : Stand p l e ({ frames := 4, cells := 1, slots := 34, locals := 111 } : Room) s m #[(.ref r0), (.ref r1)] below meth c s₁ [] 0 0 := Stand.of_body Bd
  have e0 : s₁.heap = h0 := by rw [← hh, Bd.state]; rfl
  have N0 := Fr.nil n0
  have pre0 : ∀ t, Steps p.tables e below (s₁.setTop (mkF m 0 #[oa r0, oa r1] [])) t → Steps p.tables e below (s₁.setTop (entryFrame m #[(.ref r0), (.ref r1)] 2)) t := fun t k => castTop (ef_21 m r0 r1) k
  have c1 : own_G p e below s₁ (mkF m 3 #[oa r0, oa r1] [.null, (.ref r1), (.ref r0)]) (mkF m 0 #[oa r0, oa r1] []) := by
    intro t kt
    show oS s₁ (mkF m 0 #[oa r0, oa r1] []) _
    refine XS.aloadN X0.here hx rfl (hb hby d21_0) rfl rfl ?_
    show oS s₁ (mkF m 1 #[oa r0, oa r1] [(.ref r0)]) _
    refine XS.aloadN X0.here hx rfl (hb hby d21_1) rfl rfl ?_
    show oS s₁ (mkF m 2 #[oa r0, oa r1] [(.ref r1), (.ref r0)]) _
    refine XS.aconstNull X0.here hx rfl (hb hby d21_2) ?_
    exact kt
  obtain ⟨_, _, ⟨T2, L2, k2, n2⟩, -, X2, ⟨Lc2, hQ2, l2, y2, z2⟩, st2⟩ := X0.specialBack hx (y := yy_27) rfl hown (mvT hZ (own_t hw 128 rfl)) (mvT hZ (own_t hw 129 rfl)) (mvT hZ (own_t hw 130 rfl)) (by decide) (backOf (W := 0) (rm22 l Z a0 hw [] r0 r1 vb kv z bs cs h0 n0 Z0 Eo Fo Co g_r0 Eb Bv Bc Bn Bb hbl hl34 (hcap.imp (fun q => ⟨q.1, q.2⟩) id) hl20 SC hcs hne hvr) hZ (own_t hw 130 rfl) (own_t hw 9 rfl) (by decide) (by decide)) (g := (mkF m 3 #[oa r0, oa r1] [.null, (.ref r1), (.ref r0)])) rfl (by rw [hml]; rfl) (Steps.refl _) (a := r0) (argsL := [(.ref r1), .null]) (rest := []) (lenOf pd_17 rfl) rfl (by show 2 * 0 + _ ≤ _; exact Nat.le_of_eq rfl) (hb hby d21_3) (fun _ _ => ⟨rfl, e0, (by decide : 0 + 1 ≤ _), (by decide : 0 + 34 ≤ _)⟩)
  dsimp only [Pt.U, Pt.locs, Pt.cells, Pt.slots] at X2 l2 y2 z2 st2 hQ2
  subst l2 y2 z2
  obtain ⟨rfl, N2q, Kq2, hs2⟩ := hQ2
  have N2 := Fr.app N0 N2q
  obtain ⟨fs, hr, hrun, hended, hW, hsame⟩ := X2.leave (v := none) (fun _ => rfl)
  have f4 := ((Keep.refl h0 [r0]).trans Kq2 (allS (Or.inl (List.mem_of_getElem? (i := 0) rfl)) all0))
  refine ⟨_, _, pre0 _ (c1 _ (st2.trans (?_))), hrun, hended, _, _, rfl, ?_, ⟨_, rfl⟩, hW, hsame.mono (by decide) (by decide)⟩
  · show Steps p.tables e below (T2.setTop (mkF m 6 #[oa r0, oa r1] [])) _
    exact X2.returnOut hx Bd.returns (hb hby d21_6) hr
  · show Q21 Z r0 r1 vb kv z bs cs h0 n0 _ T2.heap _
    exact ⟨rfl, N2, f4, hs2⟩
theorem d20_0 : decode jdk_67_method_42_code 0 = .ok (.new 18, 3) := by decide +kernel
theorem d20_3 : decode jdk_67_method_42_code 3 = .ok (.dup, 1) := by decide +kernel
theorem d20_4 : decode jdk_67_method_42_code 4 = .ok (.aload_n 0, 1) := by decide +kernel
theorem d20_5 : decode jdk_67_method_42_code 5 = .ok (.invokespecial 137, 3) := by decide +kernel
theorem d20_8 : decode jdk_67_method_42_code 8 = .ok (.areturn, 1) := by decide +kernel
theorem pn_20 : plainName "java/lang/StringBuilder" = true := by first | (simp [plainName, overriddenIn]; done) | decide +kernel
theorem ef_20 (m : MethodId) (x0 : Addr) : entryFrame m #[(.ref x0)] 1 = mkF m 0 #[.val (.ref x0)] [] := by first | (simp [entryFrame, mkF, argsToLocals, Value.category]; done) | rfl
def Q20 (Z : State) (r0 : Addr) (vb : Addr) (kv : ClassId) (z : Int32) (bs : List Int32) (cs : Int32) (h0 : Heap) (n0 : Nat) (v : Option Value) (h : Heap) (L : List Loc) : Prop := ∃ sa rb kb, v = some (.ref sa) ∧ Fr n0 L ∧ Keep h0 h [] ∧ Exa Z h sa "java/lang/String" ∧ Fld Z h sa "java/lang/String" "value" "[B" (.ref rb) ∧ Fld Z h sa "java/lang/String" "coder" "B" (.int (0 : Int32)) ∧ Arv Z h rb kb .byte (Int32.ofNat bs.length) ((bs.map (fun c => c.toInt8.toInt32)).map Value.int) (.int 0)
set_option maxRecDepth 65536 in
set_option maxHeartbeats 40000000 in
theorem rm20 (l : Launch) (Z : State) (a0 : Array Value) (hw : ∀ d ∈ tables_1, d.before a0 Z = true) (ws : List Jvm.Cond) (r0 : Addr) (vb : Addr) (kv : ClassId) (z : Int32) (bs : List Int32) (cs : Int32) (h0 : Heap) (n0 : Nat) (Z0 : n0 ≤ h0.size) (Eb : Exa Z h0 r0 "java/lang/StringBuilder") (Bv : Fld Z h0 r0 "java/lang/AbstractStringBuilder" "value" "[B" (.ref vb)) (Bc : Fld Z h0 r0 "java/lang/AbstractStringBuilder" "coder" "B" (.int (0 : Int32))) (Bn : Fld Z h0 r0 "java/lang/AbstractStringBuilder" "count" "I" (.int (Int32.ofNat bs.length))) (Bb : Arv Z h0 vb kv .byte z ((bs.map (fun c => c.toInt8.toInt32)).map Value.int) (.int 0)) (hbl : bs.length ≤ z.toNatClampNeg) (hl34 : bs.length ≤ 34) (hcap : (z = (16 : Int32) ∧ Exa Z h0 vb "[B") ∨ z = (34 : Int32)) (hl20 : bs.length ≤ 20) (SC : Sta Z h0 "java/lang/String" "COMPACT_STRINGS" "Z" (.int cs)) (hcs : ¬ cs = (0 : Int32)) :
    MetFree l yy_29 (head1 (Jvm.Cond.code yy_29 jdk_67_method_42_code 1 (some (.object "java/lang/String")) :: ws) ({ frames := 5, cells := 2, slots := 38, locals := 125 } : Room)) (fun a U => a = #[(.ref r0)] ∧ Z.Warmed39 U.vm ∧ U.heap = h0) (fun _ _ _ _ _ => True) (fun _ U o U' => ∃ v L, o = .returned v ∧ Q20 Z r0 vb kv z bs cs h0 n0 v U'.heap L ∧ FrameEnd U o U' L ({ frames := 5, cells := 2, slots := 38, locals := 125 } : Room).cells ({ frames := 5, cells := 2, slots := 38, locals := 125 } : Room).slots) := by
  refine MetFree.of_bodySF (plainFor_of_name pn_20) hisR ?_
  intro p e s m args below meth c s₁ Bd hml0 hP hK
  obtain ⟨rfl, hZ, hh⟩ := hP
  have hx := Bd.exec
  have hby := Bd.bytes
  have hml : c.maxLocals = 1 := hml0
  have hown : s.vm.findClass "java/lang/StringBuilder" = some m.cls := findClass_of_methodNamed Bd.named
  have hnm := (name_of_methodNamed Bd.named Bd.method).1
  have X0 : Stand p l e ({ frames := 5, cells := 2, slots := 38, locals := 125 } : Room) s m #[(.ref r0)] below meth c s₁ [] 0 0 := Stand.of_body Bd
  have e0 : s₁.heap = h0 := by rw [← hh, Bd.state]; rfl
  have N0 := Fr.nil n0
  have pre0 : ∀ t, Steps p.tables e below (s₁.setTop (mkF m 0 #[oa r0] [])) t → Steps p.tables e below (s₁.setTop (entryFrame m #[(.ref r0)] 1)) t := fun t k => castTop (ef_20 m r0) k
  obtain ⟨T1, h1, X1, e1, E1, A1, D1, U1, st1⟩ := newO X0 hx hZ hown (own_t hw 124 rfl) (own_t hw 17 rfl) (own_t hw 9 rfl) e0 (g := (mkF m 0 #[oa r0] [])) rfl (hb hby d20_0) (by decide) (by decide)
  obtain ⟨b1, g1⟩ : ∃ z, z = h0.size := ⟨_, rfl⟩
  rw [← g1] at A1 D1 U1 st1
  have g_b1 : n0 ≤ b1 := Nat.le_trans Z0 (Nat.le_of_eq g1.symm)
  have sz_b1 : h0.size ≤ b1 := Nat.le_trans (Keep.refl h0 []).1 (Nat.le_of_eq g1.symm)
  have lt_r0_1 := Eb.lt
  have lt_vb_1 := Bb.lt
  have F1_value : Fld Z h1 b1 "java/lang/String" "value" "[B" .null := D1 (Or.inr (own_t hw 30 rfl)) (ty := (.array .byte)) (by decide)
  have F1_coder : Fld Z h1 b1 "java/lang/String" "coder" "B" (.int (0 : Int32)) := D1 (Or.inr (own_t hw 32 rfl)) (ty := .byte) (by decide)
  have c2 : own_G p e below T1 (mkF m 5 #[oa r0] [(.ref r0), (.ref b1), (.ref b1)]) (mkF m 3 #[oa r0] [(.ref b1)]) := by
    intro t kt
    show oS T1 (mkF m 3 #[oa r0] [(.ref b1)]) _
    refine XS.dup X1.here hx rfl (hb hby d20_3) rfl rfl ?_
    show oS T1 (mkF m 4 #[oa r0] [(.ref b1), (.ref b1)]) _
    refine XS.aloadN X1.here hx rfl (hb hby d20_4) rfl rfl ?_
    exact kt
  have f3 := (Nat.le_trans Z0 E1.1)
  have f4 := (Eb.ext E1)
  have f5 := (Bv.ext E1)
  have f6 := (Bc.ext E1)
  have f7 := (Bn.ext E1)
  have f8 := (Bb.ext E1)
  have f9 := (SC.ext E1)
  obtain ⟨_, _, ⟨T10, L10, k10, n10⟩, -, X10, ⟨Lc10, hQ10, l10, y10, z10⟩, st10⟩ := X1.specialBack hx (y := yy_28) rfl hown (mvT hZ (own_t hw 125 rfl)) (mvT hZ (own_t hw 126 rfl)) (mvT hZ (own_t hw 127 rfl)) (by decide) (backOf (W := 1) (rm21 l Z a0 hw [] b1 r0 vb kv z bs cs h1 n0 f3 A1 F1_value F1_coder g_b1 f4 f5 f6 f7 f8 hbl hl34 (hcap.imp (fun q => ⟨q.1, (q.2.ext E1)⟩) id) hl20 f9 hcs (Nat.ne_of_lt (Nat.lt_of_lt_of_le lt_r0_1 (Nat.le_of_eq g1.symm))) (Nat.ne_of_lt (Nat.lt_of_lt_of_le lt_vb_1 (Nat.le_of_eq g1.symm)))) hZ (own_t hw 127 rfl) (own_t hw 9 rfl) (by decide) (by decide)) (g := (mkF m 5 #[oa r0] [(.ref r0), (.ref b1), (.ref b1)])) rfl (by rw [hml]; rfl) (Steps.refl _) (a := b1) (argsL := [(.ref r0)]) (rest := [(.ref b1)]) (lenOf pd_18 rfl) rfl (by show 2 * 0 + _ ≤ _; exact Nat.le_of_eq rfl) (hb hby d20_5) (fun _ _ => ⟨rfl, e1, (by decide : 1 + 1 ≤ _), (by decide : 4 + 34 ≤ _)⟩)
  dsimp only [Pt.U, Pt.locs, Pt.cells, Pt.slots] at X10 l10 y10 z10 st10 hQ10
  subst l10 y10 z10
  obtain ⟨rfl, N10q, Kq10, Eq10, ra10, kx10, szq10, g_ra10, Fv10, Fc10, Vq10⟩ := hQ10
  have N10 := Fr.app N0 N10q
  have lt_r0_10 := f4.lt
  have lt_vb_10 := f8.lt
  have lt_b1_10 := A1.lt
  have f11 := ((Keep.refl h0 []).ext E1)
  have sz_ra10 : h0.size ≤ ra10 := Nat.le_trans f11.1 szq10
  obtain ⟨fs, hr, hrun, hended, hW, hsame⟩ := X10.leave (v := some (.ref b1)) (fun h => by rw [Bd.returns] at h; cases h)
  have f13 := (f11.trans Kq10 (allS (Or.inr sz_b1) all0))
  refine ⟨_, _, pre0 _ (st1 _ (c2 _ (st10.trans (?_)))), hrun, hended, _, _, rfl, ?_, ⟨_, rfl⟩, hW, hsame.mono (by decide) (by decide)⟩
  · show Steps p.tables e below (T10.setTop (mkF m 8 #[oa r0] [(.ref b1)])) _
    jvm_step X10.here [X10.here.top, hx, (hb hby d20_8), X10.method', Bd.returns, Value.isRef, FieldType.isReference]
    first | (intro acts; rw [hr _ acts rfl rfl rfl]) | rw [hr _ _ rfl rfl rfl]
    exact Steps.refl _
  · show Q20 Z r0 vb kv z bs cs h0 n0 _ T10.heap _
    exact ⟨b1, ra10, kx10, rfl, N10, f13, Eq10, Fv10, Fc10, Vq10⟩
theorem d3_0 : decode jdk_43_method_3_code 0 = .ok (.iload_n 0, 1) := by decide +kernel
theorem d3_1 : decode jdk_43_method_3_code 1 = .ok (.sipush 255, 3) := by decide +kernel
theorem d3_4 : decode jdk_43_method_3_code 4 = .ok (.if_icmp .gt 7, 3) := by decide +kernel
theorem d3_7 : decode jdk_43_method_3_code 7 = .ok (.iconst 1, 1) := by decide +kernel
theorem d3_8 : decode jdk_43_method_3_code 8 = .ok (.goto 4, 3) := by decide +kernel
theorem d3_12 : decode jdk_43_method_3_code 12 = .ok (.ireturn, 1) := by decide +kernel
theorem pn_3 : plainName "java/lang/StringLatin1" = true := by first | (simp [plainName, overriddenIn]; done) | decide +kernel
theorem ef_3 (m : MethodId) (x0 : Int32) : entryFrame m #[(.int x0)] 1 = mkF m 0 #[.val (.int x0)] [] := by first | (simp [entryFrame, mkF, argsToLocals, Value.category]; done) | rfl
def Q3 (Z : State) (p0 : Int32) (h0 : Heap) (n0 : Nat) (v : Option Value) (h : Heap) (L : List Loc) : Prop := v = some (.int (1 : Int32)) ∧ Fr n0 L ∧ h = h0
set_option maxRecDepth 65536 in
set_option maxHeartbeats 40000000 in
theorem rm3 (l : Launch) (Z : State) (a0 : Array Value) (hw : ∀ d ∈ tables_1, d.before a0 Z = true) (ws : List Jvm.Cond) (p0 : Int32)  (h0 : Heap) (n0 : Nat) (Z0 : n0 ≤ h0.size) (hp : own_r p0) :
    MetFree l yy_30 (head1 (Jvm.Cond.code yy_30 jdk_43_method_3_code 1 (some .boolean) :: ws) ({ frames := 0, cells := 0, slots := 0, locals := 0 } : Room)) (fun a U => a = #[(.int p0)] ∧ Z.Warmed39 U.vm ∧ U.heap = h0) (fun _ _ _ _ _ => True) (fun _ U o U' => ∃ v L, o = .returned v ∧ Q3 Z p0 h0 n0 v U'.heap L ∧ FrameEnd U o U' L ({ frames := 0, cells := 0, slots := 0, locals := 0 } : Room).cells ({ frames := 0, cells := 0, slots := 0, locals := 0 } : Room).slots) := by
  refine MetFree.of_bodySF (plainFor_of_name pn_3) hisR ?_
  intro p e s m args below meth c s₁ Bd hml0 hP hK
  obtain ⟨rfl, hZ, hh⟩ := hP
  have hx := Bd.exec
  have hby := Bd.bytes
  have hml : c.maxLocals = 1 := hml0
  have hown : s.vm.findClass "java/lang/StringLatin1" = some m.cls := findClass_of_methodNamed Bd.named
  have hnm := (name_of_methodNamed Bd.named Bd.method).1
  have X0 : Stand p l e ({ frames := 0, cells := 0, slots := 0, locals := 0 } : Room) s m #[(.int p0)] below meth c s₁ [] 0 0 := Stand.of_body Bd
  have e0 : s₁.heap = h0 := by rw [← hh, Bd.state]; rfl
  have N0 := Fr.nil n0
  have pre0 : ∀ t, Steps p.tables e below (s₁.setTop (mkF m 0 #[oi p0] [])) t → Steps p.tables e below (s₁.setTop (entryFrame m #[(.int p0)] 1)) t := fun t k => castTop (ef_3 m p0) k
  have c2 : own_G p e below s₁ (mkF m 4 #[oi p0] [(.int (255 : Int32)), (.int p0)]) (mkF m 0 #[oi p0] []) := by
    intro t kt
    show oS s₁ (mkF m 0 #[oi p0] []) _
    refine XS.iloadN X0.here hx rfl (hb hby d3_0) rfl ?_
    show oS s₁ (mkF m 1 #[oi p0] [(.int p0)]) _
    refine XS.sipush X0.here hx rfl (hb hby d3_1) ?_
    exact kt
  have hd1 : ¬ ((255 : Int32) < p0) := hp.2
  have c3 : own_G p e below s₁ (mkF m 12 #[oi p0] [(.int (1 : Int32))]) (mkF m 4 #[oi p0] [(.int (255 : Int32)), (.int p0)]) := by
    intro t kt
    show oS s₁ (mkF m 4 #[oi p0] [(.int (255 : Int32)), (.int p0)]) _
    refine XS.icmpNo X0.here hx rfl (hb hby d3_4) rfl (flt hd1).2.2.1 ?_
    show oS s₁ (mkF m 7 #[oi p0] []) _
    refine XS.iconst X0.here hx rfl (hb hby d3_7) ?_
    show oS s₁ (mkF m 8 #[oi p0] [(.int (1 : Int32))]) _
    refine XS.goto X0.here hx rfl (pc0 := 8) (pc' := 12) rfl (hb hby d3_8) (by decide) (by decide) ?_
    exact kt
  obtain ⟨fs, hr, hrun, hended, hW, hsame⟩ := X0.leave (v := some (.int (1 : Int32))) (fun h => by rw [Bd.returns] at h; cases h)
  refine ⟨_, _, pre0 _ (c2 _ (c3 _ (?_))), hrun, hended, _, _, rfl, ?_, ⟨_, rfl⟩, hW, hsame.mono (by decide) (by decide)⟩
  · show Steps p.tables e below (s₁.setTop (mkF m 12 #[oi p0] [(.int (1 : Int32))])) _
    exact retN X0 hx (t := .boolean) Bd.returns (by simp) (hb hby d3_12) hr
  · show Q3 Z p0 h0 n0 _ s₁.heap _
    rw [e0]
    exact ⟨congrArg (fun z => some (Value.int z)) (show (1 : Int32) = (1 : Int32) from by rfl), N0, rfl⟩
theorem d4_0 : decode jdk_43_method_46_code 0 = .ok (.iconst 1, 1) := by decide +kernel
theorem d4_1 : decode jdk_43_method_46_code 1 = .ok (.newarray .byte, 2) := by decide +kernel
theorem d4_3 : decode jdk_43_method_46_code 3 = .ok (.dup, 1) := by decide +kernel
theorem d4_4 : decode jdk_43_method_46_code 4 = .ok (.iconst 0, 1) := by decide +kernel
theorem d4_5 : decode jdk_43_method_46_code 5 = .ok (.iload_n 0, 1) := by decide +kernel
theorem d4_6 : decode jdk_43_method_46_code 6 = .ok (.i2b, 1) := by decide +kernel
theorem d4_7 : decode jdk_43_method_46_code 7 = .ok (.bastore, 1) := by decide +kernel
theorem d4_8 : decode jdk_43_method_46_code 8 = .ok (.areturn, 1) := by decide +kernel
theorem pn_4 : plainName "java/lang/StringLatin1" = true := by first | (simp [plainName, overriddenIn]; done) | decide +kernel
theorem ef_4 (m : MethodId) (x0 : Int32) : entryFrame m #[(.int x0)] 1 = mkF m 0 #[.val (.int x0)] [] := by first | (simp [entryFrame, mkF, argsToLocals, Value.category]; done) | rfl
def Q4 (Z : State) (p0 : Int32) (h0 : Heap) (n0 : Nat) (v : Option Value) (h : Heap) (L : List Loc) : Prop := ∃ ra kx, v = some (.ref ra) ∧ Fr n0 L ∧ Keep h0 h [] ∧ h0.size ≤ ra ∧ n0 ≤ ra ∧ Arv Z h ra kx .byte (Int32.ofNat [p0].length) (([p0].map (fun c => c.toInt8.toInt32)).map Value.int) (.int 0)
set_option maxRecDepth 65536 in
set_option maxHeartbeats 40000000 in
theorem rm4 (l : Launch) (Z : State) (a0 : Array Value) (hw : ∀ d ∈ tables_1, d.before a0 Z = true) (ws : List Jvm.Cond) (p0 : Int32)  (h0 : Heap) (n0 : Nat) (Z0 : n0 ≤ h0.size) :
    MetFree l yy_31 (head1 (Jvm.Cond.code yy_31 jdk_43_method_46_code 1 (some (.array .byte)) :: ws) ({ frames := 0, cells := 1, slots := 1, locals := 0 } : Room)) (fun a U => a = #[(.int p0)] ∧ Z.Warmed39 U.vm ∧ U.heap = h0) (fun _ _ _ _ _ => True) (fun _ U o U' => ∃ v L, o = .returned v ∧ Q4 Z p0 h0 n0 v U'.heap L ∧ FrameEnd U o U' L ({ frames := 0, cells := 1, slots := 1, locals := 0 } : Room).cells ({ frames := 0, cells := 1, slots := 1, locals := 0 } : Room).slots) := by
  refine MetFree.of_bodySF (plainFor_of_name pn_4) hisR ?_
  intro p e s m args below meth c s₁ Bd hml0 hP hK
  obtain ⟨rfl, hZ, hh⟩ := hP
  have hx := Bd.exec
  have hby := Bd.bytes
  have hml : c.maxLocals = 1 := hml0
  have hown : s.vm.findClass "java/lang/StringLatin1" = some m.cls := findClass_of_methodNamed Bd.named
  have hnm := (name_of_methodNamed Bd.named Bd.method).1
  have X0 : Stand p l e ({ frames := 0, cells := 1, slots := 1, locals := 0 } : Room) s m #[(.int p0)] below meth c s₁ [] 0 0 := Stand.of_body Bd
  have e0 : s₁.heap = h0 := by rw [← hh, Bd.state]; rfl
  have N0 := Fr.nil n0
  have pre0 : ∀ t, Steps p.tables e below (s₁.setTop (mkF m 0 #[oi p0] [])) t → Steps p.tables e below (s₁.setTop (entryFrame m #[(.int p0)] 1)) t := fun t k => castTop (ef_4 m p0) k
  have c2 : own_G p e below s₁ (mkF m 1 #[oi p0] [(.int (1 : Int32))]) (mkF m 0 #[oi p0] []) := by
    intro t kt
    show oS s₁ (mkF m 0 #[oi p0] []) _
    refine XS.iconst X0.here hx rfl (hb hby d4_0) ?_
    exact kt
  obtain ⟨T1, h1, k1, X1, e1, E1, A1, st1⟩ := newP X0 hx hZ (own_t hw 21 rfl) e0 (g := (mkF m 1 #[oi p0] [(.int (1 : Int32))])) rfl (hb hby d4_1) rfl (by decide) (cap := 1) (by decide) (by decide) (by decide) (by decide)
  obtain ⟨b1, g1⟩ : ∃ z, z = h0.size := ⟨_, rfl⟩
  rw [← g1] at A1 st1
  have g_b1 : n0 ≤ b1 := Nat.le_trans Z0 (Nat.le_of_eq g1.symm)
  have sz_b1 : h0.size ≤ b1 := Nat.le_trans (Keep.refl h0 []).1 (Nat.le_of_eq g1.symm)
  have V1 : Arv Z h1 b1 k1 .byte (1 : Int32) [(.int (0 : Int32))] (.int (0 : Int32)) := (Arv.new A1 (by decide)).pad (pad_rep [] (.int (0 : Int32)) 1)
  have c3 : own_G p e below T1 (mkF m 7 #[oi p0] [(.int (p0.toInt8.toInt32)), (.int (0 : Int32)), (.ref b1), (.ref b1)]) (mkF m 3 #[oi p0] [(.ref b1)]) := by
    intro t kt
    show oS T1 (mkF m 3 #[oi p0] [(.ref b1)]) _
    refine XS.dup X1.here hx rfl (hb hby d4_3) rfl rfl ?_
    show oS T1 (mkF m 4 #[oi p0] [(.ref b1), (.ref b1)]) _
    refine XS.iconst X1.here hx rfl (hb hby d4_4) ?_
    show oS T1 (mkF m 5 #[oi p0] [(.int (0 : Int32)), (.ref b1), (.ref b1)]) _
    refine XS.iloadN X1.here hx rfl (hb hby d4_5) rfl ?_
    show oS T1 (mkF m 6 #[oi p0] [(.int p0), (.int (0 : Int32)), (.ref b1), (.ref b1)]) _
    refine XS.i2b X1.here hx rfl (hb hby d4_6) rfl ?_
    exact kt
  have Vc4 := V1
  obtain ⟨cl4, Ar4, qk4, S4, M4, H4, G4⟩ := Vc4
  have hin4 : ¬ ((0 : Int32) < 0 ∨ cl4.slots.size ≤ ((0 : Int32)).toNatClampNeg) := inb_of S4 ⟨by decide, by decide⟩
  obtain ⟨T5, h5, X5, e5, W5, st5⟩ := stB X1 hx hZ e1 Ar4 (j := (0 : Int32)) hin4 (g := (mkF m 7 #[oi p0] [(.int (p0.toInt8.toInt32)), (.int (0 : Int32)), (.ref b1), (.ref b1)])) rfl rfl (hb hby d4_7)
  have V5 : Arv Z h5 b1 k1 .byte (1 : Int32) [(.int ((p0.toInt8.toInt32).toInt8.toInt32))] (.int (0 : Int32)) := Arv.set Ar4 qk4 S4 M4 H4 G4 (fits_nar_byte _) W5 0 rfl (Nat.le_of_ble_eq_true rfl)
  have N5 := Fr.snoc X5 N0 g_b1
  obtain ⟨fs, hr, hrun, hended, hW, hsame⟩ := X5.leave (v := some (.ref b1)) (fun h => by rw [Bd.returns] at h; cases h)
  have f7 := (((Keep.refl h0 []).ext E1).wr W5 (Or.inr sz_b1))
  refine ⟨_, _, pre0 _ (c2 _ (st1 _ (c3 _ (st5 _ (?_))))), hrun, hended, _, _, rfl, ?_, ⟨_, rfl⟩, hW, hsame.mono (by decide) (by decide)⟩
  · show Steps p.tables e below (T5.setTop (mkF m 8 #[oi p0] [(.ref b1)])) _
    jvm_step X5.here [X5.here.top, hx, (hb hby d4_8), X5.method', Bd.returns, Value.isRef, FieldType.isReference]
    first | (intro acts; rw [hr _ acts rfl rfl rfl]) | rw [hr _ _ rfl rfl rfl]
    exact Steps.refl _
  · show Q4 Z p0 h0 n0 _ T5.heap _
    rw [e5]
    exact ⟨b1, k1, rfl, N5, f7, sz_b1, g_b1, (by have q := V5; rw [own_bbe] at q; exact q)⟩
theorem d5_0 : decode jdk_42_method_151_code 0 = .ok (.aload_n 0, 1) := by decide +kernel
theorem d5_1 : decode jdk_42_method_151_code 1 = .ok (.invokespecial 1, 3) := by decide +kernel
theorem d5_4 : decode jdk_42_method_151_code 4 = .ok (.aload_n 0, 1) := by decide +kernel
theorem d5_5 : decode jdk_42_method_151_code 5 = .ok (.aload_n 1, 1) := by decide +kernel
theorem d5_6 : decode jdk_42_method_151_code 6 = .ok (.putfield 9, 3) := by decide +kernel
theorem d5_9 : decode jdk_42_method_151_code 9 = .ok (.aload_n 0, 1) := by decide +kernel
theorem d5_10 : decode jdk_42_method_151_code 10 = .ok (.iload_n 2, 1) := by decide +kernel
theorem d5_11 : decode jdk_42_method_151_code 11 = .ok (.putfield 15, 3) := by decide +kernel
theorem d5_14 : decode jdk_42_method_151_code 14 = .ok (.return_, 1) := by decide +kernel
theorem pn_5 : plainName "java/lang/String" = true := by first | (simp [plainName, overriddenIn]; done) | decide +kernel
theorem ef_5 (m : MethodId) (x0 : Addr) (x1 : Addr) (x2 : Int32) : entryFrame m #[(.ref x0), (.ref x1), (.int x2)] 3 = mkF m 0 #[.val (.ref x0), .val (.ref x1), .val (.int x2)] [] := by first | (simp [entryFrame, mkF, argsToLocals, Value.category]; done) | rfl
def Q5 (Z : State) (r0 : Addr) (r1 : Addr) (h0 : Heap) (n0 : Nat) (v : Option Value) (h : Heap) (L : List Loc) : Prop := v = none ∧ Fr n0 L ∧ Keep h0 h [r0] ∧ Exa Z h r0 "java/lang/String" ∧ Fld Z h r0 "java/lang/String" "value" "[B" (.ref r1) ∧ Fld Z h r0 "java/lang/String" "coder" "B" (.int (0 : Int32))
set_option maxRecDepth 65536 in
set_option maxHeartbeats 40000000 in
theorem rm5 (l : Launch) (Z : State) (a0 : Array Value) (hw : ∀ d ∈ tables_1, d.before a0 Z = true) (ws : List Jvm.Cond) (r0 : Addr) (r1 : Addr)  (h0 : Heap) (n0 : Nat) (Z0 : n0 ≤ h0.size) (Eo : Exa Z h0 r0 "java/lang/String") (Fo : Fld Z h0 r0 "java/lang/String" "value" "[B" .null) (Co : Fld Z h0 r0 "java/lang/String" "coder" "B" (.int (0 : Int32))) (g_r0 : n0 ≤ r0) :
    MetFree l yy_32 (head1 (Jvm.Cond.code yy_32 jdk_42_method_151_code 3 none :: ws) ({ frames := 1, cells := 0, slots := 0, locals := 12 } : Room)) (fun a U => a = #[(.ref r0), (.ref r1), (.int (0 : Int32))] ∧ Z.Warmed39 U.vm ∧ U.heap = h0) (fun _ _ _ _ _ => True) (fun _ U o U' => ∃ v L, o = .returned v ∧ Q5 Z r0 r1 h0 n0 v U'.heap L ∧ FrameEnd U o U' L ({ frames := 1, cells := 0, slots := 0, locals := 12 } : Room).cells ({ frames := 1, cells := 0, slots := 0, locals := 12 } : Room).slots) := by
  refine MetFree.of_bodySF (plainFor_of_name pn_5) hisR ?_
  intro p e s m args below meth c s₁ Bd hml0 hP hK
  obtain ⟨rfl, hZ, hh⟩ := hP
  have hx := Bd.exec
  have hby := Bd.bytes
  have hml : c.maxLocals = 3 := hml0
  have hown : s.vm.findClass "java/lang/String" = some m.cls := findClass_of_methodNamed Bd.named
  have hnm := (name_of_methodNamed Bd.named Bd.method).1
  have X0 : Stand p l e ({ frames := 1, cells := 0, slots := 0, locals := 12 } : Room) s m #[(.ref r0), (.ref r1), (.int (0 : Int32))] below meth c s₁ [] 0 0 := Stand.of_body Bd
  have e0 : s₁.heap = h0 := by rw [← hh, Bd.state]; rfl
  have N0 := Fr.nil n0
  have pre0 : ∀ t, Steps p.tables e below (s₁.setTop (mkF m 0 #[oa r0, oa r1, oi 0] [])) t → Steps p.tables e below (s₁.setTop (entryFrame m #[(.ref r0), (.ref r1), (.int (0 : Int32))] 3)) t := fun t k => castTop (ef_5 m r0 r1 (0 : Int32)) k
  have c2 : own_G p e below s₁ (mkF m 1 #[oa r0, oa r1, oi 0] [(.ref r0)]) (mkF m 0 #[oa r0, oa r1, oi 0] []) := by
    intro t kt
    show oS s₁ (mkF m 0 #[oa r0, oa r1, oi 0] []) _
    refine XS.aloadN X0.here hx rfl (hb hby d5_0) rfl rfl ?_
    exact kt
  obtain ⟨T1, X1, e1, st1⟩ := initO X0 hx hZ hown (own_t hw 26 rfl) (own_t hw 27 rfl) (own_t hw 28 rfl) e0 (g := (mkF m 1 #[oa r0, oa r1, oi 0] [(.ref r0)])) rfl (by rw [hml]; rfl) rfl (hb hby d5_1) (by decide) (W := 0) (by show 2 * 0 + _ ≤ _; exact Nat.le_of_eq rfl) (by decide)
  have c4 : own_G p e below T1 (mkF m 6 #[oa r0, oa r1, oi 0] [(.ref r1), (.ref r0)]) (mkF m 4 #[oa r0, oa r1, oi 0] []) := by
    intro t kt
    show oS T1 (mkF m 4 #[oa r0, oa r1, oi 0] []) _
    refine XS.aloadN X1.here hx rfl (hb hby d5_4) rfl rfl ?_
    show oS T1 (mkF m 5 #[oa r0, oa r1, oi 0] [(.ref r0)]) _
    refine XS.aloadN X1.here hx rfl (hb hby d5_5) rfl rfl ?_
    exact kt
  obtain ⟨T3, h3, X3, e3, W3, st3⟩ := putF X1 hx hZ hown (host := "") (Or.inl (own_t hw 29 rfl)) Via.refl e1 Fo Eo (Or.inr ⟨(own_t hw 30 rfl), rfl, hnm⟩) (own_t hw 17 rfl) (ty := (.array .byte)) (by decide) rfl rfl (g := (mkF m 6 #[oa r0, oa r1, oi 0] [(.ref r1), (.ref r0)])) rfl rfl (hb hby d5_6)
  have Fw3 := Fo.same W3
  have N3 := Fr.snoc X3 N0 g_r0
  have f5 := (Co.other W3 (Or.inr (slot_ne (a0 := a0) (Or.inr (own_t hw 32 rfl)) (Or.inr (own_t hw 30 rfl)) (by decide) (t := .byte) (t' := (.array .byte)) (by decide) (by decide))))
  have f6 := (Eo.wr W3)
  have c8 : own_G p e below T3 (mkF m 11 #[oa r0, oa r1, oi 0] [(.int (0 : Int32)), (.ref r0)]) (mkF m 9 #[oa r0, oa r1, oi 0] []) := by
    intro t kt
    show oS T3 (mkF m 9 #[oa r0, oa r1, oi 0] []) _
    refine XS.aloadN X3.here hx rfl (hb hby d5_9) rfl rfl ?_
    show oS T3 (mkF m 10 #[oa r0, oa r1, oi 0] [(.ref r0)]) _
    refine XS.iloadN X3.here hx rfl (hb hby d5_10) rfl ?_
    exact kt
  obtain ⟨T7, h7, X7, e7, W7, st7⟩ := putFN X3 hx hZ hown (own_t hw 31 rfl) Via.refl e3 f5 f6 (Or.inr ⟨(own_t hw 32 rfl), rfl, hnm⟩) (own_t hw 17 rfl) (ty := .byte) (v' := (.int (0 : Int32))) (by decide) rfl rfl (g := (mkF m 11 #[oa r0, oa r1, oi 0] [(.int (0 : Int32)), (.ref r0)])) rfl rfl (hb hby d5_11)
  have Fw7 := f5.same W7
  have N7 := Fr.snoc X7 N3 g_r0
  obtain ⟨fs, hr, hrun, hended, hW, hsame⟩ := X7.leave (v := none) (fun _ => rfl)
  have f10 := (((Keep.refl h0 [r0]).wr W3 (Or.inl (List.mem_of_getElem? (i := 0) rfl))).wr W7 (Or.inl (List.mem_of_getElem? (i := 0) rfl)))
  have f11 := (f6.wr W7)
  have f12 := (Fw3.other W7 (Or.inr (slot_ne (a0 := a0) (Or.inr (own_t hw 30 rfl)) (Or.inr (own_t hw 32 rfl)) (by decide) (t := (.array .byte)) (t' := .byte) (by decide) (by decide))))
  refine ⟨_, _, pre0 _ (c2 _ (st1 _ (c4 _ (st3 _ (c8 _ (st7 _ (?_))))))), hrun, hended, _, _, rfl, ?_, ⟨_, rfl⟩, hW, hsame.mono (by decide) (by decide)⟩
  · show Steps p.tables e below (T7.setTop (mkF m 14 #[oa r0, oa r1, oi 0] [])) _
    exact X7.returnOut hx Bd.returns (hb hby d5_14) hr
  · show Q5 Z r0 r1 h0 n0 _ T7.heap _
    rw [e7]
    exact ⟨rfl, N7, f10, f11, f12, Fw7⟩
theorem d2_0 : decode jdk_42_method_139_code 0 = .ok (.getstatic 38, 3) := by decide +kernel
theorem d2_3 : decode jdk_42_method_139_code 3 = .ok (.ifCond .eq 23, 3) := by decide +kernel
theorem d2_6 : decode jdk_42_method_139_code 6 = .ok (.iload_n 0, 1) := by decide +kernel
theorem d2_7 : decode jdk_42_method_139_code 7 = .ok (.invokestatic 1015, 3) := by decide +kernel
theorem d2_10 : decode jdk_42_method_139_code 10 = .ok (.ifCond .eq 16, 3) := by decide +kernel
theorem d2_13 : decode jdk_42_method_139_code 13 = .ok (.new 10, 3) := by decide +kernel
theorem d2_16 : decode jdk_42_method_139_code 16 = .ok (.dup, 1) := by decide +kernel
theorem d2_17 : decode jdk_42_method_139_code 17 = .ok (.iload_n 0, 1) := by decide +kernel
theorem d2_18 : decode jdk_42_method_139_code 18 = .ok (.invokestatic 1018, 3) := by decide +kernel
theorem d2_21 : decode jdk_42_method_139_code 21 = .ok (.iconst 0, 1) := by decide +kernel
theorem d2_22 : decode jdk_42_method_139_code 22 = .ok (.invokespecial 209, 3) := by decide +kernel
theorem d2_25 : decode jdk_42_method_139_code 25 = .ok (.areturn, 1) := by decide +kernel
theorem pn_2 : plainName "java/lang/String" = true := by first | (simp [plainName, overriddenIn]; done) | decide +kernel
theorem ef_2 (m : MethodId) (x0 : Int32) : entryFrame m #[(.int x0)] 1 = mkF m 0 #[.val (.int x0)] [] := by first | (simp [entryFrame, mkF, argsToLocals, Value.category]; done) | rfl
def Q2 (Z : State) (p0 : Int32) (cs : Int32) (h0 : Heap) (n0 : Nat) (v : Option Value) (h : Heap) (L : List Loc) : Prop := ∃ sa rb kb, v = some (.ref sa) ∧ Fr n0 L ∧ Keep h0 h [] ∧ Exa Z h sa "java/lang/String" ∧ Fld Z h sa "java/lang/String" "value" "[B" (.ref rb) ∧ Fld Z h sa "java/lang/String" "coder" "B" (.int (0 : Int32)) ∧ Arv Z h rb kb .byte (Int32.ofNat [p0].length) (([p0].map (fun c => c.toInt8.toInt32)).map Value.int) (.int 0)
set_option maxRecDepth 65536 in
set_option maxHeartbeats 40000000 in
theorem rm2 (l : Launch) (Z : State) (a0 : Array Value) (hw : ∀ d ∈ tables_1, d.before a0 Z = true) (ws : List Jvm.Cond) (p0 : Int32) (cs : Int32) (h0 : Heap) (n0 : Nat) (Z0 : n0 ≤ h0.size) (hp : own_r p0) (SC : Sta Z h0 "java/lang/String" "COMPACT_STRINGS" "Z" (.int cs)) (hcs : ¬ cs = (0 : Int32)) :
    MetFree l yy_33 (head1 (Jvm.Cond.code yy_33 jdk_42_method_139_code 1 (some (.object "java/lang/String")) :: ws) ({ frames := 2, cells := 2, slots := 5, locals := 27 } : Room)) (fun a U => a = #[(.int p0)] ∧ Z.Warmed39 U.vm ∧ U.heap = h0) (fun _ _ _ _ _ => True) (fun _ U o U' => ∃ v L, o = .returned v ∧ Q2 Z p0 cs h0 n0 v U'.heap L ∧ FrameEnd U o U' L ({ frames := 2, cells := 2, slots := 5, locals := 27 } : Room).cells ({ frames := 2, cells := 2, slots := 5, locals := 27 } : Room).slots) := by
  refine MetFree.of_bodySF (plainFor_of_name pn_2) hisR ?_
  intro p e s m args below meth c s₁ Bd hml0 hP hK
  obtain ⟨rfl, hZ, hh⟩ := hP
  have hx := Bd.exec
  have hby := Bd.bytes
  have hml : c.maxLocals = 1 := hml0
  have hown : s.vm.findClass "java/lang/String" = some m.cls := findClass_of_methodNamed Bd.named
  have hnm := (name_of_methodNamed Bd.named Bd.method).1
  have X0 : Stand p l e ({ frames := 2, cells := 2, slots := 5, locals := 27 } : Room) s m #[(.int p0)] below meth c s₁ [] 0 0 := Stand.of_body Bd
  have e0 : s₁.heap = h0 := by rw [← hh, Bd.state]; rfl
  have N0 := Fr.nil n0
  have pre0 : ∀ t, Steps p.tables e below (s₁.setTop (mkF m 0 #[oi p0] [])) t → Steps p.tables e below (s₁.setTop (entryFrame m #[(.int p0)] 1)) t := fun t k => castTop (ef_2 m p0) k
  obtain ⟨T1, X1, e1, st1⟩ := getS2 X0 hx hZ hown (host := "") (Or.inl (own_t hw 11 rfl)) Via.refl e0 SC (g := (mkF m 0 #[oi p0] [])) rfl (hb hby d2_0)
  have hd2 : ¬ (cs = (0 : Int32)) := hcs
  have c3 : own_G p e below T1 (mkF m 7 #[oi p0] [(.int p0)]) (mkF m 3 #[oi p0] [(.int cs)]) := by
    intro t kt
    show oS T1 (mkF m 3 #[oi p0] [(.int cs)]) _
    refine XS.ifNo X1.here hx rfl (hb hby d2_3) rfl ((if0 _ _).trans (feq hd2).1) ?_
    show oS T1 (mkF m 6 #[oi p0] []) _
    refine XS.iloadN X1.here hx rfl (hb hby d2_6) rfl ?_
    exact kt
  obtain ⟨_, _, ⟨T4, L4, k4, n4⟩, -, X4, ⟨Lc4, hQ4, l4, y4, z4⟩, st4⟩ := Jvm.LawKit.callS X1 hx (y := yy_30) hown (mvT hZ (own_t hw 12 rfl)) (mvT hZ (own_t hw 13 rfl)) (mvT hZ (own_t hw 14 rfl)) (mvT hZ (own_t hw 15 rfl)) (by decide) (backOf (W := 0) (rm3 l Z a0 hw [] p0  h0 n0 Z0 hp) hZ (own_t hw 15 rfl) (own_t hw 14 rfl) (by decide) (by decide)) (g := (mkF m 7 #[oi p0] [(.int p0)])) rfl (by rw [hml]; rfl) (argsL := [(.int p0)]) (rest := []) (lenOf pd_19 rfl) rfl (by show 2 * 0 + _ ≤ _; exact Nat.le_of_eq rfl) (hb hby d2_7) (fun _ _ => ⟨rfl, e1, (by decide : 0 + 0 ≤ _), (by decide : 0 + 0 ≤ _)⟩)
  dsimp only [Pt.U, Pt.locs, Pt.cells, Pt.slots] at X4 l4 y4 z4 st4 hQ4
  subst l4 y4 z4
  obtain ⟨rfl, N4q, e4⟩ := hQ4
  have N4 := Fr.app N0 N4q
  have c6 : own_G p e below T4 (mkF m 13 #[oi p0] []) (mkF m 10 #[oi p0] [(.int (1 : Int32))]) := by
    intro t kt
    show oS T4 (mkF m 10 #[oi p0] [(.int (1 : Int32))]) _
    refine XS.ifNo X4.here hx rfl (hb hby d2_10) rfl ((if0 _ _).trans (feq (by decide : ¬ ((1 : Int32) = (0 : Int32)))).1) ?_
    exact kt
  obtain ⟨T5, h5, X5, e5, E5, A5, D5, U5, st5⟩ := newO X4 hx hZ hown (own_t hw 16 rfl) (own_t hw 17 rfl) (own_t hw 9 rfl) e4 (g := (mkF m 13 #[oi p0] [])) rfl (hb hby d2_13) (by decide) (by decide)
  obtain ⟨b5, g5⟩ : ∃ z, z = h0.size := ⟨_, rfl⟩
  rw [← g5] at A5 D5 U5 st5
  have g_b5 : n0 ≤ b5 := Nat.le_trans Z0 (Nat.le_of_eq g5.symm)
  have sz_b5 : h0.size ≤ b5 := Nat.le_trans (Keep.refl h0 []).1 (Nat.le_of_eq g5.symm)
  have F5_value : Fld Z h5 b5 "java/lang/String" "value" "[B" .null := D5 (Or.inr (own_t hw 30 rfl)) (ty := (.array .byte)) (by decide)
  have F5_coder : Fld Z h5 b5 "java/lang/String" "coder" "B" (.int (0 : Int32)) := D5 (Or.inr (own_t hw 32 rfl)) (ty := .byte) (by decide)
  have c7 : own_G p e below T5 (mkF m 18 #[oi p0] [(.int p0), (.ref b5), (.ref b5)]) (mkF m 16 #[oi p0] [(.ref b5)]) := by
    intro t kt
    show oS T5 (mkF m 16 #[oi p0] [(.ref b5)]) _
    refine XS.dup X5.here hx rfl (hb hby d2_16) rfl rfl ?_
    show oS T5 (mkF m 17 #[oi p0] [(.ref b5), (.ref b5)]) _
    refine XS.iloadN X5.here hx rfl (hb hby d2_17) rfl ?_
    exact kt
  have f8 := (Nat.le_trans Z0 E5.1)
  obtain ⟨_, _, ⟨T9, L9, k9, n9⟩, -, X9, ⟨Lc9, hQ9, l9, y9, z9⟩, st9⟩ := Jvm.LawKit.callS X5 hx (y := yy_31) hown (mvT hZ (own_t hw 18 rfl)) (mvT hZ (own_t hw 19 rfl)) (mvT hZ (own_t hw 14 rfl)) (mvT hZ (own_t hw 20 rfl)) (by decide) (backOf (W := 2) (rm4 l Z a0 hw [] p0  h5 n0 f8 ) hZ (own_t hw 20 rfl) (own_t hw 14 rfl) (by decide) (by decide)) (g := (mkF m 18 #[oi p0] [(.int p0), (.ref b5), (.ref b5)])) rfl (by rw [hml]; rfl) (argsL := [(.int p0)]) (rest := [(.ref b5), (.ref b5)]) (lenOf pd_20 rfl) rfl (by show 2 * 0 + _ ≤ _; exact Nat.le_of_eq rfl) (hb hby d2_18) (fun _ _ => ⟨rfl, e5, (by decide : 1 + 1 ≤ _), (by decide : 4 + 1 ≤ _)⟩)
  dsimp only [Pt.U, Pt.locs, Pt.cells, Pt.slots] at X9 l9 y9 z9 st9 hQ9
  subst l9 y9 z9
  obtain ⟨ra9, kx9, rfl, N9q, Kq9, szq9, g_ra9, Vq9⟩ := hQ9
  have N9 := Fr.app N4 N9q
  have lt_b5_9 := A5.lt
  have f10 := ((Keep.refl h0 []).ext E5)
  have sz_ra9 : h0.size ≤ ra9 := Nat.le_trans f10.1 szq9
  have c11 : own_G p e below T9 (mkF m 22 #[oi p0] [(.int (0 : Int32)), (.ref ra9), (.ref b5), (.ref b5)]) (mkF m 21 #[oi p0] [(.ref ra9), (.ref b5), (.ref b5)]) := by
    intro t kt
    show oS T9 (mkF m 21 #[oi p0] [(.ref ra9), (.ref b5), (.ref b5)]) _
    refine XS.iconst X9.here hx rfl (hb hby d2_21) ?_
    exact kt
  have f12 := (Nat.le_trans f8 Kq9.1)
  have f13 := (A5.keep Kq9)
  have f14 := (F5_value.keep Kq9 nin0)
  have f15 := (F5_coder.keep Kq9 nin0)
  obtain ⟨_, _, ⟨T16, L16, k16, n16⟩, -, X16, ⟨Lc16, hQ16, l16, y16, z16⟩, st16⟩ := X9.specialBack hx (y := yy_32) rfl hown (mvT hZ (own_t hw 22 rfl)) (mvT hZ (own_t hw 23 rfl)) (mvT hZ (own_t hw 25 rfl)) (by decide) (backOf (W := 1) (rm5 l Z a0 hw []  b5 ra9 T9.heap n0 f12 f13 f14 f15 g_b5) hZ (own_t hw 25 rfl) (own_t hw 9 rfl) (by decide) (by decide)) (g := (mkF m 22 #[oi p0] [(.int (0 : Int32)), (.ref ra9), (.ref b5), (.ref b5)])) rfl (by rw [hml]; rfl) (Steps.refl _) (a := b5) (argsL := [(.ref ra9), (.int (0 : Int32))]) (rest := [(.ref b5)]) (lenOf pd_21 rfl) rfl (by show 2 * 0 + _ ≤ _; exact Nat.le_of_eq rfl) (hb hby d2_22) (fun _ _ => ⟨rfl, rfl, (by decide : 2 + 0 ≤ _), (by decide : 5 + 0 ≤ _)⟩)
  dsimp only [Pt.U, Pt.locs, Pt.cells, Pt.slots] at X16 l16 y16 z16 st16 hQ16
  subst l16 y16 z16
  obtain ⟨rfl, N16q, Kq16, Eq16, Fq16_0, Fq16_1⟩ := hQ16
  have N16 := Fr.app N9 N16q
  obtain ⟨fs, hr, hrun, hended, hW, hsame⟩ := X16.leave (v := some (.ref b5)) (fun h => by rw [Bd.returns] at h; cases h)
  have f18 := (Vq9.keep Kq16 (ninS (Ne.symm (Nat.ne_of_lt (Nat.lt_of_lt_of_le lt_b5_9 szq9))) nin0))
  have f19 := ((f10.trans Kq9 all0).trans Kq16 (allS (Or.inr sz_b5) all0))
  refine ⟨_, _, pre0 _ (st1 _ (c3 _ (st4 _ (c6 _ (st5 _ (c7 _ (st9 _ (c11 _ (st16.trans (?_)))))))))), hrun, hended, _, _, rfl, ?_, ⟨_, rfl⟩, hW, hsame.mono (by decide) (by decide)⟩
  · show Steps p.tables e below (T16.setTop (mkF m 25 #[oi p0] [(.ref b5)])) _
    jvm_step X16.here [X16.here.top, hx, (hb hby d2_25), X16.method', Bd.returns, Value.isRef, FieldType.isReference]
    first | (intro acts; rw [hr _ acts rfl rfl rfl]) | rw [hr _ _ rfl rfl rfl]
    exact Steps.refl _
  · show Q2 Z p0 cs h0 n0 _ T16.heap _
    exact ⟨b5, ra9, kx9, rfl, N16, f19, Eq16, Fq16_0, Fq16_1, f18⟩
theorem d8_0 : decode jdk_42_method_149_code 0 = .ok (.aload_n 0, 1) := by decide +kernel
theorem d8_1 : decode jdk_42_method_149_code 1 = .ok (.invokespecial 1, 3) := by decide +kernel
theorem d8_4 : decode jdk_42_method_149_code 4 = .ok (.iload_n 3, 1) := by decide +kernel
theorem d8_5 : decode jdk_42_method_149_code 5 = .ok (.ifCond .ne 22, 3) := by decide +kernel
theorem d8_8 : decode jdk_42_method_149_code 8 = .ok (.aload_n 0, 1) := by decide +kernel
theorem d8_9 : decode jdk_42_method_149_code 9 = .ok (.ldc 7, 2) := by decide +kernel
theorem d8_11 : decode jdk_42_method_149_code 11 = .ok (.getfield 9, 3) := by decide +kernel
theorem d8_14 : decode jdk_42_method_149_code 14 = .ok (.putfield 9, 3) := by decide +kernel
theorem d8_17 : decode jdk_42_method_149_code 17 = .ok (.aload_n 0, 1) := by decide +kernel
theorem d8_18 : decode jdk_42_method_149_code 18 = .ok (.ldc 7, 2) := by decide +kernel
theorem d8_20 : decode jdk_42_method_149_code 20 = .ok (.getfield 15, 3) := by decide +kernel
theorem d8_23 : decode jdk_42_method_149_code 23 = .ok (.putfield 15, 3) := by decide +kernel
theorem d8_26 : decode jdk_42_method_149_code 26 = .ok (.return_, 1) := by decide +kernel
theorem pn_8 : plainName "java/lang/String" = true := by first | (simp [plainName, overriddenIn]; done) | decide +kernel
theorem ef_8 (m : MethodId) (x0 : Addr) (x1 : Addr) (x2 : Int32) (x3 : Int32) : entryFrame m #[(.ref x0), (.ref x1), (.int x2), (.int x3), .null] 6 = mkF m 0 #[.val (.ref x0), .val (.ref x1), .val (.int x2), .val (.int x3), .val .null, .unset] [] := by first | (simp [entryFrame, mkF, argsToLocals, Value.category]; done) | rfl
def Q8 (Z : State) (r0 : Addr) (r1 : Addr) (cs : Int32) (fm : Value) (h0 : Heap) (n0 : Nat) (v : Option Value) (h : Heap) (L : List Loc) : Prop := v = none ∧ Fr n0 L ∧ Keep h0 h [r0] ∧ Exa Z h r0 "java/lang/String" ∧ ∃ rb kb, Fld Z h r0 "java/lang/String" "value" "[B" (.ref rb) ∧ Fld Z h r0 "java/lang/String" "coder" "B" (.int (0 : Int32)) ∧ Arv Z h rb kb .byte (0 : Int32) [] (.int 0)
set_option maxRecDepth 65536 in
set_option maxHeartbeats 40000000 in
theorem rm8 (l : Launch) (Z : State) (a0 : Array Value) (hw : ∀ d ∈ tables_1, d.before a0 Z = true) (ws : List Jvm.Cond) (r0 : Addr) (r1 : Addr) (cs : Int32) (fm : Value) (h0 : Heap) (n0 : Nat) (Z0 : n0 ≤ h0.size) (Eo : Exa Z h0 r0 "java/lang/String") (Fo : Fld Z h0 r0 "java/lang/String" "value" "[B" .null) (Co : Fld Z h0 r0 "java/lang/String" "coder" "B" (.int (0 : Int32))) (g_r0 : n0 ≤ r0) (O0 : Old Z n0 h0) (SC : Sta Z Z.heap "java/lang/String" "COMPACT_STRINGS" "Z" (.int cs)) (hcs : ¬ cs = (0 : Int32)) (SF : Sta Z Z.heap "jdk/internal/util/Preconditions" "SIOOBE_FORMATTER" "Ljava/util/function/BiFunction;" fm) (hfm : fm.isRef = true) :
    MetFree l yy_34 (head1 (Jvm.Cond.code yy_34 jdk_42_method_149_code 6 none :: ws) ({ frames := 1, cells := 4, slots := 8, locals := 12 } : Room)) (fun a U => a = #[(.ref r0), (.ref r1), (.int (0 : Int32)), (.int (0 : Int32)), .null] ∧ Z.Warmed39 U.vm ∧ U.heap = h0 ∧ CHv Z consts_1 U.vm h0) (fun _ _ _ _ _ => True) (fun _ U o U' => ∃ v L, o = .returned v ∧ Q8 Z r0 r1 cs fm h0 n0 v U'.heap L ∧ CHr Z consts_1 U.vm U.heap U'.vm U'.heap ∧ ReturnedEndW U o U' L ({ frames := 1, cells := 4, slots := 8, locals := 12 } : Room).cells ({ frames := 1, cells := 4, slots := 8, locals := 12 } : Room).slots) := by
  refine MetFree.of_bodySF (plainFor_of_name pn_8) hisR ?_
  intro p e s m args below meth c s₁ Bd hml0 hP hK
  obtain ⟨rfl, hZ, hh, hCH⟩ := hP
  have hx := Bd.exec
  have hby := Bd.bytes
  have hml : c.maxLocals = 6 := hml0
  have hown : s.vm.findClass "java/lang/String" = some m.cls := findClass_of_methodNamed Bd.named
  have hnm := (name_of_methodNamed Bd.named Bd.method).1
  have X0 : Stand p l e ({ frames := 1, cells := 4, slots := 8, locals := 12 } : Room) s m #[(.ref r0), (.ref r1), (.int (0 : Int32)), (.int (0 : Int32)), .null] below meth c s₁ [] 0 0 := Stand.of_body Bd
  have e0 : s₁.heap = h0 := by rw [← hh, Bd.state]; rfl
  have N0 := Fr.nil n0
  have pre0 : ∀ t, Steps p.tables e below (s₁.setTop (mkF m 0 #[oa r0, oa r1, oi 0, oi 0, .val .null, .unset] [])) t → Steps p.tables e below (s₁.setTop (entryFrame m #[(.ref r0), (.ref r1), (.int (0 : Int32)), (.int (0 : Int32)), .null] 6)) t := fun t k => castTop (ef_8 m r0 r1 (0 : Int32) (0 : Int32)) k
  have hS0 : s.Since s.vm 0 := (State.WarmedH.refl s).since 0
  have hEL : EW Z a0 consts_1 := (EW.cons (own_t hw 67 rfl) (by decide) (EW.cons (own_t hw 117 rfl) (by decide) (EW.cons (own_t hw 118 rfl) (by decide) (EW.cons (own_t hw 41 rfl) (by decide) EW.nil))))
  have hwS : ∀ d ∈ Bundle.stringAtoms, d.before a0 Z = true := fun d hd => hw d ((by decide +kernel : ∀ d ∈ Bundle.stringAtoms, d ∈ tables_1) d hd)
  have sfx_r0 : Safe Z consts_1 s.vm h0 r0 := own_safeN hZ.alike Eo Fo
  have c2 : own_G p e below s₁ (mkF m 1 #[oa r0, oa r1, oi 0, oi 0, .val .null, .unset] [(.ref r0)]) (mkF m 0 #[oa r0, oa r1, oi 0, oi 0, .val .null, .unset] []) := by
    intro t kt
    show oS s₁ (mkF m 0 #[oa r0, oa r1, oi 0, oi 0, .val .null, .unset] []) _
    refine XS.aloadN X0.here hx rfl (hb hby d8_0) rfl rfl ?_
    exact kt
  obtain ⟨T1, X1, e1, st1⟩ := initO X0 hx hZ hown (own_t hw 26 rfl) (own_t hw 27 rfl) (own_t hw 28 rfl) e0 (g := (mkF m 1 #[oa r0, oa r1, oi 0, oi 0, .val .null, .unset] [(.ref r0)])) rfl (by rw [hml]; rfl) rfl (hb hby d8_1) (by decide) (W := 0) (by show 2 * 0 + _ ≤ _; exact Nat.le_of_eq rfl) (by decide)
  have c4 : own_G p e below T1 (mkF m 9 #[oa r0, oa r1, oi 0, oi 0, .val .null, .unset] [(.ref r0)]) (mkF m 4 #[oa r0, oa r1, oi 0, oi 0, .val .null, .unset] []) := by
    intro t kt
    show oS T1 (mkF m 4 #[oa r0, oa r1, oi 0, oi 0, .val .null, .unset] []) _
    refine XS.iloadN X1.here hx rfl (hb hby d8_4) rfl ?_
    show oS T1 (mkF m 5 #[oa r0, oa r1, oi 0, oi 0, .val .null, .unset] [(.int (0 : Int32))]) _
    refine XS.ifNo X1.here hx rfl (hb hby d8_5) rfl ((if0 _ _).trans (teq (by decide : (0 : Int32) = (0 : Int32))).2) ?_
    show oS T1 (mkF m 8 #[oa r0, oa r1, oi 0, oi 0, .val .null, .unset] []) _
    refine XS.aloadN X1.here hx rfl (hb hby d8_8) rfl rfl ?_
    exact kt
  obtain ⟨a3, T3, h3, j3, b3, kb3, X3, e3, E3, hS3, hk3, hZ, hown, Es3, Fc3, Fv3, Va3, la3, lb3, CH3, Lt3, Sf3, st3⟩ := ldcCH (s := s) (vm0 := s.vm) X1 hx hZ hown (own_t hw 41 rfl) hwS e1 hS0 (Nat.zero_le _) hEL (List.mem_of_getElem? (i := 3) rfl) (CHr.refl hCH).1 (vs := []) (z := (0 : Int32)) ⟨by decide, rfl⟩ (by decide) rfl (g := (mkF m 9 #[oa r0, oa r1, oi 0, oi 0, .val .null, .unset] [(.ref r0)])) rfl (hb hby d8_9) (n := 0) (by decide) (by decide) (by decide) (by decide)
  have sg3_r0 := CHr.safe CH3 Eo.lt sfx_r0
  have ch3 := (CHr.refl hCH).trans CH3
  obtain ⟨T5, X5, e5, st5⟩ := getF X3 hx hZ hown (host := "") (Or.inl (own_t hw 29 rfl)) Via.refl e3 Fv3 (g := (mkF m 11 #[oa r0, oa r1, oi 0, oi 0, .val .null, .unset] [(.ref a3), (.ref r0)])) rfl rfl (hb hby d8_11)
  have f6 := (Fo.ext E3)
  have f7 := (Eo.ext E3)
  obtain ⟨T8, h8, X8, e8, W8, st8⟩ := putF X5 hx hZ hown (host := "") (Or.inl (own_t hw 29 rfl)) Via.refl e5 f6 f7 (Or.inr ⟨(own_t hw 30 rfl), rfl, hnm⟩) (own_t hw 17 rfl) (ty := (.array .byte)) (by decide) rfl rfl (g := (mkF m 14 #[oa r0, oa r1, oi 0, oi 0, .val .null, .unset] [(.ref b3), (.ref r0)])) rfl rfl (hb hby d8_14)
  have Fw8 := f6.same W8
  have N8 := Fr.snoc X8 N0 g_r0
  have c10 : own_G p e below T8 (mkF m 18 #[oa r0, oa r1, oi 0, oi 0, .val .null, .unset] [(.ref r0)]) (mkF m 17 #[oa r0, oa r1, oi 0, oi 0, .val .null, .unset] []) := by
    intro t kt
    show oS T8 (mkF m 17 #[oa r0, oa r1, oi 0, oi 0, .val .null, .unset] []) _
    refine XS.aloadN X8.here hx rfl (hb hby d8_17) rfl rfl ?_
    exact kt
  have ch11 := ch3.trans (CHr.wr W8 sg3_r0 ch3.1)
  have sf11_r0 := Safe.wr W8 sg3_r0 ch3.1 sg3_r0
  have f12 := (Nat.le_trans hk3 (Keep.of_wr W8).1)
  have f13 := (Nat.le_trans (Nat.le_trans Z0 E3.1) (Keep.of_wr W8).1)
  have f14 := (((Keep.refl h0 [r0]).ext E3).wr W8 (Or.inl (List.mem_of_getElem? (i := 0) rfl)))
  have f15 := ((O0.ext E3).wr W8 g_r0)
  have f16 := (f7.wr W8)
  obtain ⟨a9, T9, h9, j9, b9, kb9, X9, e9, E9, hS9, hk9, hZ, hown, Es9, Fc9, Fv9, Va9, la9, lb9, CH9, Lt9, Sf9, st9⟩ := ldcCH (s := s) (vm0 := T3.vm) X8 hx hZ hown (own_t hw 41 rfl) hwS e8 hS3 f12 hEL (List.mem_of_getElem? (i := 3) rfl) ch11.1 (vs := []) (z := (0 : Int32)) ⟨by decide, rfl⟩ (by decide) rfl (g := (mkF m 18 #[oa r0, oa r1, oi 0, oi 0, .val .null, .unset] [(.ref r0)])) rfl (hb hby d8_18) (n := 0) (by decide) (by decide) (by decide) (by decide)
  have sg9_r0 := CHr.safe CH9 f16.lt sf11_r0
  have ch9 := ch11.trans CH9
  obtain ⟨T17, X17, e17, st17⟩ := getF X9 hx hZ hown (host := "") (Or.inl (own_t hw 31 rfl)) Via.refl e9 Fc9 (g := (mkF m 20 #[oa r0, oa r1, oi 0, oi 0, .val .null, .unset] [(.ref a9), (.ref r0)])) rfl rfl (hb hby d8_20)
  have f18 := (((Co.ext E3).other W8 (Or.inr (slot_ne (a0 := a0) (Or.inr (own_t hw 32 rfl)) (Or.inr (own_t hw 30 rfl)) (by decide) (t := .byte) (t' := (.array .byte)) (by decide) (by decide)))).ext E9)
  have f19 := (f16.ext E9)
  obtain ⟨T20, h20, X20, e20, W20, st20⟩ := putFN X17 hx hZ hown (own_t hw 31 rfl) Via.refl e17 f18 f19 (Or.inr ⟨(own_t hw 32 rfl), rfl, hnm⟩) (own_t hw 17 rfl) (ty := .byte) (v' := (.int (0 : Int32))) (by decide) rfl rfl (g := (mkF m 23 #[oa r0, oa r1, oi 0, oi 0, .val .null, .unset] [(.int (0 : Int32)), (.ref r0)])) rfl rfl (hb hby d8_23)
  have Fw20 := f18.same W20
  have N20 := Fr.snoc X20 N8 g_r0
  have ch22 := ch9.trans (CHr.wr W20 sg9_r0 ch9.1)
  have sf22_r0 := Safe.wr W20 sg9_r0 ch9.1 sg9_r0
  have f23 := (Nat.le_trans hk9 (Keep.of_wr W20).1)
  obtain ⟨fs, hr, hrun, hended, hwd⟩ := Stand.leaveW (s := s) (vm₁ := T9.vm) X20 hS9 (by rw [e20]; exact f23) (v := none) (fun _ => rfl)
  have hCr : CHr Z consts_1 s.vm s.heap (T20.setFrames fs).vm (T20.setFrames fs).heap := by
    show CHr Z consts_1 s.vm s.heap T20.vm T20.heap
    rw [hh, e20]
    exact ch22.trans (CHv.at (s := s) (vm0 := T9.vm) X20 hZ hEL ch22.1)
  have f24 := ((f14.ext E9).wr W20 (Or.inl (List.mem_of_getElem? (i := 0) rfl)))
  have f25 := (f19.wr W20)
  have f26 := ((Fw8.ext E9).other W20 (Or.inr (slot_ne (a0 := a0) (Or.inr (own_t hw 30 rfl)) (Or.inr (own_t hw 32 rfl)) (by decide) (t := (.array .byte)) (t' := .byte) (by decide) (by decide))))
  have f27 := (((Va3.other W8 (Ne.symm (Sf3 _ sg3_r0).2)).ext E9).other W20 (Ne.symm (Sf3 _ sg3_r0).2))
  refine ⟨_, _, pre0 _ (c2 _ (st1 _ (c4 _ (st3 _ (st5 _ (st8 _ (c10 _ (st9 _ (st17 _ (st20 _ (?_))))))))))), hrun, hended, _, _, rfl, ?_, hCr, hwd.1, hwd.2.1, hwd.2.2.1, hwd.2.2.2.mono (by decide) (by decide)⟩
  · show Steps p.tables e below (T20.setTop (mkF m 26 #[oa r0, oa r1, oi 0, oi 0, .val .null, .unset] [])) _
    exact X20.returnOut hx Bd.returns (hb hby d8_26) hr
  · show Q8 Z r0 r1 cs fm h0 n0 _ T20.heap _
    rw [e20]
    exact ⟨rfl, N20, f24, f25, ⟨b3, kb3, f26, Fw20, f27⟩⟩
theorem d7_0 : decode jdk_42_method_3_code 0 = .ok (.aload_n 0, 1) := by decide +kernel
theorem d7_1 : decode jdk_42_method_3_code 1 = .ok (.aload_n 1, 1) := by decide +kernel
theorem d7_2 : decode jdk_42_method_3_code 2 = .ok (.iconst 0, 1) := by decide +kernel
theorem d7_3 : decode jdk_42_method_3_code 3 = .ok (.aload_n 1, 1) := by decide +kernel
theorem d7_4 : decode jdk_42_method_3_code 4 = .ok (.arraylength, 1) := by decide +kernel
theorem d7_5 : decode jdk_42_method_3_code 5 = .ok (.aconst_null, 1) := by decide +kernel
theorem d7_6 : decode jdk_42_method_3_code 6 = .ok (.invokespecial 27, 3) := by decide +kernel
theorem d7_9 : decode jdk_42_method_3_code 9 = .ok (.return_, 1) := by decide +kernel
theorem pn_7 : plainName "java/lang/String" = true := by first | (simp [plainName, overriddenIn]; done) | decide +kernel
theorem ef_7 (m : MethodId) (x0 : Addr) (x1 : Addr) : entryFrame m #[(.ref x0), (.ref x1)] 2 = mkF m 0 #[.val (.ref x0), .val (.ref x1)] [] := by first | (simp [entryFrame, mkF, argsToLocals, Value.category]; done) | rfl
def Q7e (Z : State) (r0 : Addr) (r1 : Addr) (ka : ClassId) (cs : Int32) (fm : Value) (h0 : Heap) (n0 : Nat) (v : Option Value) (h : Heap) (L : List Loc) : Prop := v = none ∧ Fr n0 L ∧ Keep h0 h [r0] ∧ Exa Z h r0 "java/lang/String" ∧ ∃ rb kb, Fld Z h r0 "java/lang/String" "value" "[B" (.ref rb) ∧ Fld Z h r0 "java/lang/String" "coder" "B" (.int (0 : Int32)) ∧ Arv Z h rb kb .byte (0 : Int32) [] (.int 0)
set_option maxRecDepth 65536 in
set_option maxHeartbeats 40000000 in
theorem rm7e (l : Launch) (Z : State) (a0 : Array Value) (hw : ∀ d ∈ tables_1, d.before a0 Z = true) (ws : List Jvm.Cond) (r0 : Addr) (r1 : Addr) (ka : ClassId) (cs : Int32) (fm : Value) (h0 : Heap) (n0 : Nat) (Z0 : n0 ≤ h0.size) (Eo : Exa Z h0 r0 "java/lang/String") (Fo : Fld Z h0 r0 "java/lang/String" "value" "[B" .null) (Co : Fld Z h0 r0 "java/lang/String" "coder" "B" (.int (0 : Int32))) (g_r0 : n0 ≤ r0) (Vn : Arv Z h0 r1 ka .char (0 : Int32) [] (.int (0 : Int32))) (O0 : Old Z n0 h0) (SC : Sta Z Z.heap "java/lang/String" "COMPACT_STRINGS" "Z" (.int cs)) (hcs : ¬ cs = (0 : Int32)) (SF : Sta Z Z.heap "jdk/internal/util/Preconditions" "SIOOBE_FORMATTER" "Ljava/util/function/BiFunction;" fm) (hfm : fm.isRef = true) :
    MetFree l yy_35 (head1 (Jvm.Cond.code yy_35 jdk_42_method_3_code 2 none :: ws) ({ frames := 2, cells := 4, slots := 8, locals := 29 } : Room)) (fun a U => a = #[(.ref r0), (.ref r1)] ∧ Z.Warmed39 U.vm ∧ U.heap = h0 ∧ CHv Z consts_1 U.vm h0) (fun _ _ _ _ _ => True) (fun _ U o U' => ∃ v L, o = .returned v ∧ Q7e Z r0 r1 ka cs fm h0 n0 v U'.heap L ∧ CHr Z consts_1 U.vm U.heap U'.vm U'.heap ∧ ReturnedEndW U o U' L ({ frames := 2, cells := 4, slots := 8, locals := 29 } : Room).cells ({ frames := 2, cells := 4, slots := 8, locals := 29 } : Room).slots) := by
  refine MetFree.of_bodySF (plainFor_of_name pn_7) hisR ?_
  intro p e s m args below meth c s₁ Bd hml0 hP hK
  obtain ⟨rfl, hZ, hh, hCH⟩ := hP
  have hx := Bd.exec
  have hby := Bd.bytes
  have hml : c.maxLocals = 2 := hml0
  have hown : s.vm.findClass "java/lang/String" = some m.cls := findClass_of_methodNamed Bd.named
  have hnm := (name_of_methodNamed Bd.named Bd.method).1
  have X0 : Stand p l e ({ frames := 2, cells := 4, slots := 8, locals := 29 } : Room) s m #[(.ref r0), (.ref r1)] below meth c s₁ [] 0 0 := Stand.of_body Bd
  have e0 : s₁.heap = h0 := by rw [← hh, Bd.state]; rfl
  have N0 := Fr.nil n0
  have pre0 : ∀ t, Steps p.tables e below (s₁.setTop (mkF m 0 #[oa r0, oa r1] [])) t → Steps p.tables e below (s₁.setTop (entryFrame m #[(.ref r0), (.ref r1)] 2)) t := fun t k => castTop (ef_7 m r0 r1) k
  have hS0 : s.Since s.vm 0 := (State.WarmedH.refl s).since 0
  have hEL : EW Z a0 consts_1 := (EW.cons (own_t hw 67 rfl) (by decide) (EW.cons (own_t hw 117 rfl) (by decide) (EW.cons (own_t hw 118 rfl) (by decide) (EW.cons (own_t hw 41 rfl) (by decide) EW.nil))))
  have hwS : ∀ d ∈ Bundle.stringAtoms, d.before a0 Z = true := fun d hd => hw d ((by decide +kernel : ∀ d ∈ Bundle.stringAtoms, d ∈ tables_1) d hd)
  have Vc1 := Vn
  obtain ⟨cl1, Ar1, qk1, S1, M1, H1, G1⟩ := Vc1
  have c2 : own_G p e below s₁ (mkF m 6 #[oa r0, oa r1] [.null, (.int (0 : Int32)), (.int (0 : Int32)), (.ref r1), (.ref r0)]) (mkF m 0 #[oa r0, oa r1] []) := by
    intro t kt
    show oS s₁ (mkF m 0 #[oa r0, oa r1] []) _
    refine XS.aloadN X0.here hx rfl (hb hby d7_0) rfl rfl ?_
    show oS s₁ (mkF m 1 #[oa r0, oa r1] [(.ref r0)]) _
    refine XS.aloadN X0.here hx rfl (hb hby d7_1) rfl rfl ?_
    show oS s₁ (mkF m 2 #[oa r0, oa r1] [(.ref r1), (.ref r0)]) _
    refine XS.iconst X0.here hx rfl (hb hby d7_2) ?_
    show oS s₁ (mkF m 3 #[oa r0, oa r1] [(.int (0 : Int32)), (.ref r1), (.ref r0)]) _
    refine XS.aloadN X0.here hx rfl (hb hby d7_3) rfl rfl ?_
    show oS s₁ (mkF m 4 #[oa r0, oa r1] [(.ref r1), (.int (0 : Int32)), (.ref r1), (.ref r0)]) _
    refine X0.arraylength hx (by rw [e0]; exact Ar1.1) (State.isArrayOf_alike hZ.alike Ar1.2.1) (g := (mkF m 4 #[oa r0, oa r1] [(.ref r1), (.int (0 : Int32)), (.ref r1), (.ref r0)])) rfl rfl (hb hby d7_4) _ ?_
    rw [len_of S1 M1]
    show oS s₁ (mkF m 5 #[oa r0, oa r1] [(.int (0 : Int32)), (.int (0 : Int32)), (.ref r1), (.ref r0)]) _
    refine XS.aconstNull X0.here hx rfl (hb hby d7_5) ?_
    exact kt
  obtain ⟨_, _, ⟨T3, L3, k3, n3⟩, -, X3, hSq3, gr3, ⟨Lc3, hQ3, l3, y3, z3, CHq3⟩, st3⟩ := Stand.specialBackS (s := s.setVm s.vm) X0 hx (y := yy_34) rfl hown (mvT hZ (own_t hw 38 rfl)) (mvT hZ (own_t hw 39 rfl)) (mvT hZ (own_t hw 40 rfl)) (by decide) (backOfSH (s := s) (vm0 := s.vm) (W := 0) (rm8 l Z a0 hw []  r0 r1 cs fm h0 n0 Z0 Eo Fo Co g_r0 O0 SC hcs SF hfm) hZ (own_t hw 40 rfl) (own_t hw 9 rfl) (by decide) (by decide) hEL (CHr.refl hCH).1) (g := (mkF m 6 #[oa r0, oa r1] [.null, (.int (0 : Int32)), (.int (0 : Int32)), (.ref r1), (.ref r0)])) rfl (by rw [hml]; rfl) (Steps.refl _) (a := r0) (argsL := [(.ref r1), (.int (0 : Int32)), (.int (0 : Int32)), .null]) (rest := []) (lenOf pd_22 rfl) rfl (by show 2 * 0 + _ ≤ _; exact Nat.le_of_eq rfl) (hb hby d7_6) (fun _ _ => ⟨rfl, e0, (by decide : 0 + 4 ≤ _), (by decide : 0 + 8 ≤ _)⟩)
  dsimp only [Pt.U, Pt.locs, Pt.cells, Pt.slots] at X3 l3 y3 z3 st3 hQ3 hSq3 gr3 CHq3
  subst l3 y3 z3
  have hS3 : s.Since T3.vm T3.heap.size := foldS (T := s₁) hS0 (by rw [e0]; exact (Nat.zero_le _)) hSq3 gr3
  have hZ3 : Z.Warmed39 (s.setVm T3.vm).vm := State.Warmed39.trans (t := s.setVm s.vm) hZ hSq3.1
  have hown3 : (s.setVm T3.vm).vm.findClass "java/lang/String" = some m.cls := by rw [show (s.setVm T3.vm).vm = T3.vm from rfl, hSq3.1.alike.findClass]; exact hown
  replace hZ := hZ3
  replace hown := hown3
  have ch3 := (CHr.refl hCH).trans CHq3
  obtain ⟨rfl, N3q, Kq3, hs3⟩ := hQ3
  have N3 := Fr.app N0 N3q
  obtain ⟨fs, hr, hrun, hended, hwd⟩ := Stand.leaveW (s := s) (vm₁ := T3.vm) X3 hS3 (Nat.le_refl _) (v := none) (fun _ => rfl)
  have hCr : CHr Z consts_1 s.vm s.heap (T3.setFrames fs).vm (T3.setFrames fs).heap := by
    show CHr Z consts_1 s.vm s.heap T3.vm T3.heap
    rw [hh]
    exact ch3.trans (CHv.at (s := s) (vm0 := T3.vm) X3 hZ hEL ch3.1)
  have f5 := ((Keep.refl h0 [r0]).trans Kq3 (allS (Or.inl (List.mem_of_getElem? (i := 0) rfl)) all0))
  refine ⟨_, _, pre0 _ (c2 _ (st3.trans (?_))), hrun, hended, _, _, rfl, ?_, hCr, hwd.1, hwd.2.1, hwd.2.2.1, hwd.2.2.2.mono (by decide) (by decide)⟩
  · show Steps p.tables e below (T3.setTop (mkF m 9 #[oa r0, oa r1] [])) _
    exact X3.returnOut hx Bd.returns (hb hby d7_9) hr
  · show Q7e Z r0 r1 ka cs fm h0 n0 _ T3.heap _
    exact ⟨rfl, N3, f5, hs3⟩
theorem d1_0 : decode method_3_code 0 = .ok (.iload_n 0, 1) := by decide +kernel
theorem d1_1 : decode method_3_code 1 = .ok (.ifCond .ne 14, 3) := by decide +kernel
theorem d1_4 : decode method_3_code 4 = .ok (.new 27, 3) := by decide +kernel
theorem d1_7 : decode method_3_code 7 = .ok (.dup, 1) := by decide +kernel
theorem d1_8 : decode method_3_code 8 = .ok (.iconst 0, 1) := by decide +kernel
theorem d1_9 : decode method_3_code 9 = .ok (.newarray .char, 2) := by decide +kernel
theorem d1_11 : decode method_3_code 11 = .ok (.invokespecial 36, 3) := by decide +kernel
theorem d1_14 : decode method_3_code 14 = .ok (.areturn, 1) := by decide +kernel
theorem d1_15 : decode method_3_code 15 = .ok (.iload_n 0, 1) := by decide +kernel
theorem d1_16 : decode method_3_code 16 = .ok (.iconst 1, 1) := by decide +kernel
theorem d1_17 : decode method_3_code 17 = .ok (.if_icmp .ne 8, 3) := by decide +kernel
theorem d1_20 : decode method_3_code 20 = .ok (.iload_n 1, 1) := by decide +kernel
theorem d1_21 : decode method_3_code 21 = .ok (.invokestatic 39, 3) := by decide +kernel
theorem d1_24 : decode method_3_code 24 = .ok (.areturn, 1) := by decide +kernel
theorem d1_25 : decode method_3_code 25 = .ok (.new 27, 3) := by decide +kernel
theorem d1_28 : decode method_3_code 28 = .ok (.dup, 1) := by decide +kernel
theorem d1_29 : decode method_3_code 29 = .ok (.iconst 2, 1) := by decide +kernel
theorem d1_30 : decode method_3_code 30 = .ok (.newarray .char, 2) := by decide +kernel
theorem d1_32 : decode method_3_code 32 = .ok (.dup, 1) := by decide +kernel
theorem d1_33 : decode method_3_code 33 = .ok (.iconst 0, 1) := by decide +kernel
theorem d1_34 : decode method_3_code 34 = .ok (.iload_n 1, 1) := by decide +kernel
theorem d1_35 : decode method_3_code 35 = .ok (.castore, 1) := by decide +kernel
theorem d1_36 : decode method_3_code 36 = .ok (.dup, 1) := by decide +kernel
theorem d1_37 : decode method_3_code 37 = .ok (.iconst 1, 1) := by decide +kernel
theorem d1_38 : decode method_3_code 38 = .ok (.iload_n 2, 1) := by decide +kernel
theorem d1_39 : decode method_3_code 39 = .ok (.castore, 1) := by decide +kernel
theorem d1_40 : decode method_3_code 40 = .ok (.invokespecial 36, 3) := by decide +kernel
theorem d1_43 : decode method_3_code 43 = .ok (.areturn, 1) := by decide +kernel
theorem pn_1 : plainName "com/example/emex/emex/read/FileRefusalLinePinLaw" = true := by first | (simp [plainName, overriddenIn]; done) | decide +kernel
theorem ef_1 (m : MethodId) (x0 : Int32) (x1 : Int32) (x2 : Int32) : entryFrame m #[(.int x0), (.int x1), (.int x2)] 3 = mkF m 0 #[.val (.int x0), .val (.int x1), .val (.int x2)] [] := by first | (simp [entryFrame, mkF, argsToLocals, Value.category]; done) | rfl
def Q1 (Z : State) (p0 : Int32) (p1 : Int32) (p2 : Int32) (cs : Int32) (fm : Value) (h0 : Heap) (n0 : Nat) (v : Option Value) (h : Heap) (L : List Loc) : Prop := ∃ sa rb kb, v = some (.ref sa) ∧ Fr n0 L ∧ Keep h0 h [] ∧ Exa Z h sa "java/lang/String" ∧ Fld Z h sa "java/lang/String" "value" "[B" (.ref rb) ∧ Fld Z h sa "java/lang/String" "coder" "B" (.int (0 : Int32)) ∧ Arv Z h rb kb .byte (Int32.ofNat (own_mk p0 p1 p2).length) (((own_mk p0 p1 p2).map (fun c => c.toInt8.toInt32)).map Value.int) (.int 0)
set_option maxRecDepth 65536 in
set_option maxHeartbeats 40000000 in
theorem rm1 (l : Launch) (Z : State) (a0 : Array Value) (hw : ∀ d ∈ tables_1, d.before a0 Z = true) (ws : List Jvm.Cond) (p0 : Int32) (p1 : Int32) (p2 : Int32) (cs : Int32) (fm : Value) (h0 : Heap) (n0 : Nat) (Z0 : n0 ≤ h0.size) (hp1 : own_r p1) (hp2 : own_r p2) (O0 : Old Z n0 h0) (SC : Sta Z Z.heap "java/lang/String" "COMPACT_STRINGS" "Z" (.int cs)) (hcs : ¬ cs = (0 : Int32)) (SF : Sta Z Z.heap "jdk/internal/util/Preconditions" "SIOOBE_FORMATTER" "Ljava/util/function/BiFunction;" fm) (hfm : fm.isRef = true) :
    MetFree l yy_36 (head1 (Jvm.Cond.code yy_36 method_3_code 3 (some (.object "java/lang/String")) :: ws) ({ frames := 4, cells := 6, slots := 14, locals := 66 } : Room)) (fun a U => a = #[(.int p0), (.int p1), (.int p2)] ∧ Z.Warmed39 U.vm ∧ U.heap = h0 ∧ CHv Z consts_1 U.vm h0) (fun _ _ _ _ _ => True) (fun _ U o U' => ∃ v L, o = .returned v ∧ Q1 Z p0 p1 p2 cs fm h0 n0 v U'.heap L ∧ CHr Z consts_1 U.vm U.heap U'.vm U'.heap ∧ ReturnedEndW U o U' L ({ frames := 4, cells := 6, slots := 14, locals := 66 } : Room).cells ({ frames := 4, cells := 6, slots := 14, locals := 66 } : Room).slots) := by
  refine MetFree.of_bodySF (plainFor_of_name pn_1) hisR ?_
  intro p e s m args below meth c s₁ Bd hml0 hP hK
  obtain ⟨rfl, hZ, hh, hCH⟩ := hP
  have hx := Bd.exec
  have hby := Bd.bytes
  have hml : c.maxLocals = 3 := hml0
  have hown : s.vm.findClass "com/example/emex/emex/read/FileRefusalLinePinLaw" = some m.cls := findClass_of_methodNamed Bd.named
  have hnm := (name_of_methodNamed Bd.named Bd.method).1
  have X0 : Stand p l e ({ frames := 4, cells := 6, slots := 14, locals := 66 } : Room) s m #[(.int p0), (.int p1), (.int p2)] below meth c s₁ [] 0 0 := Stand.of_body Bd
  have e0 : s₁.heap = h0 := by rw [← hh, Bd.state]; rfl
  have N0 := Fr.nil n0
  have pre0 : ∀ t, Steps p.tables e below (s₁.setTop (mkF m 0 #[oi p0, oi p1, oi p2] [])) t → Steps p.tables e below (s₁.setTop (entryFrame m #[(.int p0), (.int p1), (.int p2)] 3)) t := fun t k => castTop (ef_1 m p0 p1 p2) k
  have hS0 : s.Since s.vm 0 := (State.WarmedH.refl s).since 0
  have hEL : EW Z a0 consts_1 := (EW.cons (own_t hw 67 rfl) (by decide) (EW.cons (own_t hw 117 rfl) (by decide) (EW.cons (own_t hw 118 rfl) (by decide) (EW.cons (own_t hw 41 rfl) (by decide) EW.nil))))
  have hwS : ∀ d ∈ Bundle.stringAtoms, d.before a0 Z = true := fun d hd => hw d ((by decide +kernel : ∀ d ∈ Bundle.stringAtoms, d ∈ tables_1) d hd)
  have hws : ∀ d ∈ StrChars.Road.words, d.before a0 Z = true := fun d hd => hw d ((by decide +kernel : ∀ d ∈ StrChars.Road.words, d ∈ tables_1) d hd)
  have c1 : own_G p e below s₁ (mkF m 1 #[oi p0, oi p1, oi p2] [(.int p0)]) (mkF m 0 #[oi p0, oi p1, oi p2] []) := by
    intro t kt
    show oS s₁ (mkF m 0 #[oi p0, oi p1, oi p2] []) _
    refine XS.iloadN X0.here hx rfl (hb hby d1_0) rfl ?_
    exact kt
  by_cases hc1 : p0 = (0 : Int32)
  · -- it is
    have c3 : own_G p e below s₁ (mkF m 4 #[oi p0, oi p1, oi p2] []) (mkF m 1 #[oi p0, oi p1, oi p2] [(.int p0)]) := by
      intro t kt
      show oS s₁ (mkF m 1 #[oi p0, oi p1, oi p2] [(.int p0)]) _
      refine XS.ifNo X0.here hx rfl (hb hby d1_1) rfl ((if0 _ _).trans (teq hc1).2) ?_
      exact kt
    obtain ⟨T2, h2, X2, e2, E2, A2, D2, U2, st2⟩ := newO X0 hx hZ hown (own_t hw 33 rfl) (own_t hw 17 rfl) (own_t hw 9 rfl) e0 (g := (mkF m 4 #[oi p0, oi p1, oi p2] [])) rfl (hb hby d1_4) (by decide) (by decide)
    obtain ⟨b2, g2⟩ : ∃ z, z = h0.size := ⟨_, rfl⟩
    rw [← g2] at A2 D2 U2 st2
    have sf4_b2 : Safe Z consts_1 s.vm h0 b2 := Safe.new (Nat.le_of_eq g2.symm)
    have g_b2 : n0 ≤ b2 := Nat.le_trans Z0 (Nat.le_of_eq g2.symm)
    have sz_b2 : h0.size ≤ b2 := Nat.le_trans (Keep.refl h0 []).1 (Nat.le_of_eq g2.symm)
    have F2_value : Fld Z h2 b2 "java/lang/String" "value" "[B" .null := D2 (Or.inr (own_t hw 30 rfl)) (ty := (.array .byte)) (by decide)
    have F2_coder : Fld Z h2 b2 "java/lang/String" "coder" "B" (.int (0 : Int32)) := D2 (Or.inr (own_t hw 32 rfl)) (ty := .byte) (by decide)
    have c6 : own_G p e below T2 (mkF m 9 #[oi p0, oi p1, oi p2] [(.int (0 : Int32)), (.ref b2), (.ref b2)]) (mkF m 7 #[oi p0, oi p1, oi p2] [(.ref b2)]) := by
      intro t kt
      show oS T2 (mkF m 7 #[oi p0, oi p1, oi p2] [(.ref b2)]) _
      refine XS.dup X2.here hx rfl (hb hby d1_7) rfl rfl ?_
      show oS T2 (mkF m 8 #[oi p0, oi p1, oi p2] [(.ref b2), (.ref b2)]) _
      refine XS.iconst X2.here hx rfl (hb hby d1_8) ?_
      exact kt
    obtain ⟨T5, h5, k5, X5, e5, E5, A5, st5⟩ := newP X2 hx hZ (own_t hw 34 rfl) e2 (g := (mkF m 9 #[oi p0, oi p1, oi p2] [(.int (0 : Int32)), (.ref b2), (.ref b2)])) rfl (hb hby d1_9) rfl (by decide) (cap := 0) (by decide) (by decide) (by decide) (by decide)
    obtain ⟨b5, g5⟩ : ∃ z, z = h2.size := ⟨_, rfl⟩
    rw [← g5] at A5 st5
    have ch7 := (CHr.refl hCH).trans (CHr.ext E2 (CHr.refl hCH).1)
    have sf7_b2 := Safe.ext E2 (CHr.refl hCH).1 sf4_b2
    have sf8_b5 : Safe Z consts_1 s.vm h2 b5 := Safe.new (Nat.le_of_eq g5.symm)
    have f9 := (Nat.le_trans Z0 E2.1)
    have f10 := ((Keep.refl h0 []).ext E2)
    have g_b5 : n0 ≤ b5 := Nat.le_trans f9 (Nat.le_of_eq g5.symm)
    have sz_b5 : h0.size ≤ b5 := Nat.le_trans f10.1 (Nat.le_of_eq g5.symm)
    have lt_b2_5 := A2.lt
    have V5 : Arv Z h5 b5 k5 .char (0 : Int32) [] (.int (0 : Int32)) := (Arv.new A5 (by decide)).pad (pad_rep [] (.int (0 : Int32)) 0)
    have f11 := (Nat.le_trans f9 E5.1)
    have f12 := (A2.ext E5)
    have f13 := (F2_value.ext E5)
    have f14 := (F2_coder.ext E5)
    have f15 := ((O0.ext E2).ext E5)
    have ch16 := ch7.trans (CHr.ext E5 ch7.1)
    have sf16_b2 := Safe.ext E5 ch7.1 sf7_b2
    have sf16_b5 := Safe.ext E5 ch7.1 sf8_b5
    have f17 := (Nat.le_trans (Nat.le_trans (Nat.zero_le _) E2.1) E5.1)
    have f18 := (f10.ext E5)
    obtain ⟨_, _, ⟨T19, L19, k19, n19⟩, -, X19, hSq19, gr19, ⟨Lc19, hQ19, l19, y19, z19, CHq19⟩, st19⟩ := Stand.specialBackS (s := s.setVm s.vm) X5 hx (y := yy_35) rfl hown (mvT hZ (own_t hw 35 rfl)) (mvT hZ (own_t hw 36 rfl)) (mvT hZ (own_t hw 37 rfl)) (by decide) (backOfSH (s := s) (vm0 := s.vm) (W := 1) (rm7e l Z a0 hw []  b2 b5 k5 cs fm h5 n0 f11 f12 f13 f14 g_b2 V5 f15 SC hcs SF hfm) hZ (own_t hw 37 rfl) (own_t hw 9 rfl) (by decide) (by decide) hEL ch16.1) (g := (mkF m 11 #[oi p0, oi p1, oi p2] [(.ref b5), (.ref b2), (.ref b2)])) rfl (by rw [hml]; rfl) (Steps.refl _) (a := b2) (argsL := [(.ref b5)]) (rest := [(.ref b2)]) (lenOf pd_23 rfl) rfl (by show 2 * 0 + _ ≤ _; exact Nat.le_of_eq rfl) (hb hby d1_11) (fun _ _ => ⟨rfl, e5, (by decide : 2 + 4 ≤ _), (by decide : 4 + 8 ≤ _)⟩)
    dsimp only [Pt.U, Pt.locs, Pt.cells, Pt.slots] at X19 l19 y19 z19 st19 hQ19 hSq19 gr19 CHq19
    subst l19 y19 z19
    have hS19 : s.Since T19.vm T19.heap.size := foldS (T := T5) hS0 (by rw [e5]; exact f17) hSq19 gr19
    have hZ19 : Z.Warmed39 (s.setVm T19.vm).vm := State.Warmed39.trans (t := s.setVm s.vm) hZ hSq19.1
    have hown19 : (s.setVm T19.vm).vm.findClass "com/example/emex/emex/read/FileRefusalLinePinLaw" = some m.cls := by rw [show (s.setVm T19.vm).vm = T19.vm from rfl, hSq19.1.alike.findClass]; exact hown
    replace hZ := hZ19
    replace hown := hown19
    have sg19_b2 := CHr.safe CHq19 f12.lt sf16_b2
    have sg19_b5 := CHr.safe CHq19 V5.lt sf16_b5
    have ch19 := ch16.trans CHq19
    obtain ⟨rfl, N19q, Kq19, Es19, rb19, kb19, Fv19, Fc19, Va19⟩ := hQ19
    have N19 := Fr.app N0 N19q
    obtain ⟨fs, hr, hrun, hended, hwd⟩ := Stand.leaveW (s := s) (vm₁ := T19.vm) X19 hS19 (Nat.le_refl _) (v := some (.ref b2)) (fun h => by rw [Bd.returns] at h; cases h)
    have hCr : CHr Z consts_1 s.vm s.heap (T19.setFrames fs).vm (T19.setFrames fs).heap := by
      show CHr Z consts_1 s.vm s.heap T19.vm T19.heap
      rw [hh]
      exact ch19.trans (CHv.at (s := s) (vm0 := T19.vm) X19 hZ hEL ch19.1)
    have f21 := (f18.trans Kq19 (allS (Or.inr sz_b2) all0))
    refine ⟨_, _, pre0 _ (c1 _ (c3 _ (st2 _ (c6 _ (st5 _ (st19.trans (?_))))))), hrun, hended, _, _, rfl, ?_, hCr, hwd.1, hwd.2.1, hwd.2.2.1, hwd.2.2.2.mono (by decide) (by decide)⟩
    · show Steps p.tables e below (T19.setTop (mkF m 14 #[oi p0, oi p1, oi p2] [(.ref b2)])) _
      jvm_step X19.here [X19.here.top, hx, (hb hby d1_14), X19.method', Bd.returns, Value.isRef, FieldType.isReference]
      first | (intro acts; rw [hr _ acts rfl rfl rfl]) | rw [hr _ _ rfl rfl rfl]
      exact Steps.refl _
    · show Q1 Z p0 p1 p2 cs fm h0 n0 _ T19.heap _
      exact ⟨b2, rb19, kb19, rfl, N19, f21, Es19, Fv19, Fc19, (by unfold own_mk; rw [if_pos hc1]; exact Va19)⟩
  · -- it isn't
    have c22 : own_G p e below s₁ (mkF m 17 #[oi p0, oi p1, oi p2] [(.int (1 : Int32)), (.int p0)]) (mkF m 1 #[oi p0, oi p1, oi p2] [(.int p0)]) := by
      intro t kt
      show oS s₁ (mkF m 1 #[oi p0, oi p1, oi p2] [(.int p0)]) _
      refine XS.ifYes X0.here hx rfl (pc0 := 1) (pc' := 15) rfl (hb hby d1_1) rfl ((if0 _ _).trans (feq hc1).2) (by decide) (by decide) ?_
      show oS s₁ (mkF m 15 #[oi p0, oi p1, oi p2] []) _
      refine XS.iloadN X0.here hx rfl (hb hby d1_15) rfl ?_
      show oS s₁ (mkF m 16 #[oi p0, oi p1, oi p2] [(.int p0)]) _
      refine XS.iconst X0.here hx rfl (hb hby d1_16) ?_
      exact kt
    by_cases hc17 : p0 = (1 : Int32)
    · -- it is
      have c23 : own_G p e below s₁ (mkF m 21 #[oi p0, oi p1, oi p2] [(.int p1)]) (mkF m 17 #[oi p0, oi p1, oi p2] [(.int (1 : Int32)), (.int p0)]) := by
        intro t kt
        show oS s₁ (mkF m 17 #[oi p0, oi p1, oi p2] [(.int (1 : Int32)), (.int p0)]) _
        refine XS.icmpNo X0.here hx rfl (hb hby d1_17) rfl (teq hc17).2 ?_
        show oS s₁ (mkF m 20 #[oi p0, oi p1, oi p2] []) _
        refine XS.iloadN X0.here hx rfl (hb hby d1_20) rfl ?_
        exact kt
      obtain ⟨_, _, ⟨T24, L24, k24, n24⟩, -, X24, ⟨Lc24, hQ24, l24, y24, z24⟩, st24⟩ := Jvm.LawKit.callS X0 hx (y := yy_33) hown (mvT hZ (own_t hw 7 rfl)) (mvT hZ (own_t hw 8 rfl)) (mvT hZ (own_t hw 9 rfl)) (mvT hZ (own_t hw 10 rfl)) (by decide) (backOf (W := 0) (rm2 l Z a0 hw [] p1 cs h0 n0 Z0 hp1 (SC.ext O0.2) hcs) hZ (own_t hw 10 rfl) (own_t hw 9 rfl) (by decide) (by decide)) (g := (mkF m 21 #[oi p0, oi p1, oi p2] [(.int p1)])) rfl (by rw [hml]; rfl) (argsL := [(.int p1)]) (rest := []) (lenOf pd_24 rfl) rfl (by show 2 * 0 + _ ≤ _; exact Nat.le_of_eq rfl) (hb hby d1_21) (fun _ _ => ⟨rfl, e0, (by decide : 0 + 2 ≤ _), (by decide : 0 + 5 ≤ _)⟩)
      dsimp only [Pt.U, Pt.locs, Pt.cells, Pt.slots] at X24 l24 y24 z24 st24 hQ24
      subst l24 y24 z24
      obtain ⟨sa24, rb24, kb24, rfl, N24q, Kq24, Es24, Fv24, Fc24, Va24⟩ := hQ24
      have N24 := Fr.app N0 N24q
      have ch26 := (CHr.refl hCH).trans (CHr.keep Kq24 sf0 (CHr.refl hCH).1)
      have f27 := (Nat.le_trans (Nat.zero_le _) Kq24.1)
      obtain ⟨fs, hr, hrun, hended, hwd⟩ := Stand.leaveW (s := s) (vm₁ := s.vm) X24 hS0 f27 (v := some (.ref sa24)) (fun h => by rw [Bd.returns] at h; cases h)
      have hCr : CHr Z consts_1 s.vm s.heap (T24.setFrames fs).vm (T24.setFrames fs).heap := by
        show CHr Z consts_1 s.vm s.heap T24.vm T24.heap
        rw [hh]
        exact ch26.trans (CHv.at (s := s) (vm0 := s.vm) X24 hZ hEL ch26.1)
      have f28 := ((Keep.refl h0 []).trans Kq24 all0)
      refine ⟨_, _, pre0 _ (c1 _ (c22 _ (c23 _ (st24 _ (?_))))), hrun, hended, _, _, rfl, ?_, hCr, hwd.1, hwd.2.1, hwd.2.2.1, hwd.2.2.2.mono (by decide) (by decide)⟩
      · show Steps p.tables e below (T24.setTop (mkF m 24 #[oi p0, oi p1, oi p2] [(.ref sa24)])) _
        jvm_step X24.here [X24.here.top, hx, (hb hby d1_24), X24.method', Bd.returns, Value.isRef, FieldType.isReference]
        first | (intro acts; rw [hr _ acts rfl rfl rfl]) | rw [hr _ _ rfl rfl rfl]
        exact Steps.refl _
      · show Q1 Z p0 p1 p2 cs fm h0 n0 _ T24.heap _
        exact ⟨sa24, rb24, kb24, rfl, N24, f28, Es24, Fv24, Fc24, (by unfold own_mk; rw [if_neg hc1, if_pos hc17]; exact Va24)⟩
    · -- it isn't
      have c30 : own_G p e below s₁ (mkF m 25 #[oi p0, oi p1, oi p2] []) (mkF m 17 #[oi p0, oi p1, oi p2] [(.int (1 : Int32)), (.int p0)]) := by
        intro t kt
        show oS s₁ (mkF m 17 #[oi p0, oi p1, oi p2] [(.int (1 : Int32)), (.int p0)]) _
        refine XS.icmpYes X0.here hx rfl (pc0 := 17) (pc' := 25) rfl (hb hby d1_17) rfl (feq hc17).2 (by decide) (by decide) ?_
        exact kt
      obtain ⟨T29, h29, X29, e29, E29, A29, D29, U29, st29⟩ := newO X0 hx hZ hown (own_t hw 33 rfl) (own_t hw 17 rfl) (own_t hw 9 rfl) e0 (g := (mkF m 25 #[oi p0, oi p1, oi p2] [])) rfl (hb hby d1_25) (by decide) (by decide)
      obtain ⟨b29, g29⟩ : ∃ z, z = h0.size := ⟨_, rfl⟩
      rw [← g29] at A29 D29 U29 st29
      have sf31_b29 : Safe Z consts_1 s.vm h0 b29 := Safe.new (Nat.le_of_eq g29.symm)
      have g_b29 : n0 ≤ b29 := Nat.le_trans Z0 (Nat.le_of_eq g29.symm)
      have sz_b29 : h0.size ≤ b29 := Nat.le_trans (Keep.refl h0 []).1 (Nat.le_of_eq g29.symm)
      have F29_value : Fld Z h29 b29 "java/lang/String" "value" "[B" .null := D29 (Or.inr (own_t hw 30 rfl)) (ty := (.array .byte)) (by decide)
      have F29_coder : Fld Z h29 b29 "java/lang/String" "coder" "B" (.int (0 : Int32)) := D29 (Or.inr (own_t hw 32 rfl)) (ty := .byte) (by decide)
      have c33 : own_G p e below T29 (mkF m 30 #[oi p0, oi p1, oi p2] [(.int (2 : Int32)), (.ref b29), (.ref b29)]) (mkF m 28 #[oi p0, oi p1, oi p2] [(.ref b29)]) := by
        intro t kt
        show oS T29 (mkF m 28 #[oi p0, oi p1, oi p2] [(.ref b29)]) _
        refine XS.dup X29.here hx rfl (hb hby d1_28) rfl rfl ?_
        show oS T29 (mkF m 29 #[oi p0, oi p1, oi p2] [(.ref b29), (.ref b29)]) _
        refine XS.iconst X29.here hx rfl (hb hby d1_29) ?_
        exact kt
      obtain ⟨T32, h32, k32, X32, e32, E32, A32, st32⟩ := newP X29 hx hZ (own_t hw 34 rfl) e29 (g := (mkF m 30 #[oi p0, oi p1, oi p2] [(.int (2 : Int32)), (.ref b29), (.ref b29)])) rfl (hb hby d1_30) rfl (by decide) (cap := 2) (by decide) (by decide) (by decide) (by decide)
      obtain ⟨b32, g32⟩ : ∃ z, z = h29.size := ⟨_, rfl⟩
      rw [← g32] at A32 st32
      have ch34 := (CHr.refl hCH).trans (CHr.ext E29 (CHr.refl hCH).1)
      have sf34_b29 := Safe.ext E29 (CHr.refl hCH).1 sf31_b29
      have sf35_b32 : Safe Z consts_1 s.vm h29 b32 := Safe.new (Nat.le_of_eq g32.symm)
      have f36 := (Nat.le_trans Z0 E29.1)
      have f37 := ((Keep.refl h0 []).ext E29)
      have g_b32 : n0 ≤ b32 := Nat.le_trans f36 (Nat.le_of_eq g32.symm)
      have sz_b32 : h0.size ≤ b32 := Nat.le_trans f37.1 (Nat.le_of_eq g32.symm)
      have lt_b29_32 := A29.lt
      have V32 : Arv Z h32 b32 k32 .char (2 : Int32) [(.int (0 : Int32)), (.int (0 : Int32))] (.int (0 : Int32)) := (Arv.new A32 (by decide)).pad (pad_rep [] (.int (0 : Int32)) 2)
      have c38 : own_G p e below T32 (mkF m 35 #[oi p0, oi p1, oi p2] [(.int p1), (.int (0 : Int32)), (.ref b32), (.ref b32), (.ref b29), (.ref b29)]) (mkF m 32 #[oi p0, oi p1, oi p2] [(.ref b32), (.ref b29), (.ref b29)]) := by
        intro t kt
        show oS T32 (mkF m 32 #[oi p0, oi p1, oi p2] [(.ref b32), (.ref b29), (.ref b29)]) _
        refine XS.dup X32.here hx rfl (hb hby d1_32) rfl rfl ?_
        show oS T32 (mkF m 33 #[oi p0, oi p1, oi p2] [(.ref b32), (.ref b32), (.ref b29), (.ref b29)]) _
        refine XS.iconst X32.here hx rfl (hb hby d1_33) ?_
        show oS T32 (mkF m 34 #[oi p0, oi p1, oi p2] [(.int (0 : Int32)), (.ref b32), (.ref b32), (.ref b29), (.ref b29)]) _
        refine XS.iloadN X32.here hx rfl (hb hby d1_34) rfl ?_
        exact kt
      have Vc39 := V32
      obtain ⟨cl39, Ar39, qk39, S39, M39, H39, G39⟩ := Vc39
      have hin39 : ¬ ((0 : Int32) < 0 ∨ cl39.slots.size ≤ ((0 : Int32)).toNatClampNeg) := inb_of S39 ⟨by decide, by decide⟩
      obtain ⟨T40, h40, X40, e40, W40, st40⟩ := stC X32 hx hZ e32 Ar39 (j := (0 : Int32)) hin39 (g := (mkF m 35 #[oi p0, oi p1, oi p2] [(.int p1), (.int (0 : Int32)), (.ref b32), (.ref b32), (.ref b29), (.ref b29)])) rfl rfl (hb hby d1_35)
      have V40 : Arv Z h40 b32 k32 .char (2 : Int32) [(.int (p1.toUInt32.toUInt16.toUInt32.toInt32)), (.int (0 : Int32))] (.int (0 : Int32)) := Arv.set Ar39 qk39 S39 M39 H39 G39 (fits_nar_char _) W40 0 rfl (Nat.le_of_ble_eq_true rfl)
      have N40 := Fr.snoc X40 N0 g_b32
      have c41 : own_G p e below T40 (mkF m 39 #[oi p0, oi p1, oi p2] [(.int p2), (.int (1 : Int32)), (.ref b32), (.ref b32), (.ref b29), (.ref b29)]) (mkF m 36 #[oi p0, oi p1, oi p2] [(.ref b32), (.ref b29), (.ref b29)]) := by
        intro t kt
        show oS T40 (mkF m 36 #[oi p0, oi p1, oi p2] [(.ref b32), (.ref b29), (.ref b29)]) _
        refine XS.dup X40.here hx rfl (hb hby d1_36) rfl rfl ?_
        show oS T40 (mkF m 37 #[oi p0, oi p1, oi p2] [(.ref b32), (.ref b32), (.ref b29), (.ref b29)]) _
        refine XS.iconst X40.here hx rfl (hb hby d1_37) ?_
        show oS T40 (mkF m 38 #[oi p0, oi p1, oi p2] [(.int (1 : Int32)), (.ref b32), (.ref b32), (.ref b29), (.ref b29)]) _
        refine XS.iloadN X40.here hx rfl (hb hby d1_38) rfl ?_
        exact kt
      have Vc42 := V40
      obtain ⟨cl42, Ar42, qk42, S42, M42, H42, G42⟩ := Vc42
      have hin42 : ¬ ((1 : Int32) < 0 ∨ cl42.slots.size ≤ ((1 : Int32)).toNatClampNeg) := inb_of S42 ⟨by decide, by decide⟩
      obtain ⟨T43, h43, X43, e43, W43, st43⟩ := stC X40 hx hZ e40 Ar42 (j := (1 : Int32)) hin42 (g := (mkF m 39 #[oi p0, oi p1, oi p2] [(.int p2), (.int (1 : Int32)), (.ref b32), (.ref b32), (.ref b29), (.ref b29)])) rfl rfl (hb hby d1_39)
      have V43 : Arv Z h43 b32 k32 .char (2 : Int32) [(.int (p1.toUInt32.toUInt16.toUInt32.toInt32)), (.int (p2.toUInt32.toUInt16.toUInt32.toInt32))] (.int (0 : Int32)) := Arv.set Ar42 qk42 S42 M42 H42 G42 (fits_nar_char _) W43 1 rfl (Nat.le_of_ble_eq_true rfl)
      have N43 := Fr.snoc X43 N40 g_b32
      have f44 := (Nat.le_trans (Nat.le_trans (Nat.le_trans f36 E32.1) (Keep.of_wr W40).1) (Keep.of_wr W43).1)
      have hrng : ∀ c ∈ ([p1, p2] : List Int32), ¬ c < 0 ∧ ¬ (255 : Int32) < c := by intro q hq; simp only [List.mem_cons, List.not_mem_nil, or_false] at hq; rcases hq with rfl | rfl; exact hp1; exact hp2
      have f45 := (((A29.ext E32).wr W40).wr W43)
      have f46 := (((F29_value.ext E32).other W40 (Or.inl (Nat.ne_of_lt (Nat.lt_of_lt_of_le lt_b29_32 (Nat.le_of_eq g32.symm))))).other W43 (Or.inl (Nat.ne_of_lt (Nat.lt_of_lt_of_le lt_b29_32 (Nat.le_of_eq g32.symm)))))
      have f47 := (((F29_coder.ext E32).other W40 (Or.inl (Nat.ne_of_lt (Nat.lt_of_lt_of_le lt_b29_32 (Nat.le_of_eq g32.symm))))).other W43 (Or.inl (Nat.ne_of_lt (Nat.lt_of_lt_of_le lt_b29_32 (Nat.le_of_eq g32.symm)))))
      have f48 := ((((O0.ext E29).ext E32).wr W40 g_b32).wr W43 g_b32)
      obtain ⟨_, _, ⟨T49, L49, k49, n49⟩, -, X49, ⟨Lc49, hQ49, l49, y49, z49⟩, st49⟩ := X43.specialBack hx (y := yy_35) rfl hown (mvT hZ (own_t hw 35 rfl)) (mvT hZ (own_t hw 36 rfl)) (mvT hZ (own_t hw 37 rfl)) (by decide) (StrChars.Road.backV (W := 1) hZ hws (kI := 4) (own_t hw 17 rfl) (cs := ([p1, p2] : List Int32)) (bs := (([p1, p2] : List Int32)).map (fun c => c.toInt8.toInt32)) (n := 2) g_b29 f44 f45 f46 f47 (show Arv Z _ _ _ _ _ (([p1, p2] : List Int32).map Value.int) _ from by have q := V43; rw [own_nar p1 hp1, own_nar p2 hp2] at q; exact q) (SC.ext f48.2) hcs rfl rfl (by decide) (by decide) hrng rfl (by decide) (by decide)) (g := (mkF m 40 #[oi p0, oi p1, oi p2] [(.ref b32), (.ref b29), (.ref b29)])) rfl (by rw [hml]; rfl) (Steps.refl _) (a := b29) (argsL := [(.ref b32)]) (rest := [(.ref b29)]) (lenOf pd_23 rfl) rfl (by show 2 * 0 + _ ≤ _; exact Nat.le_of_eq rfl) (hb hby d1_40) (fun _ _ => ⟨rfl, e43, (by decide : 2 + 1 ≤ _), (by decide : 6 + 2 ≤ _)⟩)
      dsimp only [Pt.U, Pt.locs, Pt.cells, Pt.slots] at X49 l49 y49 z49 st49 hQ49
      subst l49 y49 z49
      obtain ⟨rfl, N49q, Kq49, Eq49, Fc49, ot49, kb49, g_ot49, szq49, nt49, Fv49, Vb49⟩ := hQ49
      have N49 := Fr.app N43 N49q
      have lt_b29_49 := f45.lt
      have lt_b32_49 := (show Arv Z _ _ _ _ _ (([p1, p2] : List Int32).map Value.int) _ from by have q := V43; rw [own_nar p1 hp1, own_nar p2 hp2] at q; exact q).lt
      have f50 := (((f37.ext E32).wr W40 (Or.inr sz_b32)).wr W43 (Or.inr sz_b32))
      have sz_ot49 : h0.size ≤ ot49 := Nat.le_trans f50.1 szq49
      have ch52 := ch34.trans (CHr.ext E32 ch34.1)
      have sf52_b29 := Safe.ext E32 ch34.1 sf34_b29
      have sf52_b32 := Safe.ext E32 ch34.1 sf35_b32
      have ch53 := ch52.trans (CHr.wr W40 sf52_b32 ch52.1)
      have sf53_b29 := Safe.wr W40 sf52_b32 ch52.1 sf52_b29
      have sf53_b32 := Safe.wr W40 sf52_b32 ch52.1 sf52_b32
      have ch54 := ch53.trans (CHr.wr W43 sf53_b32 ch53.1)
      have sf54_b29 := Safe.wr W43 sf53_b32 ch53.1 sf53_b29
      have sf54_b32 := Safe.wr W43 sf53_b32 ch53.1 sf53_b32
      have ch55 := ch54.trans (CHr.keep Kq49 (sfS sf54_b29 sf0) ch54.1)
      have sf55_b29 := Safe.keep Kq49 (sfS sf54_b29 sf0) ch54.1 sf54_b29
      have sf55_b32 := Safe.keep Kq49 (sfS sf54_b29 sf0) ch54.1 sf54_b32
      have f56 := (Nat.le_trans (Nat.le_trans (Nat.le_trans (Nat.le_trans (Nat.le_trans (Nat.zero_le _) E29.1) E32.1) (Keep.of_wr W40).1) (Keep.of_wr W43).1) Kq49.1)
      obtain ⟨fs, hr, hrun, hended, hwd⟩ := Stand.leaveW (s := s) (vm₁ := s.vm) X49 hS0 f56 (v := some (.ref b29)) (fun h => by rw [Bd.returns] at h; cases h)
      have hCr : CHr Z consts_1 s.vm s.heap (T49.setFrames fs).vm (T49.setFrames fs).heap := by
        show CHr Z consts_1 s.vm s.heap T49.vm T49.heap
        rw [hh]
        exact ch55.trans (CHv.at (s := s) (vm0 := s.vm) X49 hZ hEL ch55.1)
      have f57 := (f50.trans Kq49 (allS (Or.inr sz_b29) all0))
      refine ⟨_, _, pre0 _ (c1 _ (c22 _ (c30 _ (st29 _ (c33 _ (st32 _ (c38 _ (st40 _ (c41 _ (st43 _ (st49.trans (?_)))))))))))), hrun, hended, _, _, rfl, ?_, hCr, hwd.1, hwd.2.1, hwd.2.2.1, hwd.2.2.2.mono (by decide) (by decide)⟩
      · show Steps p.tables e below (T49.setTop (mkF m 43 #[oi p0, oi p1, oi p2] [(.ref b29)])) _
        jvm_step X49.here [X49.here.top, hx, (hb hby d1_43), X49.method', Bd.returns, Value.isRef, FieldType.isReference]
        first | (intro acts; rw [hr _ acts rfl rfl rfl]) | rw [hr _ _ rfl rfl rfl]
        exact Steps.refl _
      · show Q1 Z p0 p1 p2 cs fm h0 n0 _ T49.heap _
        exact ⟨b29, ot49, kb49, rfl, N49, f57, Eq49, Fv49, Fc49, (by unfold own_mk; rw [if_neg hc1, if_neg hc17]; exact Vb49)⟩
theorem d9_0 : decode prog_17_method_4_code 0 = .ok (.new 33, 3) := by decide +kernel
theorem d9_3 : decode prog_17_method_4_code 3 = .ok (.dup, 1) := by decide +kernel
theorem d9_4 : decode prog_17_method_4_code 4 = .ok (.invokespecial 35, 3) := by decide +kernel
theorem d9_7 : decode prog_17_method_4_code 7 = .ok (.ldc 38, 2) := by decide +kernel
theorem d9_9 : decode prog_17_method_4_code 9 = .ok (.invokevirtual 40, 3) := by decide +kernel
theorem d9_12 : decode prog_17_method_4_code 12 = .ok (.aload_n 0, 1) := by decide +kernel
theorem d9_13 : decode prog_17_method_4_code 13 = .ok (.getfield 29, 3) := by decide +kernel
theorem d9_16 : decode prog_17_method_4_code 16 = .ok (.invokevirtual 40, 3) := by decide +kernel
theorem d9_19 : decode prog_17_method_4_code 19 = .ok (.ldc 44, 2) := by decide +kernel
theorem d9_21 : decode prog_17_method_4_code 21 = .ok (.invokevirtual 40, 3) := by decide +kernel
theorem d9_24 : decode prog_17_method_4_code 24 = .ok (.aload_n 1, 1) := by decide +kernel
theorem d9_25 : decode prog_17_method_4_code 25 = .ok (.invokevirtual 40, 3) := by decide +kernel
theorem d9_28 : decode prog_17_method_4_code 28 = .ok (.ldc 46, 2) := by decide +kernel
theorem d9_30 : decode prog_17_method_4_code 30 = .ok (.invokevirtual 40, 3) := by decide +kernel
theorem d9_33 : decode prog_17_method_4_code 33 = .ok (.aload_n 2, 1) := by decide +kernel
theorem d9_34 : decode prog_17_method_4_code 34 = .ok (.invokevirtual 40, 3) := by decide +kernel
theorem d9_37 : decode prog_17_method_4_code 37 = .ok (.invokevirtual 48, 3) := by decide +kernel
theorem d9_40 : decode prog_17_method_4_code 40 = .ok (.areturn, 1) := by decide +kernel
theorem pn_9 : plainName "com/example/emex/emex/read/FileRefusal" = true := by first | (simp [plainName, overriddenIn]; done) | decide +kernel
theorem ef_9 (m : MethodId) (x0 : Addr) (x1 : Addr) (x2 : Addr) : entryFrame m #[(.ref x0), (.ref x1), (.ref x2)] 3 = mkF m 0 #[.val (.ref x0), .val (.ref x1), .val (.ref x2)] [] := by first | (simp [entryFrame, mkF, argsToLocals, Value.category]; done) | rfl
def Q9 (Z : State) (r0 : Addr) (r1 : Addr) (r2 : Addr) (sv vvb rba rbb : Addr) (kvb kba kbb : ClassId) (vt tx ty : List Int32) (cs : Int32) (fm : Value) (h0 : Heap) (n0 : Nat) (v : Option Value) (h : Heap) (L : List Loc) : Prop := ∃ sa rb kb, v = some (.ref sa) ∧ Fr n0 L ∧ Keep h0 h [] ∧ Exa Z h sa "java/lang/String" ∧ Fld Z h sa "java/lang/String" "value" "[B" (.ref rb) ∧ Fld Z h sa "java/lang/String" "coder" "B" (.int (0 : Int32)) ∧ Arv Z h rb kb .byte (Int32.ofNat ((((((([] : List Int32) ++ ([99, 97, 110, 110, 111, 116, 32] : List Int32)) ++ vt) ++ ([32] : List Int32)) ++ tx) ++ ([58, 32] : List Int32)) ++ ty).length) ((((((((([] : List Int32) ++ ([99, 97, 110, 110, 111, 116, 32] : List Int32)) ++ vt) ++ ([32] : List Int32)) ++ tx) ++ ([58, 32] : List Int32)) ++ ty).map (fun c => c.toInt8.toInt32)).map Value.int) (.int 0)
set_option maxRecDepth 65536 in
set_option maxHeartbeats 40000000 in
theorem rm9 (l : Launch) (Z : State) (a0 : Array Value) (hw : ∀ d ∈ tables_1, d.before a0 Z = true) (ws : List Jvm.Cond) (r0 : Addr) (r1 : Addr) (r2 : Addr) (sv vvb rba rbb : Addr) (kvb kba kbb : ClassId) (vt tx ty : List Int32) (cs : Int32) (fm : Value) (h0 : Heap) (n0 : Nat) (Z0 : n0 ≤ h0.size) (Er : Exa Z h0 r0 "com/example/emex/emex/read/FileRefusal") (Fr0 : Fld Z h0 r0 "com/example/emex/emex/read/FileRefusal" "verb" "Ljava/lang/String;" (.ref sv)) (Ev : Exa Z h0 sv "java/lang/String") (Fv : Fld Z h0 sv "java/lang/String" "value" "[B" (.ref vvb)) (Cv : Fld Z h0 sv "java/lang/String" "coder" "B" (.int (0 : Int32))) (Vv : Arv Z h0 vvb kvb .byte (Int32.ofNat vt.length) ((vt.map (fun c => c.toInt8.toInt32)).map Value.int) (.int 0)) (Ea : Exa Z h0 r1 "java/lang/String") (Fa : Fld Z h0 r1 "java/lang/String" "value" "[B" (.ref rba)) (Ca : Fld Z h0 r1 "java/lang/String" "coder" "B" (.int (0 : Int32))) (Va : Arv Z h0 rba kba .byte (Int32.ofNat tx.length) ((tx.map (fun c => c.toInt8.toInt32)).map Value.int) (.int 0)) (Eb : Exa Z h0 r2 "java/lang/String") (Fb : Fld Z h0 r2 "java/lang/String" "value" "[B" (.ref rbb)) (Cb : Fld Z h0 r2 "java/lang/String" "coder" "B" (.int (0 : Int32))) (Vb : Arv Z h0 rbb kbb .byte (Int32.ofNat ty.length) ((ty.map (fun c => c.toInt8.toInt32)).map Value.int) (.int 0)) (O0 : Old Z n0 h0) (SC : Sta Z Z.heap "java/lang/String" "COMPACT_STRINGS" "Z" (.int cs)) (hcs : ¬ cs = (0 : Int32)) (SF : Sta Z Z.heap "jdk/internal/util/Preconditions" "SIOOBE_FORMATTER" "Ljava/util/function/BiFunction;" fm) (hfm : fm.isRef = true) (hlv : vt.length ≤ 5) (hlx : tx.length ≤ 2) (hly : ty.length ≤ 2) :
    MetFree l yy_37 (head1 (Jvm.Cond.code yy_37 prog_17_method_4_code 3 (some (.object "java/lang/String")) :: ws) ({ frames := 6, cells := 16, slots := 400, locals := 137 } : Room)) (fun a U => a = #[(.ref r0), (.ref r1), (.ref r2)] ∧ Z.Warmed39 U.vm ∧ U.heap = h0 ∧ CHv Z consts_1 U.vm h0) (fun _ _ _ _ _ => True) (fun _ U o U' => ∃ v L, o = .returned v ∧ Q9 Z r0 r1 r2 sv vvb rba rbb kvb kba kbb vt tx ty cs fm h0 n0 v U'.heap L ∧ CHr Z consts_1 U.vm U.heap U'.vm U'.heap ∧ ReturnedEndW U o U' L ({ frames := 6, cells := 16, slots := 400, locals := 137 } : Room).cells ({ frames := 6, cells := 16, slots := 400, locals := 137 } : Room).slots) := by
  refine MetFree.of_bodySF (plainFor_of_name pn_9) hisR ?_
  intro p e s m args below meth c s₁ Bd hml0 hP hK
  obtain ⟨rfl, hZ, hh, hCH⟩ := hP
  have hx := Bd.exec
  have hby := Bd.bytes
  have hml : c.maxLocals = 3 := hml0
  have hown : s.vm.findClass "com/example/emex/emex/read/FileRefusal" = some m.cls := findClass_of_methodNamed Bd.named
  have hnm := (name_of_methodNamed Bd.named Bd.method).1
  have X0 : Stand p l e ({ frames := 6, cells := 16, slots := 400, locals := 137 } : Room) s m #[(.ref r0), (.ref r1), (.ref r2)] below meth c s₁ [] 0 0 := Stand.of_body Bd
  have e0 : s₁.heap = h0 := by rw [← hh, Bd.state]; rfl
  have N0 := Fr.nil n0
  have pre0 : ∀ t, Steps p.tables e below (s₁.setTop (mkF m 0 #[oa r0, oa r1, oa r2] [])) t → Steps p.tables e below (s₁.setTop (entryFrame m #[(.ref r0), (.ref r1), (.ref r2)] 3)) t := fun t k => castTop (ef_9 m r0 r1 r2) k
  have hS0 : s.Since s.vm 0 := (State.WarmedH.refl s).since 0
  have hEL : EW Z a0 consts_1 := (EW.cons (own_t hw 67 rfl) (by decide) (EW.cons (own_t hw 117 rfl) (by decide) (EW.cons (own_t hw 118 rfl) (by decide) (EW.cons (own_t hw 41 rfl) (by decide) EW.nil))))
  have hwS : ∀ d ∈ Bundle.stringAtoms, d.before a0 Z = true := fun d hd => hw d ((by decide +kernel : ∀ d ∈ Bundle.stringAtoms, d ∈ tables_1) d hd)
  obtain ⟨T1, h1, X1, e1, E1, A1, D1, U1, st1⟩ := newO X0 hx hZ hown (own_t hw 49 rfl) (own_t hw 50 rfl) (own_t hw 51 rfl) e0 (g := (mkF m 0 #[oa r0, oa r1, oa r2] [])) rfl (hb hby d9_0) (by decide) (by decide)
  obtain ⟨b1, g1⟩ : ∃ z, z = h0.size := ⟨_, rfl⟩
  rw [← g1] at A1 D1 U1 st1
  have sf2_b1 : Safe Z consts_1 s.vm h0 b1 := Safe.new (Nat.le_of_eq g1.symm)
  have g_b1 : n0 ≤ b1 := Nat.le_trans Z0 (Nat.le_of_eq g1.symm)
  have sz_b1 : h0.size ≤ b1 := Nat.le_trans (Keep.refl h0 []).1 (Nat.le_of_eq g1.symm)
  have lt_r0_1 := Er.lt
  have lt_sv_1 := Ev.lt
  have lt_vvb_1 := Vv.lt
  have lt_r1_1 := Ea.lt
  have lt_rba_1 := Va.lt
  have lt_r2_1 := Eb.lt
  have lt_rbb_1 := Vb.lt
  have F1_value : Fld Z h1 b1 "java/lang/AbstractStringBuilder" "value" "[B" .null := D1 (Or.inl (own_t hw 64 rfl)) (ty := (.array .byte)) (by decide)
  have F1_coder : Fld Z h1 b1 "java/lang/AbstractStringBuilder" "coder" "B" (.int (0 : Int32)) := D1 (Or.inl (own_t hw 66 rfl)) (ty := .byte) (by decide)
  have F1_count : Fld Z h1 b1 "java/lang/AbstractStringBuilder" "count" "I" (.int (0 : Int32)) := D1 (Or.inl (own_t hw 89 rfl)) (ty := .int) (by decide)
  have c3 : own_G p e below T1 (mkF m 4 #[oa r0, oa r1, oa r2] [(.ref b1), (.ref b1)]) (mkF m 3 #[oa r0, oa r1, oa r2] [(.ref b1)]) := by
    intro t kt
    show oS T1 (mkF m 3 #[oa r0, oa r1, oa r2] [(.ref b1)]) _
    refine XS.dup X1.here hx rfl (hb hby d9_3) rfl rfl ?_
    exact kt
  have f4 := (Nat.le_trans Z0 E1.1)
  have f5 := (O0.ext E1)
  obtain ⟨_, _, ⟨T6, L6, k6, n6⟩, -, X6, ⟨Lc6, hQ6, l6, y6, z6⟩, st6⟩ := X1.specialBack hx (y := yy_19) rfl hown (mvT hZ (own_t hw 52 rfl)) (mvT hZ (own_t hw 53 rfl)) (mvT hZ (own_t hw 54 rfl)) (by decide) (backOf (W := 1) (rm10 l Z a0 hw [] b1 cs h1 n0 f4 A1 F1_value F1_coder F1_count g_b1 (SC.ext f5.2) hcs) hZ (own_t hw 54 rfl) (own_t hw 51 rfl) (by decide) (by decide)) (g := (mkF m 4 #[oa r0, oa r1, oa r2] [(.ref b1), (.ref b1)])) rfl (by rw [hml]; rfl) (Steps.refl _) (a := b1) (argsL := []) (rest := [(.ref b1)]) (lenOf pd_25 rfl) rfl (by show 2 * 0 + _ ≤ _; exact Nat.le_of_eq rfl) (hb hby d9_4) (fun _ _ => ⟨rfl, e1, (by decide : 1 + 1 ≤ _), (by decide : 4 + 16 ≤ _)⟩)
  dsimp only [Pt.U, Pt.locs, Pt.cells, Pt.slots] at X6 l6 y6 z6 st6 hQ6
  subst l6 y6 z6
  obtain ⟨rfl, N6q, Kq6, Eq6, vb6, kv6, szq6, g_vb6, hEx6, Fv6, Fc6, Fn6, Vq6⟩ := hQ6
  have N6 := Fr.app N0 N6q
  have f7 := (Er.ext E1)
  have lt_r0_6 := f7.lt
  have f8 := (Ev.ext E1)
  have lt_sv_6 := f8.lt
  have f9 := (Vv.ext E1)
  have lt_vvb_6 := f9.lt
  have f10 := (Ea.ext E1)
  have lt_r1_6 := f10.lt
  have f11 := (Va.ext E1)
  have lt_rba_6 := f11.lt
  have f12 := (Eb.ext E1)
  have lt_r2_6 := f12.lt
  have f13 := (Vb.ext E1)
  have lt_rbb_6 := f13.lt
  have lt_b1_6 := A1.lt
  have f14 := ((Keep.refl h0 []).ext E1)
  have sz_vb6 : h0.size ≤ vb6 := Nat.le_trans f14.1 szq6
  have ch15 := (CHr.refl hCH).trans (CHr.ext E1 (CHr.refl hCH).1)
  have sf15_b1 := Safe.ext E1 (CHr.refl hCH).1 sf2_b1
  have sf16_vb6 : Safe Z consts_1 s.vm h1 vb6 := Safe.new szq6
  have hcap6 : ((16 : Int32) = (16 : Int32) ∧ Exa Z T6.heap vb6 "[B") ∨ (16 : Int32) = (34 : Int32) := Or.inl ⟨rfl, hEx6⟩
  have bl6 : ([] : List Int32).length ≤ (16 : Int32).toNatClampNeg := Nat.zero_le _
  have ch18 := ch15.trans (CHr.keep Kq6 (sfS sf15_b1 sf0) ch15.1)
  have sf18_b1 := Safe.keep Kq6 (sfS sf15_b1 sf0) ch15.1 sf15_b1
  have sf18_vb6 := Safe.keep Kq6 (sfS sf15_b1 sf0) ch15.1 sf16_vb6
  have f19 := (Nat.le_trans (Nat.le_trans (Nat.zero_le _) E1.1) Kq6.1)
  have f20 := (Nat.le_trans f4 Kq6.1)
  have f21 := (f14.trans Kq6 (allS (Or.inr sz_b1) all0))
  have f22 := (f5.keep Kq6 (allS g_b1 all0))
  obtain ⟨a17, T17, h17, j17, b17, kb17, X17, e17, E17, hS17, hk17, hZ, hown, Es17, Fc17, Fv17, Va17, la17, lb17, CH17, Lt17, Sf17, st17⟩ := ldcCH (s := s) (vm0 := s.vm) X6 hx hZ hown (own_t hw 67 rfl) hwS rfl hS0 f19 hEL (List.mem_of_getElem? (i := 0) rfl) ch18.1 (vs := [(.int (99 : Int32)), (.int (97 : Int32)), (.int (110 : Int32)), (.int (110 : Int32)), (.int (111 : Int32)), (.int (116 : Int32)), (.int (32 : Int32))]) (z := (7 : Int32)) ⟨by decide, rfl⟩ (by decide) rfl (g := (mkF m 7 #[oa r0, oa r1, oa r2] [(.ref b1)])) rfl (hb hby d9_7) (n := 28) (by decide) (by decide) (by decide) (by decide)
  have sg17_b1 := CHr.safe CH17 Eq6.lt sf18_b1
  have sg17_vb6 := CHr.safe CH17 Vq6.lt sf18_vb6
  have ch17 := ch18.trans CH17
  have Vt23 : Arv Z h17 b17 kb17 .byte (Int32.ofNat ([99, 97, 110, 110, 111, 116, 32] : List Int32).length) ((([99, 97, 110, 110, 111, 116, 32] : List Int32).map (fun c => c.toInt8.toInt32)).map Value.int) (.int 0) := Va17
  have f24 := (Nat.le_trans f20 E17.1)
  have f25 := (Eq6.ext E17)
  have f26 := (Fv6.ext E17)
  have f27 := (Fc6.ext E17)
  have f28 := (Fn6.ext E17)
  have f29 := (Vq6.ext E17)
  have f30 := (f22.ext E17)
  obtain ⟨cq31, kq31, q31a, q31b, q31c⟩ := isOf hZ e17 f25
  obtain ⟨_, _, ⟨T32, L32, k32, n32⟩, -, X32, ⟨Lc32, hQ32, l32, y32, z32⟩, st32⟩ := X17.virtualBack hx (y := yy_17) (z := yy_17) hown (mvT hZ (own_t hw 68 rfl)) (mvT hZ (own_t hw 69 rfl)) (notFace_of_selects (args := #[]) (mvT hZ (own_t hw 71 rfl))) (mvT hZ (own_t hw 71 rfl)) (mvT hZ (own_t hw 70 rfl)) (by decide) (backOf (W := 0) (rm12 l Z a0 hw [] b1 a17 vb6 b17 kv6 kb17 (16 : Int32) ([] : List Int32) ([99, 97, 110, 110, 111, 116, 32] : List Int32) cs h17 n0 f24 f25 f26 f27 f28 f29 Es17 Fv17 Fc17 Vt23 (hcap6.imp (fun q => ⟨q.1, (q.2.ext E17)⟩) id) (by simp only [List.length_append, List.length_cons, List.length_nil]; omega) bl6 f30 SC hcs g_b1 g_vb6 (Ne.symm (Nat.ne_of_lt (Nat.lt_of_lt_of_le lt_b1_6 szq6))) (Ne.symm (Sf17 _ sg17_b1).1) (Ne.symm (Sf17 _ sg17_b1).2)) hZ (own_t hw 72 rfl) (own_t hw 51 rfl) (by decide) (by decide)) q31a q31c (g := (mkF m 9 #[oa r0, oa r1, oa r2] [(.ref a17), (.ref b1)])) rfl (by rw [hml]; rfl) (Steps.refl _) (argsL := [(.ref a17)]) (rest := []) (lenOf pd_26 rfl) rfl (by show 2 * 0 + _ ≤ _; exact Nat.le_of_eq rfl) (hb hby d9_9) (fun _ _ => ⟨rfl, e17, (by decide : 4 + 1 ≤ _), (by decide : 52 + 34 ≤ _)⟩)
  dsimp only [Pt.U, Pt.locs, Pt.cells, Pt.slots] at X32 l32 y32 z32 st32 hQ32
  subst l32 y32 z32
  obtain ⟨rfl, N32q, Kq32, Eq32, vb32, kv32, zz32, g_vb32, wh32, bl32, hcap32, Fv32, Fc32, Fn32, Vq32⟩ := hQ32
  have N32 := Fr.app N6 N32q
  have sfw32 : Safe Z consts_1 T17.vm h17 vb32 := by
    rcases wh32 with e | e
    · rw [e]; exact sg17_vb6
    · exact Safe.new e
  have f33 := (f21.ext E17)
  have sz_vb32 : h0.size ≤ vb32 := by
    rcases wh32 with e | e
    · rw [e]; exact sz_vb6
    · exact Nat.le_trans f33.1 e
  have f34 := ((f7.keep Kq6).ext E17)
  have ne_r0_vb32 : r0 ≠ vb32 := by
    rcases wh32 with e | e
    · rw [e]; exact (Nat.ne_of_lt (Nat.lt_of_lt_of_le lt_r0_6 szq6))
    · exact Nat.ne_of_lt (Nat.lt_of_lt_of_le f34.lt e)
  have f35 := ((f8.keep Kq6).ext E17)
  have ne_sv_vb32 : sv ≠ vb32 := by
    rcases wh32 with e | e
    · rw [e]; exact (Nat.ne_of_lt (Nat.lt_of_lt_of_le lt_sv_6 szq6))
    · exact Nat.ne_of_lt (Nat.lt_of_lt_of_le f35.lt e)
  have f36 := ((f9.keep Kq6 (ninS (Nat.ne_of_lt (Nat.lt_of_lt_of_le lt_vvb_1 (Nat.le_of_eq g1.symm))) nin0)).ext E17)
  have ne_vvb_vb32 : vvb ≠ vb32 := by
    rcases wh32 with e | e
    · rw [e]; exact (Nat.ne_of_lt (Nat.lt_of_lt_of_le lt_vvb_6 szq6))
    · exact Nat.ne_of_lt (Nat.lt_of_lt_of_le f36.lt e)
  have f37 := ((f10.keep Kq6).ext E17)
  have ne_r1_vb32 : r1 ≠ vb32 := by
    rcases wh32 with e | e
    · rw [e]; exact (Nat.ne_of_lt (Nat.lt_of_lt_of_le lt_r1_6 szq6))
    · exact Nat.ne_of_lt (Nat.lt_of_lt_of_le f37.lt e)
  have f38 := ((f11.keep Kq6 (ninS (Nat.ne_of_lt (Nat.lt_of_lt_of_le lt_rba_1 (Nat.le_of_eq g1.symm))) nin0)).ext E17)
  have ne_rba_vb32 : rba ≠ vb32 := by
    rcases wh32 with e | e
    · rw [e]; exact (Nat.ne_of_lt (Nat.lt_of_lt_of_le lt_rba_6 szq6))
    · exact Nat.ne_of_lt (Nat.lt_of_lt_of_le f38.lt e)
  have f39 := ((f12.keep Kq6).ext E17)
  have ne_r2_vb32 : r2 ≠ vb32 := by
    rcases wh32 with e | e
    · rw [e]; exact (Nat.ne_of_lt (Nat.lt_of_lt_of_le lt_r2_6 szq6))
    · exact Nat.ne_of_lt (Nat.lt_of_lt_of_le f39.lt e)
  have f40 := ((f13.keep Kq6 (ninS (Nat.ne_of_lt (Nat.lt_of_lt_of_le lt_rbb_1 (Nat.le_of_eq g1.symm))) nin0)).ext E17)
  have ne_rbb_vb32 : rbb ≠ vb32 := by
    rcases wh32 with e | e
    · rw [e]; exact (Nat.ne_of_lt (Nat.lt_of_lt_of_le lt_rbb_6 szq6))
    · exact Nat.ne_of_lt (Nat.lt_of_lt_of_le f40.lt e)
  have ne_b1_vb32 : b1 ≠ vb32 := by
    rcases wh32 with e | e
    · rw [e]; exact (Nat.ne_of_lt (Nat.lt_of_lt_of_le lt_b1_6 szq6))
    · exact Nat.ne_of_lt (Nat.lt_of_lt_of_le f25.lt e)
  have ne_a17_vb32 : a17 ≠ vb32 := by
    rcases wh32 with e | e
    · rw [e]; exact (Ne.symm (Sf17 _ sg17_vb6).1)
    · exact Nat.ne_of_lt (Nat.lt_of_lt_of_le Es17.lt e)
  have ne_b17_vb32 : b17 ≠ vb32 := by
    rcases wh32 with e | e
    · rw [e]; exact (Ne.symm (Sf17 _ sg17_vb6).2)
    · exact Nat.ne_of_lt (Nat.lt_of_lt_of_le Vt23.lt e)
  have f41 := ((((Fr0.ext E1).keep Kq6 (ninS (Nat.ne_of_lt (Nat.lt_of_lt_of_le lt_r0_1 (Nat.le_of_eq g1.symm))) nin0)).ext E17).keep Kq32 (ninS (Nat.ne_of_lt (Nat.lt_of_lt_of_le lt_r0_1 (Nat.le_of_eq g1.symm))) (ninS (Nat.ne_of_lt (Nat.lt_of_lt_of_le lt_r0_6 szq6)) nin0)))
  have c43 : own_G p e below T32 (mkF m 13 #[oa r0, oa r1, oa r2] [(.ref r0), (.ref b1)]) (mkF m 12 #[oa r0, oa r1, oa r2] [(.ref b1)]) := by
    intro t kt
    show oS T32 (mkF m 12 #[oa r0, oa r1, oa r2] [(.ref b1)]) _
    refine XS.aloadN X32.here hx rfl (hb hby d9_12) rfl rfl ?_
    exact kt
  obtain ⟨T42, X42, e42, st42⟩ := getF X32 hx hZ hown (host := "") (Or.inl (own_t hw 115 rfl)) Via.refl rfl f41 (g := (mkF m 13 #[oa r0, oa r1, oa r2] [(.ref r0), (.ref b1)])) rfl rfl (hb hby d9_13)
  have f44 := (Nat.le_trans f24 Kq32.1)
  have f45 := (f35.keep Kq32)
  have f46 := ((((Fv.ext E1).keep Kq6 (ninS (Nat.ne_of_lt (Nat.lt_of_lt_of_le lt_sv_1 (Nat.le_of_eq g1.symm))) nin0)).ext E17).keep Kq32 (ninS (Nat.ne_of_lt (Nat.lt_of_lt_of_le lt_sv_1 (Nat.le_of_eq g1.symm))) (ninS (Nat.ne_of_lt (Nat.lt_of_lt_of_le lt_sv_6 szq6)) nin0)))
  have f47 := ((((Cv.ext E1).keep Kq6 (ninS (Nat.ne_of_lt (Nat.lt_of_lt_of_le lt_sv_1 (Nat.le_of_eq g1.symm))) nin0)).ext E17).keep Kq32 (ninS (Nat.ne_of_lt (Nat.lt_of_lt_of_le lt_sv_1 (Nat.le_of_eq g1.symm))) (ninS (Nat.ne_of_lt (Nat.lt_of_lt_of_le lt_sv_6 szq6)) nin0)))
  have f48 := (f36.keep Kq32 (ninS (Nat.ne_of_lt (Nat.lt_of_lt_of_le lt_vvb_1 (Nat.le_of_eq g1.symm))) (ninS (Nat.ne_of_lt (Nat.lt_of_lt_of_le lt_vvb_6 szq6)) nin0)))
  have f49 := (f30.keep Kq32 (allS g_b1 (allS g_vb6 all0)))
  obtain ⟨cq50, kq50, q50a, q50b, q50c⟩ := isOf hZ e42 Eq32
  obtain ⟨_, _, ⟨T51, L51, k51, n51⟩, -, X51, ⟨Lc51, hQ51, l51, y51, z51⟩, st51⟩ := X42.virtualBack hx (y := yy_17) (z := yy_17) hown (mvT hZ (own_t hw 68 rfl)) (mvT hZ (own_t hw 69 rfl)) (notFace_of_selects (args := #[]) (mvT hZ (own_t hw 71 rfl))) (mvT hZ (own_t hw 71 rfl)) (mvT hZ (own_t hw 70 rfl)) (by decide) (backOf (W := 0) (rm12 l Z a0 hw [] b1 sv vb32 vvb kv32 kvb zz32 (([] : List Int32) ++ ([99, 97, 110, 110, 111, 116, 32] : List Int32)) vt cs T32.heap n0 f44 Eq32 Fv32 Fc32 Fn32 Vq32 f45 f46 f47 f48 (hcap32.imp (fun q => ⟨q.1, q.2⟩) id) (by simp only [List.length_append, List.length_cons, List.length_nil]; omega) bl32 f49 SC hcs g_b1 g_vb32 (Ne.symm ne_b1_vb32) (Nat.ne_of_lt (Nat.lt_of_lt_of_le lt_sv_1 (Nat.le_of_eq g1.symm))) (Nat.ne_of_lt (Nat.lt_of_lt_of_le lt_vvb_1 (Nat.le_of_eq g1.symm)))) hZ (own_t hw 72 rfl) (own_t hw 51 rfl) (by decide) (by decide)) q50a q50c (g := (mkF m 16 #[oa r0, oa r1, oa r2] [(.ref sv), (.ref b1)])) rfl (by rw [hml]; rfl) (Steps.refl _) (argsL := [(.ref sv)]) (rest := []) (lenOf pd_26 rfl) rfl (by show 2 * 0 + _ ≤ _; exact Nat.le_of_eq rfl) (hb hby d9_16) (fun _ _ => ⟨rfl, e42, (by decide : 5 + 1 ≤ _), (by decide : 86 + 34 ≤ _)⟩)
  dsimp only [Pt.U, Pt.locs, Pt.cells, Pt.slots] at X51 l51 y51 z51 st51 hQ51
  subst l51 y51 z51
  obtain ⟨rfl, N51q, Kq51, Eq51, vb51, kv51, zz51, g_vb51, wh51, bl51, hcap51, Fv51, Fc51, Fn51, Vq51⟩ := hQ51
  have N51 := Fr.app N32 N51q
  have ch52 := ch17.trans (CHr.keep Kq32 (sfS sg17_b1 (sfS sg17_vb6 sf0)) ch17.1)
  have sf52_b1 := Safe.keep Kq32 (sfS sg17_b1 (sfS sg17_vb6 sf0)) ch17.1 sg17_b1
  have sf52_vb6 := Safe.keep Kq32 (sfS sg17_b1 (sfS sg17_vb6 sf0)) ch17.1 sg17_vb6
  have sf52_vb32 := Safe.keep Kq32 (sfS sg17_b1 (sfS sg17_vb6 sf0)) ch17.1 sfw32
  have sfw51 : Safe Z consts_1 T17.vm T32.heap vb51 := by
    rcases wh51 with e | e
    · rw [e]; exact sf52_vb32
    · exact Safe.new e
  have f53 := (f33.trans Kq32 (allS (Or.inr sz_b1) (allS (Or.inr sz_vb6) all0)))
  have sz_vb51 : h0.size ≤ vb51 := by
    rcases wh51 with e | e
    · rw [e]; exact sz_vb32
    · exact Nat.le_trans f53.1 e
  have f54 := (f34.keep Kq32)
  have ne_r0_vb51 : r0 ≠ vb51 := by
    rcases wh51 with e | e
    · rw [e]; exact ne_r0_vb32
    · exact Nat.ne_of_lt (Nat.lt_of_lt_of_le f54.lt e)
  have ne_sv_vb51 : sv ≠ vb51 := by
    rcases wh51 with e | e
    · rw [e]; exact ne_sv_vb32
    · exact Nat.ne_of_lt (Nat.lt_of_lt_of_le f45.lt e)
  have ne_vvb_vb51 : vvb ≠ vb51 := by
    rcases wh51 with e | e
    · rw [e]; exact ne_vvb_vb32
    · exact Nat.ne_of_lt (Nat.lt_of_lt_of_le f48.lt e)
  have f55 := (f37.keep Kq32)
  have ne_r1_vb51 : r1 ≠ vb51 := by
    rcases wh51 with e | e
    · rw [e]; exact ne_r1_vb32
    · exact Nat.ne_of_lt (Nat.lt_of_lt_of_le f55.lt e)
  have f56 := (f38.keep Kq32 (ninS (Nat.ne_of_lt (Nat.lt_of_lt_of_le lt_rba_1 (Nat.le_of_eq g1.symm))) (ninS (Nat.ne_of_lt (Nat.lt_of_lt_of_le lt_rba_6 szq6)) nin0)))
  have ne_rba_vb51 : rba ≠ vb51 := by
    rcases wh51 with e | e
    · rw [e]; exact ne_rba_vb32
    · exact Nat.ne_of_lt (Nat.lt_of_lt_of_le f56.lt e)
  have f57 := (f39.keep Kq32)
  have ne_r2_vb51 : r2 ≠ vb51 := by
    rcases wh51 with e | e
    · rw [e]; exact ne_r2_vb32
    · exact Nat.ne_of_lt (Nat.lt_of_lt_of_le f57.lt e)
  have f58 := (f40.keep Kq32 (ninS (Nat.ne_of_lt (Nat.lt_of_lt_of_le lt_rbb_1 (Nat.le_of_eq g1.symm))) (ninS (Nat.ne_of_lt (Nat.lt_of_lt_of_le lt_rbb_6 szq6)) nin0)))
  have ne_rbb_vb51 : rbb ≠ vb51 := by
    rcases wh51 with e | e
    · rw [e]; exact ne_rbb_vb32
    · exact Nat.ne_of_lt (Nat.lt_of_lt_of_le f58.lt e)
  have ne_b1_vb51 : b1 ≠ vb51 := by
    rcases wh51 with e | e
    · rw [e]; exact ne_b1_vb32
    · exact Nat.ne_of_lt (Nat.lt_of_lt_of_le Eq32.lt e)
  have f59 := (Es17.keep Kq32)
  have ne_a17_vb51 : a17 ≠ vb51 := by
    rcases wh51 with e | e
    · rw [e]; exact ne_a17_vb32
    · exact Nat.ne_of_lt (Nat.lt_of_lt_of_le f59.lt e)
  have f60 := (Vt23.keep Kq32 (ninS (Ne.symm (Sf17 _ sg17_b1).2) (ninS (Ne.symm (Sf17 _ sg17_vb6).2) nin0)))
  have ne_b17_vb51 : b17 ≠ vb51 := by
    rcases wh51 with e | e
    · rw [e]; exact ne_b17_vb32
    · exact Nat.ne_of_lt (Nat.lt_of_lt_of_le f60.lt e)
  have ch62 := ch52.trans (CHr.keep Kq51 (sfS sf52_b1 (sfS sf52_vb32 sf0)) ch52.1)
  have sf62_b1 := Safe.keep Kq51 (sfS sf52_b1 (sfS sf52_vb32 sf0)) ch52.1 sf52_b1
  have sf62_vb6 := Safe.keep Kq51 (sfS sf52_b1 (sfS sf52_vb32 sf0)) ch52.1 sf52_vb6
  have sf62_vb32 := Safe.keep Kq51 (sfS sf52_b1 (sfS sf52_vb32 sf0)) ch52.1 sf52_vb32
  have sf62_vb51 := Safe.keep Kq51 (sfS sf52_b1 (sfS sf52_vb32 sf0)) ch52.1 sfw51
  have f63 := (Nat.le_trans (Nat.le_trans hk17 Kq32.1) Kq51.1)
  have f64 := (Nat.le_trans f44 Kq51.1)
  have f65 := (f53.trans Kq51 (allS (Or.inr sz_b1) (allS (Or.inr sz_vb32) all0)))
  have f66 := (f49.keep Kq51 (allS g_b1 (allS g_vb32 all0)))
  obtain ⟨a61, T61, h61, j61, b61, kb61, X61, e61, E61, hS61, hk61, hZ, hown, Es61, Fc61, Fv61, Va61, la61, lb61, CH61, Lt61, Sf61, st61⟩ := ldcCH (s := s) (vm0 := T17.vm) X51 hx hZ hown (own_t hw 117 rfl) hwS rfl hS17 f63 hEL (List.mem_of_getElem? (i := 1) rfl) ch62.1 (vs := [(.int (32 : Int32))]) (z := (1 : Int32)) ⟨by decide, rfl⟩ (by decide) rfl (g := (mkF m 19 #[oa r0, oa r1, oa r2] [(.ref b1)])) rfl (hb hby d9_19) (n := 4) (by decide) (by decide) (by decide) (by decide)
  have sg61_b1 := CHr.safe CH61 Eq51.lt sf62_b1
  have sg61_vb51 := CHr.safe CH61 Vq51.lt sf62_vb51
  have ch61 := ch62.trans CH61
  have Vt67 : Arv Z h61 b61 kb61 .byte (Int32.ofNat ([32] : List Int32).length) ((([32] : List Int32).map (fun c => c.toInt8.toInt32)).map Value.int) (.int 0) := Va61
  have f68 := (Nat.le_trans f64 E61.1)
  have f69 := (Eq51.ext E61)
  have f70 := (Fv51.ext E61)
  have f71 := (Fc51.ext E61)
  have f72 := (Fn51.ext E61)
  have f73 := (Vq51.ext E61)
  have f74 := (f66.ext E61)
  obtain ⟨cq75, kq75, q75a, q75b, q75c⟩ := isOf hZ e61 f69
  obtain ⟨_, _, ⟨T76, L76, k76, n76⟩, -, X76, ⟨Lc76, hQ76, l76, y76, z76⟩, st76⟩ := X61.virtualBack hx (y := yy_17) (z := yy_17) hown (mvT hZ (own_t hw 68 rfl)) (mvT hZ (own_t hw 69 rfl)) (notFace_of_selects (args := #[]) (mvT hZ (own_t hw 71 rfl))) (mvT hZ (own_t hw 71 rfl)) (mvT hZ (own_t hw 70 rfl)) (by decide) (backOf (W := 0) (rm12 l Z a0 hw [] b1 a61 vb51 b61 kv51 kb61 zz51 ((([] : List Int32) ++ ([99, 97, 110, 110, 111, 116, 32] : List Int32)) ++ vt) ([32] : List Int32) cs h61 n0 f68 f69 f70 f71 f72 f73 Es61 Fv61 Fc61 Vt67 (hcap51.imp (fun q => ⟨q.1, (q.2.ext E61)⟩) id) (by simp only [List.length_append, List.length_cons, List.length_nil]; omega) bl51 f74 SC hcs g_b1 g_vb51 (Ne.symm ne_b1_vb51) (Ne.symm (Sf61 _ sg61_b1).1) (Ne.symm (Sf61 _ sg61_b1).2)) hZ (own_t hw 72 rfl) (own_t hw 51 rfl) (by decide) (by decide)) q75a q75c (g := (mkF m 21 #[oa r0, oa r1, oa r2] [(.ref a61), (.ref b1)])) rfl (by rw [hml]; rfl) (Steps.refl _) (argsL := [(.ref a61)]) (rest := []) (lenOf pd_26 rfl) rfl (by show 2 * 0 + _ ≤ _; exact Nat.le_of_eq rfl) (hb hby d9_21) (fun _ _ => ⟨rfl, e61, (by decide : 8 + 1 ≤ _), (by decide : 128 + 34 ≤ _)⟩)
  dsimp only [Pt.U, Pt.locs, Pt.cells, Pt.slots] at X76 l76 y76 z76 st76 hQ76
  subst l76 y76 z76
  obtain ⟨rfl, N76q, Kq76, Eq76, vb76, kv76, zz76, g_vb76, wh76, bl76, hcap76, Fv76, Fc76, Fn76, Vq76⟩ := hQ76
  have N76 := Fr.app N51 N76q
  have sfw76 : Safe Z consts_1 T61.vm h61 vb76 := by
    rcases wh76 with e | e
    · rw [e]; exact sg61_vb51
    · exact Safe.new e
  have f77 := (f65.ext E61)
  have sz_vb76 : h0.size ≤ vb76 := by
    rcases wh76 with e | e
    · rw [e]; exact sz_vb51
    · exact Nat.le_trans f77.1 e
  have f78 := ((f54.keep Kq51).ext E61)
  have ne_r0_vb76 : r0 ≠ vb76 := by
    rcases wh76 with e | e
    · rw [e]; exact ne_r0_vb51
    · exact Nat.ne_of_lt (Nat.lt_of_lt_of_le f78.lt e)
  have f79 := ((f45.keep Kq51).ext E61)
  have ne_sv_vb76 : sv ≠ vb76 := by
    rcases wh76 with e | e
    · rw [e]; exact ne_sv_vb51
    · exact Nat.ne_of_lt (Nat.lt_of_lt_of_le f79.lt e)
  have f80 := ((f48.keep Kq51 (ninS (Nat.ne_of_lt (Nat.lt_of_lt_of_le lt_vvb_1 (Nat.le_of_eq g1.symm))) (ninS ne_vvb_vb32 nin0))).ext E61)
  have ne_vvb_vb76 : vvb ≠ vb76 := by
    rcases wh76 with e | e
    · rw [e]; exact ne_vvb_vb51
    · exact Nat.ne_of_lt (Nat.lt_of_lt_of_le f80.lt e)
  have f81 := ((f55.keep Kq51).ext E61)
  have ne_r1_vb76 : r1 ≠ vb76 := by
    rcases wh76 with e | e
    · rw [e]; exact ne_r1_vb51
    · exact Nat.ne_of_lt (Nat.lt_of_lt_of_le f81.lt e)
  have f82 := ((f56.keep Kq51 (ninS (Nat.ne_of_lt (Nat.lt_of_lt_of_le lt_rba_1 (Nat.le_of_eq g1.symm))) (ninS ne_rba_vb32 nin0))).ext E61)
  have ne_rba_vb76 : rba ≠ vb76 := by
    rcases wh76 with e | e
    · rw [e]; exact ne_rba_vb51
    · exact Nat.ne_of_lt (Nat.lt_of_lt_of_le f82.lt e)
  have f83 := ((f57.keep Kq51).ext E61)
  have ne_r2_vb76 : r2 ≠ vb76 := by
    rcases wh76 with e | e
    · rw [e]; exact ne_r2_vb51
    · exact Nat.ne_of_lt (Nat.lt_of_lt_of_le f83.lt e)
  have f84 := ((f58.keep Kq51 (ninS (Nat.ne_of_lt (Nat.lt_of_lt_of_le lt_rbb_1 (Nat.le_of_eq g1.symm))) (ninS ne_rbb_vb32 nin0))).ext E61)
  have ne_rbb_vb76 : rbb ≠ vb76 := by
    rcases wh76 with e | e
    · rw [e]; exact ne_rbb_vb51
    · exact Nat.ne_of_lt (Nat.lt_of_lt_of_le f84.lt e)
  have ne_b1_vb76 : b1 ≠ vb76 := by
    rcases wh76 with e | e
    · rw [e]; exact ne_b1_vb51
    · exact Nat.ne_of_lt (Nat.lt_of_lt_of_le f69.lt e)
  have f85 := ((f59.keep Kq51).ext E61)
  have ne_a17_vb76 : a17 ≠ vb76 := by
    rcases wh76 with e | e
    · rw [e]; exact ne_a17_vb51
    · exact Nat.ne_of_lt (Nat.lt_of_lt_of_le f85.lt e)
  have f86 := ((f60.keep Kq51 (ninS (Ne.symm (Sf17 _ sg17_b1).2) (ninS ne_b17_vb32 nin0))).ext E61)
  have ne_b17_vb76 : b17 ≠ vb76 := by
    rcases wh76 with e | e
    · rw [e]; exact ne_b17_vb51
    · exact Nat.ne_of_lt (Nat.lt_of_lt_of_le f86.lt e)
  have ne_a61_vb76 : a61 ≠ vb76 := by
    rcases wh76 with e | e
    · rw [e]; exact (Ne.symm (Sf61 _ sg61_vb51).1)
    · exact Nat.ne_of_lt (Nat.lt_of_lt_of_le Es61.lt e)
  have ne_b61_vb76 : b61 ≠ vb76 := by
    rcases wh76 with e | e
    · rw [e]; exact (Ne.symm (Sf61 _ sg61_vb51).2)
    · exact Nat.ne_of_lt (Nat.lt_of_lt_of_le Vt67.lt e)
  have c87 : own_G p e below T76 (mkF m 25 #[oa r0, oa r1, oa r2] [(.ref r1), (.ref b1)]) (mkF m 24 #[oa r0, oa r1, oa r2] [(.ref b1)]) := by
    intro t kt
    show oS T76 (mkF m 24 #[oa r0, oa r1, oa r2] [(.ref b1)]) _
    refine XS.aloadN X76.here hx rfl (hb hby d9_24) rfl rfl ?_
    exact kt
  have f88 := (Nat.le_trans f68 Kq76.1)
  have f89 := (f81.keep Kq76)
  have f90 := (((((((Fa.ext E1).keep Kq6 (ninS (Nat.ne_of_lt (Nat.lt_of_lt_of_le lt_r1_1 (Nat.le_of_eq g1.symm))) nin0)).ext E17).keep Kq32 (ninS (Nat.ne_of_lt (Nat.lt_of_lt_of_le lt_r1_1 (Nat.le_of_eq g1.symm))) (ninS (Nat.ne_of_lt (Nat.lt_of_lt_of_le lt_r1_6 szq6)) nin0))).keep Kq51 (ninS (Nat.ne_of_lt (Nat.lt_of_lt_of_le lt_r1_1 (Nat.le_of_eq g1.symm))) (ninS ne_r1_vb32 nin0))).ext E61).keep Kq76 (ninS (Nat.ne_of_lt (Nat.lt_of_lt_of_le lt_r1_1 (Nat.le_of_eq g1.symm))) (ninS ne_r1_vb51 nin0)))
  have f91 := (((((((Ca.ext E1).keep Kq6 (ninS (Nat.ne_of_lt (Nat.lt_of_lt_of_le lt_r1_1 (Nat.le_of_eq g1.symm))) nin0)).ext E17).keep Kq32 (ninS (Nat.ne_of_lt (Nat.lt_of_lt_of_le lt_r1_1 (Nat.le_of_eq g1.symm))) (ninS (Nat.ne_of_lt (Nat.lt_of_lt_of_le lt_r1_6 szq6)) nin0))).keep Kq51 (ninS (Nat.ne_of_lt (Nat.lt_of_lt_of_le lt_r1_1 (Nat.le_of_eq g1.symm))) (ninS ne_r1_vb32 nin0))).ext E61).keep Kq76 (ninS (Nat.ne_of_lt (Nat.lt_of_lt_of_le lt_r1_1 (Nat.le_of_eq g1.symm))) (ninS ne_r1_vb51 nin0)))
  have f92 := (f82.keep Kq76 (ninS (Nat.ne_of_lt (Nat.lt_of_lt_of_le lt_rba_1 (Nat.le_of_eq g1.symm))) (ninS ne_rba_vb51 nin0)))
  have f93 := (f74.keep Kq76 (allS g_b1 (allS g_vb51 all0)))
  obtain ⟨cq94, kq94, q94a, q94b, q94c⟩ := isOf hZ rfl Eq76
  obtain ⟨_, _, ⟨T95, L95, k95, n95⟩, -, X95, ⟨Lc95, hQ95, l95, y95, z95⟩, st95⟩ := X76.virtualBack hx (y := yy_17) (z := yy_17) hown (mvT hZ (own_t hw 68 rfl)) (mvT hZ (own_t hw 69 rfl)) (notFace_of_selects (args := #[]) (mvT hZ (own_t hw 71 rfl))) (mvT hZ (own_t hw 71 rfl)) (mvT hZ (own_t hw 70 rfl)) (by decide) (backOf (W := 0) (rm12 l Z a0 hw [] b1 r1 vb76 rba kv76 kba zz76 (((([] : List Int32) ++ ([99, 97, 110, 110, 111, 116, 32] : List Int32)) ++ vt) ++ ([32] : List Int32)) tx cs T76.heap n0 f88 Eq76 Fv76 Fc76 Fn76 Vq76 f89 f90 f91 f92 (hcap76.imp (fun q => ⟨q.1, q.2⟩) id) (by simp only [List.length_append, List.length_cons, List.length_nil]; omega) bl76 f93 SC hcs g_b1 g_vb76 (Ne.symm ne_b1_vb76) (Nat.ne_of_lt (Nat.lt_of_lt_of_le lt_r1_1 (Nat.le_of_eq g1.symm))) (Nat.ne_of_lt (Nat.lt_of_lt_of_le lt_rba_1 (Nat.le_of_eq g1.symm)))) hZ (own_t hw 72 rfl) (own_t hw 51 rfl) (by decide) (by decide)) q94a q94c (g := (mkF m 25 #[oa r0, oa r1, oa r2] [(.ref r1), (.ref b1)])) rfl (by rw [hml]; rfl) (Steps.refl _) (argsL := [(.ref r1)]) (rest := []) (lenOf pd_26 rfl) rfl (by show 2 * 0 + _ ≤ _; exact Nat.le_of_eq rfl) (hb hby d9_25) (fun _ _ => ⟨rfl, rfl, (by decide : 9 + 1 ≤ _), (by decide : 162 + 34 ≤ _)⟩)
  dsimp only [Pt.U, Pt.locs, Pt.cells, Pt.slots] at X95 l95 y95 z95 st95 hQ95
  subst l95 y95 z95
  obtain ⟨rfl, N95q, Kq95, Eq95, vb95, kv95, zz95, g_vb95, wh95, bl95, hcap95, Fv95, Fc95, Fn95, Vq95⟩ := hQ95
  have N95 := Fr.app N76 N95q
  have ch96 := ch61.trans (CHr.keep Kq76 (sfS sg61_b1 (sfS sg61_vb51 sf0)) ch61.1)
  have sf96_b1 := Safe.keep Kq76 (sfS sg61_b1 (sfS sg61_vb51 sf0)) ch61.1 sg61_b1
  have sf96_vb51 := Safe.keep Kq76 (sfS sg61_b1 (sfS sg61_vb51 sf0)) ch61.1 sg61_vb51
  have sf96_vb76 := Safe.keep Kq76 (sfS sg61_b1 (sfS sg61_vb51 sf0)) ch61.1 sfw76
  have sfw95 : Safe Z consts_1 T61.vm T76.heap vb95 := by
    rcases wh95 with e | e
    · rw [e]; exact sf96_vb76
    · exact Safe.new e
  have f97 := (f77.trans Kq76 (allS (Or.inr sz_b1) (allS (Or.inr sz_vb51) all0)))
  have sz_vb95 : h0.size ≤ vb95 := by
    rcases wh95 with e | e
    · rw [e]; exact sz_vb76
    · exact Nat.le_trans f97.1 e
  have f98 := (f78.keep Kq76)
  have ne_r0_vb95 : r0 ≠ vb95 := by
    rcases wh95 with e | e
    · rw [e]; exact ne_r0_vb76
    · exact Nat.ne_of_lt (Nat.lt_of_lt_of_le f98.lt e)
  have f99 := (f79.keep Kq76)
  have ne_sv_vb95 : sv ≠ vb95 := by
    rcases wh95 with e | e
    · rw [e]; exact ne_sv_vb76
    · exact Nat.ne_of_lt (Nat.lt_of_lt_of_le f99.lt e)
  have f100 := (f80.keep Kq76 (ninS (Nat.ne_of_lt (Nat.lt_of_lt_of_le lt_vvb_1 (Nat.le_of_eq g1.symm))) (ninS ne_vvb_vb51 nin0)))
  have ne_vvb_vb95 : vvb ≠ vb95 := by
    rcases wh95 with e | e
    · rw [e]; exact ne_vvb_vb76
    · exact Nat.ne_of_lt (Nat.lt_of_lt_of_le f100.lt e)
  have ne_r1_vb95 : r1 ≠ vb95 := by
    rcases wh95 with e | e
    · rw [e]; exact ne_r1_vb76
    · exact Nat.ne_of_lt (Nat.lt_of_lt_of_le f89.lt e)
  have ne_rba_vb95 : rba ≠ vb95 := by
    rcases wh95 with e | e
    · rw [e]; exact ne_rba_vb76
    · exact Nat.ne_of_lt (Nat.lt_of_lt_of_le f92.lt e)
  have f101 := (f83.keep Kq76)
  have ne_r2_vb95 : r2 ≠ vb95 := by
    rcases wh95 with e | e
    · rw [e]; exact ne_r2_vb76
    · exact Nat.ne_of_lt (Nat.lt_of_lt_of_le f101.lt e)
  have f102 := (f84.keep Kq76 (ninS (Nat.ne_of_lt (Nat.lt_of_lt_of_le lt_rbb_1 (Nat.le_of_eq g1.symm))) (ninS ne_rbb_vb51 nin0)))
  have ne_rbb_vb95 : rbb ≠ vb95 := by
    rcases wh95 with e | e
    · rw [e]; exact ne_rbb_vb76
    · exact Nat.ne_of_lt (Nat.lt_of_lt_of_le f102.lt e)
  have ne_b1_vb95 : b1 ≠ vb95 := by
    rcases wh95 with e | e
    · rw [e]; exact ne_b1_vb76
    · exact Nat.ne_of_lt (Nat.lt_of_lt_of_le Eq76.lt e)
  have f103 := (f85.keep Kq76)
  have ne_a17_vb95 : a17 ≠ vb95 := by
    rcases wh95 with e | e
    · rw [e]; exact ne_a17_vb76
    · exact Nat.ne_of_lt (Nat.lt_of_lt_of_le f103.lt e)
  have f104 := (f86.keep Kq76 (ninS (Ne.symm (Sf17 _ sg17_b1).2) (ninS ne_b17_vb51 nin0)))
  have ne_b17_vb95 : b17 ≠ vb95 := by
    rcases wh95 with e | e
    · rw [e]; exact ne_b17_vb76
    · exact Nat.ne_of_lt (Nat.lt_of_lt_of_le f104.lt e)
  have f105 := (Es61.keep Kq76)
  have ne_a61_vb95 : a61 ≠ vb95 := by
    rcases wh95 with e | e
    · rw [e]; exact ne_a61_vb76
    · exact Nat.ne_of_lt (Nat.lt_of_lt_of_le f105.lt e)
  have f106 := (Vt67.keep Kq76 (ninS (Ne.symm (Sf61 _ sg61_b1).2) (ninS (Ne.symm (Sf61 _ sg61_vb51).2) nin0)))
  have ne_b61_vb95 : b61 ≠ vb95 := by
    rcases wh95 with e | e
    · rw [e]; exact ne_b61_vb76
    · exact Nat.ne_of_lt (Nat.lt_of_lt_of_le f106.lt e)
  have ch108 := ch96.trans (CHr.keep Kq95 (sfS sf96_b1 (sfS sf96_vb76 sf0)) ch96.1)
  have sf108_b1 := Safe.keep Kq95 (sfS sf96_b1 (sfS sf96_vb76 sf0)) ch96.1 sf96_b1
  have sf108_vb51 := Safe.keep Kq95 (sfS sf96_b1 (sfS sf96_vb76 sf0)) ch96.1 sf96_vb51
  have sf108_vb76 := Safe.keep Kq95 (sfS sf96_b1 (sfS sf96_vb76 sf0)) ch96.1 sf96_vb76
  have sf108_vb95 := Safe.keep Kq95 (sfS sf96_b1 (sfS sf96_vb76 sf0)) ch96.1 sfw95
  have f109 := (Nat.le_trans (Nat.le_trans hk61 Kq76.1) Kq95.1)
  have f110 := (Nat.le_trans f88 Kq95.1)
  have f111 := (f97.trans Kq95 (allS (Or.inr sz_b1) (allS (Or.inr sz_vb76) all0)))
  have f112 := (f93.keep Kq95 (allS g_b1 (allS g_vb76 all0)))
  obtain ⟨a107, T107, h107, j107, b107, kb107, X107, e107, E107, hS107, hk107, hZ, hown, Es107, Fc107, Fv107, Va107, la107, lb107, CH107, Lt107, Sf107, st107⟩ := ldcCH (s := s) (vm0 := T61.vm) X95 hx hZ hown (own_t hw 118 rfl) hwS rfl hS61 f109 hEL (List.mem_of_getElem? (i := 2) rfl) ch108.1 (vs := [(.int (58 : Int32)), (.int (32 : Int32))]) (z := (2 : Int32)) ⟨by decide, rfl⟩ (by decide) rfl (g := (mkF m 28 #[oa r0, oa r1, oa r2] [(.ref b1)])) rfl (hb hby d9_28) (n := 8) (by decide) (by decide) (by decide) (by decide)
  have sg107_b1 := CHr.safe CH107 Eq95.lt sf108_b1
  have sg107_vb95 := CHr.safe CH107 Vq95.lt sf108_vb95
  have ch107 := ch108.trans CH107
  have Vt113 : Arv Z h107 b107 kb107 .byte (Int32.ofNat ([58, 32] : List Int32).length) ((([58, 32] : List Int32).map (fun c => c.toInt8.toInt32)).map Value.int) (.int 0) := Va107
  have f114 := (Nat.le_trans f110 E107.1)
  have f115 := (Eq95.ext E107)
  have f116 := (Fv95.ext E107)
  have f117 := (Fc95.ext E107)
  have f118 := (Fn95.ext E107)
  have f119 := (Vq95.ext E107)
  have f120 := (f112.ext E107)
  obtain ⟨cq121, kq121, q121a, q121b, q121c⟩ := isOf hZ e107 f115
  obtain ⟨_, _, ⟨T122, L122, k122, n122⟩, -, X122, ⟨Lc122, hQ122, l122, y122, z122⟩, st122⟩ := X107.virtualBack hx (y := yy_17) (z := yy_17) hown (mvT hZ (own_t hw 68 rfl)) (mvT hZ (own_t hw 69 rfl)) (notFace_of_selects (args := #[]) (mvT hZ (own_t hw 71 rfl))) (mvT hZ (own_t hw 71 rfl)) (mvT hZ (own_t hw 70 rfl)) (by decide) (backOf (W := 0) (rm12 l Z a0 hw [] b1 a107 vb95 b107 kv95 kb107 zz95 ((((([] : List Int32) ++ ([99, 97, 110, 110, 111, 116, 32] : List Int32)) ++ vt) ++ ([32] : List Int32)) ++ tx) ([58, 32] : List Int32) cs h107 n0 f114 f115 f116 f117 f118 f119 Es107 Fv107 Fc107 Vt113 (hcap95.imp (fun q => ⟨q.1, (q.2.ext E107)⟩) id) (by simp only [List.length_append, List.length_cons, List.length_nil]; omega) bl95 f120 SC hcs g_b1 g_vb95 (Ne.symm ne_b1_vb95) (Ne.symm (Sf107 _ sg107_b1).1) (Ne.symm (Sf107 _ sg107_b1).2)) hZ (own_t hw 72 rfl) (own_t hw 51 rfl) (by decide) (by decide)) q121a q121c (g := (mkF m 30 #[oa r0, oa r1, oa r2] [(.ref a107), (.ref b1)])) rfl (by rw [hml]; rfl) (Steps.refl _) (argsL := [(.ref a107)]) (rest := []) (lenOf pd_26 rfl) rfl (by show 2 * 0 + _ ≤ _; exact Nat.le_of_eq rfl) (hb hby d9_30) (fun _ _ => ⟨rfl, e107, (by decide : 12 + 1 ≤ _), (by decide : 208 + 34 ≤ _)⟩)
  dsimp only [Pt.U, Pt.locs, Pt.cells, Pt.slots] at X122 l122 y122 z122 st122 hQ122
  subst l122 y122 z122
  obtain ⟨rfl, N122q, Kq122, Eq122, vb122, kv122, zz122, g_vb122, wh122, bl122, hcap122, Fv122, Fc122, Fn122, Vq122⟩ := hQ122
  have N122 := Fr.app N95 N122q
  have sfw122 : Safe Z consts_1 T107.vm h107 vb122 := by
    rcases wh122 with e | e
    · rw [e]; exact sg107_vb95
    · exact Safe.new e
  have f123 := (f111.ext E107)
  have sz_vb122 : h0.size ≤ vb122 := by
    rcases wh122 with e | e
    · rw [e]; exact sz_vb95
    · exact Nat.le_trans f123.1 e
  have f124 := ((f98.keep Kq95).ext E107)
  have ne_r0_vb122 : r0 ≠ vb122 := by
    rcases wh122 with e | e
    · rw [e]; exact ne_r0_vb95
    · exact Nat.ne_of_lt (Nat.lt_of_lt_of_le f124.lt e)
  have f125 := ((f99.keep Kq95).ext E107)
  have ne_sv_vb122 : sv ≠ vb122 := by
    rcases wh122 with e | e
    · rw [e]; exact ne_sv_vb95
    · exact Nat.ne_of_lt (Nat.lt_of_lt_of_le f125.lt e)
  have f126 := ((f100.keep Kq95 (ninS (Nat.ne_of_lt (Nat.lt_of_lt_of_le lt_vvb_1 (Nat.le_of_eq g1.symm))) (ninS ne_vvb_vb76 nin0))).ext E107)
  have ne_vvb_vb122 : vvb ≠ vb122 := by
    rcases wh122 with e | e
    · rw [e]; exact ne_vvb_vb95
    · exact Nat.ne_of_lt (Nat.lt_of_lt_of_le f126.lt e)
  have f127 := ((f89.keep Kq95).ext E107)
  have ne_r1_vb122 : r1 ≠ vb122 := by
    rcases wh122 with e | e
    · rw [e]; exact ne_r1_vb95
    · exact Nat.ne_of_lt (Nat.lt_of_lt_of_le f127.lt e)
  have f128 := ((f92.keep Kq95 (ninS (Nat.ne_of_lt (Nat.lt_of_lt_of_le lt_rba_1 (Nat.le_of_eq g1.symm))) (ninS ne_rba_vb76 nin0))).ext E107)
  have ne_rba_vb122 : rba ≠ vb122 := by
    rcases wh122 with e | e
    · rw [e]; exact ne_rba_vb95
    · exact Nat.ne_of_lt (Nat.lt_of_lt_of_le f128.lt e)
  have f129 := ((f101.keep Kq95).ext E107)
  have ne_r2_vb122 : r2 ≠ vb122 := by
    rcases wh122 with e | e
    · rw [e]; exact ne_r2_vb95
    · exact Nat.ne_of_lt (Nat.lt_of_lt_of_le f129.lt e)
  have f130 := ((f102.keep Kq95 (ninS (Nat.ne_of_lt (Nat.lt_of_lt_of_le lt_rbb_1 (Nat.le_of_eq g1.symm))) (ninS ne_rbb_vb76 nin0))).ext E107)
  have ne_rbb_vb122 : rbb ≠ vb122 := by
    rcases wh122 with e | e
    · rw [e]; exact ne_rbb_vb95
    · exact Nat.ne_of_lt (Nat.lt_of_lt_of_le f130.lt e)
  have ne_b1_vb122 : b1 ≠ vb122 := by
    rcases wh122 with e | e
    · rw [e]; exact ne_b1_vb95
    · exact Nat.ne_of_lt (Nat.lt_of_lt_of_le f115.lt e)
  have f131 := ((f103.keep Kq95).ext E107)
  have ne_a17_vb122 : a17 ≠ vb122 := by
    rcases wh122 with e | e
    · rw [e]; exact ne_a17_vb95
    · exact Nat.ne_of_lt (Nat.lt_of_lt_of_le f131.lt e)
  have f132 := ((f104.keep Kq95 (ninS (Ne.symm (Sf17 _ sg17_b1).2) (ninS ne_b17_vb76 nin0))).ext E107)
  have ne_b17_vb122 : b17 ≠ vb122 := by
    rcases wh122 with e | e
    · rw [e]; exact ne_b17_vb95
    · exact Nat.ne_of_lt (Nat.lt_of_lt_of_le f132.lt e)
  have f133 := ((f105.keep Kq95).ext E107)
  have ne_a61_vb122 : a61 ≠ vb122 := by
    rcases wh122 with e | e
    · rw [e]; exact ne_a61_vb95
    · exact Nat.ne_of_lt (Nat.lt_of_lt_of_le f133.lt e)
  have f134 := ((f106.keep Kq95 (ninS (Ne.symm (Sf61 _ sg61_b1).2) (ninS ne_b61_vb76 nin0))).ext E107)
  have ne_b61_vb122 : b61 ≠ vb122 := by
    rcases wh122 with e | e
    · rw [e]; exact ne_b61_vb95
    · exact Nat.ne_of_lt (Nat.lt_of_lt_of_le f134.lt e)
  have ne_a107_vb122 : a107 ≠ vb122 := by
    rcases wh122 with e | e
    · rw [e]; exact (Ne.symm (Sf107 _ sg107_vb95).1)
    · exact Nat.ne_of_lt (Nat.lt_of_lt_of_le Es107.lt e)
  have ne_b107_vb122 : b107 ≠ vb122 := by
    rcases wh122 with e | e
    · rw [e]; exact (Ne.symm (Sf107 _ sg107_vb95).2)
    · exact Nat.ne_of_lt (Nat.lt_of_lt_of_le Vt113.lt e)
  have c135 : own_G p e below T122 (mkF m 34 #[oa r0, oa r1, oa r2] [(.ref r2), (.ref b1)]) (mkF m 33 #[oa r0, oa r1, oa r2] [(.ref b1)]) := by
    intro t kt
    show oS T122 (mkF m 33 #[oa r0, oa r1, oa r2] [(.ref b1)]) _
    refine XS.aloadN X122.here hx rfl (hb hby d9_33) rfl rfl ?_
    exact kt
  have f136 := (Nat.le_trans f114 Kq122.1)
  have f137 := (f129.keep Kq122)
  have f138 := ((((((((((Fb.ext E1).keep Kq6 (ninS (Nat.ne_of_lt (Nat.lt_of_lt_of_le lt_r2_1 (Nat.le_of_eq g1.symm))) nin0)).ext E17).keep Kq32 (ninS (Nat.ne_of_lt (Nat.lt_of_lt_of_le lt_r2_1 (Nat.le_of_eq g1.symm))) (ninS (Nat.ne_of_lt (Nat.lt_of_lt_of_le lt_r2_6 szq6)) nin0))).keep Kq51 (ninS (Nat.ne_of_lt (Nat.lt_of_lt_of_le lt_r2_1 (Nat.le_of_eq g1.symm))) (ninS ne_r2_vb32 nin0))).ext E61).keep Kq76 (ninS (Nat.ne_of_lt (Nat.lt_of_lt_of_le lt_r2_1 (Nat.le_of_eq g1.symm))) (ninS ne_r2_vb51 nin0))).keep Kq95 (ninS (Nat.ne_of_lt (Nat.lt_of_lt_of_le lt_r2_1 (Nat.le_of_eq g1.symm))) (ninS ne_r2_vb76 nin0))).ext E107).keep Kq122 (ninS (Nat.ne_of_lt (Nat.lt_of_lt_of_le lt_r2_1 (Nat.le_of_eq g1.symm))) (ninS ne_r2_vb95 nin0)))
  have f139 := ((((((((((Cb.ext E1).keep Kq6 (ninS (Nat.ne_of_lt (Nat.lt_of_lt_of_le lt_r2_1 (Nat.le_of_eq g1.symm))) nin0)).ext E17).keep Kq32 (ninS (Nat.ne_of_lt (Nat.lt_of_lt_of_le lt_r2_1 (Nat.le_of_eq g1.symm))) (ninS (Nat.ne_of_lt (Nat.lt_of_lt_of_le lt_r2_6 szq6)) nin0))).keep Kq51 (ninS (Nat.ne_of_lt (Nat.lt_of_lt_of_le lt_r2_1 (Nat.le_of_eq g1.symm))) (ninS ne_r2_vb32 nin0))).ext E61).keep Kq76 (ninS (Nat.ne_of_lt (Nat.lt_of_lt_of_le lt_r2_1 (Nat.le_of_eq g1.symm))) (ninS ne_r2_vb51 nin0))).keep Kq95 (ninS (Nat.ne_of_lt (Nat.lt_of_lt_of_le lt_r2_1 (Nat.le_of_eq g1.symm))) (ninS ne_r2_vb76 nin0))).ext E107).keep Kq122 (ninS (Nat.ne_of_lt (Nat.lt_of_lt_of_le lt_r2_1 (Nat.le_of_eq g1.symm))) (ninS ne_r2_vb95 nin0)))
  have f140 := (f130.keep Kq122 (ninS (Nat.ne_of_lt (Nat.lt_of_lt_of_le lt_rbb_1 (Nat.le_of_eq g1.symm))) (ninS ne_rbb_vb95 nin0)))
  have f141 := (f120.keep Kq122 (allS g_b1 (allS g_vb95 all0)))
  obtain ⟨cq142, kq142, q142a, q142b, q142c⟩ := isOf hZ rfl Eq122
  obtain ⟨_, _, ⟨T143, L143, k143, n143⟩, -, X143, ⟨Lc143, hQ143, l143, y143, z143⟩, st143⟩ := X122.virtualBack hx (y := yy_17) (z := yy_17) hown (mvT hZ (own_t hw 68 rfl)) (mvT hZ (own_t hw 69 rfl)) (notFace_of_selects (args := #[]) (mvT hZ (own_t hw 71 rfl))) (mvT hZ (own_t hw 71 rfl)) (mvT hZ (own_t hw 70 rfl)) (by decide) (backOf (W := 0) (rm12 l Z a0 hw [] b1 r2 vb122 rbb kv122 kbb zz122 (((((([] : List Int32) ++ ([99, 97, 110, 110, 111, 116, 32] : List Int32)) ++ vt) ++ ([32] : List Int32)) ++ tx) ++ ([58, 32] : List Int32)) ty cs T122.heap n0 f136 Eq122 Fv122 Fc122 Fn122 Vq122 f137 f138 f139 f140 (hcap122.imp (fun q => ⟨q.1, q.2⟩) id) (by simp only [List.length_append, List.length_cons, List.length_nil]; omega) bl122 f141 SC hcs g_b1 g_vb122 (Ne.symm ne_b1_vb122) (Nat.ne_of_lt (Nat.lt_of_lt_of_le lt_r2_1 (Nat.le_of_eq g1.symm))) (Nat.ne_of_lt (Nat.lt_of_lt_of_le lt_rbb_1 (Nat.le_of_eq g1.symm)))) hZ (own_t hw 72 rfl) (own_t hw 51 rfl) (by decide) (by decide)) q142a q142c (g := (mkF m 34 #[oa r0, oa r1, oa r2] [(.ref r2), (.ref b1)])) rfl (by rw [hml]; rfl) (Steps.refl _) (argsL := [(.ref r2)]) (rest := []) (lenOf pd_26 rfl) rfl (by show 2 * 0 + _ ≤ _; exact Nat.le_of_eq rfl) (hb hby d9_34) (fun _ _ => ⟨rfl, rfl, (by decide : 13 + 1 ≤ _), (by decide : 242 + 34 ≤ _)⟩)
  dsimp only [Pt.U, Pt.locs, Pt.cells, Pt.slots] at X143 l143 y143 z143 st143 hQ143
  subst l143 y143 z143
  obtain ⟨rfl, N143q, Kq143, Eq143, vb143, kv143, zz143, g_vb143, wh143, bl143, hcap143, Fv143, Fc143, Fn143, Vq143⟩ := hQ143
  have N143 := Fr.app N122 N143q
  have ch144 := ch107.trans (CHr.keep Kq122 (sfS sg107_b1 (sfS sg107_vb95 sf0)) ch107.1)
  have sf144_b1 := Safe.keep Kq122 (sfS sg107_b1 (sfS sg107_vb95 sf0)) ch107.1 sg107_b1
  have sf144_vb95 := Safe.keep Kq122 (sfS sg107_b1 (sfS sg107_vb95 sf0)) ch107.1 sg107_vb95
  have sf144_vb122 := Safe.keep Kq122 (sfS sg107_b1 (sfS sg107_vb95 sf0)) ch107.1 sfw122
  have sfw143 : Safe Z consts_1 T107.vm T122.heap vb143 := by
    rcases wh143 with e | e
    · rw [e]; exact sf144_vb122
    · exact Safe.new e
  have f145 := (f123.trans Kq122 (allS (Or.inr sz_b1) (allS (Or.inr sz_vb95) all0)))
  have sz_vb143 : h0.size ≤ vb143 := by
    rcases wh143 with e | e
    · rw [e]; exact sz_vb122
    · exact Nat.le_trans f145.1 e
  have f146 := (f124.keep Kq122)
  have ne_r0_vb143 : r0 ≠ vb143 := by
    rcases wh143 with e | e
    · rw [e]; exact ne_r0_vb122
    · exact Nat.ne_of_lt (Nat.lt_of_lt_of_le f146.lt e)
  have f147 := (f125.keep Kq122)
  have ne_sv_vb143 : sv ≠ vb143 := by
    rcases wh143 with e | e
    · rw [e]; exact ne_sv_vb122
    · exact Nat.ne_of_lt (Nat.lt_of_lt_of_le f147.lt e)
  have f148 := (f126.keep Kq122 (ninS (Nat.ne_of_lt (Nat.lt_of_lt_of_le lt_vvb_1 (Nat.le_of_eq g1.symm))) (ninS ne_vvb_vb95 nin0)))
  have ne_vvb_vb143 : vvb ≠ vb143 := by
    rcases wh143 with e | e
    · rw [e]; exact ne_vvb_vb122
    · exact Nat.ne_of_lt (Nat.lt_of_lt_of_le f148.lt e)
  have f149 := (f127.keep Kq122)
  have ne_r1_vb143 : r1 ≠ vb143 := by
    rcases wh143 with e | e
    · rw [e]; exact ne_r1_vb122
    · exact Nat.ne_of_lt (Nat.lt_of_lt_of_le f149.lt e)
  have f150 := (f128.keep Kq122 (ninS (Nat.ne_of_lt (Nat.lt_of_lt_of_le lt_rba_1 (Nat.le_of_eq g1.symm))) (ninS ne_rba_vb95 nin0)))
  have ne_rba_vb143 : rba ≠ vb143 := by
    rcases wh143 with e | e
    · rw [e]; exact ne_rba_vb122
    · exact Nat.ne_of_lt (Nat.lt_of_lt_of_le f150.lt e)
  have ne_r2_vb143 : r2 ≠ vb143 := by
    rcases wh143 with e | e
    · rw [e]; exact ne_r2_vb122
    · exact Nat.ne_of_lt (Nat.lt_of_lt_of_le f137.lt e)
  have ne_rbb_vb143 : rbb ≠ vb143 := by
    rcases wh143 with e | e
    · rw [e]; exact ne_rbb_vb122
    · exact Nat.ne_of_lt (Nat.lt_of_lt_of_le f140.lt e)
  have ne_b1_vb143 : b1 ≠ vb143 := by
    rcases wh143 with e | e
    · rw [e]; exact ne_b1_vb122
    · exact Nat.ne_of_lt (Nat.lt_of_lt_of_le Eq122.lt e)
  have f151 := (f131.keep Kq122)
  have ne_a17_vb143 : a17 ≠ vb143 := by
    rcases wh143 with e | e
    · rw [e]; exact ne_a17_vb122
    · exact Nat.ne_of_lt (Nat.lt_of_lt_of_le f151.lt e)
  have f152 := (f132.keep Kq122 (ninS (Ne.symm (Sf17 _ sg17_b1).2) (ninS ne_b17_vb95 nin0)))
  have ne_b17_vb143 : b17 ≠ vb143 := by
    rcases wh143 with e | e
    · rw [e]; exact ne_b17_vb122
    · exact Nat.ne_of_lt (Nat.lt_of_lt_of_le f152.lt e)
  have f153 := (f133.keep Kq122)
  have ne_a61_vb143 : a61 ≠ vb143 := by
    rcases wh143 with e | e
    · rw [e]; exact ne_a61_vb122
    · exact Nat.ne_of_lt (Nat.lt_of_lt_of_le f153.lt e)
  have f154 := (f134.keep Kq122 (ninS (Ne.symm (Sf61 _ sg61_b1).2) (ninS ne_b61_vb95 nin0)))
  have ne_b61_vb143 : b61 ≠ vb143 := by
    rcases wh143 with e | e
    · rw [e]; exact ne_b61_vb122
    · exact Nat.ne_of_lt (Nat.lt_of_lt_of_le f154.lt e)
  have f155 := (Es107.keep Kq122)
  have ne_a107_vb143 : a107 ≠ vb143 := by
    rcases wh143 with e | e
    · rw [e]; exact ne_a107_vb122
    · exact Nat.ne_of_lt (Nat.lt_of_lt_of_le f155.lt e)
  have f156 := (Vt113.keep Kq122 (ninS (Ne.symm (Sf107 _ sg107_b1).2) (ninS (Ne.symm (Sf107 _ sg107_vb95).2) nin0)))
  have ne_b107_vb143 : b107 ≠ vb143 := by
    rcases wh143 with e | e
    · rw [e]; exact ne_b107_vb122
    · exact Nat.ne_of_lt (Nat.lt_of_lt_of_le f156.lt e)
  have f157 := (Nat.le_trans f136 Kq143.1)
  have f158 := (f141.keep Kq143 (allS g_b1 (allS g_vb122 all0)))
  obtain ⟨cq159, kq159, q159a, q159b, q159c⟩ := isOf hZ rfl Eq143
  obtain ⟨_, _, ⟨T160, L160, k160, n160⟩, -, X160, ⟨Lc160, hQ160, l160, y160, z160⟩, st160⟩ := X143.virtualBack hx (y := yy_29) (z := yy_29) hown (mvT hZ (own_t hw 119 rfl)) (mvT hZ (own_t hw 120 rfl)) (notFace_of_selects (args := #[]) (mvT hZ (own_t hw 122 rfl))) (mvT hZ (own_t hw 122 rfl)) (mvT hZ (own_t hw 121 rfl)) (by decide) (backOf (W := 0) (rm20 l Z a0 hw [] b1 vb143 kv143 zz143 ((((((([] : List Int32) ++ ([99, 97, 110, 110, 111, 116, 32] : List Int32)) ++ vt) ++ ([32] : List Int32)) ++ tx) ++ ([58, 32] : List Int32)) ++ ty) cs T143.heap n0 f157 Eq143 Fv143 Fc143 Fn143 Vq143 bl143 (by simp only [List.length_append, List.length_cons, List.length_nil]; omega) (hcap143.imp (fun q => ⟨q.1, q.2⟩) id) (by simp only [List.length_append, List.length_cons, List.length_nil]; omega) (SC.ext f158.2) hcs) hZ (own_t hw 123 rfl) (own_t hw 51 rfl) (by decide) (by decide)) q159a q159c (g := (mkF m 37 #[oa r0, oa r1, oa r2] [(.ref b1)])) rfl (by rw [hml]; rfl) (Steps.refl _) (argsL := []) (rest := []) (lenOf pd_27 rfl) rfl (by show 2 * 0 + _ ≤ _; exact Nat.le_of_eq rfl) (hb hby d9_37) (fun _ _ => ⟨rfl, rfl, (by decide : 14 + 2 ≤ _), (by decide : 276 + 38 ≤ _)⟩)
  dsimp only [Pt.U, Pt.locs, Pt.cells, Pt.slots] at X160 l160 y160 z160 st160 hQ160
  subst l160 y160 z160
  obtain ⟨sa160, rb160, kb160, rfl, N160q, Kq160, Es160, Fv160, Fc160, Va160⟩ := hQ160
  have N160 := Fr.app N143 N160q
  have ch162 := ch144.trans (CHr.keep Kq143 (sfS sf144_b1 (sfS sf144_vb122 sf0)) ch144.1)
  have sf162_b1 := Safe.keep Kq143 (sfS sf144_b1 (sfS sf144_vb122 sf0)) ch144.1 sf144_b1
  have sf162_vb95 := Safe.keep Kq143 (sfS sf144_b1 (sfS sf144_vb122 sf0)) ch144.1 sf144_vb95
  have sf162_vb122 := Safe.keep Kq143 (sfS sf144_b1 (sfS sf144_vb122 sf0)) ch144.1 sf144_vb122
  have sf162_vb143 := Safe.keep Kq143 (sfS sf144_b1 (sfS sf144_vb122 sf0)) ch144.1 sfw143
  have ch163 := ch162.trans (CHr.keep Kq160 sf0 ch162.1)
  have sf163_b1 := Safe.keep Kq160 sf0 ch162.1 sf162_b1
  have sf163_vb95 := Safe.keep Kq160 sf0 ch162.1 sf162_vb95
  have sf163_vb122 := Safe.keep Kq160 sf0 ch162.1 sf162_vb122
  have sf163_vb143 := Safe.keep Kq160 sf0 ch162.1 sf162_vb143
  have f164 := (Nat.le_trans (Nat.le_trans (Nat.le_trans hk107 Kq122.1) Kq143.1) Kq160.1)
  obtain ⟨fs, hr, hrun, hended, hwd⟩ := Stand.leaveW (s := s) (vm₁ := T107.vm) X160 hS107 f164 (v := some (.ref sa160)) (fun h => by rw [Bd.returns] at h; cases h)
  have hCr : CHr Z consts_1 s.vm s.heap (T160.setFrames fs).vm (T160.setFrames fs).heap := by
    show CHr Z consts_1 s.vm s.heap T160.vm T160.heap
    rw [hh]
    exact ch163.trans (CHv.at (s := s) (vm0 := T107.vm) X160 hZ hEL ch163.1)
  have f165 := ((f145.trans Kq143 (allS (Or.inr sz_b1) (allS (Or.inr sz_vb122) all0))).trans Kq160 all0)
  refine ⟨_, _, pre0 _ (st1 _ (c3 _ (st6.trans (st17 _ (st32.trans (c43 _ (st42 _ (st51.trans (st61 _ (st76.trans (c87 _ (st95.trans (st107 _ (st122.trans (c135 _ (st143.trans (st160.trans (?_)))))))))))))))))), hrun, hended, _, _, rfl, ?_, hCr, hwd.1, hwd.2.1, hwd.2.2.1, hwd.2.2.2.mono (by decide) (by decide)⟩
  · show Steps p.tables e below (T160.setTop (mkF m 40 #[oa r0, oa r1, oa r2] [(.ref sa160)])) _
    jvm_step X160.here [X160.here.top, hx, (hb hby d9_40), X160.method', Bd.returns, Value.isRef, FieldType.isReference]
    first | (intro acts; rw [hr _ acts rfl rfl rfl]) | rw [hr _ _ rfl rfl rfl]
    exact Steps.refl _
  · show Q9 Z r0 r1 r2 sv vvb rba rbb kvb kba kbb vt tx ty cs fm h0 n0 _ T160.heap _
    exact ⟨sa160, rb160, kb160, rfl, N160, f165, Es160, Fv160, Fc160, Va160⟩
set_option maxRecDepth 65536 in
set_option maxHeartbeats 40000000 in
theorem tA {p : Program} {l : Launch} {e : Env} {s : State} {m : MethodId} {args : Array Value} {below : List Frame} {meth : Method} {c : Code} {T0 : State} {locs : List Loc} {Z : State} {a0 : Array Value} {h0 : Heap} {n0 : Nat} (p0 p1 p2 p3 vfl vwl xa xb xc xd : Int32) (dr sp sq sa rb : Addr) (kb : ClassId) (tt : List Int32) (cs : Int32) (fm : Value) (wr vl : Int32)
    (X0 : Stand p l e room_1 s m args below meth c T0 locs 28 428) (hx : p.tables.exec = Jvm.exec) (hZ : Z.Warmed39 s.vm) (hw : ∀ d ∈ tables_1, d.before a0 Z = true) (hby : c.code = code) (hml : c.maxLocals = 19) (hown : s.vm.findClass "com/example/emex/emex/read/FileRefusalLinePinLaw" = some m.cls) (e0 : T0.heap = h0) (N0 : Fr n0 locs) (Z0 : n0 ≤ h0.size) (Es : Exa Z h0 sa "java/lang/String") (Fs : Fld Z h0 sa "java/lang/String" "value" "[B" (.ref rb)) (Cs : Fld Z h0 sa "java/lang/String" "coder" "B" (.int (0 : Int32))) (Vs : Arv Z h0 rb kb .byte (Int32.ofNat tt.length) ((tt.map (fun c => c.toInt8.toInt32)).map Value.int) (.int 0)) (SF : Sta Z h0 "jdk/internal/util/Preconditions" "SIOOBE_FORMATTER" "Ljava/util/function/BiFunction;" fm) (hfm : fm.isRef = true) (SC : Sta Z h0 "java/lang/String" "COMPACT_STRINGS" "Z" (.int cs)) (hcs : ¬ cs = (0 : Int32)) (hlt : 6 < tt.length) (hl2 : tt.length < 512) (hx0 : tt.getD 0 0 = (99 : Int32)) (hx1 : tt.getD 1 0 = (97 : Int32)) (hx2 : tt.getD 2 0 = (110 : Int32)) (hx3 : tt.getD 3 0 = (110 : Int32)) (hx4 : tt.getD 4 0 = (111 : Int32)) (hx5 : tt.getD 5 0 = (116 : Int32)) (hx6 : tt.getD 6 0 = (32 : Int32)) (hr_xa : own_r xa) (hr_xb : own_r xb) (hr_xc : own_r xc) (hr_xd : own_r xd) :
    ∃ (T' : State) (locs' : List Loc) (h' : Heap), Stand p l e room_1 s m args below meth c T' locs' 28 428 ∧ T'.heap = h' ∧ Fr n0 locs' ∧ Keep h0 h' [] ∧ h' = h0 ∧ ∀ t, own_S p e below T' (mkF m 243 (own_L p0 p1 p2 p3 wr dr vfl vwl xa xb xc xd sp sq sa vl (oi 1) (.unset) (.unset)) []) t → own_S p e below T0 (mkF m 158 (own_L p0 p1 p2 p3 wr dr vfl vwl xa xb xc xd sp sq sa vl (.unset) (.unset) (.unset)) []) t := by
  have c1 : own_G p e below T0 (mkF m 161 (own_L p0 p1 p2 p3 wr dr vfl vwl xa xb xc xd sp sq sa vl (.unset) (.unset) (.unset)) [(.int (0 : Int32)), (.ref sa)]) (mkF m 158 (own_L p0 p1 p2 p3 wr dr vfl vwl xa xb xc xd sp sq sa vl (.unset) (.unset) (.unset)) []) := by
    intro t kt
    show oS T0 (mkF m 158 (own_L p0 p1 p2 p3 wr dr vfl vwl xa xb xc xd sp sq sa vl (.unset) (.unset) (.unset)) []) _
    refine XS.aload X0.here hx rfl (hb hby at_158) rfl rfl ?_
    show oS T0 (mkF m 160 (own_L p0 p1 p2 p3 wr dr vfl vwl xa xb xc xd sp sq sa vl (.unset) (.unset) (.unset)) [(.ref sa)]) _
    refine XS.iconst X0.here hx rfl (hb hby at_160) ?_
    exact kt
  obtain ⟨cq2, kq2, q2a, q2b, q2c⟩ := isOf hZ e0 Es
  obtain ⟨_, _, ⟨T3, L3, k3, n3⟩, -, X3, ⟨Lc3, hQ3, l3, y3, z3⟩, st3⟩ := X0.virtualBack hx (y := yy_4) (z := yy_4) hown (mvT hZ (own_t hw 165 rfl)) (mvT hZ (own_t hw 166 rfl)) (notFace_of_selects (args := #[]) (mvT hZ (own_t hw 168 rfl))) (mvT hZ (own_t hw 168 rfl)) (mvT hZ (own_t hw 167 rfl)) (by decide) (backOf (W := 0) (rm31 l Z a0 hw [] sa (0 : Int32) rb kb (Int32.ofNat tt.length) ((tt.map (fun c => c.toInt8.toInt32)).map Value.int) (.int 0) ((tt.getD 0 0).toInt8.toInt32) fm cs h0 n0 Z0 Es Fs Vs (own_hi 0 _ ⟨by omega, by omega⟩) (own_bat tt 0 ⟨by omega, by omega⟩ _) SF hfm SC hcs Cs) hZ (own_t hw 169 rfl) (own_t hw 9 rfl) (by decide) (by decide)) q2a q2c (g := (mkF m 161 (own_L p0 p1 p2 p3 wr dr vfl vwl xa xb xc xd sp sq sa vl (.unset) (.unset) (.unset)) [(.int (0 : Int32)), (.ref sa)])) rfl (by rw [hml]; rfl) (Steps.refl _) (argsL := [(.int (0 : Int32))]) (rest := []) (lenOf pd_28 rfl) rfl (by show 2 * 0 + _ ≤ _; exact Nat.le_of_eq rfl) (hb hby at_161) (fun _ _ => ⟨rfl, e0, (by decide : 28 + 0 ≤ _), (by decide : 428 + 0 ≤ _)⟩)
  dsimp only [Pt.U, Pt.locs, Pt.cells, Pt.slots] at X3 l3 y3 z3 st3 hQ3
  subst l3 y3 z3
  obtain ⟨rfl, N3q, e3⟩ := hQ3
  have N3 := Fr.app N0 N3q
  have c4 : own_G p e below T3 (mkF m 164 (own_L p0 p1 p2 p3 wr dr vfl vwl xa xb xc xd sp sq sa vl (.unset) (.unset) (.unset)) [(.int (99 : Int32))]) (mkF m 164 (own_L p0 p1 p2 p3 wr dr vfl vwl xa xb xc xd sp sq sa vl (.unset) (.unset) (.unset)) [(.int (own_cc ((tt.getD 0 0).toInt8.toInt32)))]) := fun t kt => castTop (congrArg (fun zv => (mkF m 164 (own_L p0 p1 p2 p3 wr dr vfl vwl xa xb xc xd sp sq sa vl (.unset) (.unset) (.unset)) [(.int zv)])) (show (own_cc ((tt.getD 0 0).toInt8.toInt32)) = (99 : Int32) from (by rw [hx0]; exact by decide))) kt
  have c5 : own_G p e below T3 (mkF m 172 (own_L p0 p1 p2 p3 wr dr vfl vwl xa xb xc xd sp sq sa vl (.unset) (.unset) (.unset)) [(.int (1 : Int32)), (.ref sa)]) (mkF m 164 (own_L p0 p1 p2 p3 wr dr vfl vwl xa xb xc xd sp sq sa vl (.unset) (.unset) (.unset)) [(.int (99 : Int32))]) := by
    intro t kt
    show oS T3 (mkF m 164 (own_L p0 p1 p2 p3 wr dr vfl vwl xa xb xc xd sp sq sa vl (.unset) (.unset) (.unset)) [(.int (99 : Int32))]) _
    refine XS.bipush X3.here hx rfl (hb hby at_164) ?_
    show oS T3 (mkF m 166 (own_L p0 p1 p2 p3 wr dr vfl vwl xa xb xc xd sp sq sa vl (.unset) (.unset) (.unset)) [(.int (99 : Int32)), (.int (99 : Int32))]) _
    refine XS.icmpNo X3.here hx rfl (hb hby at_166) rfl (teq (by decide : (99 : Int32) = (99 : Int32))).2 ?_
    show oS T3 (mkF m 169 (own_L p0 p1 p2 p3 wr dr vfl vwl xa xb xc xd sp sq sa vl (.unset) (.unset) (.unset)) []) _
    refine XS.aload X3.here hx rfl (hb hby at_169) rfl rfl ?_
    show oS T3 (mkF m 171 (own_L p0 p1 p2 p3 wr dr vfl vwl xa xb xc xd sp sq sa vl (.unset) (.unset) (.unset)) [(.ref sa)]) _
    refine XS.iconst X3.here hx rfl (hb hby at_171) ?_
    exact kt
  obtain ⟨cq6, kq6, q6a, q6b, q6c⟩ := isOf hZ e3 Es
  obtain ⟨_, _, ⟨T7, L7, k7, n7⟩, -, X7, ⟨Lc7, hQ7, l7, y7, z7⟩, st7⟩ := X3.virtualBack hx (y := yy_4) (z := yy_4) hown (mvT hZ (own_t hw 165 rfl)) (mvT hZ (own_t hw 166 rfl)) (notFace_of_selects (args := #[]) (mvT hZ (own_t hw 168 rfl))) (mvT hZ (own_t hw 168 rfl)) (mvT hZ (own_t hw 167 rfl)) (by decide) (backOf (W := 0) (rm31 l Z a0 hw [] sa (1 : Int32) rb kb (Int32.ofNat tt.length) ((tt.map (fun c => c.toInt8.toInt32)).map Value.int) (.int 0) ((tt.getD 1 0).toInt8.toInt32) fm cs h0 n0 Z0 Es Fs Vs (own_hi 1 _ ⟨by omega, by omega⟩) (own_bat tt 1 ⟨by omega, by omega⟩ _) SF hfm SC hcs Cs) hZ (own_t hw 169 rfl) (own_t hw 9 rfl) (by decide) (by decide)) q6a q6c (g := (mkF m 172 (own_L p0 p1 p2 p3 wr dr vfl vwl xa xb xc xd sp sq sa vl (.unset) (.unset) (.unset)) [(.int (1 : Int32)), (.ref sa)])) rfl (by rw [hml]; rfl) (Steps.refl _) (argsL := [(.int (1 : Int32))]) (rest := []) (lenOf pd_28 rfl) rfl (by show 2 * 0 + _ ≤ _; exact Nat.le_of_eq rfl) (hb hby at_172) (fun _ _ => ⟨rfl, e3, (by decide : 28 + 0 ≤ _), (by decide : 428 + 0 ≤ _)⟩)
  dsimp only [Pt.U, Pt.locs, Pt.cells, Pt.slots] at X7 l7 y7 z7 st7 hQ7
  subst l7 y7 z7
  obtain ⟨rfl, N7q, e7⟩ := hQ7
  have N7 := Fr.app N3 N7q
  have c8 : own_G p e below T7 (mkF m 175 (own_L p0 p1 p2 p3 wr dr vfl vwl xa xb xc xd sp sq sa vl (.unset) (.unset) (.unset)) [(.int (97 : Int32))]) (mkF m 175 (own_L p0 p1 p2 p3 wr dr vfl vwl xa xb xc xd sp sq sa vl (.unset) (.unset) (.unset)) [(.int (own_cc ((tt.getD 1 0).toInt8.toInt32)))]) := fun t kt => castTop (congrArg (fun zv => (mkF m 175 (own_L p0 p1 p2 p3 wr dr vfl vwl xa xb xc xd sp sq sa vl (.unset) (.unset) (.unset)) [(.int zv)])) (show (own_cc ((tt.getD 1 0).toInt8.toInt32)) = (97 : Int32) from (by rw [hx1]; exact by decide))) kt
  have c9 : own_G p e below T7 (mkF m 183 (own_L p0 p1 p2 p3 wr dr vfl vwl xa xb xc xd sp sq sa vl (.unset) (.unset) (.unset)) [(.int (2 : Int32)), (.ref sa)]) (mkF m 175 (own_L p0 p1 p2 p3 wr dr vfl vwl xa xb xc xd sp sq sa vl (.unset) (.unset) (.unset)) [(.int (97 : Int32))]) := by
    intro t kt
    show oS T7 (mkF m 175 (own_L p0 p1 p2 p3 wr dr vfl vwl xa xb xc xd sp sq sa vl (.unset) (.unset) (.unset)) [(.int (97 : Int32))]) _
    refine XS.bipush X7.here hx rfl (hb hby at_175) ?_
    show oS T7 (mkF m 177 (own_L p0 p1 p2 p3 wr dr vfl vwl xa xb xc xd sp sq sa vl (.unset) (.unset) (.unset)) [(.int (97 : Int32)), (.int (97 : Int32))]) _
    refine XS.icmpNo X7.here hx rfl (hb hby at_177) rfl (teq (by decide : (97 : Int32) = (97 : Int32))).2 ?_
    show oS T7 (mkF m 180 (own_L p0 p1 p2 p3 wr dr vfl vwl xa xb xc xd sp sq sa vl (.unset) (.unset) (.unset)) []) _
    refine XS.aload X7.here hx rfl (hb hby at_180) rfl rfl ?_
    show oS T7 (mkF m 182 (own_L p0 p1 p2 p3 wr dr vfl vwl xa xb xc xd sp sq sa vl (.unset) (.unset) (.unset)) [(.ref sa)]) _
    refine XS.iconst X7.here hx rfl (hb hby at_182) ?_
    exact kt
  obtain ⟨cq10, kq10, q10a, q10b, q10c⟩ := isOf hZ e7 Es
  obtain ⟨_, _, ⟨T11, L11, k11, n11⟩, -, X11, ⟨Lc11, hQ11, l11, y11, z11⟩, st11⟩ := X7.virtualBack hx (y := yy_4) (z := yy_4) hown (mvT hZ (own_t hw 165 rfl)) (mvT hZ (own_t hw 166 rfl)) (notFace_of_selects (args := #[]) (mvT hZ (own_t hw 168 rfl))) (mvT hZ (own_t hw 168 rfl)) (mvT hZ (own_t hw 167 rfl)) (by decide) (backOf (W := 0) (rm31 l Z a0 hw [] sa (2 : Int32) rb kb (Int32.ofNat tt.length) ((tt.map (fun c => c.toInt8.toInt32)).map Value.int) (.int 0) ((tt.getD 2 0).toInt8.toInt32) fm cs h0 n0 Z0 Es Fs Vs (own_hi 2 _ ⟨by omega, by omega⟩) (own_bat tt 2 ⟨by omega, by omega⟩ _) SF hfm SC hcs Cs) hZ (own_t hw 169 rfl) (own_t hw 9 rfl) (by decide) (by decide)) q10a q10c (g := (mkF m 183 (own_L p0 p1 p2 p3 wr dr vfl vwl xa xb xc xd sp sq sa vl (.unset) (.unset) (.unset)) [(.int (2 : Int32)), (.ref sa)])) rfl (by rw [hml]; rfl) (Steps.refl _) (argsL := [(.int (2 : Int32))]) (rest := []) (lenOf pd_28 rfl) rfl (by show 2 * 0 + _ ≤ _; exact Nat.le_of_eq rfl) (hb hby at_183) (fun _ _ => ⟨rfl, e7, (by decide : 28 + 0 ≤ _), (by decide : 428 + 0 ≤ _)⟩)
  dsimp only [Pt.U, Pt.locs, Pt.cells, Pt.slots] at X11 l11 y11 z11 st11 hQ11
  subst l11 y11 z11
  obtain ⟨rfl, N11q, e11⟩ := hQ11
  have N11 := Fr.app N7 N11q
  have c12 : own_G p e below T11 (mkF m 186 (own_L p0 p1 p2 p3 wr dr vfl vwl xa xb xc xd sp sq sa vl (.unset) (.unset) (.unset)) [(.int (110 : Int32))]) (mkF m 186 (own_L p0 p1 p2 p3 wr dr vfl vwl xa xb xc xd sp sq sa vl (.unset) (.unset) (.unset)) [(.int (own_cc ((tt.getD 2 0).toInt8.toInt32)))]) := fun t kt => castTop (congrArg (fun zv => (mkF m 186 (own_L p0 p1 p2 p3 wr dr vfl vwl xa xb xc xd sp sq sa vl (.unset) (.unset) (.unset)) [(.int zv)])) (show (own_cc ((tt.getD 2 0).toInt8.toInt32)) = (110 : Int32) from (by rw [hx2]; exact by decide))) kt
  have c13 : own_G p e below T11 (mkF m 194 (own_L p0 p1 p2 p3 wr dr vfl vwl xa xb xc xd sp sq sa vl (.unset) (.unset) (.unset)) [(.int (3 : Int32)), (.ref sa)]) (mkF m 186 (own_L p0 p1 p2 p3 wr dr vfl vwl xa xb xc xd sp sq sa vl (.unset) (.unset) (.unset)) [(.int (110 : Int32))]) := by
    intro t kt
    show oS T11 (mkF m 186 (own_L p0 p1 p2 p3 wr dr vfl vwl xa xb xc xd sp sq sa vl (.unset) (.unset) (.unset)) [(.int (110 : Int32))]) _
    refine XS.bipush X11.here hx rfl (hb hby at_186) ?_
    show oS T11 (mkF m 188 (own_L p0 p1 p2 p3 wr dr vfl vwl xa xb xc xd sp sq sa vl (.unset) (.unset) (.unset)) [(.int (110 : Int32)), (.int (110 : Int32))]) _
    refine XS.icmpNo X11.here hx rfl (hb hby at_188) rfl (teq (by decide : (110 : Int32) = (110 : Int32))).2 ?_
    show oS T11 (mkF m 191 (own_L p0 p1 p2 p3 wr dr vfl vwl xa xb xc xd sp sq sa vl (.unset) (.unset) (.unset)) []) _
    refine XS.aload X11.here hx rfl (hb hby at_191) rfl rfl ?_
    show oS T11 (mkF m 193 (own_L p0 p1 p2 p3 wr dr vfl vwl xa xb xc xd sp sq sa vl (.unset) (.unset) (.unset)) [(.ref sa)]) _
    refine XS.iconst X11.here hx rfl (hb hby at_193) ?_
    exact kt
  obtain ⟨cq14, kq14, q14a, q14b, q14c⟩ := isOf hZ e11 Es
  obtain ⟨_, _, ⟨T15, L15, k15, n15⟩, -, X15, ⟨Lc15, hQ15, l15, y15, z15⟩, st15⟩ := X11.virtualBack hx (y := yy_4) (z := yy_4) hown (mvT hZ (own_t hw 165 rfl)) (mvT hZ (own_t hw 166 rfl)) (notFace_of_selects (args := #[]) (mvT hZ (own_t hw 168 rfl))) (mvT hZ (own_t hw 168 rfl)) (mvT hZ (own_t hw 167 rfl)) (by decide) (backOf (W := 0) (rm31 l Z a0 hw [] sa (3 : Int32) rb kb (Int32.ofNat tt.length) ((tt.map (fun c => c.toInt8.toInt32)).map Value.int) (.int 0) ((tt.getD 3 0).toInt8.toInt32) fm cs h0 n0 Z0 Es Fs Vs (own_hi 3 _ ⟨by omega, by omega⟩) (own_bat tt 3 ⟨by omega, by omega⟩ _) SF hfm SC hcs Cs) hZ (own_t hw 169 rfl) (own_t hw 9 rfl) (by decide) (by decide)) q14a q14c (g := (mkF m 194 (own_L p0 p1 p2 p3 wr dr vfl vwl xa xb xc xd sp sq sa vl (.unset) (.unset) (.unset)) [(.int (3 : Int32)), (.ref sa)])) rfl (by rw [hml]; rfl) (Steps.refl _) (argsL := [(.int (3 : Int32))]) (rest := []) (lenOf pd_28 rfl) rfl (by show 2 * 0 + _ ≤ _; exact Nat.le_of_eq rfl) (hb hby at_194) (fun _ _ => ⟨rfl, e11, (by decide : 28 + 0 ≤ _), (by decide : 428 + 0 ≤ _)⟩)
  dsimp only [Pt.U, Pt.locs, Pt.cells, Pt.slots] at X15 l15 y15 z15 st15 hQ15
  subst l15 y15 z15
  obtain ⟨rfl, N15q, e15⟩ := hQ15
  have N15 := Fr.app N11 N15q
  have c16 : own_G p e below T15 (mkF m 197 (own_L p0 p1 p2 p3 wr dr vfl vwl xa xb xc xd sp sq sa vl (.unset) (.unset) (.unset)) [(.int (110 : Int32))]) (mkF m 197 (own_L p0 p1 p2 p3 wr dr vfl vwl xa xb xc xd sp sq sa vl (.unset) (.unset) (.unset)) [(.int (own_cc ((tt.getD 3 0).toInt8.toInt32)))]) := fun t kt => castTop (congrArg (fun zv => (mkF m 197 (own_L p0 p1 p2 p3 wr dr vfl vwl xa xb xc xd sp sq sa vl (.unset) (.unset) (.unset)) [(.int zv)])) (show (own_cc ((tt.getD 3 0).toInt8.toInt32)) = (110 : Int32) from (by rw [hx3]; exact by decide))) kt
  have c17 : own_G p e below T15 (mkF m 205 (own_L p0 p1 p2 p3 wr dr vfl vwl xa xb xc xd sp sq sa vl (.unset) (.unset) (.unset)) [(.int (4 : Int32)), (.ref sa)]) (mkF m 197 (own_L p0 p1 p2 p3 wr dr vfl vwl xa xb xc xd sp sq sa vl (.unset) (.unset) (.unset)) [(.int (110 : Int32))]) := by
    intro t kt
    show oS T15 (mkF m 197 (own_L p0 p1 p2 p3 wr dr vfl vwl xa xb xc xd sp sq sa vl (.unset) (.unset) (.unset)) [(.int (110 : Int32))]) _
    refine XS.bipush X15.here hx rfl (hb hby at_197) ?_
    show oS T15 (mkF m 199 (own_L p0 p1 p2 p3 wr dr vfl vwl xa xb xc xd sp sq sa vl (.unset) (.unset) (.unset)) [(.int (110 : Int32)), (.int (110 : Int32))]) _
    refine XS.icmpNo X15.here hx rfl (hb hby at_199) rfl (teq (by decide : (110 : Int32) = (110 : Int32))).2 ?_
    show oS T15 (mkF m 202 (own_L p0 p1 p2 p3 wr dr vfl vwl xa xb xc xd sp sq sa vl (.unset) (.unset) (.unset)) []) _
    refine XS.aload X15.here hx rfl (hb hby at_202) rfl rfl ?_
    show oS T15 (mkF m 204 (own_L p0 p1 p2 p3 wr dr vfl vwl xa xb xc xd sp sq sa vl (.unset) (.unset) (.unset)) [(.ref sa)]) _
    refine XS.iconst X15.here hx rfl (hb hby at_204) ?_
    exact kt
  obtain ⟨cq18, kq18, q18a, q18b, q18c⟩ := isOf hZ e15 Es
  obtain ⟨_, _, ⟨T19, L19, k19, n19⟩, -, X19, ⟨Lc19, hQ19, l19, y19, z19⟩, st19⟩ := X15.virtualBack hx (y := yy_4) (z := yy_4) hown (mvT hZ (own_t hw 165 rfl)) (mvT hZ (own_t hw 166 rfl)) (notFace_of_selects (args := #[]) (mvT hZ (own_t hw 168 rfl))) (mvT hZ (own_t hw 168 rfl)) (mvT hZ (own_t hw 167 rfl)) (by decide) (backOf (W := 0) (rm31 l Z a0 hw [] sa (4 : Int32) rb kb (Int32.ofNat tt.length) ((tt.map (fun c => c.toInt8.toInt32)).map Value.int) (.int 0) ((tt.getD 4 0).toInt8.toInt32) fm cs h0 n0 Z0 Es Fs Vs (own_hi 4 _ ⟨by omega, by omega⟩) (own_bat tt 4 ⟨by omega, by omega⟩ _) SF hfm SC hcs Cs) hZ (own_t hw 169 rfl) (own_t hw 9 rfl) (by decide) (by decide)) q18a q18c (g := (mkF m 205 (own_L p0 p1 p2 p3 wr dr vfl vwl xa xb xc xd sp sq sa vl (.unset) (.unset) (.unset)) [(.int (4 : Int32)), (.ref sa)])) rfl (by rw [hml]; rfl) (Steps.refl _) (argsL := [(.int (4 : Int32))]) (rest := []) (lenOf pd_28 rfl) rfl (by show 2 * 0 + _ ≤ _; exact Nat.le_of_eq rfl) (hb hby at_205) (fun _ _ => ⟨rfl, e15, (by decide : 28 + 0 ≤ _), (by decide : 428 + 0 ≤ _)⟩)
  dsimp only [Pt.U, Pt.locs, Pt.cells, Pt.slots] at X19 l19 y19 z19 st19 hQ19
  subst l19 y19 z19
  obtain ⟨rfl, N19q, e19⟩ := hQ19
  have N19 := Fr.app N15 N19q
  have c20 : own_G p e below T19 (mkF m 208 (own_L p0 p1 p2 p3 wr dr vfl vwl xa xb xc xd sp sq sa vl (.unset) (.unset) (.unset)) [(.int (111 : Int32))]) (mkF m 208 (own_L p0 p1 p2 p3 wr dr vfl vwl xa xb xc xd sp sq sa vl (.unset) (.unset) (.unset)) [(.int (own_cc ((tt.getD 4 0).toInt8.toInt32)))]) := fun t kt => castTop (congrArg (fun zv => (mkF m 208 (own_L p0 p1 p2 p3 wr dr vfl vwl xa xb xc xd sp sq sa vl (.unset) (.unset) (.unset)) [(.int zv)])) (show (own_cc ((tt.getD 4 0).toInt8.toInt32)) = (111 : Int32) from (by rw [hx4]; exact by decide))) kt
  have c21 : own_G p e below T19 (mkF m 216 (own_L p0 p1 p2 p3 wr dr vfl vwl xa xb xc xd sp sq sa vl (.unset) (.unset) (.unset)) [(.int (5 : Int32)), (.ref sa)]) (mkF m 208 (own_L p0 p1 p2 p3 wr dr vfl vwl xa xb xc xd sp sq sa vl (.unset) (.unset) (.unset)) [(.int (111 : Int32))]) := by
    intro t kt
    show oS T19 (mkF m 208 (own_L p0 p1 p2 p3 wr dr vfl vwl xa xb xc xd sp sq sa vl (.unset) (.unset) (.unset)) [(.int (111 : Int32))]) _
    refine XS.bipush X19.here hx rfl (hb hby at_208) ?_
    show oS T19 (mkF m 210 (own_L p0 p1 p2 p3 wr dr vfl vwl xa xb xc xd sp sq sa vl (.unset) (.unset) (.unset)) [(.int (111 : Int32)), (.int (111 : Int32))]) _
    refine XS.icmpNo X19.here hx rfl (hb hby at_210) rfl (teq (by decide : (111 : Int32) = (111 : Int32))).2 ?_
    show oS T19 (mkF m 213 (own_L p0 p1 p2 p3 wr dr vfl vwl xa xb xc xd sp sq sa vl (.unset) (.unset) (.unset)) []) _
    refine XS.aload X19.here hx rfl (hb hby at_213) rfl rfl ?_
    show oS T19 (mkF m 215 (own_L p0 p1 p2 p3 wr dr vfl vwl xa xb xc xd sp sq sa vl (.unset) (.unset) (.unset)) [(.ref sa)]) _
    refine XS.iconst X19.here hx rfl (hb hby at_215) ?_
    exact kt
  obtain ⟨cq22, kq22, q22a, q22b, q22c⟩ := isOf hZ e19 Es
  obtain ⟨_, _, ⟨T23, L23, k23, n23⟩, -, X23, ⟨Lc23, hQ23, l23, y23, z23⟩, st23⟩ := X19.virtualBack hx (y := yy_4) (z := yy_4) hown (mvT hZ (own_t hw 165 rfl)) (mvT hZ (own_t hw 166 rfl)) (notFace_of_selects (args := #[]) (mvT hZ (own_t hw 168 rfl))) (mvT hZ (own_t hw 168 rfl)) (mvT hZ (own_t hw 167 rfl)) (by decide) (backOf (W := 0) (rm31 l Z a0 hw [] sa (5 : Int32) rb kb (Int32.ofNat tt.length) ((tt.map (fun c => c.toInt8.toInt32)).map Value.int) (.int 0) ((tt.getD 5 0).toInt8.toInt32) fm cs h0 n0 Z0 Es Fs Vs (own_hi 5 _ ⟨by omega, by omega⟩) (own_bat tt 5 ⟨by omega, by omega⟩ _) SF hfm SC hcs Cs) hZ (own_t hw 169 rfl) (own_t hw 9 rfl) (by decide) (by decide)) q22a q22c (g := (mkF m 216 (own_L p0 p1 p2 p3 wr dr vfl vwl xa xb xc xd sp sq sa vl (.unset) (.unset) (.unset)) [(.int (5 : Int32)), (.ref sa)])) rfl (by rw [hml]; rfl) (Steps.refl _) (argsL := [(.int (5 : Int32))]) (rest := []) (lenOf pd_28 rfl) rfl (by show 2 * 0 + _ ≤ _; exact Nat.le_of_eq rfl) (hb hby at_216) (fun _ _ => ⟨rfl, e19, (by decide : 28 + 0 ≤ _), (by decide : 428 + 0 ≤ _)⟩)
  dsimp only [Pt.U, Pt.locs, Pt.cells, Pt.slots] at X23 l23 y23 z23 st23 hQ23
  subst l23 y23 z23
  obtain ⟨rfl, N23q, e23⟩ := hQ23
  have N23 := Fr.app N19 N23q
  have c24 : own_G p e below T23 (mkF m 219 (own_L p0 p1 p2 p3 wr dr vfl vwl xa xb xc xd sp sq sa vl (.unset) (.unset) (.unset)) [(.int (116 : Int32))]) (mkF m 219 (own_L p0 p1 p2 p3 wr dr vfl vwl xa xb xc xd sp sq sa vl (.unset) (.unset) (.unset)) [(.int (own_cc ((tt.getD 5 0).toInt8.toInt32)))]) := fun t kt => castTop (congrArg (fun zv => (mkF m 219 (own_L p0 p1 p2 p3 wr dr vfl vwl xa xb xc xd sp sq sa vl (.unset) (.unset) (.unset)) [(.int zv)])) (show (own_cc ((tt.getD 5 0).toInt8.toInt32)) = (116 : Int32) from (by rw [hx5]; exact by decide))) kt
  have c25 : own_G p e below T23 (mkF m 228 (own_L p0 p1 p2 p3 wr dr vfl vwl xa xb xc xd sp sq sa vl (.unset) (.unset) (.unset)) [(.int (6 : Int32)), (.ref sa)]) (mkF m 219 (own_L p0 p1 p2 p3 wr dr vfl vwl xa xb xc xd sp sq sa vl (.unset) (.unset) (.unset)) [(.int (116 : Int32))]) := by
    intro t kt
    show oS T23 (mkF m 219 (own_L p0 p1 p2 p3 wr dr vfl vwl xa xb xc xd sp sq sa vl (.unset) (.unset) (.unset)) [(.int (116 : Int32))]) _
    refine XS.bipush X23.here hx rfl (hb hby at_219) ?_
    show oS T23 (mkF m 221 (own_L p0 p1 p2 p3 wr dr vfl vwl xa xb xc xd sp sq sa vl (.unset) (.unset) (.unset)) [(.int (116 : Int32)), (.int (116 : Int32))]) _
    refine XS.icmpNo X23.here hx rfl (hb hby at_221) rfl (teq (by decide : (116 : Int32) = (116 : Int32))).2 ?_
    show oS T23 (mkF m 224 (own_L p0 p1 p2 p3 wr dr vfl vwl xa xb xc xd sp sq sa vl (.unset) (.unset) (.unset)) []) _
    refine XS.aload X23.here hx rfl (hb hby at_224) rfl rfl ?_
    show oS T23 (mkF m 226 (own_L p0 p1 p2 p3 wr dr vfl vwl xa xb xc xd sp sq sa vl (.unset) (.unset) (.unset)) [(.ref sa)]) _
    refine XS.bipush X23.here hx rfl (hb hby at_226) ?_
    exact kt
  obtain ⟨cq26, kq26, q26a, q26b, q26c⟩ := isOf hZ e23 Es
  obtain ⟨_, _, ⟨T27, L27, k27, n27⟩, -, X27, ⟨Lc27, hQ27, l27, y27, z27⟩, st27⟩ := X23.virtualBack hx (y := yy_4) (z := yy_4) hown (mvT hZ (own_t hw 165 rfl)) (mvT hZ (own_t hw 166 rfl)) (notFace_of_selects (args := #[]) (mvT hZ (own_t hw 168 rfl))) (mvT hZ (own_t hw 168 rfl)) (mvT hZ (own_t hw 167 rfl)) (by decide) (backOf (W := 0) (rm31 l Z a0 hw [] sa (6 : Int32) rb kb (Int32.ofNat tt.length) ((tt.map (fun c => c.toInt8.toInt32)).map Value.int) (.int 0) ((tt.getD 6 0).toInt8.toInt32) fm cs h0 n0 Z0 Es Fs Vs (own_hi 6 _ ⟨by omega, by omega⟩) (own_bat tt 6 ⟨by omega, by omega⟩ _) SF hfm SC hcs Cs) hZ (own_t hw 169 rfl) (own_t hw 9 rfl) (by decide) (by decide)) q26a q26c (g := (mkF m 228 (own_L p0 p1 p2 p3 wr dr vfl vwl xa xb xc xd sp sq sa vl (.unset) (.unset) (.unset)) [(.int (6 : Int32)), (.ref sa)])) rfl (by rw [hml]; rfl) (Steps.refl _) (argsL := [(.int (6 : Int32))]) (rest := []) (lenOf pd_28 rfl) rfl (by show 2 * 0 + _ ≤ _; exact Nat.le_of_eq rfl) (hb hby at_228) (fun _ _ => ⟨rfl, e23, (by decide : 28 + 0 ≤ _), (by decide : 428 + 0 ≤ _)⟩)
  dsimp only [Pt.U, Pt.locs, Pt.cells, Pt.slots] at X27 l27 y27 z27 st27 hQ27
  subst l27 y27 z27
  obtain ⟨rfl, N27q, e27⟩ := hQ27
  have N27 := Fr.app N23 N27q
  have c28 : own_G p e below T27 (mkF m 231 (own_L p0 p1 p2 p3 wr dr vfl vwl xa xb xc xd sp sq sa vl (.unset) (.unset) (.unset)) [(.int (32 : Int32))]) (mkF m 231 (own_L p0 p1 p2 p3 wr dr vfl vwl xa xb xc xd sp sq sa vl (.unset) (.unset) (.unset)) [(.int (own_cc ((tt.getD 6 0).toInt8.toInt32)))]) := fun t kt => castTop (congrArg (fun zv => (mkF m 231 (own_L p0 p1 p2 p3 wr dr vfl vwl xa xb xc xd sp sq sa vl (.unset) (.unset) (.unset)) [(.int zv)])) (show (own_cc ((tt.getD 6 0).toInt8.toInt32)) = (32 : Int32) from (by rw [hx6]; exact by decide))) kt
  have c29 : own_G p e below T27 (mkF m 243 (own_L p0 p1 p2 p3 wr dr vfl vwl xa xb xc xd sp sq sa vl (oi 1) (.unset) (.unset)) []) (mkF m 231 (own_L p0 p1 p2 p3 wr dr vfl vwl xa xb xc xd sp sq sa vl (.unset) (.unset) (.unset)) [(.int (32 : Int32))]) := by
    intro t kt
    show oS T27 (mkF m 231 (own_L p0 p1 p2 p3 wr dr vfl vwl xa xb xc xd sp sq sa vl (.unset) (.unset) (.unset)) [(.int (32 : Int32))]) _
    refine XS.bipush X27.here hx rfl (hb hby at_231) ?_
    show oS T27 (mkF m 233 (own_L p0 p1 p2 p3 wr dr vfl vwl xa xb xc xd sp sq sa vl (.unset) (.unset) (.unset)) [(.int (32 : Int32)), (.int (32 : Int32))]) _
    refine XS.icmpNo X27.here hx rfl (hb hby at_233) rfl (teq (by decide : (32 : Int32) = (32 : Int32))).2 ?_
    show oS T27 (mkF m 236 (own_L p0 p1 p2 p3 wr dr vfl vwl xa xb xc xd sp sq sa vl (.unset) (.unset) (.unset)) []) _
    refine XS.iconst X27.here hx rfl (hb hby at_236) ?_
    show oS T27 (mkF m 237 (own_L p0 p1 p2 p3 wr dr vfl vwl xa xb xc xd sp sq sa vl (.unset) (.unset) (.unset)) [(.int (1 : Int32))]) _
    refine XS.goto X27.here hx rfl (pc0 := 237) (pc' := 241) rfl (hb hby at_237) (by decide) (by decide) ?_
    show oS T27 (mkF m 241 (own_L p0 p1 p2 p3 wr dr vfl vwl xa xb xc xd sp sq sa vl (.unset) (.unset) (.unset)) [(.int (1 : Int32))]) _
    refine XS.istore X27.here hx rfl (hb hby at_241) rfl (l' := (own_L p0 p1 p2 p3 wr dr vfl vwl xa xb xc xd sp sq sa vl (oi 1) (.unset) (.unset))) rfl ?_
    exact kt
  exact ⟨T27, _, h0, X27, e27, N27, (Keep.refl h0 []), rfl, fun t kt => c1 _ (st3.trans (c4 _ (c5 _ (st7.trans (c8 _ (c9 _ (st11.trans (c12 _ (c13 _ (st15.trans (c16 _ (c17 _ (st19.trans (c20 _ (c21 _ (st23.trans (c24 _ (c25 _ (st27.trans (c28 _ (c29 _ (kt))))))))))))))))))))))⟩
set_option maxRecDepth 65536 in
set_option maxHeartbeats 40000000 in
theorem tF0 {p : Program} {l : Launch} {e : Env} {s : State} {m : MethodId} {args : Array Value} {below : List Frame} {meth : Method} {c : Code} {T0 : State} {locs : List Loc} {Z : State} {a0 : Array Value} {h0 : Heap} {n0 : Nat} (p0 p1 p2 p3 vfl vwl xa xb xc xd : Int32) (dr sp sq sa rb : Addr) (kb : ClassId) (tt : List Int32) (cs : Int32) (fm : Value) (wr vl : Int32) (kk : Nat)
    (X0 : Stand p l e room_1 s m args below meth c T0 locs 28 428) (hx : p.tables.exec = Jvm.exec) (hZ : Z.Warmed39 s.vm) (hw : ∀ d ∈ tables_1, d.before a0 Z = true) (hby : c.code = code) (hml : c.maxLocals = 19) (hown : s.vm.findClass "com/example/emex/emex/read/FileRefusalLinePinLaw" = some m.cls) (e0 : T0.heap = h0) (N0 : Fr n0 locs) (Z0 : n0 ≤ h0.size) (Es : Exa Z h0 sa "java/lang/String") (Fs : Fld Z h0 sa "java/lang/String" "value" "[B" (.ref rb)) (Cs : Fld Z h0 sa "java/lang/String" "coder" "B" (.int (0 : Int32))) (Vs : Arv Z h0 rb kb .byte (Int32.ofNat tt.length) ((tt.map (fun c => c.toInt8.toInt32)).map Value.int) (.int 0)) (SF : Sta Z h0 "jdk/internal/util/Preconditions" "SIOOBE_FORMATTER" "Ljava/util/function/BiFunction;" fm) (hfm : fm.isRef = true) (SC : Sta Z h0 "java/lang/String" "COMPACT_STRINGS" "Z" (.int cs)) (hcs : ¬ cs = (0 : Int32)) (hlt : (kk + 2) < tt.length) (hl2 : tt.length < 512) (hx0 : tt.getD (kk + 1) 0 = (58 : Int32)) (hx1 : tt.getD ((kk + 1) + 1) 0 = (32 : Int32)) (hr_xa : own_r xa) (hr_xb : own_r xb) (hr_xc : own_r xc) (hr_xd : own_r xd) (hkk : kk < 100) :
    ∃ (T' : State) (locs' : List Loc) (h' : Heap), Stand p l e room_1 s m args below meth c T' locs' 28 428 ∧ T'.heap = h' ∧ Fr n0 locs' ∧ Keep h0 h' [] ∧ h' = h0 ∧ ∀ t, own_S p e below T' (mkF m 525 (own_L p0 p1 p2 p3 wr dr 0 vwl xa xb xc xd sp sq sa vl (oi 1) (oi (Int32.ofNat kk)) (oi (Int32.ofNat (kk + 1)))) []) t → own_S p e below T0 (mkF m 414 (own_L p0 p1 p2 p3 wr dr 0 vwl xa xb xc xd sp sq sa vl (oi 1) (oi (Int32.ofNat kk)) (.unset)) []) t := by
  have c1 : own_G p e below T0 (mkF m 485 (own_L p0 p1 p2 p3 wr dr 0 vwl xa xb xc xd sp sq sa vl (oi 1) (oi (Int32.ofNat kk)) (.unset)) [(.int (((Int32.ofNat kk) + (1 : Int32)) + (0 : Int32)))]) (mkF m 414 (own_L p0 p1 p2 p3 wr dr 0 vwl xa xb xc xd sp sq sa vl (oi 1) (oi (Int32.ofNat kk)) (.unset)) []) := by
    intro t kt
    show oS T0 (mkF m 414 (own_L p0 p1 p2 p3 wr dr 0 vwl xa xb xc xd sp sq sa vl (oi 1) (oi (Int32.ofNat kk)) (.unset)) []) _
    refine XS.iload X0.here hx rfl (hb hby at_414) rfl ?_
    show oS T0 (mkF m 416 (own_L p0 p1 p2 p3 wr dr 0 vwl xa xb xc xd sp sq sa vl (oi 1) (oi (Int32.ofNat kk)) (.unset)) [(.int (0 : Int32))]) _
    refine XS.iconst X0.here hx rfl (hb hby at_416) ?_
    show oS T0 (mkF m 417 (own_L p0 p1 p2 p3 wr dr 0 vwl xa xb xc xd sp sq sa vl (oi 1) (oi (Int32.ofNat kk)) (.unset)) [(.int (1 : Int32)), (.int (0 : Int32))]) _
    refine XS.icmpYes X0.here hx rfl (pc0 := 417) (pc' := 446) rfl (hb hby at_417) rfl (tlt (by decide : (0 : Int32) < (1 : Int32))).1 (by decide) (by decide) ?_
    show oS T0 (mkF m 446 (own_L p0 p1 p2 p3 wr dr 0 vwl xa xb xc xd sp sq sa vl (oi 1) (oi (Int32.ofNat kk)) (.unset)) []) _
    refine XS.iload X0.here hx rfl (hb hby at_446) rfl ?_
    show oS T0 (mkF m 448 (own_L p0 p1 p2 p3 wr dr 0 vwl xa xb xc xd sp sq sa vl (oi 1) (oi (Int32.ofNat kk)) (.unset)) [(.int (0 : Int32))]) _
    refine XS.iconst X0.here hx rfl (hb hby at_448) ?_
    show oS T0 (mkF m 449 (own_L p0 p1 p2 p3 wr dr 0 vwl xa xb xc xd sp sq sa vl (oi 1) (oi (Int32.ofNat kk)) (.unset)) [(.int (2 : Int32)), (.int (0 : Int32))]) _
    refine XS.icmpYes X0.here hx rfl (pc0 := 449) (pc' := 478) rfl (hb hby at_449) rfl (tlt (by decide : (0 : Int32) < (2 : Int32))).1 (by decide) (by decide) ?_
    show oS T0 (mkF m 478 (own_L p0 p1 p2 p3 wr dr 0 vwl xa xb xc xd sp sq sa vl (oi 1) (oi (Int32.ofNat kk)) (.unset)) []) _
    refine XS.iload X0.here hx rfl (hb hby at_478) rfl ?_
    show oS T0 (mkF m 480 (own_L p0 p1 p2 p3 wr dr 0 vwl xa xb xc xd sp sq sa vl (oi 1) (oi (Int32.ofNat kk)) (.unset)) [(.int (Int32.ofNat kk))]) _
    refine XS.iconst X0.here hx rfl (hb hby at_480) ?_
    show oS T0 (mkF m 481 (own_L p0 p1 p2 p3 wr dr 0 vwl xa xb xc xd sp sq sa vl (oi 1) (oi (Int32.ofNat kk)) (.unset)) [(.int (1 : Int32)), (.int (Int32.ofNat kk))]) _
    refine XS.iadd X0.here hx rfl (hb hby at_481) rfl ?_
    show oS T0 (mkF m 482 (own_L p0 p1 p2 p3 wr dr 0 vwl xa xb xc xd sp sq sa vl (oi 1) (oi (Int32.ofNat kk)) (.unset)) [(.int ((Int32.ofNat kk) + (1 : Int32)))]) _
    refine XS.iload X0.here hx rfl (hb hby at_482) rfl ?_
    show oS T0 (mkF m 484 (own_L p0 p1 p2 p3 wr dr 0 vwl xa xb xc xd sp sq sa vl (oi 1) (oi (Int32.ofNat kk)) (.unset)) [(.int (0 : Int32)), (.int ((Int32.ofNat kk) + (1 : Int32)))]) _
    refine XS.iadd X0.here hx rfl (hb hby at_484) rfl ?_
    exact kt
  have c2 : own_G p e below T0 (mkF m 485 (own_L p0 p1 p2 p3 wr dr 0 vwl xa xb xc xd sp sq sa vl (oi 1) (oi (Int32.ofNat kk)) (.unset)) [(.int (Int32.ofNat (kk + 1)))]) (mkF m 485 (own_L p0 p1 p2 p3 wr dr 0 vwl xa xb xc xd sp sq sa vl (oi 1) (oi (Int32.ofNat kk)) (.unset)) [(.int (((Int32.ofNat kk) + (1 : Int32)) + (0 : Int32)))]) := fun t kt => castTop (congrArg (fun zv => (mkF m 485 (own_L p0 p1 p2 p3 wr dr 0 vwl xa xb xc xd sp sq sa vl (oi 1) (oi (Int32.ofNat kk)) (.unset)) [(.int zv)])) (show (((Int32.ofNat kk) + (1 : Int32)) + (0 : Int32)) = (Int32.ofNat (kk + 1)) from own_add3 kk 0 hkk (by decide))) kt
  have c3 : own_G p e below T0 (mkF m 496 (own_L p0 p1 p2 p3 wr dr 0 vwl xa xb xc xd sp sq sa vl (oi 1) (oi (Int32.ofNat kk)) (oi (Int32.ofNat (kk + 1)))) [(.int (Int32.ofNat (kk + 1))), (.ref sa)]) (mkF m 485 (own_L p0 p1 p2 p3 wr dr 0 vwl xa xb xc xd sp sq sa vl (oi 1) (oi (Int32.ofNat kk)) (.unset)) [(.int (Int32.ofNat (kk + 1)))]) := by
    intro t kt
    show oS T0 (mkF m 485 (own_L p0 p1 p2 p3 wr dr 0 vwl xa xb xc xd sp sq sa vl (oi 1) (oi (Int32.ofNat kk)) (.unset)) [(.int (Int32.ofNat (kk + 1)))]) _
    refine XS.istore X0.here hx rfl (hb hby at_485) rfl (l' := (own_L p0 p1 p2 p3 wr dr 0 vwl xa xb xc xd sp sq sa vl (oi 1) (oi (Int32.ofNat kk)) (oi (Int32.ofNat (kk + 1))))) rfl ?_
    show oS T0 (mkF m 487 (own_L p0 p1 p2 p3 wr dr 0 vwl xa xb xc xd sp sq sa vl (oi 1) (oi (Int32.ofNat kk)) (oi (Int32.ofNat (kk + 1)))) []) _
    refine XS.iload X0.here hx rfl (hb hby at_487) rfl ?_
    show oS T0 (mkF m 489 (own_L p0 p1 p2 p3 wr dr 0 vwl xa xb xc xd sp sq sa vl (oi 1) (oi (Int32.ofNat kk)) (oi (Int32.ofNat (kk + 1)))) [(.int (1 : Int32))]) _
    refine XS.ifNo X0.here hx rfl (hb hby at_489) rfl ((if0 _ _).trans (feq (by decide : ¬ ((1 : Int32) = (0 : Int32)))).1) ?_
    show oS T0 (mkF m 492 (own_L p0 p1 p2 p3 wr dr 0 vwl xa xb xc xd sp sq sa vl (oi 1) (oi (Int32.ofNat kk)) (oi (Int32.ofNat (kk + 1)))) []) _
    refine XS.aload X0.here hx rfl (hb hby at_492) rfl rfl ?_
    show oS T0 (mkF m 494 (own_L p0 p1 p2 p3 wr dr 0 vwl xa xb xc xd sp sq sa vl (oi 1) (oi (Int32.ofNat kk)) (oi (Int32.ofNat (kk + 1)))) [(.ref sa)]) _
    refine XS.iload X0.here hx rfl (hb hby at_494) rfl ?_
    exact kt
  obtain ⟨cq4, kq4, q4a, q4b, q4c⟩ := isOf hZ e0 Es
  obtain ⟨_, _, ⟨T5, L5, k5, n5⟩, -, X5, ⟨Lc5, hQ5, l5, y5, z5⟩, st5⟩ := X0.virtualBack hx (y := yy_4) (z := yy_4) hown (mvT hZ (own_t hw 165 rfl)) (mvT hZ (own_t hw 166 rfl)) (notFace_of_selects (args := #[]) (mvT hZ (own_t hw 168 rfl))) (mvT hZ (own_t hw 168 rfl)) (mvT hZ (own_t hw 167 rfl)) (by decide) (backOf (W := 0) (rm31 l Z a0 hw [] sa (Int32.ofNat (kk + 1)) rb kb (Int32.ofNat tt.length) ((tt.map (fun c => c.toInt8.toInt32)).map Value.int) (.int 0) ((tt.getD (kk + 1) 0).toInt8.toInt32) fm cs h0 n0 Z0 Es Fs Vs (own_hi (kk + 1) _ ⟨by omega, by omega⟩) (own_bat tt (kk + 1) ⟨by omega, by omega⟩ _) SF hfm SC hcs Cs) hZ (own_t hw 169 rfl) (own_t hw 9 rfl) (by decide) (by decide)) q4a q4c (g := (mkF m 496 (own_L p0 p1 p2 p3 wr dr 0 vwl xa xb xc xd sp sq sa vl (oi 1) (oi (Int32.ofNat kk)) (oi (Int32.ofNat (kk + 1)))) [(.int (Int32.ofNat (kk + 1))), (.ref sa)])) rfl (by rw [hml]; rfl) (Steps.refl _) (argsL := [(.int (Int32.ofNat (kk + 1)))]) (rest := []) (lenOf pd_28 rfl) rfl (by show 2 * 0 + _ ≤ _; exact Nat.le_of_eq rfl) (hb hby at_496) (fun _ _ => ⟨rfl, e0, (by decide : 28 + 0 ≤ _), (by decide : 428 + 0 ≤ _)⟩)
  dsimp only [Pt.U, Pt.locs, Pt.cells, Pt.slots] at X5 l5 y5 z5 st5 hQ5
  subst l5 y5 z5
  obtain ⟨rfl, N5q, e5⟩ := hQ5
  have N5 := Fr.app N0 N5q
  have c6 : own_G p e below T5 (mkF m 499 (own_L p0 p1 p2 p3 wr dr 0 vwl xa xb xc xd sp sq sa vl (oi 1) (oi (Int32.ofNat kk)) (oi (Int32.ofNat (kk + 1)))) [(.int (58 : Int32))]) (mkF m 499 (own_L p0 p1 p2 p3 wr dr 0 vwl xa xb xc xd sp sq sa vl (oi 1) (oi (Int32.ofNat kk)) (oi (Int32.ofNat (kk + 1)))) [(.int (own_cc ((tt.getD (kk + 1) 0).toInt8.toInt32)))]) := fun t kt => castTop (congrArg (fun zv => (mkF m 499 (own_L p0 p1 p2 p3 wr dr 0 vwl xa xb xc xd sp sq sa vl (oi 1) (oi (Int32.ofNat kk)) (oi (Int32.ofNat (kk + 1)))) [(.int zv)])) (show (own_cc ((tt.getD (kk + 1) 0).toInt8.toInt32)) = (58 : Int32) from (by rw [hx0]; exact by decide))) kt
  have c7 : own_G p e below T5 (mkF m 510 (own_L p0 p1 p2 p3 wr dr 0 vwl xa xb xc xd sp sq sa vl (oi 1) (oi (Int32.ofNat kk)) (oi (Int32.ofNat (kk + 1)))) [(.int ((Int32.ofNat (kk + 1)) + (1 : Int32))), (.ref sa)]) (mkF m 499 (own_L p0 p1 p2 p3 wr dr 0 vwl xa xb xc xd sp sq sa vl (oi 1) (oi (Int32.ofNat kk)) (oi (Int32.ofNat (kk + 1)))) [(.int (58 : Int32))]) := by
    intro t kt
    show oS T5 (mkF m 499 (own_L p0 p1 p2 p3 wr dr 0 vwl xa xb xc xd sp sq sa vl (oi 1) (oi (Int32.ofNat kk)) (oi (Int32.ofNat (kk + 1)))) [(.int (58 : Int32))]) _
    refine XS.bipush X5.here hx rfl (hb hby at_499) ?_
    show oS T5 (mkF m 501 (own_L p0 p1 p2 p3 wr dr 0 vwl xa xb xc xd sp sq sa vl (oi 1) (oi (Int32.ofNat kk)) (oi (Int32.ofNat (kk + 1)))) [(.int (58 : Int32)), (.int (58 : Int32))]) _
    refine XS.icmpNo X5.here hx rfl (hb hby at_501) rfl (teq (by decide : (58 : Int32) = (58 : Int32))).2 ?_
    show oS T5 (mkF m 504 (own_L p0 p1 p2 p3 wr dr 0 vwl xa xb xc xd sp sq sa vl (oi 1) (oi (Int32.ofNat kk)) (oi (Int32.ofNat (kk + 1)))) []) _
    refine XS.aload X5.here hx rfl (hb hby at_504) rfl rfl ?_
    show oS T5 (mkF m 506 (own_L p0 p1 p2 p3 wr dr 0 vwl xa xb xc xd sp sq sa vl (oi 1) (oi (Int32.ofNat kk)) (oi (Int32.ofNat (kk + 1)))) [(.ref sa)]) _
    refine XS.iload X5.here hx rfl (hb hby at_506) rfl ?_
    show oS T5 (mkF m 508 (own_L p0 p1 p2 p3 wr dr 0 vwl xa xb xc xd sp sq sa vl (oi 1) (oi (Int32.ofNat kk)) (oi (Int32.ofNat (kk + 1)))) [(.int (Int32.ofNat (kk + 1))), (.ref sa)]) _
    refine XS.iconst X5.here hx rfl (hb hby at_508) ?_
    show oS T5 (mkF m 509 (own_L p0 p1 p2 p3 wr dr 0 vwl xa xb xc xd sp sq sa vl (oi 1) (oi (Int32.ofNat kk)) (oi (Int32.ofNat (kk + 1)))) [(.int (1 : Int32)), (.int (Int32.ofNat (kk + 1))), (.ref sa)]) _
    refine XS.iadd X5.here hx rfl (hb hby at_509) rfl ?_
    exact kt
  have c8 : own_G p e below T5 (mkF m 510 (own_L p0 p1 p2 p3 wr dr 0 vwl xa xb xc xd sp sq sa vl (oi 1) (oi (Int32.ofNat kk)) (oi (Int32.ofNat (kk + 1)))) [(.int (Int32.ofNat ((kk + 1) + 1))), (.ref sa)]) (mkF m 510 (own_L p0 p1 p2 p3 wr dr 0 vwl xa xb xc xd sp sq sa vl (oi 1) (oi (Int32.ofNat kk)) (oi (Int32.ofNat (kk + 1)))) [(.int ((Int32.ofNat (kk + 1)) + (1 : Int32))), (.ref sa)]) := fun t kt => castTop (congrArg (fun zv => (mkF m 510 (own_L p0 p1 p2 p3 wr dr 0 vwl xa xb xc xd sp sq sa vl (oi 1) (oi (Int32.ofNat kk)) (oi (Int32.ofNat (kk + 1)))) [(.int zv), (.ref sa)])) (show ((Int32.ofNat (kk + 1)) + (1 : Int32)) = (Int32.ofNat ((kk + 1) + 1)) from own_add _ 1 (by omega) (by omega))) kt
  obtain ⟨cq9, kq9, q9a, q9b, q9c⟩ := isOf hZ e5 Es
  obtain ⟨_, _, ⟨T10, L10, k10, n10⟩, -, X10, ⟨Lc10, hQ10, l10, y10, z10⟩, st10⟩ := X5.virtualBack hx (y := yy_4) (z := yy_4) hown (mvT hZ (own_t hw 165 rfl)) (mvT hZ (own_t hw 166 rfl)) (notFace_of_selects (args := #[]) (mvT hZ (own_t hw 168 rfl))) (mvT hZ (own_t hw 168 rfl)) (mvT hZ (own_t hw 167 rfl)) (by decide) (backOf (W := 0) (rm31 l Z a0 hw [] sa (Int32.ofNat ((kk + 1) + 1)) rb kb (Int32.ofNat tt.length) ((tt.map (fun c => c.toInt8.toInt32)).map Value.int) (.int 0) ((tt.getD ((kk + 1) + 1) 0).toInt8.toInt32) fm cs h0 n0 Z0 Es Fs Vs (own_hi ((kk + 1) + 1) _ ⟨by omega, by omega⟩) (own_bat tt ((kk + 1) + 1) ⟨by omega, by omega⟩ _) SF hfm SC hcs Cs) hZ (own_t hw 169 rfl) (own_t hw 9 rfl) (by decide) (by decide)) q9a q9c (g := (mkF m 510 (own_L p0 p1 p2 p3 wr dr 0 vwl xa xb xc xd sp sq sa vl (oi 1) (oi (Int32.ofNat kk)) (oi (Int32.ofNat (kk + 1)))) [(.int (Int32.ofNat ((kk + 1) + 1))), (.ref sa)])) rfl (by rw [hml]; rfl) (Steps.refl _) (argsL := [(.int (Int32.ofNat ((kk + 1) + 1)))]) (rest := []) (lenOf pd_28 rfl) rfl (by show 2 * 0 + _ ≤ _; exact Nat.le_of_eq rfl) (hb hby at_510) (fun _ _ => ⟨rfl, e5, (by decide : 28 + 0 ≤ _), (by decide : 428 + 0 ≤ _)⟩)
  dsimp only [Pt.U, Pt.locs, Pt.cells, Pt.slots] at X10 l10 y10 z10 st10 hQ10
  subst l10 y10 z10
  obtain ⟨rfl, N10q, e10⟩ := hQ10
  have N10 := Fr.app N5 N10q
  have c11 : own_G p e below T10 (mkF m 513 (own_L p0 p1 p2 p3 wr dr 0 vwl xa xb xc xd sp sq sa vl (oi 1) (oi (Int32.ofNat kk)) (oi (Int32.ofNat (kk + 1)))) [(.int (32 : Int32))]) (mkF m 513 (own_L p0 p1 p2 p3 wr dr 0 vwl xa xb xc xd sp sq sa vl (oi 1) (oi (Int32.ofNat kk)) (oi (Int32.ofNat (kk + 1)))) [(.int (own_cc ((tt.getD ((kk + 1) + 1) 0).toInt8.toInt32)))]) := fun t kt => castTop (congrArg (fun zv => (mkF m 513 (own_L p0 p1 p2 p3 wr dr 0 vwl xa xb xc xd sp sq sa vl (oi 1) (oi (Int32.ofNat kk)) (oi (Int32.ofNat (kk + 1)))) [(.int zv)])) (show (own_cc ((tt.getD ((kk + 1) + 1) 0).toInt8.toInt32)) = (32 : Int32) from (by rw [hx1]; exact by decide))) kt
  have c12 : own_G p e below T10 (mkF m 525 (own_L p0 p1 p2 p3 wr dr 0 vwl xa xb xc xd sp sq sa vl (oi 1) (oi (Int32.ofNat kk)) (oi (Int32.ofNat (kk + 1)))) []) (mkF m 513 (own_L p0 p1 p2 p3 wr dr 0 vwl xa xb xc xd sp sq sa vl (oi 1) (oi (Int32.ofNat kk)) (oi (Int32.ofNat (kk + 1)))) [(.int (32 : Int32))]) := by
    intro t kt
    show oS T10 (mkF m 513 (own_L p0 p1 p2 p3 wr dr 0 vwl xa xb xc xd sp sq sa vl (oi 1) (oi (Int32.ofNat kk)) (oi (Int32.ofNat (kk + 1)))) [(.int (32 : Int32))]) _
    refine XS.bipush X10.here hx rfl (hb hby at_513) ?_
    show oS T10 (mkF m 515 (own_L p0 p1 p2 p3 wr dr 0 vwl xa xb xc xd sp sq sa vl (oi 1) (oi (Int32.ofNat kk)) (oi (Int32.ofNat (kk + 1)))) [(.int (32 : Int32)), (.int (32 : Int32))]) _
    refine XS.icmpNo X10.here hx rfl (hb hby at_515) rfl (teq (by decide : (32 : Int32) = (32 : Int32))).2 ?_
    show oS T10 (mkF m 518 (own_L p0 p1 p2 p3 wr dr 0 vwl xa xb xc xd sp sq sa vl (oi 1) (oi (Int32.ofNat kk)) (oi (Int32.ofNat (kk + 1)))) []) _
    refine XS.iconst X10.here hx rfl (hb hby at_518) ?_
    show oS T10 (mkF m 519 (own_L p0 p1 p2 p3 wr dr 0 vwl xa xb xc xd sp sq sa vl (oi 1) (oi (Int32.ofNat kk)) (oi (Int32.ofNat (kk + 1)))) [(.int (1 : Int32))]) _
    refine XS.goto X10.here hx rfl (pc0 := 519) (pc' := 523) rfl (hb hby at_519) (by decide) (by decide) ?_
    show oS T10 (mkF m 523 (own_L p0 p1 p2 p3 wr dr 0 vwl xa xb xc xd sp sq sa vl (oi 1) (oi (Int32.ofNat kk)) (oi (Int32.ofNat (kk + 1)))) [(.int (1 : Int32))]) _
    refine XS.istore X10.here hx rfl (hb hby at_523) rfl (l' := (own_L p0 p1 p2 p3 wr dr 0 vwl xa xb xc xd sp sq sa vl (oi 1) (oi (Int32.ofNat kk)) (oi (Int32.ofNat (kk + 1))))) rfl ?_
    exact kt
  exact ⟨T10, _, h0, X10, e10, N10, (Keep.refl h0 []), rfl, fun t kt => c1 _ (c2 _ (c3 _ (st5.trans (c6 _ (c7 _ (c8 _ (st10.trans (c11 _ (c12 _ (kt))))))))))⟩
set_option maxRecDepth 65536 in
set_option maxHeartbeats 40000000 in
theorem tF1 {p : Program} {l : Launch} {e : Env} {s : State} {m : MethodId} {args : Array Value} {below : List Frame} {meth : Method} {c : Code} {T0 : State} {locs : List Loc} {Z : State} {a0 : Array Value} {h0 : Heap} {n0 : Nat} (p0 p1 p2 p3 vfl vwl xa xb xc xd : Int32) (dr sp sq sa rb : Addr) (kb : ClassId) (tt : List Int32) (cs : Int32) (fm : Value) (wr vl : Int32) (kk : Nat)
    (X0 : Stand p l e room_1 s m args below meth c T0 locs 28 428) (hx : p.tables.exec = Jvm.exec) (hZ : Z.Warmed39 s.vm) (hw : ∀ d ∈ tables_1, d.before a0 Z = true) (hby : c.code = code) (hml : c.maxLocals = 19) (hown : s.vm.findClass "com/example/emex/emex/read/FileRefusalLinePinLaw" = some m.cls) (e0 : T0.heap = h0) (N0 : Fr n0 locs) (Z0 : n0 ≤ h0.size) (Es : Exa Z h0 sa "java/lang/String") (Fs : Fld Z h0 sa "java/lang/String" "value" "[B" (.ref rb)) (Cs : Fld Z h0 sa "java/lang/String" "coder" "B" (.int (0 : Int32))) (Vs : Arv Z h0 rb kb .byte (Int32.ofNat tt.length) ((tt.map (fun c => c.toInt8.toInt32)).map Value.int) (.int 0)) (SF : Sta Z h0 "jdk/internal/util/Preconditions" "SIOOBE_FORMATTER" "Ljava/util/function/BiFunction;" fm) (hfm : fm.isRef = true) (SC : Sta Z h0 "java/lang/String" "COMPACT_STRINGS" "Z" (.int cs)) (hcs : ¬ cs = (0 : Int32)) (hlt : (kk + 3) < tt.length) (hl2 : tt.length < 512) (hx0 : tt.getD (kk + 1) 0 = xa) (hx1 : tt.getD (kk + 2) 0 = (58 : Int32)) (hx2 : tt.getD ((kk + 2) + 1) 0 = (32 : Int32)) (hr_xa : own_r xa) (hr_xb : own_r xb) (hr_xc : own_r xc) (hr_xd : own_r xd) (hkk : kk < 100) :
    ∃ (T' : State) (locs' : List Loc) (h' : Heap), Stand p l e room_1 s m args below meth c T' locs' 28 428 ∧ T'.heap = h' ∧ Fr n0 locs' ∧ Keep h0 h' [] ∧ h' = h0 ∧ ∀ t, own_S p e below T' (mkF m 525 (own_L p0 p1 p2 p3 wr dr 1 vwl xa xb xc xd sp sq sa vl (oi 1) (oi (Int32.ofNat kk)) (oi (Int32.ofNat (kk + 2)))) []) t → own_S p e below T0 (mkF m 414 (own_L p0 p1 p2 p3 wr dr 1 vwl xa xb xc xd sp sq sa vl (oi 1) (oi (Int32.ofNat kk)) (.unset)) []) t := by
  have c1 : own_G p e below T0 (mkF m 431 (own_L p0 p1 p2 p3 wr dr 1 vwl xa xb xc xd sp sq sa vl (oi 1) (oi (Int32.ofNat kk)) (.unset)) [(.int ((Int32.ofNat kk) + (1 : Int32))), (.ref sa)]) (mkF m 414 (own_L p0 p1 p2 p3 wr dr 1 vwl xa xb xc xd sp sq sa vl (oi 1) (oi (Int32.ofNat kk)) (.unset)) []) := by
    intro t kt
    show oS T0 (mkF m 414 (own_L p0 p1 p2 p3 wr dr 1 vwl xa xb xc xd sp sq sa vl (oi 1) (oi (Int32.ofNat kk)) (.unset)) []) _
    refine XS.iload X0.here hx rfl (hb hby at_414) rfl ?_
    show oS T0 (mkF m 416 (own_L p0 p1 p2 p3 wr dr 1 vwl xa xb xc xd sp sq sa vl (oi 1) (oi (Int32.ofNat kk)) (.unset)) [(.int (1 : Int32))]) _
    refine XS.iconst X0.here hx rfl (hb hby at_416) ?_
    show oS T0 (mkF m 417 (own_L p0 p1 p2 p3 wr dr 1 vwl xa xb xc xd sp sq sa vl (oi 1) (oi (Int32.ofNat kk)) (.unset)) [(.int (1 : Int32)), (.int (1 : Int32))]) _
    refine XS.icmpNo X0.here hx rfl (hb hby at_417) rfl (flt (by decide : ¬ ((1 : Int32) < (1 : Int32)))).1 ?_
    show oS T0 (mkF m 420 (own_L p0 p1 p2 p3 wr dr 1 vwl xa xb xc xd sp sq sa vl (oi 1) (oi (Int32.ofNat kk)) (.unset)) []) _
    refine XS.iload X0.here hx rfl (hb hby at_420) rfl ?_
    show oS T0 (mkF m 422 (own_L p0 p1 p2 p3 wr dr 1 vwl xa xb xc xd sp sq sa vl (oi 1) (oi (Int32.ofNat kk)) (.unset)) [(.int (1 : Int32))]) _
    refine XS.ifNo X0.here hx rfl (hb hby at_422) rfl ((if0 _ _).trans (feq (by decide : ¬ ((1 : Int32) = (0 : Int32)))).1) ?_
    show oS T0 (mkF m 425 (own_L p0 p1 p2 p3 wr dr 1 vwl xa xb xc xd sp sq sa vl (oi 1) (oi (Int32.ofNat kk)) (.unset)) []) _
    refine XS.aload X0.here hx rfl (hb hby at_425) rfl rfl ?_
    show oS T0 (mkF m 427 (own_L p0 p1 p2 p3 wr dr 1 vwl xa xb xc xd sp sq sa vl (oi 1) (oi (Int32.ofNat kk)) (.unset)) [(.ref sa)]) _
    refine XS.iload X0.here hx rfl (hb hby at_427) rfl ?_
    show oS T0 (mkF m 429 (own_L p0 p1 p2 p3 wr dr 1 vwl xa xb xc xd sp sq sa vl (oi 1) (oi (Int32.ofNat kk)) (.unset)) [(.int (Int32.ofNat kk)), (.ref sa)]) _
    refine XS.iconst X0.here hx rfl (hb hby at_429) ?_
    show oS T0 (mkF m 430 (own_L p0 p1 p2 p3 wr dr 1 vwl xa xb xc xd sp sq sa vl (oi 1) (oi (Int32.ofNat kk)) (.unset)) [(.int (1 : Int32)), (.int (Int32.ofNat kk)), (.ref sa)]) _
    refine XS.iadd X0.here hx rfl (hb hby at_430) rfl ?_
    exact kt
  have c2 : own_G p e below T0 (mkF m 431 (own_L p0 p1 p2 p3 wr dr 1 vwl xa xb xc xd sp sq sa vl (oi 1) (oi (Int32.ofNat kk)) (.unset)) [(.int (Int32.ofNat (kk + 1))), (.ref sa)]) (mkF m 431 (own_L p0 p1 p2 p3 wr dr 1 vwl xa xb xc xd sp sq sa vl (oi 1) (oi (Int32.ofNat kk)) (.unset)) [(.int ((Int32.ofNat kk) + (1 : Int32))), (.ref sa)]) := fun t kt => castTop (congrArg (fun zv => (mkF m 431 (own_L p0 p1 p2 p3 wr dr 1 vwl xa xb xc xd sp sq sa vl (oi 1) (oi (Int32.ofNat kk)) (.unset)) [(.int zv), (.ref sa)])) (show ((Int32.ofNat kk) + (1 : Int32)) = (Int32.ofNat (kk + 1)) from own_add _ 1 (by omega) (by omega))) kt
  obtain ⟨cq3, kq3, q3a, q3b, q3c⟩ := isOf hZ e0 Es
  obtain ⟨_, _, ⟨T4, L4, k4, n4⟩, -, X4, ⟨Lc4, hQ4, l4, y4, z4⟩, st4⟩ := X0.virtualBack hx (y := yy_4) (z := yy_4) hown (mvT hZ (own_t hw 165 rfl)) (mvT hZ (own_t hw 166 rfl)) (notFace_of_selects (args := #[]) (mvT hZ (own_t hw 168 rfl))) (mvT hZ (own_t hw 168 rfl)) (mvT hZ (own_t hw 167 rfl)) (by decide) (backOf (W := 0) (rm31 l Z a0 hw [] sa (Int32.ofNat (kk + 1)) rb kb (Int32.ofNat tt.length) ((tt.map (fun c => c.toInt8.toInt32)).map Value.int) (.int 0) ((tt.getD (kk + 1) 0).toInt8.toInt32) fm cs h0 n0 Z0 Es Fs Vs (own_hi (kk + 1) _ ⟨by omega, by omega⟩) (own_bat tt (kk + 1) ⟨by omega, by omega⟩ _) SF hfm SC hcs Cs) hZ (own_t hw 169 rfl) (own_t hw 9 rfl) (by decide) (by decide)) q3a q3c (g := (mkF m 431 (own_L p0 p1 p2 p3 wr dr 1 vwl xa xb xc xd sp sq sa vl (oi 1) (oi (Int32.ofNat kk)) (.unset)) [(.int (Int32.ofNat (kk + 1))), (.ref sa)])) rfl (by rw [hml]; rfl) (Steps.refl _) (argsL := [(.int (Int32.ofNat (kk + 1)))]) (rest := []) (lenOf pd_28 rfl) rfl (by show 2 * 0 + _ ≤ _; exact Nat.le_of_eq rfl) (hb hby at_431) (fun _ _ => ⟨rfl, e0, (by decide : 28 + 0 ≤ _), (by decide : 428 + 0 ≤ _)⟩)
  dsimp only [Pt.U, Pt.locs, Pt.cells, Pt.slots] at X4 l4 y4 z4 st4 hQ4
  subst l4 y4 z4
  obtain ⟨rfl, N4q, e4⟩ := hQ4
  have N4 := Fr.app N0 N4q
  have c5 : own_G p e below T4 (mkF m 434 (own_L p0 p1 p2 p3 wr dr 1 vwl xa xb xc xd sp sq sa vl (oi 1) (oi (Int32.ofNat kk)) (.unset)) [(.int xa)]) (mkF m 434 (own_L p0 p1 p2 p3 wr dr 1 vwl xa xb xc xd sp sq sa vl (oi 1) (oi (Int32.ofNat kk)) (.unset)) [(.int (own_cc ((tt.getD (kk + 1) 0).toInt8.toInt32)))]) := fun t kt => castTop (congrArg (fun zv => (mkF m 434 (own_L p0 p1 p2 p3 wr dr 1 vwl xa xb xc xd sp sq sa vl (oi 1) (oi (Int32.ofNat kk)) (.unset)) [(.int zv)])) (show (own_cc ((tt.getD (kk + 1) 0).toInt8.toInt32)) = xa from (by rw [hx0]; exact own_ccv _ hr_xa.1 hr_xa.2))) kt
  have c6 : own_G p e below T4 (mkF m 485 (own_L p0 p1 p2 p3 wr dr 1 vwl xa xb xc xd sp sq sa vl (oi 1) (oi (Int32.ofNat kk)) (.unset)) [(.int (((Int32.ofNat kk) + (1 : Int32)) + (1 : Int32)))]) (mkF m 434 (own_L p0 p1 p2 p3 wr dr 1 vwl xa xb xc xd sp sq sa vl (oi 1) (oi (Int32.ofNat kk)) (.unset)) [(.int xa)]) := by
    intro t kt
    show oS T4 (mkF m 434 (own_L p0 p1 p2 p3 wr dr 1 vwl xa xb xc xd sp sq sa vl (oi 1) (oi (Int32.ofNat kk)) (.unset)) [(.int xa)]) _
    refine XS.iload X4.here hx rfl (hb hby at_434) rfl ?_
    show oS T4 (mkF m 436 (own_L p0 p1 p2 p3 wr dr 1 vwl xa xb xc xd sp sq sa vl (oi 1) (oi (Int32.ofNat kk)) (.unset)) [(.int xa), (.int xa)]) _
    refine XS.icmpNo X4.here hx rfl (hb hby at_436) rfl (teq (rfl : xa = xa)).2 ?_
    show oS T4 (mkF m 439 (own_L p0 p1 p2 p3 wr dr 1 vwl xa xb xc xd sp sq sa vl (oi 1) (oi (Int32.ofNat kk)) (.unset)) []) _
    refine XS.iconst X4.here hx rfl (hb hby at_439) ?_
    show oS T4 (mkF m 440 (own_L p0 p1 p2 p3 wr dr 1 vwl xa xb xc xd sp sq sa vl (oi 1) (oi (Int32.ofNat kk)) (.unset)) [(.int (1 : Int32))]) _
    refine XS.goto X4.here hx rfl (pc0 := 440) (pc' := 444) rfl (hb hby at_440) (by decide) (by decide) ?_
    show oS T4 (mkF m 444 (own_L p0 p1 p2 p3 wr dr 1 vwl xa xb xc xd sp sq sa vl (oi 1) (oi (Int32.ofNat kk)) (.unset)) [(.int (1 : Int32))]) _
    refine XS.istore X4.here hx rfl (hb hby at_444) rfl (l' := (own_L p0 p1 p2 p3 wr dr 1 vwl xa xb xc xd sp sq sa vl (oi 1) (oi (Int32.ofNat kk)) (.unset))) rfl ?_
    show oS T4 (mkF m 446 (own_L p0 p1 p2 p3 wr dr 1 vwl xa xb xc xd sp sq sa vl (oi 1) (oi (Int32.ofNat kk)) (.unset)) []) _
    refine XS.iload X4.here hx rfl (hb hby at_446) rfl ?_
    show oS T4 (mkF m 448 (own_L p0 p1 p2 p3 wr dr 1 vwl xa xb xc xd sp sq sa vl (oi 1) (oi (Int32.ofNat kk)) (.unset)) [(.int (1 : Int32))]) _
    refine XS.iconst X4.here hx rfl (hb hby at_448) ?_
    show oS T4 (mkF m 449 (own_L p0 p1 p2 p3 wr dr 1 vwl xa xb xc xd sp sq sa vl (oi 1) (oi (Int32.ofNat kk)) (.unset)) [(.int (2 : Int32)), (.int (1 : Int32))]) _
    refine XS.icmpYes X4.here hx rfl (pc0 := 449) (pc' := 478) rfl (hb hby at_449) rfl (tlt (by decide : (1 : Int32) < (2 : Int32))).1 (by decide) (by decide) ?_
    show oS T4 (mkF m 478 (own_L p0 p1 p2 p3 wr dr 1 vwl xa xb xc xd sp sq sa vl (oi 1) (oi (Int32.ofNat kk)) (.unset)) []) _
    refine XS.iload X4.here hx rfl (hb hby at_478) rfl ?_
    show oS T4 (mkF m 480 (own_L p0 p1 p2 p3 wr dr 1 vwl xa xb xc xd sp sq sa vl (oi 1) (oi (Int32.ofNat kk)) (.unset)) [(.int (Int32.ofNat kk))]) _
    refine XS.iconst X4.here hx rfl (hb hby at_480) ?_
    show oS T4 (mkF m 481 (own_L p0 p1 p2 p3 wr dr 1 vwl xa xb xc xd sp sq sa vl (oi 1) (oi (Int32.ofNat kk)) (.unset)) [(.int (1 : Int32)), (.int (Int32.ofNat kk))]) _
    refine XS.iadd X4.here hx rfl (hb hby at_481) rfl ?_
    show oS T4 (mkF m 482 (own_L p0 p1 p2 p3 wr dr 1 vwl xa xb xc xd sp sq sa vl (oi 1) (oi (Int32.ofNat kk)) (.unset)) [(.int ((Int32.ofNat kk) + (1 : Int32)))]) _
    refine XS.iload X4.here hx rfl (hb hby at_482) rfl ?_
    show oS T4 (mkF m 484 (own_L p0 p1 p2 p3 wr dr 1 vwl xa xb xc xd sp sq sa vl (oi 1) (oi (Int32.ofNat kk)) (.unset)) [(.int (1 : Int32)), (.int ((Int32.ofNat kk) + (1 : Int32)))]) _
    refine XS.iadd X4.here hx rfl (hb hby at_484) rfl ?_
    exact kt
  have c7 : own_G p e below T4 (mkF m 485 (own_L p0 p1 p2 p3 wr dr 1 vwl xa xb xc xd sp sq sa vl (oi 1) (oi (Int32.ofNat kk)) (.unset)) [(.int (Int32.ofNat (kk + 2)))]) (mkF m 485 (own_L p0 p1 p2 p3 wr dr 1 vwl xa xb xc xd sp sq sa vl (oi 1) (oi (Int32.ofNat kk)) (.unset)) [(.int (((Int32.ofNat kk) + (1 : Int32)) + (1 : Int32)))]) := fun t kt => castTop (congrArg (fun zv => (mkF m 485 (own_L p0 p1 p2 p3 wr dr 1 vwl xa xb xc xd sp sq sa vl (oi 1) (oi (Int32.ofNat kk)) (.unset)) [(.int zv)])) (show (((Int32.ofNat kk) + (1 : Int32)) + (1 : Int32)) = (Int32.ofNat (kk + 2)) from own_add3 kk 1 hkk (by decide))) kt
  have c8 : own_G p e below T4 (mkF m 496 (own_L p0 p1 p2 p3 wr dr 1 vwl xa xb xc xd sp sq sa vl (oi 1) (oi (Int32.ofNat kk)) (oi (Int32.ofNat (kk + 2)))) [(.int (Int32.ofNat (kk + 2))), (.ref sa)]) (mkF m 485 (own_L p0 p1 p2 p3 wr dr 1 vwl xa xb xc xd sp sq sa vl (oi 1) (oi (Int32.ofNat kk)) (.unset)) [(.int (Int32.ofNat (kk + 2)))]) := by
    intro t kt
    show oS T4 (mkF m 485 (own_L p0 p1 p2 p3 wr dr 1 vwl xa xb xc xd sp sq sa vl (oi 1) (oi (Int32.ofNat kk)) (.unset)) [(.int (Int32.ofNat (kk + 2)))]) _
    refine XS.istore X4.here hx rfl (hb hby at_485) rfl (l' := (own_L p0 p1 p2 p3 wr dr 1 vwl xa xb xc xd sp sq sa vl (oi 1) (oi (Int32.ofNat kk)) (oi (Int32.ofNat (kk + 2))))) rfl ?_
    show oS T4 (mkF m 487 (own_L p0 p1 p2 p3 wr dr 1 vwl xa xb xc xd sp sq sa vl (oi 1) (oi (Int32.ofNat kk)) (oi (Int32.ofNat (kk + 2)))) []) _
    refine XS.iload X4.here hx rfl (hb hby at_487) rfl ?_
    show oS T4 (mkF m 489 (own_L p0 p1 p2 p3 wr dr 1 vwl xa xb xc xd sp sq sa vl (oi 1) (oi (Int32.ofNat kk)) (oi (Int32.ofNat (kk + 2)))) [(.int (1 : Int32))]) _
    refine XS.ifNo X4.here hx rfl (hb hby at_489) rfl ((if0 _ _).trans (feq (by decide : ¬ ((1 : Int32) = (0 : Int32)))).1) ?_
    show oS T4 (mkF m 492 (own_L p0 p1 p2 p3 wr dr 1 vwl xa xb xc xd sp sq sa vl (oi 1) (oi (Int32.ofNat kk)) (oi (Int32.ofNat (kk + 2)))) []) _
    refine XS.aload X4.here hx rfl (hb hby at_492) rfl rfl ?_
    show oS T4 (mkF m 494 (own_L p0 p1 p2 p3 wr dr 1 vwl xa xb xc xd sp sq sa vl (oi 1) (oi (Int32.ofNat kk)) (oi (Int32.ofNat (kk + 2)))) [(.ref sa)]) _
    refine XS.iload X4.here hx rfl (hb hby at_494) rfl ?_
    exact kt
  obtain ⟨cq9, kq9, q9a, q9b, q9c⟩ := isOf hZ e4 Es
  obtain ⟨_, _, ⟨T10, L10, k10, n10⟩, -, X10, ⟨Lc10, hQ10, l10, y10, z10⟩, st10⟩ := X4.virtualBack hx (y := yy_4) (z := yy_4) hown (mvT hZ (own_t hw 165 rfl)) (mvT hZ (own_t hw 166 rfl)) (notFace_of_selects (args := #[]) (mvT hZ (own_t hw 168 rfl))) (mvT hZ (own_t hw 168 rfl)) (mvT hZ (own_t hw 167 rfl)) (by decide) (backOf (W := 0) (rm31 l Z a0 hw [] sa (Int32.ofNat (kk + 2)) rb kb (Int32.ofNat tt.length) ((tt.map (fun c => c.toInt8.toInt32)).map Value.int) (.int 0) ((tt.getD (kk + 2) 0).toInt8.toInt32) fm cs h0 n0 Z0 Es Fs Vs (own_hi (kk + 2) _ ⟨by omega, by omega⟩) (own_bat tt (kk + 2) ⟨by omega, by omega⟩ _) SF hfm SC hcs Cs) hZ (own_t hw 169 rfl) (own_t hw 9 rfl) (by decide) (by decide)) q9a q9c (g := (mkF m 496 (own_L p0 p1 p2 p3 wr dr 1 vwl xa xb xc xd sp sq sa vl (oi 1) (oi (Int32.ofNat kk)) (oi (Int32.ofNat (kk + 2)))) [(.int (Int32.ofNat (kk + 2))), (.ref sa)])) rfl (by rw [hml]; rfl) (Steps.refl _) (argsL := [(.int (Int32.ofNat (kk + 2)))]) (rest := []) (lenOf pd_28 rfl) rfl (by show 2 * 0 + _ ≤ _; exact Nat.le_of_eq rfl) (hb hby at_496) (fun _ _ => ⟨rfl, e4, (by decide : 28 + 0 ≤ _), (by decide : 428 + 0 ≤ _)⟩)
  dsimp only [Pt.U, Pt.locs, Pt.cells, Pt.slots] at X10 l10 y10 z10 st10 hQ10
  subst l10 y10 z10
  obtain ⟨rfl, N10q, e10⟩ := hQ10
  have N10 := Fr.app N4 N10q
  have c11 : own_G p e below T10 (mkF m 499 (own_L p0 p1 p2 p3 wr dr 1 vwl xa xb xc xd sp sq sa vl (oi 1) (oi (Int32.ofNat kk)) (oi (Int32.ofNat (kk + 2)))) [(.int (58 : Int32))]) (mkF m 499 (own_L p0 p1 p2 p3 wr dr 1 vwl xa xb xc xd sp sq sa vl (oi 1) (oi (Int32.ofNat kk)) (oi (Int32.ofNat (kk + 2)))) [(.int (own_cc ((tt.getD (kk + 2) 0).toInt8.toInt32)))]) := fun t kt => castTop (congrArg (fun zv => (mkF m 499 (own_L p0 p1 p2 p3 wr dr 1 vwl xa xb xc xd sp sq sa vl (oi 1) (oi (Int32.ofNat kk)) (oi (Int32.ofNat (kk + 2)))) [(.int zv)])) (show (own_cc ((tt.getD (kk + 2) 0).toInt8.toInt32)) = (58 : Int32) from (by rw [hx1]; exact by decide))) kt
  have c12 : own_G p e below T10 (mkF m 510 (own_L p0 p1 p2 p3 wr dr 1 vwl xa xb xc xd sp sq sa vl (oi 1) (oi (Int32.ofNat kk)) (oi (Int32.ofNat (kk + 2)))) [(.int ((Int32.ofNat (kk + 2)) + (1 : Int32))), (.ref sa)]) (mkF m 499 (own_L p0 p1 p2 p3 wr dr 1 vwl xa xb xc xd sp sq sa vl (oi 1) (oi (Int32.ofNat kk)) (oi (Int32.ofNat (kk + 2)))) [(.int (58 : Int32))]) := by
    intro t kt
    show oS T10 (mkF m 499 (own_L p0 p1 p2 p3 wr dr 1 vwl xa xb xc xd sp sq sa vl (oi 1) (oi (Int32.ofNat kk)) (oi (Int32.ofNat (kk + 2)))) [(.int (58 : Int32))]) _
    refine XS.bipush X10.here hx rfl (hb hby at_499) ?_
    show oS T10 (mkF m 501 (own_L p0 p1 p2 p3 wr dr 1 vwl xa xb xc xd sp sq sa vl (oi 1) (oi (Int32.ofNat kk)) (oi (Int32.ofNat (kk + 2)))) [(.int (58 : Int32)), (.int (58 : Int32))]) _
    refine XS.icmpNo X10.here hx rfl (hb hby at_501) rfl (teq (by decide : (58 : Int32) = (58 : Int32))).2 ?_
    show oS T10 (mkF m 504 (own_L p0 p1 p2 p3 wr dr 1 vwl xa xb xc xd sp sq sa vl (oi 1) (oi (Int32.ofNat kk)) (oi (Int32.ofNat (kk + 2)))) []) _
    refine XS.aload X10.here hx rfl (hb hby at_504) rfl rfl ?_
    show oS T10 (mkF m 506 (own_L p0 p1 p2 p3 wr dr 1 vwl xa xb xc xd sp sq sa vl (oi 1) (oi (Int32.ofNat kk)) (oi (Int32.ofNat (kk + 2)))) [(.ref sa)]) _
    refine XS.iload X10.here hx rfl (hb hby at_506) rfl ?_
    show oS T10 (mkF m 508 (own_L p0 p1 p2 p3 wr dr 1 vwl xa xb xc xd sp sq sa vl (oi 1) (oi (Int32.ofNat kk)) (oi (Int32.ofNat (kk + 2)))) [(.int (Int32.ofNat (kk + 2))), (.ref sa)]) _
    refine XS.iconst X10.here hx rfl (hb hby at_508) ?_
    show oS T10 (mkF m 509 (own_L p0 p1 p2 p3 wr dr 1 vwl xa xb xc xd sp sq sa vl (oi 1) (oi (Int32.ofNat kk)) (oi (Int32.ofNat (kk + 2)))) [(.int (1 : Int32)), (.int (Int32.ofNat (kk + 2))), (.ref sa)]) _
    refine XS.iadd X10.here hx rfl (hb hby at_509) rfl ?_
    exact kt
  have c13 : own_G p e below T10 (mkF m 510 (own_L p0 p1 p2 p3 wr dr 1 vwl xa xb xc xd sp sq sa vl (oi 1) (oi (Int32.ofNat kk)) (oi (Int32.ofNat (kk + 2)))) [(.int (Int32.ofNat ((kk + 2) + 1))), (.ref sa)]) (mkF m 510 (own_L p0 p1 p2 p3 wr dr 1 vwl xa xb xc xd sp sq sa vl (oi 1) (oi (Int32.ofNat kk)) (oi (Int32.ofNat (kk + 2)))) [(.int ((Int32.ofNat (kk + 2)) + (1 : Int32))), (.ref sa)]) := fun t kt => castTop (congrArg (fun zv => (mkF m 510 (own_L p0 p1 p2 p3 wr dr 1 vwl xa xb xc xd sp sq sa vl (oi 1) (oi (Int32.ofNat kk)) (oi (Int32.ofNat (kk + 2)))) [(.int zv), (.ref sa)])) (show ((Int32.ofNat (kk + 2)) + (1 : Int32)) = (Int32.ofNat ((kk + 2) + 1)) from own_add _ 1 (by omega) (by omega))) kt
  obtain ⟨cq14, kq14, q14a, q14b, q14c⟩ := isOf hZ e10 Es
  obtain ⟨_, _, ⟨T15, L15, k15, n15⟩, -, X15, ⟨Lc15, hQ15, l15, y15, z15⟩, st15⟩ := X10.virtualBack hx (y := yy_4) (z := yy_4) hown (mvT hZ (own_t hw 165 rfl)) (mvT hZ (own_t hw 166 rfl)) (notFace_of_selects (args := #[]) (mvT hZ (own_t hw 168 rfl))) (mvT hZ (own_t hw 168 rfl)) (mvT hZ (own_t hw 167 rfl)) (by decide) (backOf (W := 0) (rm31 l Z a0 hw [] sa (Int32.ofNat ((kk + 2) + 1)) rb kb (Int32.ofNat tt.length) ((tt.map (fun c => c.toInt8.toInt32)).map Value.int) (.int 0) ((tt.getD ((kk + 2) + 1) 0).toInt8.toInt32) fm cs h0 n0 Z0 Es Fs Vs (own_hi ((kk + 2) + 1) _ ⟨by omega, by omega⟩) (own_bat tt ((kk + 2) + 1) ⟨by omega, by omega⟩ _) SF hfm SC hcs Cs) hZ (own_t hw 169 rfl) (own_t hw 9 rfl) (by decide) (by decide)) q14a q14c (g := (mkF m 510 (own_L p0 p1 p2 p3 wr dr 1 vwl xa xb xc xd sp sq sa vl (oi 1) (oi (Int32.ofNat kk)) (oi (Int32.ofNat (kk + 2)))) [(.int (Int32.ofNat ((kk + 2) + 1))), (.ref sa)])) rfl (by rw [hml]; rfl) (Steps.refl _) (argsL := [(.int (Int32.ofNat ((kk + 2) + 1)))]) (rest := []) (lenOf pd_28 rfl) rfl (by show 2 * 0 + _ ≤ _; exact Nat.le_of_eq rfl) (hb hby at_510) (fun _ _ => ⟨rfl, e10, (by decide : 28 + 0 ≤ _), (by decide : 428 + 0 ≤ _)⟩)
  dsimp only [Pt.U, Pt.locs, Pt.cells, Pt.slots] at X15 l15 y15 z15 st15 hQ15
  subst l15 y15 z15
  obtain ⟨rfl, N15q, e15⟩ := hQ15
  have N15 := Fr.app N10 N15q
  have c16 : own_G p e below T15 (mkF m 513 (own_L p0 p1 p2 p3 wr dr 1 vwl xa xb xc xd sp sq sa vl (oi 1) (oi (Int32.ofNat kk)) (oi (Int32.ofNat (kk + 2)))) [(.int (32 : Int32))]) (mkF m 513 (own_L p0 p1 p2 p3 wr dr 1 vwl xa xb xc xd sp sq sa vl (oi 1) (oi (Int32.ofNat kk)) (oi (Int32.ofNat (kk + 2)))) [(.int (own_cc ((tt.getD ((kk + 2) + 1) 0).toInt8.toInt32)))]) := fun t kt => castTop (congrArg (fun zv => (mkF m 513 (own_L p0 p1 p2 p3 wr dr 1 vwl xa xb xc xd sp sq sa vl (oi 1) (oi (Int32.ofNat kk)) (oi (Int32.ofNat (kk + 2)))) [(.int zv)])) (show (own_cc ((tt.getD ((kk + 2) + 1) 0).toInt8.toInt32)) = (32 : Int32) from (by rw [hx2]; exact by decide))) kt
  have c17 : own_G p e below T15 (mkF m 525 (own_L p0 p1 p2 p3 wr dr 1 vwl xa xb xc xd sp sq sa vl (oi 1) (oi (Int32.ofNat kk)) (oi (Int32.ofNat (kk + 2)))) []) (mkF m 513 (own_L p0 p1 p2 p3 wr dr 1 vwl xa xb xc xd sp sq sa vl (oi 1) (oi (Int32.ofNat kk)) (oi (Int32.ofNat (kk + 2)))) [(.int (32 : Int32))]) := by
    intro t kt
    show oS T15 (mkF m 513 (own_L p0 p1 p2 p3 wr dr 1 vwl xa xb xc xd sp sq sa vl (oi 1) (oi (Int32.ofNat kk)) (oi (Int32.ofNat (kk + 2)))) [(.int (32 : Int32))]) _
    refine XS.bipush X15.here hx rfl (hb hby at_513) ?_
    show oS T15 (mkF m 515 (own_L p0 p1 p2 p3 wr dr 1 vwl xa xb xc xd sp sq sa vl (oi 1) (oi (Int32.ofNat kk)) (oi (Int32.ofNat (kk + 2)))) [(.int (32 : Int32)), (.int (32 : Int32))]) _
    refine XS.icmpNo X15.here hx rfl (hb hby at_515) rfl (teq (by decide : (32 : Int32) = (32 : Int32))).2 ?_
    show oS T15 (mkF m 518 (own_L p0 p1 p2 p3 wr dr 1 vwl xa xb xc xd sp sq sa vl (oi 1) (oi (Int32.ofNat kk)) (oi (Int32.ofNat (kk + 2)))) []) _
    refine XS.iconst X15.here hx rfl (hb hby at_518) ?_
    show oS T15 (mkF m 519 (own_L p0 p1 p2 p3 wr dr 1 vwl xa xb xc xd sp sq sa vl (oi 1) (oi (Int32.ofNat kk)) (oi (Int32.ofNat (kk + 2)))) [(.int (1 : Int32))]) _
    refine XS.goto X15.here hx rfl (pc0 := 519) (pc' := 523) rfl (hb hby at_519) (by decide) (by decide) ?_
    show oS T15 (mkF m 523 (own_L p0 p1 p2 p3 wr dr 1 vwl xa xb xc xd sp sq sa vl (oi 1) (oi (Int32.ofNat kk)) (oi (Int32.ofNat (kk + 2)))) [(.int (1 : Int32))]) _
    refine XS.istore X15.here hx rfl (hb hby at_523) rfl (l' := (own_L p0 p1 p2 p3 wr dr 1 vwl xa xb xc xd sp sq sa vl (oi 1) (oi (Int32.ofNat kk)) (oi (Int32.ofNat (kk + 2))))) rfl ?_
    exact kt
  exact ⟨T15, _, h0, X15, e15, N15, (Keep.refl h0 []), rfl, fun t kt => c1 _ (c2 _ (st4.trans (c5 _ (c6 _ (c7 _ (c8 _ (st10.trans (c11 _ (c12 _ (c13 _ (st15.trans (c16 _ (c17 _ (kt))))))))))))))⟩
set_option maxRecDepth 65536 in
set_option maxHeartbeats 40000000 in
theorem tF2 {p : Program} {l : Launch} {e : Env} {s : State} {m : MethodId} {args : Array Value} {below : List Frame} {meth : Method} {c : Code} {T0 : State} {locs : List Loc} {Z : State} {a0 : Array Value} {h0 : Heap} {n0 : Nat} (p0 p1 p2 p3 vfl vwl xa xb xc xd : Int32) (dr sp sq sa rb : Addr) (kb : ClassId) (tt : List Int32) (cs : Int32) (fm : Value) (wr vl : Int32) (kk : Nat)
    (X0 : Stand p l e room_1 s m args below meth c T0 locs 28 428) (hx : p.tables.exec = Jvm.exec) (hZ : Z.Warmed39 s.vm) (hw : ∀ d ∈ tables_1, d.before a0 Z = true) (hby : c.code = code) (hml : c.maxLocals = 19) (hown : s.vm.findClass "com/example/emex/emex/read/FileRefusalLinePinLaw" = some m.cls) (e0 : T0.heap = h0) (N0 : Fr n0 locs) (Z0 : n0 ≤ h0.size) (Es : Exa Z h0 sa "java/lang/String") (Fs : Fld Z h0 sa "java/lang/String" "value" "[B" (.ref rb)) (Cs : Fld Z h0 sa "java/lang/String" "coder" "B" (.int (0 : Int32))) (Vs : Arv Z h0 rb kb .byte (Int32.ofNat tt.length) ((tt.map (fun c => c.toInt8.toInt32)).map Value.int) (.int 0)) (SF : Sta Z h0 "jdk/internal/util/Preconditions" "SIOOBE_FORMATTER" "Ljava/util/function/BiFunction;" fm) (hfm : fm.isRef = true) (SC : Sta Z h0 "java/lang/String" "COMPACT_STRINGS" "Z" (.int cs)) (hcs : ¬ cs = (0 : Int32)) (hlt : (kk + 4) < tt.length) (hl2 : tt.length < 512) (hx0 : tt.getD (kk + 1) 0 = xa) (hx1 : tt.getD (kk + 2) 0 = xb) (hx2 : tt.getD (kk + 3) 0 = (58 : Int32)) (hx3 : tt.getD ((kk + 3) + 1) 0 = (32 : Int32)) (hr_xa : own_r xa) (hr_xb : own_r xb) (hr_xc : own_r xc) (hr_xd : own_r xd) (hkk : kk < 100) :
    ∃ (T' : State) (locs' : List Loc) (h' : Heap), Stand p l e room_1 s m args below meth c T' locs' 28 428 ∧ T'.heap = h' ∧ Fr n0 locs' ∧ Keep h0 h' [] ∧ h' = h0 ∧ ∀ t, own_S p e below T' (mkF m 525 (own_L p0 p1 p2 p3 wr dr 2 vwl xa xb xc xd sp sq sa vl (oi 1) (oi (Int32.ofNat kk)) (oi (Int32.ofNat (kk + 3)))) []) t → own_S p e below T0 (mkF m 414 (own_L p0 p1 p2 p3 wr dr 2 vwl xa xb xc xd sp sq sa vl (oi 1) (oi (Int32.ofNat kk)) (.unset)) []) t := by
  have c1 : own_G p e below T0 (mkF m 431 (own_L p0 p1 p2 p3 wr dr 2 vwl xa xb xc xd sp sq sa vl (oi 1) (oi (Int32.ofNat kk)) (.unset)) [(.int ((Int32.ofNat kk) + (1 : Int32))), (.ref sa)]) (mkF m 414 (own_L p0 p1 p2 p3 wr dr 2 vwl xa xb xc xd sp sq sa vl (oi 1) (oi (Int32.ofNat kk)) (.unset)) []) := by
    intro t kt
    show oS T0 (mkF m 414 (own_L p0 p1 p2 p3 wr dr 2 vwl xa xb xc xd sp sq sa vl (oi 1) (oi (Int32.ofNat kk)) (.unset)) []) _
    refine XS.iload X0.here hx rfl (hb hby at_414) rfl ?_
    show oS T0 (mkF m 416 (own_L p0 p1 p2 p3 wr dr 2 vwl xa xb xc xd sp sq sa vl (oi 1) (oi (Int32.ofNat kk)) (.unset)) [(.int (2 : Int32))]) _
    refine XS.iconst X0.here hx rfl (hb hby at_416) ?_
    show oS T0 (mkF m 417 (own_L p0 p1 p2 p3 wr dr 2 vwl xa xb xc xd sp sq sa vl (oi 1) (oi (Int32.ofNat kk)) (.unset)) [(.int (1 : Int32)), (.int (2 : Int32))]) _
    refine XS.icmpNo X0.here hx rfl (hb hby at_417) rfl (flt (by decide : ¬ ((2 : Int32) < (1 : Int32)))).1 ?_
    show oS T0 (mkF m 420 (own_L p0 p1 p2 p3 wr dr 2 vwl xa xb xc xd sp sq sa vl (oi 1) (oi (Int32.ofNat kk)) (.unset)) []) _
    refine XS.iload X0.here hx rfl (hb hby at_420) rfl ?_
    show oS T0 (mkF m 422 (own_L p0 p1 p2 p3 wr dr 2 vwl xa xb xc xd sp sq sa vl (oi 1) (oi (Int32.ofNat kk)) (.unset)) [(.int (1 : Int32))]) _
    refine XS.ifNo X0.here hx rfl (hb hby at_422) rfl ((if0 _ _).trans (feq (by decide : ¬ ((1 : Int32) = (0 : Int32)))).1) ?_
    show oS T0 (mkF m 425 (own_L p0 p1 p2 p3 wr dr 2 vwl xa xb xc xd sp sq sa vl (oi 1) (oi (Int32.ofNat kk)) (.unset)) []) _
    refine XS.aload X0.here hx rfl (hb hby at_425) rfl rfl ?_
    show oS T0 (mkF m 427 (own_L p0 p1 p2 p3 wr dr 2 vwl xa xb xc xd sp sq sa vl (oi 1) (oi (Int32.ofNat kk)) (.unset)) [(.ref sa)]) _
    refine XS.iload X0.here hx rfl (hb hby at_427) rfl ?_
    show oS T0 (mkF m 429 (own_L p0 p1 p2 p3 wr dr 2 vwl xa xb xc xd sp sq sa vl (oi 1) (oi (Int32.ofNat kk)) (.unset)) [(.int (Int32.ofNat kk)), (.ref sa)]) _
    refine XS.iconst X0.here hx rfl (hb hby at_429) ?_
    show oS T0 (mkF m 430 (own_L p0 p1 p2 p3 wr dr 2 vwl xa xb xc xd sp sq sa vl (oi 1) (oi (Int32.ofNat kk)) (.unset)) [(.int (1 : Int32)), (.int (Int32.ofNat kk)), (.ref sa)]) _
    refine XS.iadd X0.here hx rfl (hb hby at_430) rfl ?_
    exact kt
  have c2 : own_G p e below T0 (mkF m 431 (own_L p0 p1 p2 p3 wr dr 2 vwl xa xb xc xd sp sq sa vl (oi 1) (oi (Int32.ofNat kk)) (.unset)) [(.int (Int32.ofNat (kk + 1))), (.ref sa)]) (mkF m 431 (own_L p0 p1 p2 p3 wr dr 2 vwl xa xb xc xd sp sq sa vl (oi 1) (oi (Int32.ofNat kk)) (.unset)) [(.int ((Int32.ofNat kk) + (1 : Int32))), (.ref sa)]) := fun t kt => castTop (congrArg (fun zv => (mkF m 431 (own_L p0 p1 p2 p3 wr dr 2 vwl xa xb xc xd sp sq sa vl (oi 1) (oi (Int32.ofNat kk)) (.unset)) [(.int zv), (.ref sa)])) (show ((Int32.ofNat kk) + (1 : Int32)) = (Int32.ofNat (kk + 1)) from own_add _ 1 (by omega) (by omega))) kt
  obtain ⟨cq3, kq3, q3a, q3b, q3c⟩ := isOf hZ e0 Es
  obtain ⟨_, _, ⟨T4, L4, k4, n4⟩, -, X4, ⟨Lc4, hQ4, l4, y4, z4⟩, st4⟩ := X0.virtualBack hx (y := yy_4) (z := yy_4) hown (mvT hZ (own_t hw 165 rfl)) (mvT hZ (own_t hw 166 rfl)) (notFace_of_selects (args := #[]) (mvT hZ (own_t hw 168 rfl))) (mvT hZ (own_t hw 168 rfl)) (mvT hZ (own_t hw 167 rfl)) (by decide) (backOf (W := 0) (rm31 l Z a0 hw [] sa (Int32.ofNat (kk + 1)) rb kb (Int32.ofNat tt.length) ((tt.map (fun c => c.toInt8.toInt32)).map Value.int) (.int 0) ((tt.getD (kk + 1) 0).toInt8.toInt32) fm cs h0 n0 Z0 Es Fs Vs (own_hi (kk + 1) _ ⟨by omega, by omega⟩) (own_bat tt (kk + 1) ⟨by omega, by omega⟩ _) SF hfm SC hcs Cs) hZ (own_t hw 169 rfl) (own_t hw 9 rfl) (by decide) (by decide)) q3a q3c (g := (mkF m 431 (own_L p0 p1 p2 p3 wr dr 2 vwl xa xb xc xd sp sq sa vl (oi 1) (oi (Int32.ofNat kk)) (.unset)) [(.int (Int32.ofNat (kk + 1))), (.ref sa)])) rfl (by rw [hml]; rfl) (Steps.refl _) (argsL := [(.int (Int32.ofNat (kk + 1)))]) (rest := []) (lenOf pd_28 rfl) rfl (by show 2 * 0 + _ ≤ _; exact Nat.le_of_eq rfl) (hb hby at_431) (fun _ _ => ⟨rfl, e0, (by decide : 28 + 0 ≤ _), (by decide : 428 + 0 ≤ _)⟩)
  dsimp only [Pt.U, Pt.locs, Pt.cells, Pt.slots] at X4 l4 y4 z4 st4 hQ4
  subst l4 y4 z4
  obtain ⟨rfl, N4q, e4⟩ := hQ4
  have N4 := Fr.app N0 N4q
  have c5 : own_G p e below T4 (mkF m 434 (own_L p0 p1 p2 p3 wr dr 2 vwl xa xb xc xd sp sq sa vl (oi 1) (oi (Int32.ofNat kk)) (.unset)) [(.int xa)]) (mkF m 434 (own_L p0 p1 p2 p3 wr dr 2 vwl xa xb xc xd sp sq sa vl (oi 1) (oi (Int32.ofNat kk)) (.unset)) [(.int (own_cc ((tt.getD (kk + 1) 0).toInt8.toInt32)))]) := fun t kt => castTop (congrArg (fun zv => (mkF m 434 (own_L p0 p1 p2 p3 wr dr 2 vwl xa xb xc xd sp sq sa vl (oi 1) (oi (Int32.ofNat kk)) (.unset)) [(.int zv)])) (show (own_cc ((tt.getD (kk + 1) 0).toInt8.toInt32)) = xa from (by rw [hx0]; exact own_ccv _ hr_xa.1 hr_xa.2))) kt
  have c6 : own_G p e below T4 (mkF m 463 (own_L p0 p1 p2 p3 wr dr 2 vwl xa xb xc xd sp sq sa vl (oi 1) (oi (Int32.ofNat kk)) (.unset)) [(.int ((Int32.ofNat kk) + (2 : Int32))), (.ref sa)]) (mkF m 434 (own_L p0 p1 p2 p3 wr dr 2 vwl xa xb xc xd sp sq sa vl (oi 1) (oi (Int32.ofNat kk)) (.unset)) [(.int xa)]) := by
    intro t kt
    show oS T4 (mkF m 434 (own_L p0 p1 p2 p3 wr dr 2 vwl xa xb xc xd sp sq sa vl (oi 1) (oi (Int32.ofNat kk)) (.unset)) [(.int xa)]) _
    refine XS.iload X4.here hx rfl (hb hby at_434) rfl ?_
    show oS T4 (mkF m 436 (own_L p0 p1 p2 p3 wr dr 2 vwl xa xb xc xd sp sq sa vl (oi 1) (oi (Int32.ofNat kk)) (.unset)) [(.int xa), (.int xa)]) _
    refine XS.icmpNo X4.here hx rfl (hb hby at_436) rfl (teq (rfl : xa = xa)).2 ?_
    show oS T4 (mkF m 439 (own_L p0 p1 p2 p3 wr dr 2 vwl xa xb xc xd sp sq sa vl (oi 1) (oi (Int32.ofNat kk)) (.unset)) []) _
    refine XS.iconst X4.here hx rfl (hb hby at_439) ?_
    show oS T4 (mkF m 440 (own_L p0 p1 p2 p3 wr dr 2 vwl xa xb xc xd sp sq sa vl (oi 1) (oi (Int32.ofNat kk)) (.unset)) [(.int (1 : Int32))]) _
    refine XS.goto X4.here hx rfl (pc0 := 440) (pc' := 444) rfl (hb hby at_440) (by decide) (by decide) ?_
    show oS T4 (mkF m 444 (own_L p0 p1 p2 p3 wr dr 2 vwl xa xb xc xd sp sq sa vl (oi 1) (oi (Int32.ofNat kk)) (.unset)) [(.int (1 : Int32))]) _
    refine XS.istore X4.here hx rfl (hb hby at_444) rfl (l' := (own_L p0 p1 p2 p3 wr dr 2 vwl xa xb xc xd sp sq sa vl (oi 1) (oi (Int32.ofNat kk)) (.unset))) rfl ?_
    show oS T4 (mkF m 446 (own_L p0 p1 p2 p3 wr dr 2 vwl xa xb xc xd sp sq sa vl (oi 1) (oi (Int32.ofNat kk)) (.unset)) []) _
    refine XS.iload X4.here hx rfl (hb hby at_446) rfl ?_
    show oS T4 (mkF m 448 (own_L p0 p1 p2 p3 wr dr 2 vwl xa xb xc xd sp sq sa vl (oi 1) (oi (Int32.ofNat kk)) (.unset)) [(.int (2 : Int32))]) _
    refine XS.iconst X4.here hx rfl (hb hby at_448) ?_
    show oS T4 (mkF m 449 (own_L p0 p1 p2 p3 wr dr 2 vwl xa xb xc xd sp sq sa vl (oi 1) (oi (Int32.ofNat kk)) (.unset)) [(.int (2 : Int32)), (.int (2 : Int32))]) _
    refine XS.icmpNo X4.here hx rfl (hb hby at_449) rfl (flt (by decide : ¬ ((2 : Int32) < (2 : Int32)))).1 ?_
    show oS T4 (mkF m 452 (own_L p0 p1 p2 p3 wr dr 2 vwl xa xb xc xd sp sq sa vl (oi 1) (oi (Int32.ofNat kk)) (.unset)) []) _
    refine XS.iload X4.here hx rfl (hb hby at_452) rfl ?_
    show oS T4 (mkF m 454 (own_L p0 p1 p2 p3 wr dr 2 vwl xa xb xc xd sp sq sa vl (oi 1) (oi (Int32.ofNat kk)) (.unset)) [(.int (1 : Int32))]) _
    refine XS.ifNo X4.here hx rfl (hb hby at_454) rfl ((if0 _ _).trans (feq (by decide : ¬ ((1 : Int32) = (0 : Int32)))).1) ?_
    show oS T4 (mkF m 457 (own_L p0 p1 p2 p3 wr dr 2 vwl xa xb xc xd sp sq sa vl (oi 1) (oi (Int32.ofNat kk)) (.unset)) []) _
    refine XS.aload X4.here hx rfl (hb hby at_457) rfl rfl ?_
    show oS T4 (mkF m 459 (own_L p0 p1 p2 p3 wr dr 2 vwl xa xb xc xd sp sq sa vl (oi 1) (oi (Int32.ofNat kk)) (.unset)) [(.ref sa)]) _
    refine XS.iload X4.here hx rfl (hb hby at_459) rfl ?_
    show oS T4 (mkF m 461 (own_L p0 p1 p2 p3 wr dr 2 vwl xa xb xc xd sp sq sa vl (oi 1) (oi (Int32.ofNat kk)) (.unset)) [(.int (Int32.ofNat kk)), (.ref sa)]) _
    refine XS.iconst X4.here hx rfl (hb hby at_461) ?_
    show oS T4 (mkF m 462 (own_L p0 p1 p2 p3 wr dr 2 vwl xa xb xc xd sp sq sa vl (oi 1) (oi (Int32.ofNat kk)) (.unset)) [(.int (2 : Int32)), (.int (Int32.ofNat kk)), (.ref sa)]) _
    refine XS.iadd X4.here hx rfl (hb hby at_462) rfl ?_
    exact kt
  have c7 : own_G p e below T4 (mkF m 463 (own_L p0 p1 p2 p3 wr dr 2 vwl xa xb xc xd sp sq sa vl (oi 1) (oi (Int32.ofNat kk)) (.unset)) [(.int (Int32.ofNat (kk + 2))), (.ref sa)]) (mkF m 463 (own_L p0 p1 p2 p3 wr dr 2 vwl xa xb xc xd sp sq sa vl (oi 1) (oi (Int32.ofNat kk)) (.unset)) [(.int ((Int32.ofNat kk) + (2 : Int32))), (.ref sa)]) := fun t kt => castTop (congrArg (fun zv => (mkF m 463 (own_L p0 p1 p2 p3 wr dr 2 vwl xa xb xc xd sp sq sa vl (oi 1) (oi (Int32.ofNat kk)) (.unset)) [(.int zv), (.ref sa)])) (show ((Int32.ofNat kk) + (2 : Int32)) = (Int32.ofNat (kk + 2)) from own_add _ 2 (by omega) (by omega))) kt
  obtain ⟨cq8, kq8, q8a, q8b, q8c⟩ := isOf hZ e4 Es
  obtain ⟨_, _, ⟨T9, L9, k9, n9⟩, -, X9, ⟨Lc9, hQ9, l9, y9, z9⟩, st9⟩ := X4.virtualBack hx (y := yy_4) (z := yy_4) hown (mvT hZ (own_t hw 165 rfl)) (mvT hZ (own_t hw 166 rfl)) (notFace_of_selects (args := #[]) (mvT hZ (own_t hw 168 rfl))) (mvT hZ (own_t hw 168 rfl)) (mvT hZ (own_t hw 167 rfl)) (by decide) (backOf (W := 0) (rm31 l Z a0 hw [] sa (Int32.ofNat (kk + 2)) rb kb (Int32.ofNat tt.length) ((tt.map (fun c => c.toInt8.toInt32)).map Value.int) (.int 0) ((tt.getD (kk + 2) 0).toInt8.toInt32) fm cs h0 n0 Z0 Es Fs Vs (own_hi (kk + 2) _ ⟨by omega, by omega⟩) (own_bat tt (kk + 2) ⟨by omega, by omega⟩ _) SF hfm SC hcs Cs) hZ (own_t hw 169 rfl) (own_t hw 9 rfl) (by decide) (by decide)) q8a q8c (g := (mkF m 463 (own_L p0 p1 p2 p3 wr dr 2 vwl xa xb xc xd sp sq sa vl (oi 1) (oi (Int32.ofNat kk)) (.unset)) [(.int (Int32.ofNat (kk + 2))), (.ref sa)])) rfl (by rw [hml]; rfl) (Steps.refl _) (argsL := [(.int (Int32.ofNat (kk + 2)))]) (rest := []) (lenOf pd_28 rfl) rfl (by show 2 * 0 + _ ≤ _; exact Nat.le_of_eq rfl) (hb hby at_463) (fun _ _ => ⟨rfl, e4, (by decide : 28 + 0 ≤ _), (by decide : 428 + 0 ≤ _)⟩)
  dsimp only [Pt.U, Pt.locs, Pt.cells, Pt.slots] at X9 l9 y9 z9 st9 hQ9
  subst l9 y9 z9
  obtain ⟨rfl, N9q, e9⟩ := hQ9
  have N9 := Fr.app N4 N9q
  have c10 : own_G p e below T9 (mkF m 466 (own_L p0 p1 p2 p3 wr dr 2 vwl xa xb xc xd sp sq sa vl (oi 1) (oi (Int32.ofNat kk)) (.unset)) [(.int xb)]) (mkF m 466 (own_L p0 p1 p2 p3 wr dr 2 vwl xa xb xc xd sp sq sa vl (oi 1) (oi (Int32.ofNat kk)) (.unset)) [(.int (own_cc ((tt.getD (kk + 2) 0).toInt8.toInt32)))]) := fun t kt => castTop (congrArg (fun zv => (mkF m 466 (own_L p0 p1 p2 p3 wr dr 2 vwl xa xb xc xd sp sq sa vl (oi 1) (oi (Int32.ofNat kk)) (.unset)) [(.int zv)])) (show (own_cc ((tt.getD (kk + 2) 0).toInt8.toInt32)) = xb from (by rw [hx1]; exact own_ccv _ hr_xb.1 hr_xb.2))) kt
  have c11 : own_G p e below T9 (mkF m 485 (own_L p0 p1 p2 p3 wr dr 2 vwl xa xb xc xd sp sq sa vl (oi 1) (oi (Int32.ofNat kk)) (.unset)) [(.int (((Int32.ofNat kk) + (1 : Int32)) + (2 : Int32)))]) (mkF m 466 (own_L p0 p1 p2 p3 wr dr 2 vwl xa xb xc xd sp sq sa vl (oi 1) (oi (Int32.ofNat kk)) (.unset)) [(.int xb)]) := by
    intro t kt
    show oS T9 (mkF m 466 (own_L p0 p1 p2 p3 wr dr 2 vwl xa xb xc xd sp sq sa vl (oi 1) (oi (Int32.ofNat kk)) (.unset)) [(.int xb)]) _
    refine XS.iload X9.here hx rfl (hb hby at_466) rfl ?_
    show oS T9 (mkF m 468 (own_L p0 p1 p2 p3 wr dr 2 vwl xa xb xc xd sp sq sa vl (oi 1) (oi (Int32.ofNat kk)) (.unset)) [(.int xb), (.int xb)]) _
    refine XS.icmpNo X9.here hx rfl (hb hby at_468) rfl (teq (rfl : xb = xb)).2 ?_
    show oS T9 (mkF m 471 (own_L p0 p1 p2 p3 wr dr 2 vwl xa xb xc xd sp sq sa vl (oi 1) (oi (Int32.ofNat kk)) (.unset)) []) _
    refine XS.iconst X9.here hx rfl (hb hby at_471) ?_
    show oS T9 (mkF m 472 (own_L p0 p1 p2 p3 wr dr 2 vwl xa xb xc xd sp sq sa vl (oi 1) (oi (Int32.ofNat kk)) (.unset)) [(.int (1 : Int32))]) _
    refine XS.goto X9.here hx rfl (pc0 := 472) (pc' := 476) rfl (hb hby at_472) (by decide) (by decide) ?_
    show oS T9 (mkF m 476 (own_L p0 p1 p2 p3 wr dr 2 vwl xa xb xc xd sp sq sa vl (oi 1) (oi (Int32.ofNat kk)) (.unset)) [(.int (1 : Int32))]) _
    refine XS.istore X9.here hx rfl (hb hby at_476) rfl (l' := (own_L p0 p1 p2 p3 wr dr 2 vwl xa xb xc xd sp sq sa vl (oi 1) (oi (Int32.ofNat kk)) (.unset))) rfl ?_
    show oS T9 (mkF m 478 (own_L p0 p1 p2 p3 wr dr 2 vwl xa xb xc xd sp sq sa vl (oi 1) (oi (Int32.ofNat kk)) (.unset)) []) _
    refine XS.iload X9.here hx rfl (hb hby at_478) rfl ?_
    show oS T9 (mkF m 480 (own_L p0 p1 p2 p3 wr dr 2 vwl xa xb xc xd sp sq sa vl (oi 1) (oi (Int32.ofNat kk)) (.unset)) [(.int (Int32.ofNat kk))]) _
    refine XS.iconst X9.here hx rfl (hb hby at_480) ?_
    show oS T9 (mkF m 481 (own_L p0 p1 p2 p3 wr dr 2 vwl xa xb xc xd sp sq sa vl (oi 1) (oi (Int32.ofNat kk)) (.unset)) [(.int (1 : Int32)), (.int (Int32.ofNat kk))]) _
    refine XS.iadd X9.here hx rfl (hb hby at_481) rfl ?_
    show oS T9 (mkF m 482 (own_L p0 p1 p2 p3 wr dr 2 vwl xa xb xc xd sp sq sa vl (oi 1) (oi (Int32.ofNat kk)) (.unset)) [(.int ((Int32.ofNat kk) + (1 : Int32)))]) _
    refine XS.iload X9.here hx rfl (hb hby at_482) rfl ?_
    show oS T9 (mkF m 484 (own_L p0 p1 p2 p3 wr dr 2 vwl xa xb xc xd sp sq sa vl (oi 1) (oi (Int32.ofNat kk)) (.unset)) [(.int (2 : Int32)), (.int ((Int32.ofNat kk) + (1 : Int32)))]) _
    refine XS.iadd X9.here hx rfl (hb hby at_484) rfl ?_
    exact kt
  have c12 : own_G p e below T9 (mkF m 485 (own_L p0 p1 p2 p3 wr dr 2 vwl xa xb xc xd sp sq sa vl (oi 1) (oi (Int32.ofNat kk)) (.unset)) [(.int (Int32.ofNat (kk + 3)))]) (mkF m 485 (own_L p0 p1 p2 p3 wr dr 2 vwl xa xb xc xd sp sq sa vl (oi 1) (oi (Int32.ofNat kk)) (.unset)) [(.int (((Int32.ofNat kk) + (1 : Int32)) + (2 : Int32)))]) := fun t kt => castTop (congrArg (fun zv => (mkF m 485 (own_L p0 p1 p2 p3 wr dr 2 vwl xa xb xc xd sp sq sa vl (oi 1) (oi (Int32.ofNat kk)) (.unset)) [(.int zv)])) (show (((Int32.ofNat kk) + (1 : Int32)) + (2 : Int32)) = (Int32.ofNat (kk + 3)) from own_add3 kk 2 hkk (by decide))) kt
  have c13 : own_G p e below T9 (mkF m 496 (own_L p0 p1 p2 p3 wr dr 2 vwl xa xb xc xd sp sq sa vl (oi 1) (oi (Int32.ofNat kk)) (oi (Int32.ofNat (kk + 3)))) [(.int (Int32.ofNat (kk + 3))), (.ref sa)]) (mkF m 485 (own_L p0 p1 p2 p3 wr dr 2 vwl xa xb xc xd sp sq sa vl (oi 1) (oi (Int32.ofNat kk)) (.unset)) [(.int (Int32.ofNat (kk + 3)))]) := by
    intro t kt
    show oS T9 (mkF m 485 (own_L p0 p1 p2 p3 wr dr 2 vwl xa xb xc xd sp sq sa vl (oi 1) (oi (Int32.ofNat kk)) (.unset)) [(.int (Int32.ofNat (kk + 3)))]) _
    refine XS.istore X9.here hx rfl (hb hby at_485) rfl (l' := (own_L p0 p1 p2 p3 wr dr 2 vwl xa xb xc xd sp sq sa vl (oi 1) (oi (Int32.ofNat kk)) (oi (Int32.ofNat (kk + 3))))) rfl ?_
    show oS T9 (mkF m 487 (own_L p0 p1 p2 p3 wr dr 2 vwl xa xb xc xd sp sq sa vl (oi 1) (oi (Int32.ofNat kk)) (oi (Int32.ofNat (kk + 3)))) []) _
    refine XS.iload X9.here hx rfl (hb hby at_487) rfl ?_
    show oS T9 (mkF m 489 (own_L p0 p1 p2 p3 wr dr 2 vwl xa xb xc xd sp sq sa vl (oi 1) (oi (Int32.ofNat kk)) (oi (Int32.ofNat (kk + 3)))) [(.int (1 : Int32))]) _
    refine XS.ifNo X9.here hx rfl (hb hby at_489) rfl ((if0 _ _).trans (feq (by decide : ¬ ((1 : Int32) = (0 : Int32)))).1) ?_
    show oS T9 (mkF m 492 (own_L p0 p1 p2 p3 wr dr 2 vwl xa xb xc xd sp sq sa vl (oi 1) (oi (Int32.ofNat kk)) (oi (Int32.ofNat (kk + 3)))) []) _
    refine XS.aload X9.here hx rfl (hb hby at_492) rfl rfl ?_
    show oS T9 (mkF m 494 (own_L p0 p1 p2 p3 wr dr 2 vwl xa xb xc xd sp sq sa vl (oi 1) (oi (Int32.ofNat kk)) (oi (Int32.ofNat (kk + 3)))) [(.ref sa)]) _
    refine XS.iload X9.here hx rfl (hb hby at_494) rfl ?_
    exact kt
  obtain ⟨cq14, kq14, q14a, q14b, q14c⟩ := isOf hZ e9 Es
  obtain ⟨_, _, ⟨T15, L15, k15, n15⟩, -, X15, ⟨Lc15, hQ15, l15, y15, z15⟩, st15⟩ := X9.virtualBack hx (y := yy_4) (z := yy_4) hown (mvT hZ (own_t hw 165 rfl)) (mvT hZ (own_t hw 166 rfl)) (notFace_of_selects (args := #[]) (mvT hZ (own_t hw 168 rfl))) (mvT hZ (own_t hw 168 rfl)) (mvT hZ (own_t hw 167 rfl)) (by decide) (backOf (W := 0) (rm31 l Z a0 hw [] sa (Int32.ofNat (kk + 3)) rb kb (Int32.ofNat tt.length) ((tt.map (fun c => c.toInt8.toInt32)).map Value.int) (.int 0) ((tt.getD (kk + 3) 0).toInt8.toInt32) fm cs h0 n0 Z0 Es Fs Vs (own_hi (kk + 3) _ ⟨by omega, by omega⟩) (own_bat tt (kk + 3) ⟨by omega, by omega⟩ _) SF hfm SC hcs Cs) hZ (own_t hw 169 rfl) (own_t hw 9 rfl) (by decide) (by decide)) q14a q14c (g := (mkF m 496 (own_L p0 p1 p2 p3 wr dr 2 vwl xa xb xc xd sp sq sa vl (oi 1) (oi (Int32.ofNat kk)) (oi (Int32.ofNat (kk + 3)))) [(.int (Int32.ofNat (kk + 3))), (.ref sa)])) rfl (by rw [hml]; rfl) (Steps.refl _) (argsL := [(.int (Int32.ofNat (kk + 3)))]) (rest := []) (lenOf pd_28 rfl) rfl (by show 2 * 0 + _ ≤ _; exact Nat.le_of_eq rfl) (hb hby at_496) (fun _ _ => ⟨rfl, e9, (by decide : 28 + 0 ≤ _), (by decide : 428 + 0 ≤ _)⟩)
  dsimp only [Pt.U, Pt.locs, Pt.cells, Pt.slots] at X15 l15 y15 z15 st15 hQ15
  subst l15 y15 z15
  obtain ⟨rfl, N15q, e15⟩ := hQ15
  have N15 := Fr.app N9 N15q
  have c16 : own_G p e below T15 (mkF m 499 (own_L p0 p1 p2 p3 wr dr 2 vwl xa xb xc xd sp sq sa vl (oi 1) (oi (Int32.ofNat kk)) (oi (Int32.ofNat (kk + 3)))) [(.int (58 : Int32))]) (mkF m 499 (own_L p0 p1 p2 p3 wr dr 2 vwl xa xb xc xd sp sq sa vl (oi 1) (oi (Int32.ofNat kk)) (oi (Int32.ofNat (kk + 3)))) [(.int (own_cc ((tt.getD (kk + 3) 0).toInt8.toInt32)))]) := fun t kt => castTop (congrArg (fun zv => (mkF m 499 (own_L p0 p1 p2 p3 wr dr 2 vwl xa xb xc xd sp sq sa vl (oi 1) (oi (Int32.ofNat kk)) (oi (Int32.ofNat (kk + 3)))) [(.int zv)])) (show (own_cc ((tt.getD (kk + 3) 0).toInt8.toInt32)) = (58 : Int32) from (by rw [hx2]; exact by decide))) kt
  have c17 : own_G p e below T15 (mkF m 510 (own_L p0 p1 p2 p3 wr dr 2 vwl xa xb xc xd sp sq sa vl (oi 1) (oi (Int32.ofNat kk)) (oi (Int32.ofNat (kk + 3)))) [(.int ((Int32.ofNat (kk + 3)) + (1 : Int32))), (.ref sa)]) (mkF m 499 (own_L p0 p1 p2 p3 wr dr 2 vwl xa xb xc xd sp sq sa vl (oi 1) (oi (Int32.ofNat kk)) (oi (Int32.ofNat (kk + 3)))) [(.int (58 : Int32))]) := by
    intro t kt
    show oS T15 (mkF m 499 (own_L p0 p1 p2 p3 wr dr 2 vwl xa xb xc xd sp sq sa vl (oi 1) (oi (Int32.ofNat kk)) (oi (Int32.ofNat (kk + 3)))) [(.int (58 : Int32))]) _
    refine XS.bipush X15.here hx rfl (hb hby at_499) ?_
    show oS T15 (mkF m 501 (own_L p0 p1 p2 p3 wr dr 2 vwl xa xb xc xd sp sq sa vl (oi 1) (oi (Int32.ofNat kk)) (oi (Int32.ofNat (kk + 3)))) [(.int (58 : Int32)), (.int (58 : Int32))]) _
    refine XS.icmpNo X15.here hx rfl (hb hby at_501) rfl (teq (by decide : (58 : Int32) = (58 : Int32))).2 ?_
    show oS T15 (mkF m 504 (own_L p0 p1 p2 p3 wr dr 2 vwl xa xb xc xd sp sq sa vl (oi 1) (oi (Int32.ofNat kk)) (oi (Int32.ofNat (kk + 3)))) []) _
    refine XS.aload X15.here hx rfl (hb hby at_504) rfl rfl ?_
    show oS T15 (mkF m 506 (own_L p0 p1 p2 p3 wr dr 2 vwl xa xb xc xd sp sq sa vl (oi 1) (oi (Int32.ofNat kk)) (oi (Int32.ofNat (kk + 3)))) [(.ref sa)]) _
    refine XS.iload X15.here hx rfl (hb hby at_506) rfl ?_
    show oS T15 (mkF m 508 (own_L p0 p1 p2 p3 wr dr 2 vwl xa xb xc xd sp sq sa vl (oi 1) (oi (Int32.ofNat kk)) (oi (Int32.ofNat (kk + 3)))) [(.int (Int32.ofNat (kk + 3))), (.ref sa)]) _
    refine XS.iconst X15.here hx rfl (hb hby at_508) ?_
    show oS T15 (mkF m 509 (own_L p0 p1 p2 p3 wr dr 2 vwl xa xb xc xd sp sq sa vl (oi 1) (oi (Int32.ofNat kk)) (oi (Int32.ofNat (kk + 3)))) [(.int (1 : Int32)), (.int (Int32.ofNat (kk + 3))), (.ref sa)]) _
    refine XS.iadd X15.here hx rfl (hb hby at_509) rfl ?_
    exact kt
  have c18 : own_G p e below T15 (mkF m 510 (own_L p0 p1 p2 p3 wr dr 2 vwl xa xb xc xd sp sq sa vl (oi 1) (oi (Int32.ofNat kk)) (oi (Int32.ofNat (kk + 3)))) [(.int (Int32.ofNat ((kk + 3) + 1))), (.ref sa)]) (mkF m 510 (own_L p0 p1 p2 p3 wr dr 2 vwl xa xb xc xd sp sq sa vl (oi 1) (oi (Int32.ofNat kk)) (oi (Int32.ofNat (kk + 3)))) [(.int ((Int32.ofNat (kk + 3)) + (1 : Int32))), (.ref sa)]) := fun t kt => castTop (congrArg (fun zv => (mkF m 510 (own_L p0 p1 p2 p3 wr dr 2 vwl xa xb xc xd sp sq sa vl (oi 1) (oi (Int32.ofNat kk)) (oi (Int32.ofNat (kk + 3)))) [(.int zv), (.ref sa)])) (show ((Int32.ofNat (kk + 3)) + (1 : Int32)) = (Int32.ofNat ((kk + 3) + 1)) from own_add _ 1 (by omega) (by omega))) kt
  obtain ⟨cq19, kq19, q19a, q19b, q19c⟩ := isOf hZ e15 Es
  obtain ⟨_, _, ⟨T20, L20, k20, n20⟩, -, X20, ⟨Lc20, hQ20, l20, y20, z20⟩, st20⟩ := X15.virtualBack hx (y := yy_4) (z := yy_4) hown (mvT hZ (own_t hw 165 rfl)) (mvT hZ (own_t hw 166 rfl)) (notFace_of_selects (args := #[]) (mvT hZ (own_t hw 168 rfl))) (mvT hZ (own_t hw 168 rfl)) (mvT hZ (own_t hw 167 rfl)) (by decide) (backOf (W := 0) (rm31 l Z a0 hw [] sa (Int32.ofNat ((kk + 3) + 1)) rb kb (Int32.ofNat tt.length) ((tt.map (fun c => c.toInt8.toInt32)).map Value.int) (.int 0) ((tt.getD ((kk + 3) + 1) 0).toInt8.toInt32) fm cs h0 n0 Z0 Es Fs Vs (own_hi ((kk + 3) + 1) _ ⟨by omega, by omega⟩) (own_bat tt ((kk + 3) + 1) ⟨by omega, by omega⟩ _) SF hfm SC hcs Cs) hZ (own_t hw 169 rfl) (own_t hw 9 rfl) (by decide) (by decide)) q19a q19c (g := (mkF m 510 (own_L p0 p1 p2 p3 wr dr 2 vwl xa xb xc xd sp sq sa vl (oi 1) (oi (Int32.ofNat kk)) (oi (Int32.ofNat (kk + 3)))) [(.int (Int32.ofNat ((kk + 3) + 1))), (.ref sa)])) rfl (by rw [hml]; rfl) (Steps.refl _) (argsL := [(.int (Int32.ofNat ((kk + 3) + 1)))]) (rest := []) (lenOf pd_28 rfl) rfl (by show 2 * 0 + _ ≤ _; exact Nat.le_of_eq rfl) (hb hby at_510) (fun _ _ => ⟨rfl, e15, (by decide : 28 + 0 ≤ _), (by decide : 428 + 0 ≤ _)⟩)
  dsimp only [Pt.U, Pt.locs, Pt.cells, Pt.slots] at X20 l20 y20 z20 st20 hQ20
  subst l20 y20 z20
  obtain ⟨rfl, N20q, e20⟩ := hQ20
  have N20 := Fr.app N15 N20q
  have c21 : own_G p e below T20 (mkF m 513 (own_L p0 p1 p2 p3 wr dr 2 vwl xa xb xc xd sp sq sa vl (oi 1) (oi (Int32.ofNat kk)) (oi (Int32.ofNat (kk + 3)))) [(.int (32 : Int32))]) (mkF m 513 (own_L p0 p1 p2 p3 wr dr 2 vwl xa xb xc xd sp sq sa vl (oi 1) (oi (Int32.ofNat kk)) (oi (Int32.ofNat (kk + 3)))) [(.int (own_cc ((tt.getD ((kk + 3) + 1) 0).toInt8.toInt32)))]) := fun t kt => castTop (congrArg (fun zv => (mkF m 513 (own_L p0 p1 p2 p3 wr dr 2 vwl xa xb xc xd sp sq sa vl (oi 1) (oi (Int32.ofNat kk)) (oi (Int32.ofNat (kk + 3)))) [(.int zv)])) (show (own_cc ((tt.getD ((kk + 3) + 1) 0).toInt8.toInt32)) = (32 : Int32) from (by rw [hx3]; exact by decide))) kt
  have c22 : own_G p e below T20 (mkF m 525 (own_L p0 p1 p2 p3 wr dr 2 vwl xa xb xc xd sp sq sa vl (oi 1) (oi (Int32.ofNat kk)) (oi (Int32.ofNat (kk + 3)))) []) (mkF m 513 (own_L p0 p1 p2 p3 wr dr 2 vwl xa xb xc xd sp sq sa vl (oi 1) (oi (Int32.ofNat kk)) (oi (Int32.ofNat (kk + 3)))) [(.int (32 : Int32))]) := by
    intro t kt
    show oS T20 (mkF m 513 (own_L p0 p1 p2 p3 wr dr 2 vwl xa xb xc xd sp sq sa vl (oi 1) (oi (Int32.ofNat kk)) (oi (Int32.ofNat (kk + 3)))) [(.int (32 : Int32))]) _
    refine XS.bipush X20.here hx rfl (hb hby at_513) ?_
    show oS T20 (mkF m 515 (own_L p0 p1 p2 p3 wr dr 2 vwl xa xb xc xd sp sq sa vl (oi 1) (oi (Int32.ofNat kk)) (oi (Int32.ofNat (kk + 3)))) [(.int (32 : Int32)), (.int (32 : Int32))]) _
    refine XS.icmpNo X20.here hx rfl (hb hby at_515) rfl (teq (by decide : (32 : Int32) = (32 : Int32))).2 ?_
    show oS T20 (mkF m 518 (own_L p0 p1 p2 p3 wr dr 2 vwl xa xb xc xd sp sq sa vl (oi 1) (oi (Int32.ofNat kk)) (oi (Int32.ofNat (kk + 3)))) []) _
    refine XS.iconst X20.here hx rfl (hb hby at_518) ?_
    show oS T20 (mkF m 519 (own_L p0 p1 p2 p3 wr dr 2 vwl xa xb xc xd sp sq sa vl (oi 1) (oi (Int32.ofNat kk)) (oi (Int32.ofNat (kk + 3)))) [(.int (1 : Int32))]) _
    refine XS.goto X20.here hx rfl (pc0 := 519) (pc' := 523) rfl (hb hby at_519) (by decide) (by decide) ?_
    show oS T20 (mkF m 523 (own_L p0 p1 p2 p3 wr dr 2 vwl xa xb xc xd sp sq sa vl (oi 1) (oi (Int32.ofNat kk)) (oi (Int32.ofNat (kk + 3)))) [(.int (1 : Int32))]) _
    refine XS.istore X20.here hx rfl (hb hby at_523) rfl (l' := (own_L p0 p1 p2 p3 wr dr 2 vwl xa xb xc xd sp sq sa vl (oi 1) (oi (Int32.ofNat kk)) (oi (Int32.ofNat (kk + 3))))) rfl ?_
    exact kt
  exact ⟨T20, _, h0, X20, e20, N20, (Keep.refl h0 []), rfl, fun t kt => c1 _ (c2 _ (st4.trans (c5 _ (c6 _ (c7 _ (st9.trans (c10 _ (c11 _ (c12 _ (c13 _ (st15.trans (c16 _ (c17 _ (c18 _ (st20.trans (c21 _ (c22 _ (kt))))))))))))))))))⟩
set_option maxRecDepth 65536 in
set_option maxHeartbeats 40000000 in
theorem tBw {p : Program} {l : Launch} {e : Env} {s : State} {m : MethodId} {args : Array Value} {below : List Frame} {meth : Method} {c : Code} {T0 : State} {locs : List Loc} {Z : State} {a0 : Array Value} {h0 : Heap} {n0 : Nat} (p0 p1 p2 p3 vfl vwl xa xb xc xd : Int32) (dr sp sq sa rb : Addr) (kb : ClassId) (tt : List Int32) (cs : Int32) (fm : Value)
    (X0 : Stand p l e room_1 s m args below meth c T0 locs 28 428) (hx : p.tables.exec = Jvm.exec) (hZ : Z.Warmed39 s.vm) (hw : ∀ d ∈ tables_1, d.before a0 Z = true) (hby : c.code = code) (hml : c.maxLocals = 19) (hown : s.vm.findClass "com/example/emex/emex/read/FileRefusalLinePinLaw" = some m.cls) (e0 : T0.heap = h0) (N0 : Fr n0 locs) (Z0 : n0 ≤ h0.size) (Es : Exa Z h0 sa "java/lang/String") (Fs : Fld Z h0 sa "java/lang/String" "value" "[B" (.ref rb)) (Cs : Fld Z h0 sa "java/lang/String" "coder" "B" (.int (0 : Int32))) (Vs : Arv Z h0 rb kb .byte (Int32.ofNat tt.length) ((tt.map (fun c => c.toInt8.toInt32)).map Value.int) (.int 0)) (SF : Sta Z h0 "jdk/internal/util/Preconditions" "SIOOBE_FORMATTER" "Ljava/util/function/BiFunction;" fm) (hfm : fm.isRef = true) (SC : Sta Z h0 "java/lang/String" "COMPACT_STRINGS" "Z" (.int cs)) (hcs : ¬ cs = (0 : Int32)) (hlt : 12 < tt.length) (hl2 : tt.length < 512) (hx0 : tt.getD 7 0 = (119 : Int32)) (hx1 : tt.getD 8 0 = (114 : Int32)) (hx2 : tt.getD 9 0 = (105 : Int32)) (hx3 : tt.getD 10 0 = (116 : Int32)) (hx4 : tt.getD 11 0 = (101 : Int32)) (hx5 : tt.getD 12 0 = (32 : Int32)) (hr_xa : own_r xa) (hr_xb : own_r xb) (hr_xc : own_r xc) (hr_xd : own_r xd) :
    ∃ (T' : State) (locs' : List Loc) (h' : Heap), Stand p l e room_1 s m args below meth c T' locs' 28 428 ∧ T'.heap = h' ∧ Fr n0 locs' ∧ Keep h0 h' [] ∧ h' = h0 ∧ ∀ t, own_S p e below T' (mkF m 414 (own_L p0 p1 p2 p3 1 dr vfl vwl xa xb xc xd sp sq sa 5 (oi 1) (oi 12) (.unset)) []) t → own_S p e below T0 (mkF m 243 (own_L p0 p1 p2 p3 1 dr vfl vwl xa xb xc xd sp sq sa 5 (oi 1) (.unset) (.unset)) []) t := by
  have c1 : own_G p e below T0 (mkF m 257 (own_L p0 p1 p2 p3 1 dr vfl vwl xa xb xc xd sp sq sa 5 (oi 1) (.unset) (.unset)) [(.int (7 : Int32)), (.ref sa)]) (mkF m 243 (own_L p0 p1 p2 p3 1 dr vfl vwl xa xb xc xd sp sq sa 5 (oi 1) (.unset) (.unset)) []) := by
    intro t kt
    show oS T0 (mkF m 243 (own_L p0 p1 p2 p3 1 dr vfl vwl xa xb xc xd sp sq sa 5 (oi 1) (.unset) (.unset)) []) _
    refine XS.iload X0.here hx rfl (hb hby at_243) rfl ?_
    show oS T0 (mkF m 245 (own_L p0 p1 p2 p3 1 dr vfl vwl xa xb xc xd sp sq sa 5 (oi 1) (.unset) (.unset)) [(.int (1 : Int32))]) _
    refine XS.ifNo X0.here hx rfl (hb hby at_245) rfl ((if0 _ _).trans (feq (by decide : ¬ ((1 : Int32) = (0 : Int32)))).1) ?_
    show oS T0 (mkF m 248 (own_L p0 p1 p2 p3 1 dr vfl vwl xa xb xc xd sp sq sa 5 (oi 1) (.unset) (.unset)) []) _
    refine XS.iload X0.here hx rfl (hb hby at_248) rfl ?_
    show oS T0 (mkF m 250 (own_L p0 p1 p2 p3 1 dr vfl vwl xa xb xc xd sp sq sa 5 (oi 1) (.unset) (.unset)) [(.int (1 : Int32))]) _
    refine XS.ifNo X0.here hx rfl (hb hby at_250) rfl ((if0 _ _).trans (feq (by decide : ¬ ((1 : Int32) = (0 : Int32)))).1) ?_
    show oS T0 (mkF m 253 (own_L p0 p1 p2 p3 1 dr vfl vwl xa xb xc xd sp sq sa 5 (oi 1) (.unset) (.unset)) []) _
    refine XS.aload X0.here hx rfl (hb hby at_253) rfl rfl ?_
    show oS T0 (mkF m 255 (own_L p0 p1 p2 p3 1 dr vfl vwl xa xb xc xd sp sq sa 5 (oi 1) (.unset) (.unset)) [(.ref sa)]) _
    refine XS.bipush X0.here hx rfl (hb hby at_255) ?_
    exact kt
  obtain ⟨cq2, kq2, q2a, q2b, q2c⟩ := isOf hZ e0 Es
  obtain ⟨_, _, ⟨T3, L3, k3, n3⟩, -, X3, ⟨Lc3, hQ3, l3, y3, z3⟩, st3⟩ := X0.virtualBack hx (y := yy_4) (z := yy_4) hown (mvT hZ (own_t hw 165 rfl)) (mvT hZ (own_t hw 166 rfl)) (notFace_of_selects (args := #[]) (mvT hZ (own_t hw 168 rfl))) (mvT hZ (own_t hw 168 rfl)) (mvT hZ (own_t hw 167 rfl)) (by decide) (backOf (W := 0) (rm31 l Z a0 hw [] sa (7 : Int32) rb kb (Int32.ofNat tt.length) ((tt.map (fun c => c.toInt8.toInt32)).map Value.int) (.int 0) ((tt.getD 7 0).toInt8.toInt32) fm cs h0 n0 Z0 Es Fs Vs (own_hi 7 _ ⟨by omega, by omega⟩) (own_bat tt 7 ⟨by omega, by omega⟩ _) SF hfm SC hcs Cs) hZ (own_t hw 169 rfl) (own_t hw 9 rfl) (by decide) (by decide)) q2a q2c (g := (mkF m 257 (own_L p0 p1 p2 p3 1 dr vfl vwl xa xb xc xd sp sq sa 5 (oi 1) (.unset) (.unset)) [(.int (7 : Int32)), (.ref sa)])) rfl (by rw [hml]; rfl) (Steps.refl _) (argsL := [(.int (7 : Int32))]) (rest := []) (lenOf pd_28 rfl) rfl (by show 2 * 0 + _ ≤ _; exact Nat.le_of_eq rfl) (hb hby at_257) (fun _ _ => ⟨rfl, e0, (by decide : 28 + 0 ≤ _), (by decide : 428 + 0 ≤ _)⟩)
  dsimp only [Pt.U, Pt.locs, Pt.cells, Pt.slots] at X3 l3 y3 z3 st3 hQ3
  subst l3 y3 z3
  obtain ⟨rfl, N3q, e3⟩ := hQ3
  have N3 := Fr.app N0 N3q
  have c4 : own_G p e below T3 (mkF m 260 (own_L p0 p1 p2 p3 1 dr vfl vwl xa xb xc xd sp sq sa 5 (oi 1) (.unset) (.unset)) [(.int (119 : Int32))]) (mkF m 260 (own_L p0 p1 p2 p3 1 dr vfl vwl xa xb xc xd sp sq sa 5 (oi 1) (.unset) (.unset)) [(.int (own_cc ((tt.getD 7 0).toInt8.toInt32)))]) := fun t kt => castTop (congrArg (fun zv => (mkF m 260 (own_L p0 p1 p2 p3 1 dr vfl vwl xa xb xc xd sp sq sa 5 (oi 1) (.unset) (.unset)) [(.int zv)])) (show (own_cc ((tt.getD 7 0).toInt8.toInt32)) = (119 : Int32) from (by rw [hx0]; exact by decide))) kt
  have c5 : own_G p e below T3 (mkF m 269 (own_L p0 p1 p2 p3 1 dr vfl vwl xa xb xc xd sp sq sa 5 (oi 1) (.unset) (.unset)) [(.int (8 : Int32)), (.ref sa)]) (mkF m 260 (own_L p0 p1 p2 p3 1 dr vfl vwl xa xb xc xd sp sq sa 5 (oi 1) (.unset) (.unset)) [(.int (119 : Int32))]) := by
    intro t kt
    show oS T3 (mkF m 260 (own_L p0 p1 p2 p3 1 dr vfl vwl xa xb xc xd sp sq sa 5 (oi 1) (.unset) (.unset)) [(.int (119 : Int32))]) _
    refine XS.bipush X3.here hx rfl (hb hby at_260) ?_
    show oS T3 (mkF m 262 (own_L p0 p1 p2 p3 1 dr vfl vwl xa xb xc xd sp sq sa 5 (oi 1) (.unset) (.unset)) [(.int (119 : Int32)), (.int (119 : Int32))]) _
    refine XS.icmpNo X3.here hx rfl (hb hby at_262) rfl (teq (by decide : (119 : Int32) = (119 : Int32))).2 ?_
    show oS T3 (mkF m 265 (own_L p0 p1 p2 p3 1 dr vfl vwl xa xb xc xd sp sq sa 5 (oi 1) (.unset) (.unset)) []) _
    refine XS.aload X3.here hx rfl (hb hby at_265) rfl rfl ?_
    show oS T3 (mkF m 267 (own_L p0 p1 p2 p3 1 dr vfl vwl xa xb xc xd sp sq sa 5 (oi 1) (.unset) (.unset)) [(.ref sa)]) _
    refine XS.bipush X3.here hx rfl (hb hby at_267) ?_
    exact kt
  obtain ⟨cq6, kq6, q6a, q6b, q6c⟩ := isOf hZ e3 Es
  obtain ⟨_, _, ⟨T7, L7, k7, n7⟩, -, X7, ⟨Lc7, hQ7, l7, y7, z7⟩, st7⟩ := X3.virtualBack hx (y := yy_4) (z := yy_4) hown (mvT hZ (own_t hw 165 rfl)) (mvT hZ (own_t hw 166 rfl)) (notFace_of_selects (args := #[]) (mvT hZ (own_t hw 168 rfl))) (mvT hZ (own_t hw 168 rfl)) (mvT hZ (own_t hw 167 rfl)) (by decide) (backOf (W := 0) (rm31 l Z a0 hw [] sa (8 : Int32) rb kb (Int32.ofNat tt.length) ((tt.map (fun c => c.toInt8.toInt32)).map Value.int) (.int 0) ((tt.getD 8 0).toInt8.toInt32) fm cs h0 n0 Z0 Es Fs Vs (own_hi 8 _ ⟨by omega, by omega⟩) (own_bat tt 8 ⟨by omega, by omega⟩ _) SF hfm SC hcs Cs) hZ (own_t hw 169 rfl) (own_t hw 9 rfl) (by decide) (by decide)) q6a q6c (g := (mkF m 269 (own_L p0 p1 p2 p3 1 dr vfl vwl xa xb xc xd sp sq sa 5 (oi 1) (.unset) (.unset)) [(.int (8 : Int32)), (.ref sa)])) rfl (by rw [hml]; rfl) (Steps.refl _) (argsL := [(.int (8 : Int32))]) (rest := []) (lenOf pd_28 rfl) rfl (by show 2 * 0 + _ ≤ _; exact Nat.le_of_eq rfl) (hb hby at_269) (fun _ _ => ⟨rfl, e3, (by decide : 28 + 0 ≤ _), (by decide : 428 + 0 ≤ _)⟩)
  dsimp only [Pt.U, Pt.locs, Pt.cells, Pt.slots] at X7 l7 y7 z7 st7 hQ7
  subst l7 y7 z7
  obtain ⟨rfl, N7q, e7⟩ := hQ7
  have N7 := Fr.app N3 N7q
  have c8 : own_G p e below T7 (mkF m 272 (own_L p0 p1 p2 p3 1 dr vfl vwl xa xb xc xd sp sq sa 5 (oi 1) (.unset) (.unset)) [(.int (114 : Int32))]) (mkF m 272 (own_L p0 p1 p2 p3 1 dr vfl vwl xa xb xc xd sp sq sa 5 (oi 1) (.unset) (.unset)) [(.int (own_cc ((tt.getD 8 0).toInt8.toInt32)))]) := fun t kt => castTop (congrArg (fun zv => (mkF m 272 (own_L p0 p1 p2 p3 1 dr vfl vwl xa xb xc xd sp sq sa 5 (oi 1) (.unset) (.unset)) [(.int zv)])) (show (own_cc ((tt.getD 8 0).toInt8.toInt32)) = (114 : Int32) from (by rw [hx1]; exact by decide))) kt
  have c9 : own_G p e below T7 (mkF m 281 (own_L p0 p1 p2 p3 1 dr vfl vwl xa xb xc xd sp sq sa 5 (oi 1) (.unset) (.unset)) [(.int (9 : Int32)), (.ref sa)]) (mkF m 272 (own_L p0 p1 p2 p3 1 dr vfl vwl xa xb xc xd sp sq sa 5 (oi 1) (.unset) (.unset)) [(.int (114 : Int32))]) := by
    intro t kt
    show oS T7 (mkF m 272 (own_L p0 p1 p2 p3 1 dr vfl vwl xa xb xc xd sp sq sa 5 (oi 1) (.unset) (.unset)) [(.int (114 : Int32))]) _
    refine XS.bipush X7.here hx rfl (hb hby at_272) ?_
    show oS T7 (mkF m 274 (own_L p0 p1 p2 p3 1 dr vfl vwl xa xb xc xd sp sq sa 5 (oi 1) (.unset) (.unset)) [(.int (114 : Int32)), (.int (114 : Int32))]) _
    refine XS.icmpNo X7.here hx rfl (hb hby at_274) rfl (teq (by decide : (114 : Int32) = (114 : Int32))).2 ?_
    show oS T7 (mkF m 277 (own_L p0 p1 p2 p3 1 dr vfl vwl xa xb xc xd sp sq sa 5 (oi 1) (.unset) (.unset)) []) _
    refine XS.aload X7.here hx rfl (hb hby at_277) rfl rfl ?_
    show oS T7 (mkF m 279 (own_L p0 p1 p2 p3 1 dr vfl vwl xa xb xc xd sp sq sa 5 (oi 1) (.unset) (.unset)) [(.ref sa)]) _
    refine XS.bipush X7.here hx rfl (hb hby at_279) ?_
    exact kt
  obtain ⟨cq10, kq10, q10a, q10b, q10c⟩ := isOf hZ e7 Es
  obtain ⟨_, _, ⟨T11, L11, k11, n11⟩, -, X11, ⟨Lc11, hQ11, l11, y11, z11⟩, st11⟩ := X7.virtualBack hx (y := yy_4) (z := yy_4) hown (mvT hZ (own_t hw 165 rfl)) (mvT hZ (own_t hw 166 rfl)) (notFace_of_selects (args := #[]) (mvT hZ (own_t hw 168 rfl))) (mvT hZ (own_t hw 168 rfl)) (mvT hZ (own_t hw 167 rfl)) (by decide) (backOf (W := 0) (rm31 l Z a0 hw [] sa (9 : Int32) rb kb (Int32.ofNat tt.length) ((tt.map (fun c => c.toInt8.toInt32)).map Value.int) (.int 0) ((tt.getD 9 0).toInt8.toInt32) fm cs h0 n0 Z0 Es Fs Vs (own_hi 9 _ ⟨by omega, by omega⟩) (own_bat tt 9 ⟨by omega, by omega⟩ _) SF hfm SC hcs Cs) hZ (own_t hw 169 rfl) (own_t hw 9 rfl) (by decide) (by decide)) q10a q10c (g := (mkF m 281 (own_L p0 p1 p2 p3 1 dr vfl vwl xa xb xc xd sp sq sa 5 (oi 1) (.unset) (.unset)) [(.int (9 : Int32)), (.ref sa)])) rfl (by rw [hml]; rfl) (Steps.refl _) (argsL := [(.int (9 : Int32))]) (rest := []) (lenOf pd_28 rfl) rfl (by show 2 * 0 + _ ≤ _; exact Nat.le_of_eq rfl) (hb hby at_281) (fun _ _ => ⟨rfl, e7, (by decide : 28 + 0 ≤ _), (by decide : 428 + 0 ≤ _)⟩)
  dsimp only [Pt.U, Pt.locs, Pt.cells, Pt.slots] at X11 l11 y11 z11 st11 hQ11
  subst l11 y11 z11
  obtain ⟨rfl, N11q, e11⟩ := hQ11
  have N11 := Fr.app N7 N11q
  have c12 : own_G p e below T11 (mkF m 284 (own_L p0 p1 p2 p3 1 dr vfl vwl xa xb xc xd sp sq sa 5 (oi 1) (.unset) (.unset)) [(.int (105 : Int32))]) (mkF m 284 (own_L p0 p1 p2 p3 1 dr vfl vwl xa xb xc xd sp sq sa 5 (oi 1) (.unset) (.unset)) [(.int (own_cc ((tt.getD 9 0).toInt8.toInt32)))]) := fun t kt => castTop (congrArg (fun zv => (mkF m 284 (own_L p0 p1 p2 p3 1 dr vfl vwl xa xb xc xd sp sq sa 5 (oi 1) (.unset) (.unset)) [(.int zv)])) (show (own_cc ((tt.getD 9 0).toInt8.toInt32)) = (105 : Int32) from (by rw [hx2]; exact by decide))) kt
  have c13 : own_G p e below T11 (mkF m 293 (own_L p0 p1 p2 p3 1 dr vfl vwl xa xb xc xd sp sq sa 5 (oi 1) (.unset) (.unset)) [(.int (10 : Int32)), (.ref sa)]) (mkF m 284 (own_L p0 p1 p2 p3 1 dr vfl vwl xa xb xc xd sp sq sa 5 (oi 1) (.unset) (.unset)) [(.int (105 : Int32))]) := by
    intro t kt
    show oS T11 (mkF m 284 (own_L p0 p1 p2 p3 1 dr vfl vwl xa xb xc xd sp sq sa 5 (oi 1) (.unset) (.unset)) [(.int (105 : Int32))]) _
    refine XS.bipush X11.here hx rfl (hb hby at_284) ?_
    show oS T11 (mkF m 286 (own_L p0 p1 p2 p3 1 dr vfl vwl xa xb xc xd sp sq sa 5 (oi 1) (.unset) (.unset)) [(.int (105 : Int32)), (.int (105 : Int32))]) _
    refine XS.icmpNo X11.here hx rfl (hb hby at_286) rfl (teq (by decide : (105 : Int32) = (105 : Int32))).2 ?_
    show oS T11 (mkF m 289 (own_L p0 p1 p2 p3 1 dr vfl vwl xa xb xc xd sp sq sa 5 (oi 1) (.unset) (.unset)) []) _
    refine XS.aload X11.here hx rfl (hb hby at_289) rfl rfl ?_
    show oS T11 (mkF m 291 (own_L p0 p1 p2 p3 1 dr vfl vwl xa xb xc xd sp sq sa 5 (oi 1) (.unset) (.unset)) [(.ref sa)]) _
    refine XS.bipush X11.here hx rfl (hb hby at_291) ?_
    exact kt
  obtain ⟨cq14, kq14, q14a, q14b, q14c⟩ := isOf hZ e11 Es
  obtain ⟨_, _, ⟨T15, L15, k15, n15⟩, -, X15, ⟨Lc15, hQ15, l15, y15, z15⟩, st15⟩ := X11.virtualBack hx (y := yy_4) (z := yy_4) hown (mvT hZ (own_t hw 165 rfl)) (mvT hZ (own_t hw 166 rfl)) (notFace_of_selects (args := #[]) (mvT hZ (own_t hw 168 rfl))) (mvT hZ (own_t hw 168 rfl)) (mvT hZ (own_t hw 167 rfl)) (by decide) (backOf (W := 0) (rm31 l Z a0 hw [] sa (10 : Int32) rb kb (Int32.ofNat tt.length) ((tt.map (fun c => c.toInt8.toInt32)).map Value.int) (.int 0) ((tt.getD 10 0).toInt8.toInt32) fm cs h0 n0 Z0 Es Fs Vs (own_hi 10 _ ⟨by omega, by omega⟩) (own_bat tt 10 ⟨by omega, by omega⟩ _) SF hfm SC hcs Cs) hZ (own_t hw 169 rfl) (own_t hw 9 rfl) (by decide) (by decide)) q14a q14c (g := (mkF m 293 (own_L p0 p1 p2 p3 1 dr vfl vwl xa xb xc xd sp sq sa 5 (oi 1) (.unset) (.unset)) [(.int (10 : Int32)), (.ref sa)])) rfl (by rw [hml]; rfl) (Steps.refl _) (argsL := [(.int (10 : Int32))]) (rest := []) (lenOf pd_28 rfl) rfl (by show 2 * 0 + _ ≤ _; exact Nat.le_of_eq rfl) (hb hby at_293) (fun _ _ => ⟨rfl, e11, (by decide : 28 + 0 ≤ _), (by decide : 428 + 0 ≤ _)⟩)
  dsimp only [Pt.U, Pt.locs, Pt.cells, Pt.slots] at X15 l15 y15 z15 st15 hQ15
  subst l15 y15 z15
  obtain ⟨rfl, N15q, e15⟩ := hQ15
  have N15 := Fr.app N11 N15q
  have c16 : own_G p e below T15 (mkF m 296 (own_L p0 p1 p2 p3 1 dr vfl vwl xa xb xc xd sp sq sa 5 (oi 1) (.unset) (.unset)) [(.int (116 : Int32))]) (mkF m 296 (own_L p0 p1 p2 p3 1 dr vfl vwl xa xb xc xd sp sq sa 5 (oi 1) (.unset) (.unset)) [(.int (own_cc ((tt.getD 10 0).toInt8.toInt32)))]) := fun t kt => castTop (congrArg (fun zv => (mkF m 296 (own_L p0 p1 p2 p3 1 dr vfl vwl xa xb xc xd sp sq sa 5 (oi 1) (.unset) (.unset)) [(.int zv)])) (show (own_cc ((tt.getD 10 0).toInt8.toInt32)) = (116 : Int32) from (by rw [hx3]; exact by decide))) kt
  have c17 : own_G p e below T15 (mkF m 305 (own_L p0 p1 p2 p3 1 dr vfl vwl xa xb xc xd sp sq sa 5 (oi 1) (.unset) (.unset)) [(.int (11 : Int32)), (.ref sa)]) (mkF m 296 (own_L p0 p1 p2 p3 1 dr vfl vwl xa xb xc xd sp sq sa 5 (oi 1) (.unset) (.unset)) [(.int (116 : Int32))]) := by
    intro t kt
    show oS T15 (mkF m 296 (own_L p0 p1 p2 p3 1 dr vfl vwl xa xb xc xd sp sq sa 5 (oi 1) (.unset) (.unset)) [(.int (116 : Int32))]) _
    refine XS.bipush X15.here hx rfl (hb hby at_296) ?_
    show oS T15 (mkF m 298 (own_L p0 p1 p2 p3 1 dr vfl vwl xa xb xc xd sp sq sa 5 (oi 1) (.unset) (.unset)) [(.int (116 : Int32)), (.int (116 : Int32))]) _
    refine XS.icmpNo X15.here hx rfl (hb hby at_298) rfl (teq (by decide : (116 : Int32) = (116 : Int32))).2 ?_
    show oS T15 (mkF m 301 (own_L p0 p1 p2 p3 1 dr vfl vwl xa xb xc xd sp sq sa 5 (oi 1) (.unset) (.unset)) []) _
    refine XS.aload X15.here hx rfl (hb hby at_301) rfl rfl ?_
    show oS T15 (mkF m 303 (own_L p0 p1 p2 p3 1 dr vfl vwl xa xb xc xd sp sq sa 5 (oi 1) (.unset) (.unset)) [(.ref sa)]) _
    refine XS.bipush X15.here hx rfl (hb hby at_303) ?_
    exact kt
  obtain ⟨cq18, kq18, q18a, q18b, q18c⟩ := isOf hZ e15 Es
  obtain ⟨_, _, ⟨T19, L19, k19, n19⟩, -, X19, ⟨Lc19, hQ19, l19, y19, z19⟩, st19⟩ := X15.virtualBack hx (y := yy_4) (z := yy_4) hown (mvT hZ (own_t hw 165 rfl)) (mvT hZ (own_t hw 166 rfl)) (notFace_of_selects (args := #[]) (mvT hZ (own_t hw 168 rfl))) (mvT hZ (own_t hw 168 rfl)) (mvT hZ (own_t hw 167 rfl)) (by decide) (backOf (W := 0) (rm31 l Z a0 hw [] sa (11 : Int32) rb kb (Int32.ofNat tt.length) ((tt.map (fun c => c.toInt8.toInt32)).map Value.int) (.int 0) ((tt.getD 11 0).toInt8.toInt32) fm cs h0 n0 Z0 Es Fs Vs (own_hi 11 _ ⟨by omega, by omega⟩) (own_bat tt 11 ⟨by omega, by omega⟩ _) SF hfm SC hcs Cs) hZ (own_t hw 169 rfl) (own_t hw 9 rfl) (by decide) (by decide)) q18a q18c (g := (mkF m 305 (own_L p0 p1 p2 p3 1 dr vfl vwl xa xb xc xd sp sq sa 5 (oi 1) (.unset) (.unset)) [(.int (11 : Int32)), (.ref sa)])) rfl (by rw [hml]; rfl) (Steps.refl _) (argsL := [(.int (11 : Int32))]) (rest := []) (lenOf pd_28 rfl) rfl (by show 2 * 0 + _ ≤ _; exact Nat.le_of_eq rfl) (hb hby at_305) (fun _ _ => ⟨rfl, e15, (by decide : 28 + 0 ≤ _), (by decide : 428 + 0 ≤ _)⟩)
  dsimp only [Pt.U, Pt.locs, Pt.cells, Pt.slots] at X19 l19 y19 z19 st19 hQ19
  subst l19 y19 z19
  obtain ⟨rfl, N19q, e19⟩ := hQ19
  have N19 := Fr.app N15 N19q
  have c20 : own_G p e below T19 (mkF m 308 (own_L p0 p1 p2 p3 1 dr vfl vwl xa xb xc xd sp sq sa 5 (oi 1) (.unset) (.unset)) [(.int (101 : Int32))]) (mkF m 308 (own_L p0 p1 p2 p3 1 dr vfl vwl xa xb xc xd sp sq sa 5 (oi 1) (.unset) (.unset)) [(.int (own_cc ((tt.getD 11 0).toInt8.toInt32)))]) := fun t kt => castTop (congrArg (fun zv => (mkF m 308 (own_L p0 p1 p2 p3 1 dr vfl vwl xa xb xc xd sp sq sa 5 (oi 1) (.unset) (.unset)) [(.int zv)])) (show (own_cc ((tt.getD 11 0).toInt8.toInt32)) = (101 : Int32) from (by rw [hx4]; exact by decide))) kt
  have c21 : own_G p e below T19 (mkF m 388 (own_L p0 p1 p2 p3 1 dr vfl vwl xa xb xc xd sp sq sa 5 (oi 1) (.unset) (.unset)) [(.int ((7 : Int32) + (5 : Int32)))]) (mkF m 308 (own_L p0 p1 p2 p3 1 dr vfl vwl xa xb xc xd sp sq sa 5 (oi 1) (.unset) (.unset)) [(.int (101 : Int32))]) := by
    intro t kt
    show oS T19 (mkF m 308 (own_L p0 p1 p2 p3 1 dr vfl vwl xa xb xc xd sp sq sa 5 (oi 1) (.unset) (.unset)) [(.int (101 : Int32))]) _
    refine XS.bipush X19.here hx rfl (hb hby at_308) ?_
    show oS T19 (mkF m 310 (own_L p0 p1 p2 p3 1 dr vfl vwl xa xb xc xd sp sq sa 5 (oi 1) (.unset) (.unset)) [(.int (101 : Int32)), (.int (101 : Int32))]) _
    refine XS.icmpNo X19.here hx rfl (hb hby at_310) rfl (teq (by decide : (101 : Int32) = (101 : Int32))).2 ?_
    show oS T19 (mkF m 313 (own_L p0 p1 p2 p3 1 dr vfl vwl xa xb xc xd sp sq sa 5 (oi 1) (.unset) (.unset)) []) _
    refine XS.iconst X19.here hx rfl (hb hby at_313) ?_
    show oS T19 (mkF m 314 (own_L p0 p1 p2 p3 1 dr vfl vwl xa xb xc xd sp sq sa 5 (oi 1) (.unset) (.unset)) [(.int (1 : Int32))]) _
    refine XS.goto X19.here hx rfl (pc0 := 314) (pc' := 318) rfl (hb hby at_314) (by decide) (by decide) ?_
    show oS T19 (mkF m 318 (own_L p0 p1 p2 p3 1 dr vfl vwl xa xb xc xd sp sq sa 5 (oi 1) (.unset) (.unset)) [(.int (1 : Int32))]) _
    refine XS.istore X19.here hx rfl (hb hby at_318) rfl (l' := (own_L p0 p1 p2 p3 1 dr vfl vwl xa xb xc xd sp sq sa 5 (oi 1) (.unset) (.unset))) rfl ?_
    show oS T19 (mkF m 320 (own_L p0 p1 p2 p3 1 dr vfl vwl xa xb xc xd sp sq sa 5 (oi 1) (.unset) (.unset)) []) _
    refine XS.goto X19.here hx rfl (pc0 := 320) (pc' := 383) rfl (hb hby at_320) (by decide) (by decide) ?_
    show oS T19 (mkF m 383 (own_L p0 p1 p2 p3 1 dr vfl vwl xa xb xc xd sp sq sa 5 (oi 1) (.unset) (.unset)) []) _
    refine XS.bipush X19.here hx rfl (hb hby at_383) ?_
    show oS T19 (mkF m 385 (own_L p0 p1 p2 p3 1 dr vfl vwl xa xb xc xd sp sq sa 5 (oi 1) (.unset) (.unset)) [(.int (7 : Int32))]) _
    refine XS.iload X19.here hx rfl (hb hby at_385) rfl ?_
    show oS T19 (mkF m 387 (own_L p0 p1 p2 p3 1 dr vfl vwl xa xb xc xd sp sq sa 5 (oi 1) (.unset) (.unset)) [(.int (5 : Int32)), (.int (7 : Int32))]) _
    refine XS.iadd X19.here hx rfl (hb hby at_387) rfl ?_
    exact kt
  have c22 : own_G p e below T19 (mkF m 388 (own_L p0 p1 p2 p3 1 dr vfl vwl xa xb xc xd sp sq sa 5 (oi 1) (.unset) (.unset)) [(.int (12 : Int32))]) (mkF m 388 (own_L p0 p1 p2 p3 1 dr vfl vwl xa xb xc xd sp sq sa 5 (oi 1) (.unset) (.unset)) [(.int ((7 : Int32) + (5 : Int32)))]) := fun t kt => castTop (congrArg (fun zv => (mkF m 388 (own_L p0 p1 p2 p3 1 dr vfl vwl xa xb xc xd sp sq sa 5 (oi 1) (.unset) (.unset)) [(.int zv)])) (show ((7 : Int32) + (5 : Int32)) = (12 : Int32) from by decide)) kt
  have c23 : own_G p e below T19 (mkF m 399 (own_L p0 p1 p2 p3 1 dr vfl vwl xa xb xc xd sp sq sa 5 (oi 1) (oi 12) (.unset)) [(.int (12 : Int32)), (.ref sa)]) (mkF m 388 (own_L p0 p1 p2 p3 1 dr vfl vwl xa xb xc xd sp sq sa 5 (oi 1) (.unset) (.unset)) [(.int (12 : Int32))]) := by
    intro t kt
    show oS T19 (mkF m 388 (own_L p0 p1 p2 p3 1 dr vfl vwl xa xb xc xd sp sq sa 5 (oi 1) (.unset) (.unset)) [(.int (12 : Int32))]) _
    refine XS.istore X19.here hx rfl (hb hby at_388) rfl (l' := (own_L p0 p1 p2 p3 1 dr vfl vwl xa xb xc xd sp sq sa 5 (oi 1) (oi 12) (.unset))) rfl ?_
    show oS T19 (mkF m 390 (own_L p0 p1 p2 p3 1 dr vfl vwl xa xb xc xd sp sq sa 5 (oi 1) (oi 12) (.unset)) []) _
    refine XS.iload X19.here hx rfl (hb hby at_390) rfl ?_
    show oS T19 (mkF m 392 (own_L p0 p1 p2 p3 1 dr vfl vwl xa xb xc xd sp sq sa 5 (oi 1) (oi 12) (.unset)) [(.int (1 : Int32))]) _
    refine XS.ifNo X19.here hx rfl (hb hby at_392) rfl ((if0 _ _).trans (feq (by decide : ¬ ((1 : Int32) = (0 : Int32)))).1) ?_
    show oS T19 (mkF m 395 (own_L p0 p1 p2 p3 1 dr vfl vwl xa xb xc xd sp sq sa 5 (oi 1) (oi 12) (.unset)) []) _
    refine XS.aload X19.here hx rfl (hb hby at_395) rfl rfl ?_
    show oS T19 (mkF m 397 (own_L p0 p1 p2 p3 1 dr vfl vwl xa xb xc xd sp sq sa 5 (oi 1) (oi 12) (.unset)) [(.ref sa)]) _
    refine XS.iload X19.here hx rfl (hb hby at_397) rfl ?_
    exact kt
  obtain ⟨cq24, kq24, q24a, q24b, q24c⟩ := isOf hZ e19 Es
  obtain ⟨_, _, ⟨T25, L25, k25, n25⟩, -, X25, ⟨Lc25, hQ25, l25, y25, z25⟩, st25⟩ := X19.virtualBack hx (y := yy_4) (z := yy_4) hown (mvT hZ (own_t hw 165 rfl)) (mvT hZ (own_t hw 166 rfl)) (notFace_of_selects (args := #[]) (mvT hZ (own_t hw 168 rfl))) (mvT hZ (own_t hw 168 rfl)) (mvT hZ (own_t hw 167 rfl)) (by decide) (backOf (W := 0) (rm31 l Z a0 hw [] sa (12 : Int32) rb kb (Int32.ofNat tt.length) ((tt.map (fun c => c.toInt8.toInt32)).map Value.int) (.int 0) ((tt.getD 12 0).toInt8.toInt32) fm cs h0 n0 Z0 Es Fs Vs (own_hi 12 _ ⟨by omega, by omega⟩) (own_bat tt 12 ⟨by omega, by omega⟩ _) SF hfm SC hcs Cs) hZ (own_t hw 169 rfl) (own_t hw 9 rfl) (by decide) (by decide)) q24a q24c (g := (mkF m 399 (own_L p0 p1 p2 p3 1 dr vfl vwl xa xb xc xd sp sq sa 5 (oi 1) (oi 12) (.unset)) [(.int (12 : Int32)), (.ref sa)])) rfl (by rw [hml]; rfl) (Steps.refl _) (argsL := [(.int (12 : Int32))]) (rest := []) (lenOf pd_28 rfl) rfl (by show 2 * 0 + _ ≤ _; exact Nat.le_of_eq rfl) (hb hby at_399) (fun _ _ => ⟨rfl, e19, (by decide : 28 + 0 ≤ _), (by decide : 428 + 0 ≤ _)⟩)
  dsimp only [Pt.U, Pt.locs, Pt.cells, Pt.slots] at X25 l25 y25 z25 st25 hQ25
  subst l25 y25 z25
  obtain ⟨rfl, N25q, e25⟩ := hQ25
  have N25 := Fr.app N19 N25q
  have c26 : own_G p e below T25 (mkF m 402 (own_L p0 p1 p2 p3 1 dr vfl vwl xa xb xc xd sp sq sa 5 (oi 1) (oi 12) (.unset)) [(.int (32 : Int32))]) (mkF m 402 (own_L p0 p1 p2 p3 1 dr vfl vwl xa xb xc xd sp sq sa 5 (oi 1) (oi 12) (.unset)) [(.int (own_cc ((tt.getD 12 0).toInt8.toInt32)))]) := fun t kt => castTop (congrArg (fun zv => (mkF m 402 (own_L p0 p1 p2 p3 1 dr vfl vwl xa xb xc xd sp sq sa 5 (oi 1) (oi 12) (.unset)) [(.int zv)])) (show (own_cc ((tt.getD 12 0).toInt8.toInt32)) = (32 : Int32) from (by rw [hx5]; exact by decide))) kt
  have c27 : own_G p e below T25 (mkF m 414 (own_L p0 p1 p2 p3 1 dr vfl vwl xa xb xc xd sp sq sa 5 (oi 1) (oi 12) (.unset)) []) (mkF m 402 (own_L p0 p1 p2 p3 1 dr vfl vwl xa xb xc xd sp sq sa 5 (oi 1) (oi 12) (.unset)) [(.int (32 : Int32))]) := by
    intro t kt
    show oS T25 (mkF m 402 (own_L p0 p1 p2 p3 1 dr vfl vwl xa xb xc xd sp sq sa 5 (oi 1) (oi 12) (.unset)) [(.int (32 : Int32))]) _
    refine XS.bipush X25.here hx rfl (hb hby at_402) ?_
    show oS T25 (mkF m 404 (own_L p0 p1 p2 p3 1 dr vfl vwl xa xb xc xd sp sq sa 5 (oi 1) (oi 12) (.unset)) [(.int (32 : Int32)), (.int (32 : Int32))]) _
    refine XS.icmpNo X25.here hx rfl (hb hby at_404) rfl (teq (by decide : (32 : Int32) = (32 : Int32))).2 ?_
    show oS T25 (mkF m 407 (own_L p0 p1 p2 p3 1 dr vfl vwl xa xb xc xd sp sq sa 5 (oi 1) (oi 12) (.unset)) []) _
    refine XS.iconst X25.here hx rfl (hb hby at_407) ?_
    show oS T25 (mkF m 408 (own_L p0 p1 p2 p3 1 dr vfl vwl xa xb xc xd sp sq sa 5 (oi 1) (oi 12) (.unset)) [(.int (1 : Int32))]) _
    refine XS.goto X25.here hx rfl (pc0 := 408) (pc' := 412) rfl (hb hby at_408) (by decide) (by decide) ?_
    show oS T25 (mkF m 412 (own_L p0 p1 p2 p3 1 dr vfl vwl xa xb xc xd sp sq sa 5 (oi 1) (oi 12) (.unset)) [(.int (1 : Int32))]) _
    refine XS.istore X25.here hx rfl (hb hby at_412) rfl (l' := (own_L p0 p1 p2 p3 1 dr vfl vwl xa xb xc xd sp sq sa 5 (oi 1) (oi 12) (.unset))) rfl ?_
    exact kt
  exact ⟨T25, _, h0, X25, e25, N25, (Keep.refl h0 []), rfl, fun t kt => c1 _ (st3.trans (c4 _ (c5 _ (st7.trans (c8 _ (c9 _ (st11.trans (c12 _ (c13 _ (st15.trans (c16 _ (c17 _ (st19.trans (c20 _ (c21 _ (c22 _ (c23 _ (st25.trans (c26 _ (c27 _ (kt)))))))))))))))))))))⟩
set_option maxRecDepth 65536 in
set_option maxHeartbeats 40000000 in
theorem tBr {p : Program} {l : Launch} {e : Env} {s : State} {m : MethodId} {args : Array Value} {below : List Frame} {meth : Method} {c : Code} {T0 : State} {locs : List Loc} {Z : State} {a0 : Array Value} {h0 : Heap} {n0 : Nat} (p0 p1 p2 p3 vfl vwl xa xb xc xd : Int32) (dr sp sq sa rb : Addr) (kb : ClassId) (tt : List Int32) (cs : Int32) (fm : Value)
    (X0 : Stand p l e room_1 s m args below meth c T0 locs 28 428) (hx : p.tables.exec = Jvm.exec) (hZ : Z.Warmed39 s.vm) (hw : ∀ d ∈ tables_1, d.before a0 Z = true) (hby : c.code = code) (hml : c.maxLocals = 19) (hown : s.vm.findClass "com/example/emex/emex/read/FileRefusalLinePinLaw" = some m.cls) (e0 : T0.heap = h0) (N0 : Fr n0 locs) (Z0 : n0 ≤ h0.size) (Es : Exa Z h0 sa "java/lang/String") (Fs : Fld Z h0 sa "java/lang/String" "value" "[B" (.ref rb)) (Cs : Fld Z h0 sa "java/lang/String" "coder" "B" (.int (0 : Int32))) (Vs : Arv Z h0 rb kb .byte (Int32.ofNat tt.length) ((tt.map (fun c => c.toInt8.toInt32)).map Value.int) (.int 0)) (SF : Sta Z h0 "jdk/internal/util/Preconditions" "SIOOBE_FORMATTER" "Ljava/util/function/BiFunction;" fm) (hfm : fm.isRef = true) (SC : Sta Z h0 "java/lang/String" "COMPACT_STRINGS" "Z" (.int cs)) (hcs : ¬ cs = (0 : Int32)) (hlt : 11 < tt.length) (hl2 : tt.length < 512) (hx0 : tt.getD 7 0 = (114 : Int32)) (hx1 : tt.getD 8 0 = (101 : Int32)) (hx2 : tt.getD 9 0 = (97 : Int32)) (hx3 : tt.getD 10 0 = (100 : Int32)) (hx4 : tt.getD 11 0 = (32 : Int32)) (hr_xa : own_r xa) (hr_xb : own_r xb) (hr_xc : own_r xc) (hr_xd : own_r xd) :
    ∃ (T' : State) (locs' : List Loc) (h' : Heap), Stand p l e room_1 s m args below meth c T' locs' 28 428 ∧ T'.heap = h' ∧ Fr n0 locs' ∧ Keep h0 h' [] ∧ h' = h0 ∧ ∀ t, own_S p e below T' (mkF m 414 (own_L p0 p1 p2 p3 0 dr vfl vwl xa xb xc xd sp sq sa 4 (oi 1) (oi 11) (.unset)) []) t → own_S p e below T0 (mkF m 243 (own_L p0 p1 p2 p3 0 dr vfl vwl xa xb xc xd sp sq sa 4 (oi 1) (.unset) (.unset)) []) t := by
  have c1 : own_G p e below T0 (mkF m 332 (own_L p0 p1 p2 p3 0 dr vfl vwl xa xb xc xd sp sq sa 4 (oi 1) (.unset) (.unset)) [(.int (7 : Int32)), (.ref sa)]) (mkF m 243 (own_L p0 p1 p2 p3 0 dr vfl vwl xa xb xc xd sp sq sa 4 (oi 1) (.unset) (.unset)) []) := by
    intro t kt
    show oS T0 (mkF m 243 (own_L p0 p1 p2 p3 0 dr vfl vwl xa xb xc xd sp sq sa 4 (oi 1) (.unset) (.unset)) []) _
    refine XS.iload X0.here hx rfl (hb hby at_243) rfl ?_
    show oS T0 (mkF m 245 (own_L p0 p1 p2 p3 0 dr vfl vwl xa xb xc xd sp sq sa 4 (oi 1) (.unset) (.unset)) [(.int (0 : Int32))]) _
    refine XS.ifYes X0.here hx rfl (pc0 := 245) (pc' := 323) rfl (hb hby at_245) rfl ((if0 _ _).trans (teq (by decide : (0 : Int32) = (0 : Int32))).1) (by decide) (by decide) ?_
    show oS T0 (mkF m 323 (own_L p0 p1 p2 p3 0 dr vfl vwl xa xb xc xd sp sq sa 4 (oi 1) (.unset) (.unset)) []) _
    refine XS.iload X0.here hx rfl (hb hby at_323) rfl ?_
    show oS T0 (mkF m 325 (own_L p0 p1 p2 p3 0 dr vfl vwl xa xb xc xd sp sq sa 4 (oi 1) (.unset) (.unset)) [(.int (1 : Int32))]) _
    refine XS.ifNo X0.here hx rfl (hb hby at_325) rfl ((if0 _ _).trans (feq (by decide : ¬ ((1 : Int32) = (0 : Int32)))).1) ?_
    show oS T0 (mkF m 328 (own_L p0 p1 p2 p3 0 dr vfl vwl xa xb xc xd sp sq sa 4 (oi 1) (.unset) (.unset)) []) _
    refine XS.aload X0.here hx rfl (hb hby at_328) rfl rfl ?_
    show oS T0 (mkF m 330 (own_L p0 p1 p2 p3 0 dr vfl vwl xa xb xc xd sp sq sa 4 (oi 1) (.unset) (.unset)) [(.ref sa)]) _
    refine XS.bipush X0.here hx rfl (hb hby at_330) ?_
    exact kt
  obtain ⟨cq2, kq2, q2a, q2b, q2c⟩ := isOf hZ e0 Es
  obtain ⟨_, _, ⟨T3, L3, k3, n3⟩, -, X3, ⟨Lc3, hQ3, l3, y3, z3⟩, st3⟩ := X0.virtualBack hx (y := yy_4) (z := yy_4) hown (mvT hZ (own_t hw 165 rfl)) (mvT hZ (own_t hw 166 rfl)) (notFace_of_selects (args := #[]) (mvT hZ (own_t hw 168 rfl))) (mvT hZ (own_t hw 168 rfl)) (mvT hZ (own_t hw 167 rfl)) (by decide) (backOf (W := 0) (rm31 l Z a0 hw [] sa (7 : Int32) rb kb (Int32.ofNat tt.length) ((tt.map (fun c => c.toInt8.toInt32)).map Value.int) (.int 0) ((tt.getD 7 0).toInt8.toInt32) fm cs h0 n0 Z0 Es Fs Vs (own_hi 7 _ ⟨by omega, by omega⟩) (own_bat tt 7 ⟨by omega, by omega⟩ _) SF hfm SC hcs Cs) hZ (own_t hw 169 rfl) (own_t hw 9 rfl) (by decide) (by decide)) q2a q2c (g := (mkF m 332 (own_L p0 p1 p2 p3 0 dr vfl vwl xa xb xc xd sp sq sa 4 (oi 1) (.unset) (.unset)) [(.int (7 : Int32)), (.ref sa)])) rfl (by rw [hml]; rfl) (Steps.refl _) (argsL := [(.int (7 : Int32))]) (rest := []) (lenOf pd_28 rfl) rfl (by show 2 * 0 + _ ≤ _; exact Nat.le_of_eq rfl) (hb hby at_332) (fun _ _ => ⟨rfl, e0, (by decide : 28 + 0 ≤ _), (by decide : 428 + 0 ≤ _)⟩)
  dsimp only [Pt.U, Pt.locs, Pt.cells, Pt.slots] at X3 l3 y3 z3 st3 hQ3
  subst l3 y3 z3
  obtain ⟨rfl, N3q, e3⟩ := hQ3
  have N3 := Fr.app N0 N3q
  have c4 : own_G p e below T3 (mkF m 335 (own_L p0 p1 p2 p3 0 dr vfl vwl xa xb xc xd sp sq sa 4 (oi 1) (.unset) (.unset)) [(.int (114 : Int32))]) (mkF m 335 (own_L p0 p1 p2 p3 0 dr vfl vwl xa xb xc xd sp sq sa 4 (oi 1) (.unset) (.unset)) [(.int (own_cc ((tt.getD 7 0).toInt8.toInt32)))]) := fun t kt => castTop (congrArg (fun zv => (mkF m 335 (own_L p0 p1 p2 p3 0 dr vfl vwl xa xb xc xd sp sq sa 4 (oi 1) (.unset) (.unset)) [(.int zv)])) (show (own_cc ((tt.getD 7 0).toInt8.toInt32)) = (114 : Int32) from (by rw [hx0]; exact by decide))) kt
  have c5 : own_G p e below T3 (mkF m 344 (own_L p0 p1 p2 p3 0 dr vfl vwl xa xb xc xd sp sq sa 4 (oi 1) (.unset) (.unset)) [(.int (8 : Int32)), (.ref sa)]) (mkF m 335 (own_L p0 p1 p2 p3 0 dr vfl vwl xa xb xc xd sp sq sa 4 (oi 1) (.unset) (.unset)) [(.int (114 : Int32))]) := by
    intro t kt
    show oS T3 (mkF m 335 (own_L p0 p1 p2 p3 0 dr vfl vwl xa xb xc xd sp sq sa 4 (oi 1) (.unset) (.unset)) [(.int (114 : Int32))]) _
    refine XS.bipush X3.here hx rfl (hb hby at_335) ?_
    show oS T3 (mkF m 337 (own_L p0 p1 p2 p3 0 dr vfl vwl xa xb xc xd sp sq sa 4 (oi 1) (.unset) (.unset)) [(.int (114 : Int32)), (.int (114 : Int32))]) _
    refine XS.icmpNo X3.here hx rfl (hb hby at_337) rfl (teq (by decide : (114 : Int32) = (114 : Int32))).2 ?_
    show oS T3 (mkF m 340 (own_L p0 p1 p2 p3 0 dr vfl vwl xa xb xc xd sp sq sa 4 (oi 1) (.unset) (.unset)) []) _
    refine XS.aload X3.here hx rfl (hb hby at_340) rfl rfl ?_
    show oS T3 (mkF m 342 (own_L p0 p1 p2 p3 0 dr vfl vwl xa xb xc xd sp sq sa 4 (oi 1) (.unset) (.unset)) [(.ref sa)]) _
    refine XS.bipush X3.here hx rfl (hb hby at_342) ?_
    exact kt
  obtain ⟨cq6, kq6, q6a, q6b, q6c⟩ := isOf hZ e3 Es
  obtain ⟨_, _, ⟨T7, L7, k7, n7⟩, -, X7, ⟨Lc7, hQ7, l7, y7, z7⟩, st7⟩ := X3.virtualBack hx (y := yy_4) (z := yy_4) hown (mvT hZ (own_t hw 165 rfl)) (mvT hZ (own_t hw 166 rfl)) (notFace_of_selects (args := #[]) (mvT hZ (own_t hw 168 rfl))) (mvT hZ (own_t hw 168 rfl)) (mvT hZ (own_t hw 167 rfl)) (by decide) (backOf (W := 0) (rm31 l Z a0 hw [] sa (8 : Int32) rb kb (Int32.ofNat tt.length) ((tt.map (fun c => c.toInt8.toInt32)).map Value.int) (.int 0) ((tt.getD 8 0).toInt8.toInt32) fm cs h0 n0 Z0 Es Fs Vs (own_hi 8 _ ⟨by omega, by omega⟩) (own_bat tt 8 ⟨by omega, by omega⟩ _) SF hfm SC hcs Cs) hZ (own_t hw 169 rfl) (own_t hw 9 rfl) (by decide) (by decide)) q6a q6c (g := (mkF m 344 (own_L p0 p1 p2 p3 0 dr vfl vwl xa xb xc xd sp sq sa 4 (oi 1) (.unset) (.unset)) [(.int (8 : Int32)), (.ref sa)])) rfl (by rw [hml]; rfl) (Steps.refl _) (argsL := [(.int (8 : Int32))]) (rest := []) (lenOf pd_28 rfl) rfl (by show 2 * 0 + _ ≤ _; exact Nat.le_of_eq rfl) (hb hby at_344) (fun _ _ => ⟨rfl, e3, (by decide : 28 + 0 ≤ _), (by decide : 428 + 0 ≤ _)⟩)
  dsimp only [Pt.U, Pt.locs, Pt.cells, Pt.slots] at X7 l7 y7 z7 st7 hQ7
  subst l7 y7 z7
  obtain ⟨rfl, N7q, e7⟩ := hQ7
  have N7 := Fr.app N3 N7q
  have c8 : own_G p e below T7 (mkF m 347 (own_L p0 p1 p2 p3 0 dr vfl vwl xa xb xc xd sp sq sa 4 (oi 1) (.unset) (.unset)) [(.int (101 : Int32))]) (mkF m 347 (own_L p0 p1 p2 p3 0 dr vfl vwl xa xb xc xd sp sq sa 4 (oi 1) (.unset) (.unset)) [(.int (own_cc ((tt.getD 8 0).toInt8.toInt32)))]) := fun t kt => castTop (congrArg (fun zv => (mkF m 347 (own_L p0 p1 p2 p3 0 dr vfl vwl xa xb xc xd sp sq sa 4 (oi 1) (.unset) (.unset)) [(.int zv)])) (show (own_cc ((tt.getD 8 0).toInt8.toInt32)) = (101 : Int32) from (by rw [hx1]; exact by decide))) kt
  have c9 : own_G p e below T7 (mkF m 356 (own_L p0 p1 p2 p3 0 dr vfl vwl xa xb xc xd sp sq sa 4 (oi 1) (.unset) (.unset)) [(.int (9 : Int32)), (.ref sa)]) (mkF m 347 (own_L p0 p1 p2 p3 0 dr vfl vwl xa xb xc xd sp sq sa 4 (oi 1) (.unset) (.unset)) [(.int (101 : Int32))]) := by
    intro t kt
    show oS T7 (mkF m 347 (own_L p0 p1 p2 p3 0 dr vfl vwl xa xb xc xd sp sq sa 4 (oi 1) (.unset) (.unset)) [(.int (101 : Int32))]) _
    refine XS.bipush X7.here hx rfl (hb hby at_347) ?_
    show oS T7 (mkF m 349 (own_L p0 p1 p2 p3 0 dr vfl vwl xa xb xc xd sp sq sa 4 (oi 1) (.unset) (.unset)) [(.int (101 : Int32)), (.int (101 : Int32))]) _
    refine XS.icmpNo X7.here hx rfl (hb hby at_349) rfl (teq (by decide : (101 : Int32) = (101 : Int32))).2 ?_
    show oS T7 (mkF m 352 (own_L p0 p1 p2 p3 0 dr vfl vwl xa xb xc xd sp sq sa 4 (oi 1) (.unset) (.unset)) []) _
    refine XS.aload X7.here hx rfl (hb hby at_352) rfl rfl ?_
    show oS T7 (mkF m 354 (own_L p0 p1 p2 p3 0 dr vfl vwl xa xb xc xd sp sq sa 4 (oi 1) (.unset) (.unset)) [(.ref sa)]) _
    refine XS.bipush X7.here hx rfl (hb hby at_354) ?_
    exact kt
  obtain ⟨cq10, kq10, q10a, q10b, q10c⟩ := isOf hZ e7 Es
  obtain ⟨_, _, ⟨T11, L11, k11, n11⟩, -, X11, ⟨Lc11, hQ11, l11, y11, z11⟩, st11⟩ := X7.virtualBack hx (y := yy_4) (z := yy_4) hown (mvT hZ (own_t hw 165 rfl)) (mvT hZ (own_t hw 166 rfl)) (notFace_of_selects (args := #[]) (mvT hZ (own_t hw 168 rfl))) (mvT hZ (own_t hw 168 rfl)) (mvT hZ (own_t hw 167 rfl)) (by decide) (backOf (W := 0) (rm31 l Z a0 hw [] sa (9 : Int32) rb kb (Int32.ofNat tt.length) ((tt.map (fun c => c.toInt8.toInt32)).map Value.int) (.int 0) ((tt.getD 9 0).toInt8.toInt32) fm cs h0 n0 Z0 Es Fs Vs (own_hi 9 _ ⟨by omega, by omega⟩) (own_bat tt 9 ⟨by omega, by omega⟩ _) SF hfm SC hcs Cs) hZ (own_t hw 169 rfl) (own_t hw 9 rfl) (by decide) (by decide)) q10a q10c (g := (mkF m 356 (own_L p0 p1 p2 p3 0 dr vfl vwl xa xb xc xd sp sq sa 4 (oi 1) (.unset) (.unset)) [(.int (9 : Int32)), (.ref sa)])) rfl (by rw [hml]; rfl) (Steps.refl _) (argsL := [(.int (9 : Int32))]) (rest := []) (lenOf pd_28 rfl) rfl (by show 2 * 0 + _ ≤ _; exact Nat.le_of_eq rfl) (hb hby at_356) (fun _ _ => ⟨rfl, e7, (by decide : 28 + 0 ≤ _), (by decide : 428 + 0 ≤ _)⟩)
  dsimp only [Pt.U, Pt.locs, Pt.cells, Pt.slots] at X11 l11 y11 z11 st11 hQ11
  subst l11 y11 z11
  obtain ⟨rfl, N11q, e11⟩ := hQ11
  have N11 := Fr.app N7 N11q
  have c12 : own_G p e below T11 (mkF m 359 (own_L p0 p1 p2 p3 0 dr vfl vwl xa xb xc xd sp sq sa 4 (oi 1) (.unset) (.unset)) [(.int (97 : Int32))]) (mkF m 359 (own_L p0 p1 p2 p3 0 dr vfl vwl xa xb xc xd sp sq sa 4 (oi 1) (.unset) (.unset)) [(.int (own_cc ((tt.getD 9 0).toInt8.toInt32)))]) := fun t kt => castTop (congrArg (fun zv => (mkF m 359 (own_L p0 p1 p2 p3 0 dr vfl vwl xa xb xc xd sp sq sa 4 (oi 1) (.unset) (.unset)) [(.int zv)])) (show (own_cc ((tt.getD 9 0).toInt8.toInt32)) = (97 : Int32) from (by rw [hx2]; exact by decide))) kt
  have c13 : own_G p e below T11 (mkF m 368 (own_L p0 p1 p2 p3 0 dr vfl vwl xa xb xc xd sp sq sa 4 (oi 1) (.unset) (.unset)) [(.int (10 : Int32)), (.ref sa)]) (mkF m 359 (own_L p0 p1 p2 p3 0 dr vfl vwl xa xb xc xd sp sq sa 4 (oi 1) (.unset) (.unset)) [(.int (97 : Int32))]) := by
    intro t kt
    show oS T11 (mkF m 359 (own_L p0 p1 p2 p3 0 dr vfl vwl xa xb xc xd sp sq sa 4 (oi 1) (.unset) (.unset)) [(.int (97 : Int32))]) _
    refine XS.bipush X11.here hx rfl (hb hby at_359) ?_
    show oS T11 (mkF m 361 (own_L p0 p1 p2 p3 0 dr vfl vwl xa xb xc xd sp sq sa 4 (oi 1) (.unset) (.unset)) [(.int (97 : Int32)), (.int (97 : Int32))]) _
    refine XS.icmpNo X11.here hx rfl (hb hby at_361) rfl (teq (by decide : (97 : Int32) = (97 : Int32))).2 ?_
    show oS T11 (mkF m 364 (own_L p0 p1 p2 p3 0 dr vfl vwl xa xb xc xd sp sq sa 4 (oi 1) (.unset) (.unset)) []) _
    refine XS.aload X11.here hx rfl (hb hby at_364) rfl rfl ?_
    show oS T11 (mkF m 366 (own_L p0 p1 p2 p3 0 dr vfl vwl xa xb xc xd sp sq sa 4 (oi 1) (.unset) (.unset)) [(.ref sa)]) _
    refine XS.bipush X11.here hx rfl (hb hby at_366) ?_
    exact kt
  obtain ⟨cq14, kq14, q14a, q14b, q14c⟩ := isOf hZ e11 Es
  obtain ⟨_, _, ⟨T15, L15, k15, n15⟩, -, X15, ⟨Lc15, hQ15, l15, y15, z15⟩, st15⟩ := X11.virtualBack hx (y := yy_4) (z := yy_4) hown (mvT hZ (own_t hw 165 rfl)) (mvT hZ (own_t hw 166 rfl)) (notFace_of_selects (args := #[]) (mvT hZ (own_t hw 168 rfl))) (mvT hZ (own_t hw 168 rfl)) (mvT hZ (own_t hw 167 rfl)) (by decide) (backOf (W := 0) (rm31 l Z a0 hw [] sa (10 : Int32) rb kb (Int32.ofNat tt.length) ((tt.map (fun c => c.toInt8.toInt32)).map Value.int) (.int 0) ((tt.getD 10 0).toInt8.toInt32) fm cs h0 n0 Z0 Es Fs Vs (own_hi 10 _ ⟨by omega, by omega⟩) (own_bat tt 10 ⟨by omega, by omega⟩ _) SF hfm SC hcs Cs) hZ (own_t hw 169 rfl) (own_t hw 9 rfl) (by decide) (by decide)) q14a q14c (g := (mkF m 368 (own_L p0 p1 p2 p3 0 dr vfl vwl xa xb xc xd sp sq sa 4 (oi 1) (.unset) (.unset)) [(.int (10 : Int32)), (.ref sa)])) rfl (by rw [hml]; rfl) (Steps.refl _) (argsL := [(.int (10 : Int32))]) (rest := []) (lenOf pd_28 rfl) rfl (by show 2 * 0 + _ ≤ _; exact Nat.le_of_eq rfl) (hb hby at_368) (fun _ _ => ⟨rfl, e11, (by decide : 28 + 0 ≤ _), (by decide : 428 + 0 ≤ _)⟩)
  dsimp only [Pt.U, Pt.locs, Pt.cells, Pt.slots] at X15 l15 y15 z15 st15 hQ15
  subst l15 y15 z15
  obtain ⟨rfl, N15q, e15⟩ := hQ15
  have N15 := Fr.app N11 N15q
  have c16 : own_G p e below T15 (mkF m 371 (own_L p0 p1 p2 p3 0 dr vfl vwl xa xb xc xd sp sq sa 4 (oi 1) (.unset) (.unset)) [(.int (100 : Int32))]) (mkF m 371 (own_L p0 p1 p2 p3 0 dr vfl vwl xa xb xc xd sp sq sa 4 (oi 1) (.unset) (.unset)) [(.int (own_cc ((tt.getD 10 0).toInt8.toInt32)))]) := fun t kt => castTop (congrArg (fun zv => (mkF m 371 (own_L p0 p1 p2 p3 0 dr vfl vwl xa xb xc xd sp sq sa 4 (oi 1) (.unset) (.unset)) [(.int zv)])) (show (own_cc ((tt.getD 10 0).toInt8.toInt32)) = (100 : Int32) from (by rw [hx3]; exact by decide))) kt
  have c17 : own_G p e below T15 (mkF m 388 (own_L p0 p1 p2 p3 0 dr vfl vwl xa xb xc xd sp sq sa 4 (oi 1) (.unset) (.unset)) [(.int ((7 : Int32) + (4 : Int32)))]) (mkF m 371 (own_L p0 p1 p2 p3 0 dr vfl vwl xa xb xc xd sp sq sa 4 (oi 1) (.unset) (.unset)) [(.int (100 : Int32))]) := by
    intro t kt
    show oS T15 (mkF m 371 (own_L p0 p1 p2 p3 0 dr vfl vwl xa xb xc xd sp sq sa 4 (oi 1) (.unset) (.unset)) [(.int (100 : Int32))]) _
    refine XS.bipush X15.here hx rfl (hb hby at_371) ?_
    show oS T15 (mkF m 373 (own_L p0 p1 p2 p3 0 dr vfl vwl xa xb xc xd sp sq sa 4 (oi 1) (.unset) (.unset)) [(.int (100 : Int32)), (.int (100 : Int32))]) _
    refine XS.icmpNo X15.here hx rfl (hb hby at_373) rfl (teq (by decide : (100 : Int32) = (100 : Int32))).2 ?_
    show oS T15 (mkF m 376 (own_L p0 p1 p2 p3 0 dr vfl vwl xa xb xc xd sp sq sa 4 (oi 1) (.unset) (.unset)) []) _
    refine XS.iconst X15.here hx rfl (hb hby at_376) ?_
    show oS T15 (mkF m 377 (own_L p0 p1 p2 p3 0 dr vfl vwl xa xb xc xd sp sq sa 4 (oi 1) (.unset) (.unset)) [(.int (1 : Int32))]) _
    refine XS.goto X15.here hx rfl (pc0 := 377) (pc' := 381) rfl (hb hby at_377) (by decide) (by decide) ?_
    show oS T15 (mkF m 381 (own_L p0 p1 p2 p3 0 dr vfl vwl xa xb xc xd sp sq sa 4 (oi 1) (.unset) (.unset)) [(.int (1 : Int32))]) _
    refine XS.istore X15.here hx rfl (hb hby at_381) rfl (l' := (own_L p0 p1 p2 p3 0 dr vfl vwl xa xb xc xd sp sq sa 4 (oi 1) (.unset) (.unset))) rfl ?_
    show oS T15 (mkF m 383 (own_L p0 p1 p2 p3 0 dr vfl vwl xa xb xc xd sp sq sa 4 (oi 1) (.unset) (.unset)) []) _
    refine XS.bipush X15.here hx rfl (hb hby at_383) ?_
    show oS T15 (mkF m 385 (own_L p0 p1 p2 p3 0 dr vfl vwl xa xb xc xd sp sq sa 4 (oi 1) (.unset) (.unset)) [(.int (7 : Int32))]) _
    refine XS.iload X15.here hx rfl (hb hby at_385) rfl ?_
    show oS T15 (mkF m 387 (own_L p0 p1 p2 p3 0 dr vfl vwl xa xb xc xd sp sq sa 4 (oi 1) (.unset) (.unset)) [(.int (4 : Int32)), (.int (7 : Int32))]) _
    refine XS.iadd X15.here hx rfl (hb hby at_387) rfl ?_
    exact kt
  have c18 : own_G p e below T15 (mkF m 388 (own_L p0 p1 p2 p3 0 dr vfl vwl xa xb xc xd sp sq sa 4 (oi 1) (.unset) (.unset)) [(.int (11 : Int32))]) (mkF m 388 (own_L p0 p1 p2 p3 0 dr vfl vwl xa xb xc xd sp sq sa 4 (oi 1) (.unset) (.unset)) [(.int ((7 : Int32) + (4 : Int32)))]) := fun t kt => castTop (congrArg (fun zv => (mkF m 388 (own_L p0 p1 p2 p3 0 dr vfl vwl xa xb xc xd sp sq sa 4 (oi 1) (.unset) (.unset)) [(.int zv)])) (show ((7 : Int32) + (4 : Int32)) = (11 : Int32) from by decide)) kt
  have c19 : own_G p e below T15 (mkF m 399 (own_L p0 p1 p2 p3 0 dr vfl vwl xa xb xc xd sp sq sa 4 (oi 1) (oi 11) (.unset)) [(.int (11 : Int32)), (.ref sa)]) (mkF m 388 (own_L p0 p1 p2 p3 0 dr vfl vwl xa xb xc xd sp sq sa 4 (oi 1) (.unset) (.unset)) [(.int (11 : Int32))]) := by
    intro t kt
    show oS T15 (mkF m 388 (own_L p0 p1 p2 p3 0 dr vfl vwl xa xb xc xd sp sq sa 4 (oi 1) (.unset) (.unset)) [(.int (11 : Int32))]) _
    refine XS.istore X15.here hx rfl (hb hby at_388) rfl (l' := (own_L p0 p1 p2 p3 0 dr vfl vwl xa xb xc xd sp sq sa 4 (oi 1) (oi 11) (.unset))) rfl ?_
    show oS T15 (mkF m 390 (own_L p0 p1 p2 p3 0 dr vfl vwl xa xb xc xd sp sq sa 4 (oi 1) (oi 11) (.unset)) []) _
    refine XS.iload X15.here hx rfl (hb hby at_390) rfl ?_
    show oS T15 (mkF m 392 (own_L p0 p1 p2 p3 0 dr vfl vwl xa xb xc xd sp sq sa 4 (oi 1) (oi 11) (.unset)) [(.int (1 : Int32))]) _
    refine XS.ifNo X15.here hx rfl (hb hby at_392) rfl ((if0 _ _).trans (feq (by decide : ¬ ((1 : Int32) = (0 : Int32)))).1) ?_
    show oS T15 (mkF m 395 (own_L p0 p1 p2 p3 0 dr vfl vwl xa xb xc xd sp sq sa 4 (oi 1) (oi 11) (.unset)) []) _
    refine XS.aload X15.here hx rfl (hb hby at_395) rfl rfl ?_
    show oS T15 (mkF m 397 (own_L p0 p1 p2 p3 0 dr vfl vwl xa xb xc xd sp sq sa 4 (oi 1) (oi 11) (.unset)) [(.ref sa)]) _
    refine XS.iload X15.here hx rfl (hb hby at_397) rfl ?_
    exact kt
  obtain ⟨cq20, kq20, q20a, q20b, q20c⟩ := isOf hZ e15 Es
  obtain ⟨_, _, ⟨T21, L21, k21, n21⟩, -, X21, ⟨Lc21, hQ21, l21, y21, z21⟩, st21⟩ := X15.virtualBack hx (y := yy_4) (z := yy_4) hown (mvT hZ (own_t hw 165 rfl)) (mvT hZ (own_t hw 166 rfl)) (notFace_of_selects (args := #[]) (mvT hZ (own_t hw 168 rfl))) (mvT hZ (own_t hw 168 rfl)) (mvT hZ (own_t hw 167 rfl)) (by decide) (backOf (W := 0) (rm31 l Z a0 hw [] sa (11 : Int32) rb kb (Int32.ofNat tt.length) ((tt.map (fun c => c.toInt8.toInt32)).map Value.int) (.int 0) ((tt.getD 11 0).toInt8.toInt32) fm cs h0 n0 Z0 Es Fs Vs (own_hi 11 _ ⟨by omega, by omega⟩) (own_bat tt 11 ⟨by omega, by omega⟩ _) SF hfm SC hcs Cs) hZ (own_t hw 169 rfl) (own_t hw 9 rfl) (by decide) (by decide)) q20a q20c (g := (mkF m 399 (own_L p0 p1 p2 p3 0 dr vfl vwl xa xb xc xd sp sq sa 4 (oi 1) (oi 11) (.unset)) [(.int (11 : Int32)), (.ref sa)])) rfl (by rw [hml]; rfl) (Steps.refl _) (argsL := [(.int (11 : Int32))]) (rest := []) (lenOf pd_28 rfl) rfl (by show 2 * 0 + _ ≤ _; exact Nat.le_of_eq rfl) (hb hby at_399) (fun _ _ => ⟨rfl, e15, (by decide : 28 + 0 ≤ _), (by decide : 428 + 0 ≤ _)⟩)
  dsimp only [Pt.U, Pt.locs, Pt.cells, Pt.slots] at X21 l21 y21 z21 st21 hQ21
  subst l21 y21 z21
  obtain ⟨rfl, N21q, e21⟩ := hQ21
  have N21 := Fr.app N15 N21q
  have c22 : own_G p e below T21 (mkF m 402 (own_L p0 p1 p2 p3 0 dr vfl vwl xa xb xc xd sp sq sa 4 (oi 1) (oi 11) (.unset)) [(.int (32 : Int32))]) (mkF m 402 (own_L p0 p1 p2 p3 0 dr vfl vwl xa xb xc xd sp sq sa 4 (oi 1) (oi 11) (.unset)) [(.int (own_cc ((tt.getD 11 0).toInt8.toInt32)))]) := fun t kt => castTop (congrArg (fun zv => (mkF m 402 (own_L p0 p1 p2 p3 0 dr vfl vwl xa xb xc xd sp sq sa 4 (oi 1) (oi 11) (.unset)) [(.int zv)])) (show (own_cc ((tt.getD 11 0).toInt8.toInt32)) = (32 : Int32) from (by rw [hx4]; exact by decide))) kt
  have c23 : own_G p e below T21 (mkF m 414 (own_L p0 p1 p2 p3 0 dr vfl vwl xa xb xc xd sp sq sa 4 (oi 1) (oi 11) (.unset)) []) (mkF m 402 (own_L p0 p1 p2 p3 0 dr vfl vwl xa xb xc xd sp sq sa 4 (oi 1) (oi 11) (.unset)) [(.int (32 : Int32))]) := by
    intro t kt
    show oS T21 (mkF m 402 (own_L p0 p1 p2 p3 0 dr vfl vwl xa xb xc xd sp sq sa 4 (oi 1) (oi 11) (.unset)) [(.int (32 : Int32))]) _
    refine XS.bipush X21.here hx rfl (hb hby at_402) ?_
    show oS T21 (mkF m 404 (own_L p0 p1 p2 p3 0 dr vfl vwl xa xb xc xd sp sq sa 4 (oi 1) (oi 11) (.unset)) [(.int (32 : Int32)), (.int (32 : Int32))]) _
    refine XS.icmpNo X21.here hx rfl (hb hby at_404) rfl (teq (by decide : (32 : Int32) = (32 : Int32))).2 ?_
    show oS T21 (mkF m 407 (own_L p0 p1 p2 p3 0 dr vfl vwl xa xb xc xd sp sq sa 4 (oi 1) (oi 11) (.unset)) []) _
    refine XS.iconst X21.here hx rfl (hb hby at_407) ?_
    show oS T21 (mkF m 408 (own_L p0 p1 p2 p3 0 dr vfl vwl xa xb xc xd sp sq sa 4 (oi 1) (oi 11) (.unset)) [(.int (1 : Int32))]) _
    refine XS.goto X21.here hx rfl (pc0 := 408) (pc' := 412) rfl (hb hby at_408) (by decide) (by decide) ?_
    show oS T21 (mkF m 412 (own_L p0 p1 p2 p3 0 dr vfl vwl xa xb xc xd sp sq sa 4 (oi 1) (oi 11) (.unset)) [(.int (1 : Int32))]) _
    refine XS.istore X21.here hx rfl (hb hby at_412) rfl (l' := (own_L p0 p1 p2 p3 0 dr vfl vwl xa xb xc xd sp sq sa 4 (oi 1) (oi 11) (.unset))) rfl ?_
    exact kt
  exact ⟨T21, _, h0, X21, e21, N21, (Keep.refl h0 []), rfl, fun t kt => c1 _ (st3.trans (c4 _ (c5 _ (st7.trans (c8 _ (c9 _ (st11.trans (c12 _ (c13 _ (st15.trans (c16 _ (c17 _ (c18 _ (c19 _ (st21.trans (c22 _ (c23 _ (kt))))))))))))))))))⟩
set_option maxRecDepth 65536 in
set_option maxHeartbeats 40000000 in
theorem tW0 {p : Program} {l : Launch} {e : Env} {s : State} {m : MethodId} {args : Array Value} {below : List Frame} {meth : Method} {c : Code} {T0 : State} {locs : List Loc} {Z : State} {a0 : Array Value} {h0 : Heap} {n0 : Nat} (p0 p1 p2 p3 vfl vwl xa xb xc xd : Int32) (dr sp sq sa rb : Addr) (kb : ClassId) (tt : List Int32) (cs : Int32) (fm : Value) (wr vl l7 : Int32) (qq : Nat)
    (X0 : Stand p l e room_1 s m args below meth c T0 locs 28 428) (hx : p.tables.exec = Jvm.exec) (hZ : Z.Warmed39 s.vm) (hw : ∀ d ∈ tables_1, d.before a0 Z = true) (hby : c.code = code) (hml : c.maxLocals = 19) (hown : s.vm.findClass "com/example/emex/emex/read/FileRefusalLinePinLaw" = some m.cls) (e0 : T0.heap = h0) (N0 : Fr n0 locs) (Z0 : n0 ≤ h0.size) (Es : Exa Z h0 sa "java/lang/String") (Fs : Fld Z h0 sa "java/lang/String" "value" "[B" (.ref rb)) (Cs : Fld Z h0 sa "java/lang/String" "coder" "B" (.int (0 : Int32))) (Vs : Arv Z h0 rb kb .byte (Int32.ofNat tt.length) ((tt.map (fun c => c.toInt8.toInt32)).map Value.int) (.int 0)) (SF : Sta Z h0 "jdk/internal/util/Preconditions" "SIOOBE_FORMATTER" "Ljava/util/function/BiFunction;" fm) (hfm : fm.isRef = true) (SC : Sta Z h0 "java/lang/String" "COMPACT_STRINGS" "Z" (.int cs)) (hcs : ¬ cs = (0 : Int32)) (hlt : (qq + 1) < tt.length) (hl2 : tt.length < 512) (hr_xa : own_r xa) (hr_xb : own_r xb) (hr_xc : own_r xc) (hr_xd : own_r xd) :
    ∃ (T' : State) (locs' : List Loc) (h' : Heap), Stand p l e room_1 s m args below meth c T' locs' 28 428 ∧ T'.heap = h' ∧ Fr n0 locs' ∧ Keep h0 h' [] ∧ h' = h0 ∧ ∀ t, own_S p e below T' (mkF m 589 (own_L p0 p1 p2 p3 wr dr vfl 0 xa xb xc xd sp sq sa vl (oi 1) (oi l7) (oi (Int32.ofNat qq))) []) t → own_S p e below T0 (mkF m 525 (own_L p0 p1 p2 p3 wr dr vfl 0 xa xb xc xd sp sq sa vl (oi 1) (oi l7) (oi (Int32.ofNat qq))) []) t := by
  have c1 : own_G p e below T0 (mkF m 589 (own_L p0 p1 p2 p3 wr dr vfl 0 xa xb xc xd sp sq sa vl (oi 1) (oi l7) (oi (Int32.ofNat qq))) []) (mkF m 525 (own_L p0 p1 p2 p3 wr dr vfl 0 xa xb xc xd sp sq sa vl (oi 1) (oi l7) (oi (Int32.ofNat qq))) []) := by
    intro t kt
    show oS T0 (mkF m 525 (own_L p0 p1 p2 p3 wr dr vfl 0 xa xb xc xd sp sq sa vl (oi 1) (oi l7) (oi (Int32.ofNat qq))) []) _
    refine XS.iload X0.here hx rfl (hb hby at_525) rfl ?_
    show oS T0 (mkF m 527 (own_L p0 p1 p2 p3 wr dr vfl 0 xa xb xc xd sp sq sa vl (oi 1) (oi l7) (oi (Int32.ofNat qq))) [(.int (0 : Int32))]) _
    refine XS.iconst X0.here hx rfl (hb hby at_527) ?_
    show oS T0 (mkF m 528 (own_L p0 p1 p2 p3 wr dr vfl 0 xa xb xc xd sp sq sa vl (oi 1) (oi l7) (oi (Int32.ofNat qq))) [(.int (1 : Int32)), (.int (0 : Int32))]) _
    refine XS.icmpYes X0.here hx rfl (pc0 := 528) (pc' := 557) rfl (hb hby at_528) rfl (tlt (by decide : (0 : Int32) < (1 : Int32))).1 (by decide) (by decide) ?_
    show oS T0 (mkF m 557 (own_L p0 p1 p2 p3 wr dr vfl 0 xa xb xc xd sp sq sa vl (oi 1) (oi l7) (oi (Int32.ofNat qq))) []) _
    refine XS.iload X0.here hx rfl (hb hby at_557) rfl ?_
    show oS T0 (mkF m 559 (own_L p0 p1 p2 p3 wr dr vfl 0 xa xb xc xd sp sq sa vl (oi 1) (oi l7) (oi (Int32.ofNat qq))) [(.int (0 : Int32))]) _
    refine XS.iconst X0.here hx rfl (hb hby at_559) ?_
    show oS T0 (mkF m 560 (own_L p0 p1 p2 p3 wr dr vfl 0 xa xb xc xd sp sq sa vl (oi 1) (oi l7) (oi (Int32.ofNat qq))) [(.int (2 : Int32)), (.int (0 : Int32))]) _
    refine XS.icmpYes X0.here hx rfl (pc0 := 560) (pc' := 589) rfl (hb hby at_560) rfl (tlt (by decide : (0 : Int32) < (2 : Int32))).1 (by decide) (by decide) ?_
    exact kt
  exact ⟨T0, _, h0, X0, e0, N0, (Keep.refl h0 []), rfl, fun t kt => c1 _ (kt)⟩
set_option maxRecDepth 65536 in
set_option maxHeartbeats 40000000 in
theorem tW1 {p : Program} {l : Launch} {e : Env} {s : State} {m : MethodId} {args : Array Value} {below : List Frame} {meth : Method} {c : Code} {T0 : State} {locs : List Loc} {Z : State} {a0 : Array Value} {h0 : Heap} {n0 : Nat} (p0 p1 p2 p3 vfl vwl xa xb xc xd : Int32) (dr sp sq sa rb : Addr) (kb : ClassId) (tt : List Int32) (cs : Int32) (fm : Value) (wr vl l7 : Int32) (qq : Nat)
    (X0 : Stand p l e room_1 s m args below meth c T0 locs 28 428) (hx : p.tables.exec = Jvm.exec) (hZ : Z.Warmed39 s.vm) (hw : ∀ d ∈ tables_1, d.before a0 Z = true) (hby : c.code = code) (hml : c.maxLocals = 19) (hown : s.vm.findClass "com/example/emex/emex/read/FileRefusalLinePinLaw" = some m.cls) (e0 : T0.heap = h0) (N0 : Fr n0 locs) (Z0 : n0 ≤ h0.size) (Es : Exa Z h0 sa "java/lang/String") (Fs : Fld Z h0 sa "java/lang/String" "value" "[B" (.ref rb)) (Cs : Fld Z h0 sa "java/lang/String" "coder" "B" (.int (0 : Int32))) (Vs : Arv Z h0 rb kb .byte (Int32.ofNat tt.length) ((tt.map (fun c => c.toInt8.toInt32)).map Value.int) (.int 0)) (SF : Sta Z h0 "jdk/internal/util/Preconditions" "SIOOBE_FORMATTER" "Ljava/util/function/BiFunction;" fm) (hfm : fm.isRef = true) (SC : Sta Z h0 "java/lang/String" "COMPACT_STRINGS" "Z" (.int cs)) (hcs : ¬ cs = (0 : Int32)) (hlt : (qq + 2) < tt.length) (hl2 : tt.length < 512) (hx0 : tt.getD (qq + 2) 0 = xc) (hr_xa : own_r xa) (hr_xb : own_r xb) (hr_xc : own_r xc) (hr_xd : own_r xd) :
    ∃ (T' : State) (locs' : List Loc) (h' : Heap), Stand p l e room_1 s m args below meth c T' locs' 28 428 ∧ T'.heap = h' ∧ Fr n0 locs' ∧ Keep h0 h' [] ∧ h' = h0 ∧ ∀ t, own_S p e below T' (mkF m 589 (own_L p0 p1 p2 p3 wr dr vfl 1 xa xb xc xd sp sq sa vl (oi 1) (oi l7) (oi (Int32.ofNat qq))) []) t → own_S p e below T0 (mkF m 525 (own_L p0 p1 p2 p3 wr dr vfl 1 xa xb xc xd sp sq sa vl (oi 1) (oi l7) (oi (Int32.ofNat qq))) []) t := by
  have c1 : own_G p e below T0 (mkF m 542 (own_L p0 p1 p2 p3 wr dr vfl 1 xa xb xc xd sp sq sa vl (oi 1) (oi l7) (oi (Int32.ofNat qq))) [(.int ((Int32.ofNat qq) + (2 : Int32))), (.ref sa)]) (mkF m 525 (own_L p0 p1 p2 p3 wr dr vfl 1 xa xb xc xd sp sq sa vl (oi 1) (oi l7) (oi (Int32.ofNat qq))) []) := by
    intro t kt
    show oS T0 (mkF m 525 (own_L p0 p1 p2 p3 wr dr vfl 1 xa xb xc xd sp sq sa vl (oi 1) (oi l7) (oi (Int32.ofNat qq))) []) _
    refine XS.iload X0.here hx rfl (hb hby at_525) rfl ?_
    show oS T0 (mkF m 527 (own_L p0 p1 p2 p3 wr dr vfl 1 xa xb xc xd sp sq sa vl (oi 1) (oi l7) (oi (Int32.ofNat qq))) [(.int (1 : Int32))]) _
    refine XS.iconst X0.here hx rfl (hb hby at_527) ?_
    show oS T0 (mkF m 528 (own_L p0 p1 p2 p3 wr dr vfl 1 xa xb xc xd sp sq sa vl (oi 1) (oi l7) (oi (Int32.ofNat qq))) [(.int (1 : Int32)), (.int (1 : Int32))]) _
    refine XS.icmpNo X0.here hx rfl (hb hby at_528) rfl (flt (by decide : ¬ ((1 : Int32) < (1 : Int32)))).1 ?_
    show oS T0 (mkF m 531 (own_L p0 p1 p2 p3 wr dr vfl 1 xa xb xc xd sp sq sa vl (oi 1) (oi l7) (oi (Int32.ofNat qq))) []) _
    refine XS.iload X0.here hx rfl (hb hby at_531) rfl ?_
    show oS T0 (mkF m 533 (own_L p0 p1 p2 p3 wr dr vfl 1 xa xb xc xd sp sq sa vl (oi 1) (oi l7) (oi (Int32.ofNat qq))) [(.int (1 : Int32))]) _
    refine XS.ifNo X0.here hx rfl (hb hby at_533) rfl ((if0 _ _).trans (feq (by decide : ¬ ((1 : Int32) = (0 : Int32)))).1) ?_
    show oS T0 (mkF m 536 (own_L p0 p1 p2 p3 wr dr vfl 1 xa xb xc xd sp sq sa vl (oi 1) (oi l7) (oi (Int32.ofNat qq))) []) _
    refine XS.aload X0.here hx rfl (hb hby at_536) rfl rfl ?_
    show oS T0 (mkF m 538 (own_L p0 p1 p2 p3 wr dr vfl 1 xa xb xc xd sp sq sa vl (oi 1) (oi l7) (oi (Int32.ofNat qq))) [(.ref sa)]) _
    refine XS.iload X0.here hx rfl (hb hby at_538) rfl ?_
    show oS T0 (mkF m 540 (own_L p0 p1 p2 p3 wr dr vfl 1 xa xb xc xd sp sq sa vl (oi 1) (oi l7) (oi (Int32.ofNat qq))) [(.int (Int32.ofNat qq)), (.ref sa)]) _
    refine XS.iconst X0.here hx rfl (hb hby at_540) ?_
    show oS T0 (mkF m 541 (own_L p0 p1 p2 p3 wr dr vfl 1 xa xb xc xd sp sq sa vl (oi 1) (oi l7) (oi (Int32.ofNat qq))) [(.int (2 : Int32)), (.int (Int32.ofNat qq)), (.ref sa)]) _
    refine XS.iadd X0.here hx rfl (hb hby at_541) rfl ?_
    exact kt
  have c2 : own_G p e below T0 (mkF m 542 (own_L p0 p1 p2 p3 wr dr vfl 1 xa xb xc xd sp sq sa vl (oi 1) (oi l7) (oi (Int32.ofNat qq))) [(.int (Int32.ofNat (qq + 2))), (.ref sa)]) (mkF m 542 (own_L p0 p1 p2 p3 wr dr vfl 1 xa xb xc xd sp sq sa vl (oi 1) (oi l7) (oi (Int32.ofNat qq))) [(.int ((Int32.ofNat qq) + (2 : Int32))), (.ref sa)]) := fun t kt => castTop (congrArg (fun zv => (mkF m 542 (own_L p0 p1 p2 p3 wr dr vfl 1 xa xb xc xd sp sq sa vl (oi 1) (oi l7) (oi (Int32.ofNat qq))) [(.int zv), (.ref sa)])) (show ((Int32.ofNat qq) + (2 : Int32)) = (Int32.ofNat (qq + 2)) from own_add _ 2 (by omega) (by omega))) kt
  obtain ⟨cq3, kq3, q3a, q3b, q3c⟩ := isOf hZ e0 Es
  obtain ⟨_, _, ⟨T4, L4, k4, n4⟩, -, X4, ⟨Lc4, hQ4, l4, y4, z4⟩, st4⟩ := X0.virtualBack hx (y := yy_4) (z := yy_4) hown (mvT hZ (own_t hw 165 rfl)) (mvT hZ (own_t hw 166 rfl)) (notFace_of_selects (args := #[]) (mvT hZ (own_t hw 168 rfl))) (mvT hZ (own_t hw 168 rfl)) (mvT hZ (own_t hw 167 rfl)) (by decide) (backOf (W := 0) (rm31 l Z a0 hw [] sa (Int32.ofNat (qq + 2)) rb kb (Int32.ofNat tt.length) ((tt.map (fun c => c.toInt8.toInt32)).map Value.int) (.int 0) ((tt.getD (qq + 2) 0).toInt8.toInt32) fm cs h0 n0 Z0 Es Fs Vs (own_hi (qq + 2) _ ⟨by omega, by omega⟩) (own_bat tt (qq + 2) ⟨by omega, by omega⟩ _) SF hfm SC hcs Cs) hZ (own_t hw 169 rfl) (own_t hw 9 rfl) (by decide) (by decide)) q3a q3c (g := (mkF m 542 (own_L p0 p1 p2 p3 wr dr vfl 1 xa xb xc xd sp sq sa vl (oi 1) (oi l7) (oi (Int32.ofNat qq))) [(.int (Int32.ofNat (qq + 2))), (.ref sa)])) rfl (by rw [hml]; rfl) (Steps.refl _) (argsL := [(.int (Int32.ofNat (qq + 2)))]) (rest := []) (lenOf pd_28 rfl) rfl (by show 2 * 0 + _ ≤ _; exact Nat.le_of_eq rfl) (hb hby at_542) (fun _ _ => ⟨rfl, e0, (by decide : 28 + 0 ≤ _), (by decide : 428 + 0 ≤ _)⟩)
  dsimp only [Pt.U, Pt.locs, Pt.cells, Pt.slots] at X4 l4 y4 z4 st4 hQ4
  subst l4 y4 z4
  obtain ⟨rfl, N4q, e4⟩ := hQ4
  have N4 := Fr.app N0 N4q
  have c5 : own_G p e below T4 (mkF m 545 (own_L p0 p1 p2 p3 wr dr vfl 1 xa xb xc xd sp sq sa vl (oi 1) (oi l7) (oi (Int32.ofNat qq))) [(.int xc)]) (mkF m 545 (own_L p0 p1 p2 p3 wr dr vfl 1 xa xb xc xd sp sq sa vl (oi 1) (oi l7) (oi (Int32.ofNat qq))) [(.int (own_cc ((tt.getD (qq + 2) 0).toInt8.toInt32)))]) := fun t kt => castTop (congrArg (fun zv => (mkF m 545 (own_L p0 p1 p2 p3 wr dr vfl 1 xa xb xc xd sp sq sa vl (oi 1) (oi l7) (oi (Int32.ofNat qq))) [(.int zv)])) (show (own_cc ((tt.getD (qq + 2) 0).toInt8.toInt32)) = xc from (by rw [hx0]; exact own_ccv _ hr_xc.1 hr_xc.2))) kt
  have c6 : own_G p e below T4 (mkF m 589 (own_L p0 p1 p2 p3 wr dr vfl 1 xa xb xc xd sp sq sa vl (oi 1) (oi l7) (oi (Int32.ofNat qq))) []) (mkF m 545 (own_L p0 p1 p2 p3 wr dr vfl 1 xa xb xc xd sp sq sa vl (oi 1) (oi l7) (oi (Int32.ofNat qq))) [(.int xc)]) := by
    intro t kt
    show oS T4 (mkF m 545 (own_L p0 p1 p2 p3 wr dr vfl 1 xa xb xc xd sp sq sa vl (oi 1) (oi l7) (oi (Int32.ofNat qq))) [(.int xc)]) _
    refine XS.iload X4.here hx rfl (hb hby at_545) rfl ?_
    show oS T4 (mkF m 547 (own_L p0 p1 p2 p3 wr dr vfl 1 xa xb xc xd sp sq sa vl (oi 1) (oi l7) (oi (Int32.ofNat qq))) [(.int xc), (.int xc)]) _
    refine XS.icmpNo X4.here hx rfl (hb hby at_547) rfl (teq (rfl : xc = xc)).2 ?_
    show oS T4 (mkF m 550 (own_L p0 p1 p2 p3 wr dr vfl 1 xa xb xc xd sp sq sa vl (oi 1) (oi l7) (oi (Int32.ofNat qq))) []) _
    refine XS.iconst X4.here hx rfl (hb hby at_550) ?_
    show oS T4 (mkF m 551 (own_L p0 p1 p2 p3 wr dr vfl 1 xa xb xc xd sp sq sa vl (oi 1) (oi l7) (oi (Int32.ofNat qq))) [(.int (1 : Int32))]) _
    refine XS.goto X4.here hx rfl (pc0 := 551) (pc' := 555) rfl (hb hby at_551) (by decide) (by decide) ?_
    show oS T4 (mkF m 555 (own_L p0 p1 p2 p3 wr dr vfl 1 xa xb xc xd sp sq sa vl (oi 1) (oi l7) (oi (Int32.ofNat qq))) [(.int (1 : Int32))]) _
    refine XS.istore X4.here hx rfl (hb hby at_555) rfl (l' := (own_L p0 p1 p2 p3 wr dr vfl 1 xa xb xc xd sp sq sa vl (oi 1) (oi l7) (oi (Int32.ofNat qq)))) rfl ?_
    show oS T4 (mkF m 557 (own_L p0 p1 p2 p3 wr dr vfl 1 xa xb xc xd sp sq sa vl (oi 1) (oi l7) (oi (Int32.ofNat qq))) []) _
    refine XS.iload X4.here hx rfl (hb hby at_557) rfl ?_
    show oS T4 (mkF m 559 (own_L p0 p1 p2 p3 wr dr vfl 1 xa xb xc xd sp sq sa vl (oi 1) (oi l7) (oi (Int32.ofNat qq))) [(.int (1 : Int32))]) _
    refine XS.iconst X4.here hx rfl (hb hby at_559) ?_
    show oS T4 (mkF m 560 (own_L p0 p1 p2 p3 wr dr vfl 1 xa xb xc xd sp sq sa vl (oi 1) (oi l7) (oi (Int32.ofNat qq))) [(.int (2 : Int32)), (.int (1 : Int32))]) _
    refine XS.icmpYes X4.here hx rfl (pc0 := 560) (pc' := 589) rfl (hb hby at_560) rfl (tlt (by decide : (1 : Int32) < (2 : Int32))).1 (by decide) (by decide) ?_
    exact kt
  exact ⟨T4, _, h0, X4, e4, N4, (Keep.refl h0 []), rfl, fun t kt => c1 _ (c2 _ (st4.trans (c5 _ (c6 _ (kt)))))⟩
set_option maxRecDepth 65536 in
set_option maxHeartbeats 40000000 in
theorem tW2 {p : Program} {l : Launch} {e : Env} {s : State} {m : MethodId} {args : Array Value} {below : List Frame} {meth : Method} {c : Code} {T0 : State} {locs : List Loc} {Z : State} {a0 : Array Value} {h0 : Heap} {n0 : Nat} (p0 p1 p2 p3 vfl vwl xa xb xc xd : Int32) (dr sp sq sa rb : Addr) (kb : ClassId) (tt : List Int32) (cs : Int32) (fm : Value) (wr vl l7 : Int32) (qq : Nat)
    (X0 : Stand p l e room_1 s m args below meth c T0 locs 28 428) (hx : p.tables.exec = Jvm.exec) (hZ : Z.Warmed39 s.vm) (hw : ∀ d ∈ tables_1, d.before a0 Z = true) (hby : c.code = code) (hml : c.maxLocals = 19) (hown : s.vm.findClass "com/example/emex/emex/read/FileRefusalLinePinLaw" = some m.cls) (e0 : T0.heap = h0) (N0 : Fr n0 locs) (Z0 : n0 ≤ h0.size) (Es : Exa Z h0 sa "java/lang/String") (Fs : Fld Z h0 sa "java/lang/String" "value" "[B" (.ref rb)) (Cs : Fld Z h0 sa "java/lang/String" "coder" "B" (.int (0 : Int32))) (Vs : Arv Z h0 rb kb .byte (Int32.ofNat tt.length) ((tt.map (fun c => c.toInt8.toInt32)).map Value.int) (.int 0)) (SF : Sta Z h0 "jdk/internal/util/Preconditions" "SIOOBE_FORMATTER" "Ljava/util/function/BiFunction;" fm) (hfm : fm.isRef = true) (SC : Sta Z h0 "java/lang/String" "COMPACT_STRINGS" "Z" (.int cs)) (hcs : ¬ cs = (0 : Int32)) (hlt : (qq + 3) < tt.length) (hl2 : tt.length < 512) (hx0 : tt.getD (qq + 2) 0 = xc) (hx1 : tt.getD (qq + 3) 0 = xd) (hr_xa : own_r xa) (hr_xb : own_r xb) (hr_xc : own_r xc) (hr_xd : own_r xd) :
    ∃ (T' : State) (locs' : List Loc) (h' : Heap), Stand p l e room_1 s m args below meth c T' locs' 28 428 ∧ T'.heap = h' ∧ Fr n0 locs' ∧ Keep h0 h' [] ∧ h' = h0 ∧ ∀ t, own_S p e below T' (mkF m 589 (own_L p0 p1 p2 p3 wr dr vfl 2 xa xb xc xd sp sq sa vl (oi 1) (oi l7) (oi (Int32.ofNat qq))) []) t → own_S p e below T0 (mkF m 525 (own_L p0 p1 p2 p3 wr dr vfl 2 xa xb xc xd sp sq sa vl (oi 1) (oi l7) (oi (Int32.ofNat qq))) []) t := by
  have c1 : own_G p e below T0 (mkF m 542 (own_L p0 p1 p2 p3 wr dr vfl 2 xa xb xc xd sp sq sa vl (oi 1) (oi l7) (oi (Int32.ofNat qq))) [(.int ((Int32.ofNat qq) + (2 : Int32))), (.ref sa)]) (mkF m 525 (own_L p0 p1 p2 p3 wr dr vfl 2 xa xb xc xd sp sq sa vl (oi 1) (oi l7) (oi (Int32.ofNat qq))) []) := by
    intro t kt
    show oS T0 (mkF m 525 (own_L p0 p1 p2 p3 wr dr vfl 2 xa xb xc xd sp sq sa vl (oi 1) (oi l7) (oi (Int32.ofNat qq))) []) _
    refine XS.iload X0.here hx rfl (hb hby at_525) rfl ?_
    show oS T0 (mkF m 527 (own_L p0 p1 p2 p3 wr dr vfl 2 xa xb xc xd sp sq sa vl (oi 1) (oi l7) (oi (Int32.ofNat qq))) [(.int (2 : Int32))]) _
    refine XS.iconst X0.here hx rfl (hb hby at_527) ?_
    show oS T0 (mkF m 528 (own_L p0 p1 p2 p3 wr dr vfl 2 xa xb xc xd sp sq sa vl (oi 1) (oi l7) (oi (Int32.ofNat qq))) [(.int (1 : Int32)), (.int (2 : Int32))]) _
    refine XS.icmpNo X0.here hx rfl (hb hby at_528) rfl (flt (by decide : ¬ ((2 : Int32) < (1 : Int32)))).1 ?_
    show oS T0 (mkF m 531 (own_L p0 p1 p2 p3 wr dr vfl 2 xa xb xc xd sp sq sa vl (oi 1) (oi l7) (oi (Int32.ofNat qq))) []) _
    refine XS.iload X0.here hx rfl (hb hby at_531) rfl ?_
    show oS T0 (mkF m 533 (own_L p0 p1 p2 p3 wr dr vfl 2 xa xb xc xd sp sq sa vl (oi 1) (oi l7) (oi (Int32.ofNat qq))) [(.int (1 : Int32))]) _
    refine XS.ifNo X0.here hx rfl (hb hby at_533) rfl ((if0 _ _).trans (feq (by decide : ¬ ((1 : Int32) = (0 : Int32)))).1) ?_
    show oS T0 (mkF m 536 (own_L p0 p1 p2 p3 wr dr vfl 2 xa xb xc xd sp sq sa vl (oi 1) (oi l7) (oi (Int32.ofNat qq))) []) _
    refine XS.aload X0.here hx rfl (hb hby at_536) rfl rfl ?_
    show oS T0 (mkF m 538 (own_L p0 p1 p2 p3 wr dr vfl 2 xa xb xc xd sp sq sa vl (oi 1) (oi l7) (oi (Int32.ofNat qq))) [(.ref sa)]) _
    refine XS.iload X0.here hx rfl (hb hby at_538) rfl ?_
    show oS T0 (mkF m 540 (own_L p0 p1 p2 p3 wr dr vfl 2 xa xb xc xd sp sq sa vl (oi 1) (oi l7) (oi (Int32.ofNat qq))) [(.int (Int32.ofNat qq)), (.ref sa)]) _
    refine XS.iconst X0.here hx rfl (hb hby at_540) ?_
    show oS T0 (mkF m 541 (own_L p0 p1 p2 p3 wr dr vfl 2 xa xb xc xd sp sq sa vl (oi 1) (oi l7) (oi (Int32.ofNat qq))) [(.int (2 : Int32)), (.int (Int32.ofNat qq)), (.ref sa)]) _
    refine XS.iadd X0.here hx rfl (hb hby at_541) rfl ?_
    exact kt
  have c2 : own_G p e below T0 (mkF m 542 (own_L p0 p1 p2 p3 wr dr vfl 2 xa xb xc xd sp sq sa vl (oi 1) (oi l7) (oi (Int32.ofNat qq))) [(.int (Int32.ofNat (qq + 2))), (.ref sa)]) (mkF m 542 (own_L p0 p1 p2 p3 wr dr vfl 2 xa xb xc xd sp sq sa vl (oi 1) (oi l7) (oi (Int32.ofNat qq))) [(.int ((Int32.ofNat qq) + (2 : Int32))), (.ref sa)]) := fun t kt => castTop (congrArg (fun zv => (mkF m 542 (own_L p0 p1 p2 p3 wr dr vfl 2 xa xb xc xd sp sq sa vl (oi 1) (oi l7) (oi (Int32.ofNat qq))) [(.int zv), (.ref sa)])) (show ((Int32.ofNat qq) + (2 : Int32)) = (Int32.ofNat (qq + 2)) from own_add _ 2 (by omega) (by omega))) kt
  obtain ⟨cq3, kq3, q3a, q3b, q3c⟩ := isOf hZ e0 Es
  obtain ⟨_, _, ⟨T4, L4, k4, n4⟩, -, X4, ⟨Lc4, hQ4, l4, y4, z4⟩, st4⟩ := X0.virtualBack hx (y := yy_4) (z := yy_4) hown (mvT hZ (own_t hw 165 rfl)) (mvT hZ (own_t hw 166 rfl)) (notFace_of_selects (args := #[]) (mvT hZ (own_t hw 168 rfl))) (mvT hZ (own_t hw 168 rfl)) (mvT hZ (own_t hw 167 rfl)) (by decide) (backOf (W := 0) (rm31 l Z a0 hw [] sa (Int32.ofNat (qq + 2)) rb kb (Int32.ofNat tt.length) ((tt.map (fun c => c.toInt8.toInt32)).map Value.int) (.int 0) ((tt.getD (qq + 2) 0).toInt8.toInt32) fm cs h0 n0 Z0 Es Fs Vs (own_hi (qq + 2) _ ⟨by omega, by omega⟩) (own_bat tt (qq + 2) ⟨by omega, by omega⟩ _) SF hfm SC hcs Cs) hZ (own_t hw 169 rfl) (own_t hw 9 rfl) (by decide) (by decide)) q3a q3c (g := (mkF m 542 (own_L p0 p1 p2 p3 wr dr vfl 2 xa xb xc xd sp sq sa vl (oi 1) (oi l7) (oi (Int32.ofNat qq))) [(.int (Int32.ofNat (qq + 2))), (.ref sa)])) rfl (by rw [hml]; rfl) (Steps.refl _) (argsL := [(.int (Int32.ofNat (qq + 2)))]) (rest := []) (lenOf pd_28 rfl) rfl (by show 2 * 0 + _ ≤ _; exact Nat.le_of_eq rfl) (hb hby at_542) (fun _ _ => ⟨rfl, e0, (by decide : 28 + 0 ≤ _), (by decide : 428 + 0 ≤ _)⟩)
  dsimp only [Pt.U, Pt.locs, Pt.cells, Pt.slots] at X4 l4 y4 z4 st4 hQ4
  subst l4 y4 z4
  obtain ⟨rfl, N4q, e4⟩ := hQ4
  have N4 := Fr.app N0 N4q
  have c5 : own_G p e below T4 (mkF m 545 (own_L p0 p1 p2 p3 wr dr vfl 2 xa xb xc xd sp sq sa vl (oi 1) (oi l7) (oi (Int32.ofNat qq))) [(.int xc)]) (mkF m 545 (own_L p0 p1 p2 p3 wr dr vfl 2 xa xb xc xd sp sq sa vl (oi 1) (oi l7) (oi (Int32.ofNat qq))) [(.int (own_cc ((tt.getD (qq + 2) 0).toInt8.toInt32)))]) := fun t kt => castTop (congrArg (fun zv => (mkF m 545 (own_L p0 p1 p2 p3 wr dr vfl 2 xa xb xc xd sp sq sa vl (oi 1) (oi l7) (oi (Int32.ofNat qq))) [(.int zv)])) (show (own_cc ((tt.getD (qq + 2) 0).toInt8.toInt32)) = xc from (by rw [hx0]; exact own_ccv _ hr_xc.1 hr_xc.2))) kt
  have c6 : own_G p e below T4 (mkF m 574 (own_L p0 p1 p2 p3 wr dr vfl 2 xa xb xc xd sp sq sa vl (oi 1) (oi l7) (oi (Int32.ofNat qq))) [(.int ((Int32.ofNat qq) + (3 : Int32))), (.ref sa)]) (mkF m 545 (own_L p0 p1 p2 p3 wr dr vfl 2 xa xb xc xd sp sq sa vl (oi 1) (oi l7) (oi (Int32.ofNat qq))) [(.int xc)]) := by
    intro t kt
    show oS T4 (mkF m 545 (own_L p0 p1 p2 p3 wr dr vfl 2 xa xb xc xd sp sq sa vl (oi 1) (oi l7) (oi (Int32.ofNat qq))) [(.int xc)]) _
    refine XS.iload X4.here hx rfl (hb hby at_545) rfl ?_
    show oS T4 (mkF m 547 (own_L p0 p1 p2 p3 wr dr vfl 2 xa xb xc xd sp sq sa vl (oi 1) (oi l7) (oi (Int32.ofNat qq))) [(.int xc), (.int xc)]) _
    refine XS.icmpNo X4.here hx rfl (hb hby at_547) rfl (teq (rfl : xc = xc)).2 ?_
    show oS T4 (mkF m 550 (own_L p0 p1 p2 p3 wr dr vfl 2 xa xb xc xd sp sq sa vl (oi 1) (oi l7) (oi (Int32.ofNat qq))) []) _
    refine XS.iconst X4.here hx rfl (hb hby at_550) ?_
    show oS T4 (mkF m 551 (own_L p0 p1 p2 p3 wr dr vfl 2 xa xb xc xd sp sq sa vl (oi 1) (oi l7) (oi (Int32.ofNat qq))) [(.int (1 : Int32))]) _
    refine XS.goto X4.here hx rfl (pc0 := 551) (pc' := 555) rfl (hb hby at_551) (by decide) (by decide) ?_
    show oS T4 (mkF m 555 (own_L p0 p1 p2 p3 wr dr vfl 2 xa xb xc xd sp sq sa vl (oi 1) (oi l7) (oi (Int32.ofNat qq))) [(.int (1 : Int32))]) _
    refine XS.istore X4.here hx rfl (hb hby at_555) rfl (l' := (own_L p0 p1 p2 p3 wr dr vfl 2 xa xb xc xd sp sq sa vl (oi 1) (oi l7) (oi (Int32.ofNat qq)))) rfl ?_
    show oS T4 (mkF m 557 (own_L p0 p1 p2 p3 wr dr vfl 2 xa xb xc xd sp sq sa vl (oi 1) (oi l7) (oi (Int32.ofNat qq))) []) _
    refine XS.iload X4.here hx rfl (hb hby at_557) rfl ?_
    show oS T4 (mkF m 559 (own_L p0 p1 p2 p3 wr dr vfl 2 xa xb xc xd sp sq sa vl (oi 1) (oi l7) (oi (Int32.ofNat qq))) [(.int (2 : Int32))]) _
    refine XS.iconst X4.here hx rfl (hb hby at_559) ?_
    show oS T4 (mkF m 560 (own_L p0 p1 p2 p3 wr dr vfl 2 xa xb xc xd sp sq sa vl (oi 1) (oi l7) (oi (Int32.ofNat qq))) [(.int (2 : Int32)), (.int (2 : Int32))]) _
    refine XS.icmpNo X4.here hx rfl (hb hby at_560) rfl (flt (by decide : ¬ ((2 : Int32) < (2 : Int32)))).1 ?_
    show oS T4 (mkF m 563 (own_L p0 p1 p2 p3 wr dr vfl 2 xa xb xc xd sp sq sa vl (oi 1) (oi l7) (oi (Int32.ofNat qq))) []) _
    refine XS.iload X4.here hx rfl (hb hby at_563) rfl ?_
    show oS T4 (mkF m 565 (own_L p0 p1 p2 p3 wr dr vfl 2 xa xb xc xd sp sq sa vl (oi 1) (oi l7) (oi (Int32.ofNat qq))) [(.int (1 : Int32))]) _
    refine XS.ifNo X4.here hx rfl (hb hby at_565) rfl ((if0 _ _).trans (feq (by decide : ¬ ((1 : Int32) = (0 : Int32)))).1) ?_
    show oS T4 (mkF m 568 (own_L p0 p1 p2 p3 wr dr vfl 2 xa xb xc xd sp sq sa vl (oi 1) (oi l7) (oi (Int32.ofNat qq))) []) _
    refine XS.aload X4.here hx rfl (hb hby at_568) rfl rfl ?_
    show oS T4 (mkF m 570 (own_L p0 p1 p2 p3 wr dr vfl 2 xa xb xc xd sp sq sa vl (oi 1) (oi l7) (oi (Int32.ofNat qq))) [(.ref sa)]) _
    refine XS.iload X4.here hx rfl (hb hby at_570) rfl ?_
    show oS T4 (mkF m 572 (own_L p0 p1 p2 p3 wr dr vfl 2 xa xb xc xd sp sq sa vl (oi 1) (oi l7) (oi (Int32.ofNat qq))) [(.int (Int32.ofNat qq)), (.ref sa)]) _
    refine XS.iconst X4.here hx rfl (hb hby at_572) ?_
    show oS T4 (mkF m 573 (own_L p0 p1 p2 p3 wr dr vfl 2 xa xb xc xd sp sq sa vl (oi 1) (oi l7) (oi (Int32.ofNat qq))) [(.int (3 : Int32)), (.int (Int32.ofNat qq)), (.ref sa)]) _
    refine XS.iadd X4.here hx rfl (hb hby at_573) rfl ?_
    exact kt
  have c7 : own_G p e below T4 (mkF m 574 (own_L p0 p1 p2 p3 wr dr vfl 2 xa xb xc xd sp sq sa vl (oi 1) (oi l7) (oi (Int32.ofNat qq))) [(.int (Int32.ofNat (qq + 3))), (.ref sa)]) (mkF m 574 (own_L p0 p1 p2 p3 wr dr vfl 2 xa xb xc xd sp sq sa vl (oi 1) (oi l7) (oi (Int32.ofNat qq))) [(.int ((Int32.ofNat qq) + (3 : Int32))), (.ref sa)]) := fun t kt => castTop (congrArg (fun zv => (mkF m 574 (own_L p0 p1 p2 p3 wr dr vfl 2 xa xb xc xd sp sq sa vl (oi 1) (oi l7) (oi (Int32.ofNat qq))) [(.int zv), (.ref sa)])) (show ((Int32.ofNat qq) + (3 : Int32)) = (Int32.ofNat (qq + 3)) from own_add _ 3 (by omega) (by omega))) kt
  obtain ⟨cq8, kq8, q8a, q8b, q8c⟩ := isOf hZ e4 Es
  obtain ⟨_, _, ⟨T9, L9, k9, n9⟩, -, X9, ⟨Lc9, hQ9, l9, y9, z9⟩, st9⟩ := X4.virtualBack hx (y := yy_4) (z := yy_4) hown (mvT hZ (own_t hw 165 rfl)) (mvT hZ (own_t hw 166 rfl)) (notFace_of_selects (args := #[]) (mvT hZ (own_t hw 168 rfl))) (mvT hZ (own_t hw 168 rfl)) (mvT hZ (own_t hw 167 rfl)) (by decide) (backOf (W := 0) (rm31 l Z a0 hw [] sa (Int32.ofNat (qq + 3)) rb kb (Int32.ofNat tt.length) ((tt.map (fun c => c.toInt8.toInt32)).map Value.int) (.int 0) ((tt.getD (qq + 3) 0).toInt8.toInt32) fm cs h0 n0 Z0 Es Fs Vs (own_hi (qq + 3) _ ⟨by omega, by omega⟩) (own_bat tt (qq + 3) ⟨by omega, by omega⟩ _) SF hfm SC hcs Cs) hZ (own_t hw 169 rfl) (own_t hw 9 rfl) (by decide) (by decide)) q8a q8c (g := (mkF m 574 (own_L p0 p1 p2 p3 wr dr vfl 2 xa xb xc xd sp sq sa vl (oi 1) (oi l7) (oi (Int32.ofNat qq))) [(.int (Int32.ofNat (qq + 3))), (.ref sa)])) rfl (by rw [hml]; rfl) (Steps.refl _) (argsL := [(.int (Int32.ofNat (qq + 3)))]) (rest := []) (lenOf pd_28 rfl) rfl (by show 2 * 0 + _ ≤ _; exact Nat.le_of_eq rfl) (hb hby at_574) (fun _ _ => ⟨rfl, e4, (by decide : 28 + 0 ≤ _), (by decide : 428 + 0 ≤ _)⟩)
  dsimp only [Pt.U, Pt.locs, Pt.cells, Pt.slots] at X9 l9 y9 z9 st9 hQ9
  subst l9 y9 z9
  obtain ⟨rfl, N9q, e9⟩ := hQ9
  have N9 := Fr.app N4 N9q
  have c10 : own_G p e below T9 (mkF m 577 (own_L p0 p1 p2 p3 wr dr vfl 2 xa xb xc xd sp sq sa vl (oi 1) (oi l7) (oi (Int32.ofNat qq))) [(.int xd)]) (mkF m 577 (own_L p0 p1 p2 p3 wr dr vfl 2 xa xb xc xd sp sq sa vl (oi 1) (oi l7) (oi (Int32.ofNat qq))) [(.int (own_cc ((tt.getD (qq + 3) 0).toInt8.toInt32)))]) := fun t kt => castTop (congrArg (fun zv => (mkF m 577 (own_L p0 p1 p2 p3 wr dr vfl 2 xa xb xc xd sp sq sa vl (oi 1) (oi l7) (oi (Int32.ofNat qq))) [(.int zv)])) (show (own_cc ((tt.getD (qq + 3) 0).toInt8.toInt32)) = xd from (by rw [hx1]; exact own_ccv _ hr_xd.1 hr_xd.2))) kt
  have c11 : own_G p e below T9 (mkF m 589 (own_L p0 p1 p2 p3 wr dr vfl 2 xa xb xc xd sp sq sa vl (oi 1) (oi l7) (oi (Int32.ofNat qq))) []) (mkF m 577 (own_L p0 p1 p2 p3 wr dr vfl 2 xa xb xc xd sp sq sa vl (oi 1) (oi l7) (oi (Int32.ofNat qq))) [(.int xd)]) := by
    intro t kt
    show oS T9 (mkF m 577 (own_L p0 p1 p2 p3 wr dr vfl 2 xa xb xc xd sp sq sa vl (oi 1) (oi l7) (oi (Int32.ofNat qq))) [(.int xd)]) _
    refine XS.iload X9.here hx rfl (hb hby at_577) rfl ?_
    show oS T9 (mkF m 579 (own_L p0 p1 p2 p3 wr dr vfl 2 xa xb xc xd sp sq sa vl (oi 1) (oi l7) (oi (Int32.ofNat qq))) [(.int xd), (.int xd)]) _
    refine XS.icmpNo X9.here hx rfl (hb hby at_579) rfl (teq (rfl : xd = xd)).2 ?_
    show oS T9 (mkF m 582 (own_L p0 p1 p2 p3 wr dr vfl 2 xa xb xc xd sp sq sa vl (oi 1) (oi l7) (oi (Int32.ofNat qq))) []) _
    refine XS.iconst X9.here hx rfl (hb hby at_582) ?_
    show oS T9 (mkF m 583 (own_L p0 p1 p2 p3 wr dr vfl 2 xa xb xc xd sp sq sa vl (oi 1) (oi l7) (oi (Int32.ofNat qq))) [(.int (1 : Int32))]) _
    refine XS.goto X9.here hx rfl (pc0 := 583) (pc' := 587) rfl (hb hby at_583) (by decide) (by decide) ?_
    show oS T9 (mkF m 587 (own_L p0 p1 p2 p3 wr dr vfl 2 xa xb xc xd sp sq sa vl (oi 1) (oi l7) (oi (Int32.ofNat qq))) [(.int (1 : Int32))]) _
    refine XS.istore X9.here hx rfl (hb hby at_587) rfl (l' := (own_L p0 p1 p2 p3 wr dr vfl 2 xa xb xc xd sp sq sa vl (oi 1) (oi l7) (oi (Int32.ofNat qq)))) rfl ?_
    exact kt
  exact ⟨T9, _, h0, X9, e9, N9, (Keep.refl h0 []), rfl, fun t kt => c1 _ (c2 _ (st4.trans (c5 _ (c6 _ (c7 _ (st9.trans (c10 _ (c11 _ (kt)))))))))⟩
theorem pn_0 : plainName "com/example/emex/emex/read/FileRefusalLinePinLaw" = true := by first | (simp [plainName, overriddenIn]; done) | decide +kernel
theorem ef_0 (m : MethodId) (x0 : Int32) (x1 : Int32) (x2 : Int32) (x3 : Int32) : entryFrame m #[(.int x0), (.int x1), (.int x2), (.int x3)] maxLocals = mkF m 0 #[.val (.int x0), .val (.int x1), .val (.int x2), .val (.int x3), .unset, .unset, .unset, .unset, .unset, .unset, .unset, .unset, .unset, .unset, .unset, .unset, .unset, .unset, .unset] [] := by first | (simp [entryFrame, mkF, argsToLocals, Value.category, maxLocals]; done) | rfl
def Q0 (Z : State) (p0 : Int32) (p1 : Int32) (p2 : Int32) (p3 : Int32) (cs : Int32) (fm : Value) (dre sre vre dwq swq vwq : Addr) (kre kwq : ClassId) (h0 : Heap) (n0 : Nat) (v : Option Value) (h : Heap) (L : List Loc) : Prop := v = some (.int 1) ∧ Fr n0 L
set_option maxRecDepth 65536 in
set_option maxHeartbeats 40000000 in
theorem rm0 (l : Launch) (Z : State) (a0 : Array Value) (hw : ∀ d ∈ tables_1, d.before a0 Z = true) (ws : List Jvm.Cond) (p0 : Int32) (p1 : Int32) (p2 : Int32) (p3 : Int32) (cs : Int32) (fm : Value) (dre sre vre dwq swq vwq : Addr) (kre kwq : ClassId) (h0 : Heap) (n0 : Nat) (Z0 : n0 ≤ h0.size) (O0 : Old Z n0 h0) (SC : Sta Z Z.heap "java/lang/String" "COMPACT_STRINGS" "Z" (.int cs)) (hcs : ¬ cs = (0 : Int32)) (SF : Sta Z Z.heap "jdk/internal/util/Preconditions" "SIOOBE_FORMATTER" "Ljava/util/function/BiFunction;" fm) (hfm : fm.isRef = true) (Tre : Sta Z Z.heap "com/example/emex/emex/read/FileRefusal" "READ" "Lcom/example/emex/emex/read/FileRefusal;" (.ref dre)) (Ere : Exa Z Z.heap dre "com/example/emex/emex/read/FileRefusal") (Wre : Fld Z Z.heap dre "com/example/emex/emex/read/FileRefusal" "verb" "Ljava/lang/String;" (.ref sre)) (Ire : Exa Z Z.heap sre "java/lang/String") (Cre : Fld Z Z.heap sre "java/lang/String" "coder" "B" (.int (0 : Int32))) (Fre : Fld Z Z.heap sre "java/lang/String" "value" "[B" (.ref vre)) (Vre : Arv Z Z.heap vre kre .byte (Int32.ofNat ([114, 101, 97, 100] : List Int32).length) ((([114, 101, 97, 100] : List Int32).map (fun c => c.toInt8.toInt32)).map Value.int) (.int 0)) (Twq : Sta Z Z.heap "com/example/emex/emex/read/FileRefusal" "WRITE" "Lcom/example/emex/emex/read/FileRefusal;" (.ref dwq)) (Ewq : Exa Z Z.heap dwq "com/example/emex/emex/read/FileRefusal") (Wwq : Fld Z Z.heap dwq "com/example/emex/emex/read/FileRefusal" "verb" "Ljava/lang/String;" (.ref swq)) (Iwq : Exa Z Z.heap swq "java/lang/String") (Cwq : Fld Z Z.heap swq "java/lang/String" "coder" "B" (.int (0 : Int32))) (Fwq : Fld Z Z.heap swq "java/lang/String" "value" "[B" (.ref vwq)) (Vwq : Arv Z Z.heap vwq kwq .byte (Int32.ofNat ([119, 114, 105, 116, 101] : List Int32).length) ((([119, 114, 105, 116, 101] : List Int32).map (fun c => c.toInt8.toInt32)).map Value.int) (.int 0)) :
    MetFree l x (head1 (Jvm.Cond.code x code maxLocals ret :: ws) room_1) (fun a U => a = #[(.int p0), (.int p1), (.int p2), (.int p3)] ∧ Z.Warmed39 U.vm ∧ U.heap = h0 ∧ CHv Z consts_1 U.vm h0) (fun _ _ _ _ _ => True) (fun _ U o U' => ∃ v L, o = .returned v ∧ Q0 Z p0 p1 p2 p3 cs fm dre sre vre dwq swq vwq kre kwq h0 n0 v U'.heap L ∧ ReturnedEndW U o U' L room_1.cells room_1.slots) := by
  refine MetFree.of_bodySF (plainFor_of_name pn_0) hisR ?_
  intro p e s m args below meth c s₁ Bd hml0 hP hK
  obtain ⟨rfl, hZ, hh, hCH⟩ := hP
  have hx := Bd.exec
  have hby := Bd.bytes
  have hml : c.maxLocals = 19 := hml0
  have hown : s.vm.findClass "com/example/emex/emex/read/FileRefusalLinePinLaw" = some m.cls := findClass_of_methodNamed Bd.named
  have hnm := (name_of_methodNamed Bd.named Bd.method).1
  have X0 : Stand p l e room_1 s m #[(.int p0), (.int p1), (.int p2), (.int p3)] below meth c s₁ [] 0 0 := Stand.of_body Bd
  have e0 : s₁.heap = h0 := by rw [← hh, Bd.state]; rfl
  have N0 := Fr.nil n0
  have pre0 : ∀ t, Steps p.tables e below (s₁.setTop (mkF m 0 #[oi p0, oi p1, oi p2, oi p3, .unset, .unset, .unset, .unset, .unset, .unset, .unset, .unset, .unset, .unset, .unset, .unset, .unset, .unset, .unset] [])) t → Steps p.tables e below (s₁.setTop (entryFrame m #[(.int p0), (.int p1), (.int p2), (.int p3)] maxLocals)) t := fun t k => castTop (ef_0 m p0 p1 p2 p3) k
  have hS0 : s.Since s.vm 0 := (State.WarmedH.refl s).since 0
  have hEL : EW Z a0 consts_1 := (EW.cons (own_t hw 67 rfl) (by decide) (EW.cons (own_t hw 117 rfl) (by decide) (EW.cons (own_t hw 118 rfl) (by decide) (EW.cons (own_t hw 41 rfl) (by decide) EW.nil))))
  have hwS : ∀ d ∈ Bundle.stringAtoms, d.before a0 Z = true := fun d hd => hw d ((by decide +kernel : ∀ d ∈ Bundle.stringAtoms, d ∈ tables_1) d hd)
  have c1 : own_G p e below s₁ (mkF m 3 #[oi p0, oi p1, oi p2, oi p3, .unset, .unset, .unset, .unset, .unset, .unset, .unset, .unset, .unset, .unset, .unset, .unset, .unset, .unset, .unset] [(.int (p0 &&& (1 : Int32)))]) (mkF m 0 #[oi p0, oi p1, oi p2, oi p3, .unset, .unset, .unset, .unset, .unset, .unset, .unset, .unset, .unset, .unset, .unset, .unset, .unset, .unset, .unset] []) := by
    intro t kt
    show oS s₁ (mkF m 0 #[oi p0, oi p1, oi p2, oi p3, .unset, .unset, .unset, .unset, .unset, .unset, .unset, .unset, .unset, .unset, .unset, .unset, .unset, .unset, .unset] []) _
    refine XS.iloadN X0.here hx rfl (hb hby at_0) rfl ?_
    show oS s₁ (mkF m 1 #[oi p0, oi p1, oi p2, oi p3, .unset, .unset, .unset, .unset, .unset, .unset, .unset, .unset, .unset, .unset, .unset, .unset, .unset, .unset, .unset] [(.int p0)]) _
    refine XS.iconst X0.here hx rfl (hb hby at_1) ?_
    show oS s₁ (mkF m 2 #[oi p0, oi p1, oi p2, oi p3, .unset, .unset, .unset, .unset, .unset, .unset, .unset, .unset, .unset, .unset, .unset, .unset, .unset, .unset, .unset] [(.int (1 : Int32)), (.int p0)]) _
    refine XS.iand X0.here hx rfl (hb hby at_2) rfl ?_
    exact kt
  by_cases hc3 : (p0 &&& (1 : Int32)) = (0 : Int32)
  · -- it is
    have c3 : own_G p e below s₁ (mkF m 24 #[oi p0, oi p1, oi p2, oi p3, oi 0, .unset, .unset, .unset, .unset, .unset, .unset, .unset, .unset, .unset, .unset, .unset, .unset, .unset, .unset] []) (mkF m 3 #[oi p0, oi p1, oi p2, oi p3, .unset, .unset, .unset, .unset, .unset, .unset, .unset, .unset, .unset, .unset, .unset, .unset, .unset, .unset, .unset] [(.int (p0 &&& (1 : Int32)))]) := by
      intro t kt
      show oS s₁ (mkF m 3 #[oi p0, oi p1, oi p2, oi p3, .unset, .unset, .unset, .unset, .unset, .unset, .unset, .unset, .unset, .unset, .unset, .unset, .unset, .unset, .unset] [(.int (p0 &&& (1 : Int32)))]) _
      refine XS.ifYes X0.here hx rfl (pc0 := 3) (pc' := 10) rfl (hb hby at_3) rfl ((if0 _ _).trans (teq hc3).1) (by decide) (by decide) ?_
      show oS s₁ (mkF m 10 #[oi p0, oi p1, oi p2, oi p3, .unset, .unset, .unset, .unset, .unset, .unset, .unset, .unset, .unset, .unset, .unset, .unset, .unset, .unset, .unset] []) _
      refine XS.iconst X0.here hx rfl (hb hby at_10) ?_
      show oS s₁ (mkF m 11 #[oi p0, oi p1, oi p2, oi p3, .unset, .unset, .unset, .unset, .unset, .unset, .unset, .unset, .unset, .unset, .unset, .unset, .unset, .unset, .unset] [(.int (0 : Int32))]) _
      refine XS.istore X0.here hx rfl (hb hby at_11) rfl (l' := #[oi p0, oi p1, oi p2, oi p3, oi 0, .unset, .unset, .unset, .unset, .unset, .unset, .unset, .unset, .unset, .unset, .unset, .unset, .unset, .unset]) rfl ?_
      show oS s₁ (mkF m 13 #[oi p0, oi p1, oi p2, oi p3, oi 0, .unset, .unset, .unset, .unset, .unset, .unset, .unset, .unset, .unset, .unset, .unset, .unset, .unset, .unset] []) _
      refine XS.iload X0.here hx rfl (hb hby at_13) rfl ?_
      show oS s₁ (mkF m 15 #[oi p0, oi p1, oi p2, oi p3, oi 0, .unset, .unset, .unset, .unset, .unset, .unset, .unset, .unset, .unset, .unset, .unset, .unset, .unset, .unset] [(.int (0 : Int32))]) _
      refine XS.ifYes X0.here hx rfl (pc0 := 15) (pc' := 24) rfl (hb hby at_15) rfl ((if0 _ _).trans (teq (by decide : (0 : Int32) = (0 : Int32))).1) (by decide) (by decide) ?_
      exact kt
    obtain ⟨T2, X2, e2, st2⟩ := getS2 X0 hx hZ hown (host := "") (Or.inl (own_t hw 0 rfl)) Via.refl e0 (Tre.ext O0.2) (g := (mkF m 24 #[oi p0, oi p1, oi p2, oi p3, oi 0, .unset, .unset, .unset, .unset, .unset, .unset, .unset, .unset, .unset, .unset, .unset, .unset, .unset, .unset] [])) rfl (hb hby at_24)
    have c4 : own_G p e below T2 (mkF m 83 #[oi p0, oi p1, oi p2, oi p3, oi 0, oa dre, oi ((p3 &&& (3 : Int32)) % (3 : Int32)), oi ((((p3.toUInt32 >>> ((2 : Int32) &&& 31).toUInt32).toInt32) &&& (3 : Int32)) % (3 : Int32)), oi ((p1 &&& (255 : Int32)).toUInt32.toUInt16.toUInt32.toInt32), oi ((((p1.toUInt32 >>> ((8 : Int32) &&& 31).toUInt32).toInt32) &&& (255 : Int32)).toUInt32.toUInt16.toUInt32.toInt32), oi ((p2 &&& (255 : Int32)).toUInt32.toUInt16.toUInt32.toInt32), oi ((((p2.toUInt32 >>> ((8 : Int32) &&& 31).toUInt32).toInt32) &&& (255 : Int32)).toUInt32.toUInt16.toUInt32.toInt32), .unset, .unset, .unset, .unset, .unset, .unset, .unset] []) (mkF m 27 #[oi p0, oi p1, oi p2, oi p3, oi 0, .unset, .unset, .unset, .unset, .unset, .unset, .unset, .unset, .unset, .unset, .unset, .unset, .unset, .unset] [(.ref dre)]) := by
      intro t kt
      show oS T2 (mkF m 27 #[oi p0, oi p1, oi p2, oi p3, oi 0, .unset, .unset, .unset, .unset, .unset, .unset, .unset, .unset, .unset, .unset, .unset, .unset, .unset, .unset] [(.ref dre)]) _
      refine XS.astore X2.here hx rfl (hb hby at_27) rfl rfl (l' := #[oi p0, oi p1, oi p2, oi p3, oi 0, oa dre, .unset, .unset, .unset, .unset, .unset, .unset, .unset, .unset, .unset, .unset, .unset, .unset, .unset]) rfl ?_
      show oS T2 (mkF m 29 #[oi p0, oi p1, oi p2, oi p3, oi 0, oa dre, .unset, .unset, .unset, .unset, .unset, .unset, .unset, .unset, .unset, .unset, .unset, .unset, .unset] []) _
      refine XS.iloadN X2.here hx rfl (hb hby at_29) rfl ?_
      show oS T2 (mkF m 30 #[oi p0, oi p1, oi p2, oi p3, oi 0, oa dre, .unset, .unset, .unset, .unset, .unset, .unset, .unset, .unset, .unset, .unset, .unset, .unset, .unset] [(.int p3)]) _
      refine XS.iconst X2.here hx rfl (hb hby at_30) ?_
      show oS T2 (mkF m 31 #[oi p0, oi p1, oi p2, oi p3, oi 0, oa dre, .unset, .unset, .unset, .unset, .unset, .unset, .unset, .unset, .unset, .unset, .unset, .unset, .unset] [(.int (3 : Int32)), (.int p3)]) _
      refine XS.iand X2.here hx rfl (hb hby at_31) rfl ?_
      show oS T2 (mkF m 32 #[oi p0, oi p1, oi p2, oi p3, oi 0, oa dre, .unset, .unset, .unset, .unset, .unset, .unset, .unset, .unset, .unset, .unset, .unset, .unset, .unset] [(.int (p3 &&& (3 : Int32)))]) _
      refine XS.iconst X2.here hx rfl (hb hby at_32) ?_
      show oS T2 (mkF m 33 #[oi p0, oi p1, oi p2, oi p3, oi 0, oa dre, .unset, .unset, .unset, .unset, .unset, .unset, .unset, .unset, .unset, .unset, .unset, .unset, .unset] [(.int (3 : Int32)), (.int (p3 &&& (3 : Int32)))]) _
      refine iremM X2 hx rfl (hb hby at_33) rfl (by decide) ?_
      show oS T2 (mkF m 34 #[oi p0, oi p1, oi p2, oi p3, oi 0, oa dre, .unset, .unset, .unset, .unset, .unset, .unset, .unset, .unset, .unset, .unset, .unset, .unset, .unset] [(.int ((p3 &&& (3 : Int32)) % (3 : Int32)))]) _
      refine XS.istore X2.here hx rfl (hb hby at_34) rfl (l' := #[oi p0, oi p1, oi p2, oi p3, oi 0, oa dre, oi ((p3 &&& (3 : Int32)) % (3 : Int32)), .unset, .unset, .unset, .unset, .unset, .unset, .unset, .unset, .unset, .unset, .unset, .unset]) rfl ?_
      show oS T2 (mkF m 36 #[oi p0, oi p1, oi p2, oi p3, oi 0, oa dre, oi ((p3 &&& (3 : Int32)) % (3 : Int32)), .unset, .unset, .unset, .unset, .unset, .unset, .unset, .unset, .unset, .unset, .unset, .unset] []) _
      refine XS.iloadN X2.here hx rfl (hb hby at_36) rfl ?_
      show oS T2 (mkF m 37 #[oi p0, oi p1, oi p2, oi p3, oi 0, oa dre, oi ((p3 &&& (3 : Int32)) % (3 : Int32)), .unset, .unset, .unset, .unset, .unset, .unset, .unset, .unset, .unset, .unset, .unset, .unset] [(.int p3)]) _
      refine XS.iconst X2.here hx rfl (hb hby at_37) ?_
      show oS T2 (mkF m 38 #[oi p0, oi p1, oi p2, oi p3, oi 0, oa dre, oi ((p3 &&& (3 : Int32)) % (3 : Int32)), .unset, .unset, .unset, .unset, .unset, .unset, .unset, .unset, .unset, .unset, .unset, .unset] [(.int (2 : Int32)), (.int p3)]) _
      refine XS.iushr X2.here hx rfl (hb hby at_38) rfl ?_
      show oS T2 (mkF m 39 #[oi p0, oi p1, oi p2, oi p3, oi 0, oa dre, oi ((p3 &&& (3 : Int32)) % (3 : Int32)), .unset, .unset, .unset, .unset, .unset, .unset, .unset, .unset, .unset, .unset, .unset, .unset] [(.int ((p3.toUInt32 >>> ((2 : Int32) &&& 31).toUInt32).toInt32))]) _
      refine XS.iconst X2.here hx rfl (hb hby at_39) ?_
      show oS T2 (mkF m 40 #[oi p0, oi p1, oi p2, oi p3, oi 0, oa dre, oi ((p3 &&& (3 : Int32)) % (3 : Int32)), .unset, .unset, .unset, .unset, .unset, .unset, .unset, .unset, .unset, .unset, .unset, .unset] [(.int (3 : Int32)), (.int ((p3.toUInt32 >>> ((2 : Int32) &&& 31).toUInt32).toInt32))]) _
      refine XS.iand X2.here hx rfl (hb hby at_40) rfl ?_
      show oS T2 (mkF m 41 #[oi p0, oi p1, oi p2, oi p3, oi 0, oa dre, oi ((p3 &&& (3 : Int32)) % (3 : Int32)), .unset, .unset, .unset, .unset, .unset, .unset, .unset, .unset, .unset, .unset, .unset, .unset] [(.int (((p3.toUInt32 >>> ((2 : Int32) &&& 31).toUInt32).toInt32) &&& (3 : Int32)))]) _
      refine XS.iconst X2.here hx rfl (hb hby at_41) ?_
      show oS T2 (mkF m 42 #[oi p0, oi p1, oi p2, oi p3, oi 0, oa dre, oi ((p3 &&& (3 : Int32)) % (3 : Int32)), .unset, .unset, .unset, .unset, .unset, .unset, .unset, .unset, .unset, .unset, .unset, .unset] [(.int (3 : Int32)), (.int (((p3.toUInt32 >>> ((2 : Int32) &&& 31).toUInt32).toInt32) &&& (3 : Int32)))]) _
      refine iremM X2 hx rfl (hb hby at_42) rfl (by decide) ?_
      show oS T2 (mkF m 43 #[oi p0, oi p1, oi p2, oi p3, oi 0, oa dre, oi ((p3 &&& (3 : Int32)) % (3 : Int32)), .unset, .unset, .unset, .unset, .unset, .unset, .unset, .unset, .unset, .unset, .unset, .unset] [(.int ((((p3.toUInt32 >>> ((2 : Int32) &&& 31).toUInt32).toInt32) &&& (3 : Int32)) % (3 : Int32)))]) _
      refine XS.istore X2.here hx rfl (hb hby at_43) rfl (l' := #[oi p0, oi p1, oi p2, oi p3, oi 0, oa dre, oi ((p3 &&& (3 : Int32)) % (3 : Int32)), oi ((((p3.toUInt32 >>> ((2 : Int32) &&& 31).toUInt32).toInt32) &&& (3 : Int32)) % (3 : Int32)), .unset, .unset, .unset, .unset, .unset, .unset, .unset, .unset, .unset, .unset, .unset]) rfl ?_
      show oS T2 (mkF m 45 #[oi p0, oi p1, oi p2, oi p3, oi 0, oa dre, oi ((p3 &&& (3 : Int32)) % (3 : Int32)), oi ((((p3.toUInt32 >>> ((2 : Int32) &&& 31).toUInt32).toInt32) &&& (3 : Int32)) % (3 : Int32)), .unset, .unset, .unset, .unset, .unset, .unset, .unset, .unset, .unset, .unset, .unset] []) _
      refine XS.iloadN X2.here hx rfl (hb hby at_45) rfl ?_
      show oS T2 (mkF m 46 #[oi p0, oi p1, oi p2, oi p3, oi 0, oa dre, oi ((p3 &&& (3 : Int32)) % (3 : Int32)), oi ((((p3.toUInt32 >>> ((2 : Int32) &&& 31).toUInt32).toInt32) &&& (3 : Int32)) % (3 : Int32)), .unset, .unset, .unset, .unset, .unset, .unset, .unset, .unset, .unset, .unset, .unset] [(.int p1)]) _
      refine XS.sipush X2.here hx rfl (hb hby at_46) ?_
      show oS T2 (mkF m 49 #[oi p0, oi p1, oi p2, oi p3, oi 0, oa dre, oi ((p3 &&& (3 : Int32)) % (3 : Int32)), oi ((((p3.toUInt32 >>> ((2 : Int32) &&& 31).toUInt32).toInt32) &&& (3 : Int32)) % (3 : Int32)), .unset, .unset, .unset, .unset, .unset, .unset, .unset, .unset, .unset, .unset, .unset] [(.int (255 : Int32)), (.int p1)]) _
      refine XS.iand X2.here hx rfl (hb hby at_49) rfl ?_
      show oS T2 (mkF m 50 #[oi p0, oi p1, oi p2, oi p3, oi 0, oa dre, oi ((p3 &&& (3 : Int32)) % (3 : Int32)), oi ((((p3.toUInt32 >>> ((2 : Int32) &&& 31).toUInt32).toInt32) &&& (3 : Int32)) % (3 : Int32)), .unset, .unset, .unset, .unset, .unset, .unset, .unset, .unset, .unset, .unset, .unset] [(.int (p1 &&& (255 : Int32)))]) _
      refine XS.i2c X2.here hx rfl (hb hby at_50) rfl ?_
      show oS T2 (mkF m 51 #[oi p0, oi p1, oi p2, oi p3, oi 0, oa dre, oi ((p3 &&& (3 : Int32)) % (3 : Int32)), oi ((((p3.toUInt32 >>> ((2 : Int32) &&& 31).toUInt32).toInt32) &&& (3 : Int32)) % (3 : Int32)), .unset, .unset, .unset, .unset, .unset, .unset, .unset, .unset, .unset, .unset, .unset] [(.int ((p1 &&& (255 : Int32)).toUInt32.toUInt16.toUInt32.toInt32))]) _
      refine XS.istore X2.here hx rfl (hb hby at_51) rfl (l' := #[oi p0, oi p1, oi p2, oi p3, oi 0, oa dre, oi ((p3 &&& (3 : Int32)) % (3 : Int32)), oi ((((p3.toUInt32 >>> ((2 : Int32) &&& 31).toUInt32).toInt32) &&& (3 : Int32)) % (3 : Int32)), oi ((p1 &&& (255 : Int32)).toUInt32.toUInt16.toUInt32.toInt32), .unset, .unset, .unset, .unset, .unset, .unset, .unset, .unset, .unset, .unset]) rfl ?_
      show oS T2 (mkF m 53 #[oi p0, oi p1, oi p2, oi p3, oi 0, oa dre, oi ((p3 &&& (3 : Int32)) % (3 : Int32)), oi ((((p3.toUInt32 >>> ((2 : Int32) &&& 31).toUInt32).toInt32) &&& (3 : Int32)) % (3 : Int32)), oi ((p1 &&& (255 : Int32)).toUInt32.toUInt16.toUInt32.toInt32), .unset, .unset, .unset, .unset, .unset, .unset, .unset, .unset, .unset, .unset] []) _
      refine XS.iloadN X2.here hx rfl (hb hby at_53) rfl ?_
      show oS T2 (mkF m 54 #[oi p0, oi p1, oi p2, oi p3, oi 0, oa dre, oi ((p3 &&& (3 : Int32)) % (3 : Int32)), oi ((((p3.toUInt32 >>> ((2 : Int32) &&& 31).toUInt32).toInt32) &&& (3 : Int32)) % (3 : Int32)), oi ((p1 &&& (255 : Int32)).toUInt32.toUInt16.toUInt32.toInt32), .unset, .unset, .unset, .unset, .unset, .unset, .unset, .unset, .unset, .unset] [(.int p1)]) _
      refine XS.bipush X2.here hx rfl (hb hby at_54) ?_
      show oS T2 (mkF m 56 #[oi p0, oi p1, oi p2, oi p3, oi 0, oa dre, oi ((p3 &&& (3 : Int32)) % (3 : Int32)), oi ((((p3.toUInt32 >>> ((2 : Int32) &&& 31).toUInt32).toInt32) &&& (3 : Int32)) % (3 : Int32)), oi ((p1 &&& (255 : Int32)).toUInt32.toUInt16.toUInt32.toInt32), .unset, .unset, .unset, .unset, .unset, .unset, .unset, .unset, .unset, .unset] [(.int (8 : Int32)), (.int p1)]) _
      refine XS.iushr X2.here hx rfl (hb hby at_56) rfl ?_
      show oS T2 (mkF m 57 #[oi p0, oi p1, oi p2, oi p3, oi 0, oa dre, oi ((p3 &&& (3 : Int32)) % (3 : Int32)), oi ((((p3.toUInt32 >>> ((2 : Int32) &&& 31).toUInt32).toInt32) &&& (3 : Int32)) % (3 : Int32)), oi ((p1 &&& (255 : Int32)).toUInt32.toUInt16.toUInt32.toInt32), .unset, .unset, .unset, .unset, .unset, .unset, .unset, .unset, .unset, .unset] [(.int ((p1.toUInt32 >>> ((8 : Int32) &&& 31).toUInt32).toInt32))]) _
      refine XS.sipush X2.here hx rfl (hb hby at_57) ?_
      show oS T2 (mkF m 60 #[oi p0, oi p1, oi p2, oi p3, oi 0, oa dre, oi ((p3 &&& (3 : Int32)) % (3 : Int32)), oi ((((p3.toUInt32 >>> ((2 : Int32) &&& 31).toUInt32).toInt32) &&& (3 : Int32)) % (3 : Int32)), oi ((p1 &&& (255 : Int32)).toUInt32.toUInt16.toUInt32.toInt32), .unset, .unset, .unset, .unset, .unset, .unset, .unset, .unset, .unset, .unset] [(.int (255 : Int32)), (.int ((p1.toUInt32 >>> ((8 : Int32) &&& 31).toUInt32).toInt32))]) _
      refine XS.iand X2.here hx rfl (hb hby at_60) rfl ?_
      show oS T2 (mkF m 61 #[oi p0, oi p1, oi p2, oi p3, oi 0, oa dre, oi ((p3 &&& (3 : Int32)) % (3 : Int32)), oi ((((p3.toUInt32 >>> ((2 : Int32) &&& 31).toUInt32).toInt32) &&& (3 : Int32)) % (3 : Int32)), oi ((p1 &&& (255 : Int32)).toUInt32.toUInt16.toUInt32.toInt32), .unset, .unset, .unset, .unset, .unset, .unset, .unset, .unset, .unset, .unset] [(.int (((p1.toUInt32 >>> ((8 : Int32) &&& 31).toUInt32).toInt32) &&& (255 : Int32)))]) _
      refine XS.i2c X2.here hx rfl (hb hby at_61) rfl ?_
      show oS T2 (mkF m 62 #[oi p0, oi p1, oi p2, oi p3, oi 0, oa dre, oi ((p3 &&& (3 : Int32)) % (3 : Int32)), oi ((((p3.toUInt32 >>> ((2 : Int32) &&& 31).toUInt32).toInt32) &&& (3 : Int32)) % (3 : Int32)), oi ((p1 &&& (255 : Int32)).toUInt32.toUInt16.toUInt32.toInt32), .unset, .unset, .unset, .unset, .unset, .unset, .unset, .unset, .unset, .unset] [(.int ((((p1.toUInt32 >>> ((8 : Int32) &&& 31).toUInt32).toInt32) &&& (255 : Int32)).toUInt32.toUInt16.toUInt32.toInt32))]) _
      refine XS.istore X2.here hx rfl (hb hby at_62) rfl (l' := #[oi p0, oi p1, oi p2, oi p3, oi 0, oa dre, oi ((p3 &&& (3 : Int32)) % (3 : Int32)), oi ((((p3.toUInt32 >>> ((2 : Int32) &&& 31).toUInt32).toInt32) &&& (3 : Int32)) % (3 : Int32)), oi ((p1 &&& (255 : Int32)).toUInt32.toUInt16.toUInt32.toInt32), oi ((((p1.toUInt32 >>> ((8 : Int32) &&& 31).toUInt32).toInt32) &&& (255 : Int32)).toUInt32.toUInt16.toUInt32.toInt32), .unset, .unset, .unset, .unset, .unset, .unset, .unset, .unset, .unset]) rfl ?_
      show oS T2 (mkF m 64 #[oi p0, oi p1, oi p2, oi p3, oi 0, oa dre, oi ((p3 &&& (3 : Int32)) % (3 : Int32)), oi ((((p3.toUInt32 >>> ((2 : Int32) &&& 31).toUInt32).toInt32) &&& (3 : Int32)) % (3 : Int32)), oi ((p1 &&& (255 : Int32)).toUInt32.toUInt16.toUInt32.toInt32), oi ((((p1.toUInt32 >>> ((8 : Int32) &&& 31).toUInt32).toInt32) &&& (255 : Int32)).toUInt32.toUInt16.toUInt32.toInt32), .unset, .unset, .unset, .unset, .unset, .unset, .unset, .unset, .unset] []) _
      refine XS.iloadN X2.here hx rfl (hb hby at_64) rfl ?_
      show oS T2 (mkF m 65 #[oi p0, oi p1, oi p2, oi p3, oi 0, oa dre, oi ((p3 &&& (3 : Int32)) % (3 : Int32)), oi ((((p3.toUInt32 >>> ((2 : Int32) &&& 31).toUInt32).toInt32) &&& (3 : Int32)) % (3 : Int32)), oi ((p1 &&& (255 : Int32)).toUInt32.toUInt16.toUInt32.toInt32), oi ((((p1.toUInt32 >>> ((8 : Int32) &&& 31).toUInt32).toInt32) &&& (255 : Int32)).toUInt32.toUInt16.toUInt32.toInt32), .unset, .unset, .unset, .unset, .unset, .unset, .unset, .unset, .unset] [(.int p2)]) _
      refine XS.sipush X2.here hx rfl (hb hby at_65) ?_
      show oS T2 (mkF m 68 #[oi p0, oi p1, oi p2, oi p3, oi 0, oa dre, oi ((p3 &&& (3 : Int32)) % (3 : Int32)), oi ((((p3.toUInt32 >>> ((2 : Int32) &&& 31).toUInt32).toInt32) &&& (3 : Int32)) % (3 : Int32)), oi ((p1 &&& (255 : Int32)).toUInt32.toUInt16.toUInt32.toInt32), oi ((((p1.toUInt32 >>> ((8 : Int32) &&& 31).toUInt32).toInt32) &&& (255 : Int32)).toUInt32.toUInt16.toUInt32.toInt32), .unset, .unset, .unset, .unset, .unset, .unset, .unset, .unset, .unset] [(.int (255 : Int32)), (.int p2)]) _
      refine XS.iand X2.here hx rfl (hb hby at_68) rfl ?_
      show oS T2 (mkF m 69 #[oi p0, oi p1, oi p2, oi p3, oi 0, oa dre, oi ((p3 &&& (3 : Int32)) % (3 : Int32)), oi ((((p3.toUInt32 >>> ((2 : Int32) &&& 31).toUInt32).toInt32) &&& (3 : Int32)) % (3 : Int32)), oi ((p1 &&& (255 : Int32)).toUInt32.toUInt16.toUInt32.toInt32), oi ((((p1.toUInt32 >>> ((8 : Int32) &&& 31).toUInt32).toInt32) &&& (255 : Int32)).toUInt32.toUInt16.toUInt32.toInt32), .unset, .unset, .unset, .unset, .unset, .unset, .unset, .unset, .unset] [(.int (p2 &&& (255 : Int32)))]) _
      refine XS.i2c X2.here hx rfl (hb hby at_69) rfl ?_
      show oS T2 (mkF m 70 #[oi p0, oi p1, oi p2, oi p3, oi 0, oa dre, oi ((p3 &&& (3 : Int32)) % (3 : Int32)), oi ((((p3.toUInt32 >>> ((2 : Int32) &&& 31).toUInt32).toInt32) &&& (3 : Int32)) % (3 : Int32)), oi ((p1 &&& (255 : Int32)).toUInt32.toUInt16.toUInt32.toInt32), oi ((((p1.toUInt32 >>> ((8 : Int32) &&& 31).toUInt32).toInt32) &&& (255 : Int32)).toUInt32.toUInt16.toUInt32.toInt32), .unset, .unset, .unset, .unset, .unset, .unset, .unset, .unset, .unset] [(.int ((p2 &&& (255 : Int32)).toUInt32.toUInt16.toUInt32.toInt32))]) _
      refine XS.istore X2.here hx rfl (hb hby at_70) rfl (l' := #[oi p0, oi p1, oi p2, oi p3, oi 0, oa dre, oi ((p3 &&& (3 : Int32)) % (3 : Int32)), oi ((((p3.toUInt32 >>> ((2 : Int32) &&& 31).toUInt32).toInt32) &&& (3 : Int32)) % (3 : Int32)), oi ((p1 &&& (255 : Int32)).toUInt32.toUInt16.toUInt32.toInt32), oi ((((p1.toUInt32 >>> ((8 : Int32) &&& 31).toUInt32).toInt32) &&& (255 : Int32)).toUInt32.toUInt16.toUInt32.toInt32), oi ((p2 &&& (255 : Int32)).toUInt32.toUInt16.toUInt32.toInt32), .unset, .unset, .unset, .unset, .unset, .unset, .unset, .unset]) rfl ?_
      show oS T2 (mkF m 72 #[oi p0, oi p1, oi p2, oi p3, oi 0, oa dre, oi ((p3 &&& (3 : Int32)) % (3 : Int32)), oi ((((p3.toUInt32 >>> ((2 : Int32) &&& 31).toUInt32).toInt32) &&& (3 : Int32)) % (3 : Int32)), oi ((p1 &&& (255 : Int32)).toUInt32.toUInt16.toUInt32.toInt32), oi ((((p1.toUInt32 >>> ((8 : Int32) &&& 31).toUInt32).toInt32) &&& (255 : Int32)).toUInt32.toUInt16.toUInt32.toInt32), oi ((p2 &&& (255 : Int32)).toUInt32.toUInt16.toUInt32.toInt32), .unset, .unset, .unset, .unset, .unset, .unset, .unset, .unset] []) _
      refine XS.iloadN X2.here hx rfl (hb hby at_72) rfl ?_
      show oS T2 (mkF m 73 #[oi p0, oi p1, oi p2, oi p3, oi 0, oa dre, oi ((p3 &&& (3 : Int32)) % (3 : Int32)), oi ((((p3.toUInt32 >>> ((2 : Int32) &&& 31).toUInt32).toInt32) &&& (3 : Int32)) % (3 : Int32)), oi ((p1 &&& (255 : Int32)).toUInt32.toUInt16.toUInt32.toInt32), oi ((((p1.toUInt32 >>> ((8 : Int32) &&& 31).toUInt32).toInt32) &&& (255 : Int32)).toUInt32.toUInt16.toUInt32.toInt32), oi ((p2 &&& (255 : Int32)).toUInt32.toUInt16.toUInt32.toInt32), .unset, .unset, .unset, .unset, .unset, .unset, .unset, .unset] [(.int p2)]) _
      refine XS.bipush X2.here hx rfl (hb hby at_73) ?_
      show oS T2 (mkF m 75 #[oi p0, oi p1, oi p2, oi p3, oi 0, oa dre, oi ((p3 &&& (3 : Int32)) % (3 : Int32)), oi ((((p3.toUInt32 >>> ((2 : Int32) &&& 31).toUInt32).toInt32) &&& (3 : Int32)) % (3 : Int32)), oi ((p1 &&& (255 : Int32)).toUInt32.toUInt16.toUInt32.toInt32), oi ((((p1.toUInt32 >>> ((8 : Int32) &&& 31).toUInt32).toInt32) &&& (255 : Int32)).toUInt32.toUInt16.toUInt32.toInt32), oi ((p2 &&& (255 : Int32)).toUInt32.toUInt16.toUInt32.toInt32), .unset, .unset, .unset, .unset, .unset, .unset, .unset, .unset] [(.int (8 : Int32)), (.int p2)]) _
      refine XS.iushr X2.here hx rfl (hb hby at_75) rfl ?_
      show oS T2 (mkF m 76 #[oi p0, oi p1, oi p2, oi p3, oi 0, oa dre, oi ((p3 &&& (3 : Int32)) % (3 : Int32)), oi ((((p3.toUInt32 >>> ((2 : Int32) &&& 31).toUInt32).toInt32) &&& (3 : Int32)) % (3 : Int32)), oi ((p1 &&& (255 : Int32)).toUInt32.toUInt16.toUInt32.toInt32), oi ((((p1.toUInt32 >>> ((8 : Int32) &&& 31).toUInt32).toInt32) &&& (255 : Int32)).toUInt32.toUInt16.toUInt32.toInt32), oi ((p2 &&& (255 : Int32)).toUInt32.toUInt16.toUInt32.toInt32), .unset, .unset, .unset, .unset, .unset, .unset, .unset, .unset] [(.int ((p2.toUInt32 >>> ((8 : Int32) &&& 31).toUInt32).toInt32))]) _
      refine XS.sipush X2.here hx rfl (hb hby at_76) ?_
      show oS T2 (mkF m 79 #[oi p0, oi p1, oi p2, oi p3, oi 0, oa dre, oi ((p3 &&& (3 : Int32)) % (3 : Int32)), oi ((((p3.toUInt32 >>> ((2 : Int32) &&& 31).toUInt32).toInt32) &&& (3 : Int32)) % (3 : Int32)), oi ((p1 &&& (255 : Int32)).toUInt32.toUInt16.toUInt32.toInt32), oi ((((p1.toUInt32 >>> ((8 : Int32) &&& 31).toUInt32).toInt32) &&& (255 : Int32)).toUInt32.toUInt16.toUInt32.toInt32), oi ((p2 &&& (255 : Int32)).toUInt32.toUInt16.toUInt32.toInt32), .unset, .unset, .unset, .unset, .unset, .unset, .unset, .unset] [(.int (255 : Int32)), (.int ((p2.toUInt32 >>> ((8 : Int32) &&& 31).toUInt32).toInt32))]) _
      refine XS.iand X2.here hx rfl (hb hby at_79) rfl ?_
      show oS T2 (mkF m 80 #[oi p0, oi p1, oi p2, oi p3, oi 0, oa dre, oi ((p3 &&& (3 : Int32)) % (3 : Int32)), oi ((((p3.toUInt32 >>> ((2 : Int32) &&& 31).toUInt32).toInt32) &&& (3 : Int32)) % (3 : Int32)), oi ((p1 &&& (255 : Int32)).toUInt32.toUInt16.toUInt32.toInt32), oi ((((p1.toUInt32 >>> ((8 : Int32) &&& 31).toUInt32).toInt32) &&& (255 : Int32)).toUInt32.toUInt16.toUInt32.toInt32), oi ((p2 &&& (255 : Int32)).toUInt32.toUInt16.toUInt32.toInt32), .unset, .unset, .unset, .unset, .unset, .unset, .unset, .unset] [(.int (((p2.toUInt32 >>> ((8 : Int32) &&& 31).toUInt32).toInt32) &&& (255 : Int32)))]) _
      refine XS.i2c X2.here hx rfl (hb hby at_80) rfl ?_
      show oS T2 (mkF m 81 #[oi p0, oi p1, oi p2, oi p3, oi 0, oa dre, oi ((p3 &&& (3 : Int32)) % (3 : Int32)), oi ((((p3.toUInt32 >>> ((2 : Int32) &&& 31).toUInt32).toInt32) &&& (3 : Int32)) % (3 : Int32)), oi ((p1 &&& (255 : Int32)).toUInt32.toUInt16.toUInt32.toInt32), oi ((((p1.toUInt32 >>> ((8 : Int32) &&& 31).toUInt32).toInt32) &&& (255 : Int32)).toUInt32.toUInt16.toUInt32.toInt32), oi ((p2 &&& (255 : Int32)).toUInt32.toUInt16.toUInt32.toInt32), .unset, .unset, .unset, .unset, .unset, .unset, .unset, .unset] [(.int ((((p2.toUInt32 >>> ((8 : Int32) &&& 31).toUInt32).toInt32) &&& (255 : Int32)).toUInt32.toUInt16.toUInt32.toInt32))]) _
      refine XS.istore X2.here hx rfl (hb hby at_81) rfl (l' := #[oi p0, oi p1, oi p2, oi p3, oi 0, oa dre, oi ((p3 &&& (3 : Int32)) % (3 : Int32)), oi ((((p3.toUInt32 >>> ((2 : Int32) &&& 31).toUInt32).toInt32) &&& (3 : Int32)) % (3 : Int32)), oi ((p1 &&& (255 : Int32)).toUInt32.toUInt16.toUInt32.toInt32), oi ((((p1.toUInt32 >>> ((8 : Int32) &&& 31).toUInt32).toInt32) &&& (255 : Int32)).toUInt32.toUInt16.toUInt32.toInt32), oi ((p2 &&& (255 : Int32)).toUInt32.toUInt16.toUInt32.toInt32), oi ((((p2.toUInt32 >>> ((8 : Int32) &&& 31).toUInt32).toInt32) &&& (255 : Int32)).toUInt32.toUInt16.toUInt32.toInt32), .unset, .unset, .unset, .unset, .unset, .unset, .unset]) rfl ?_
      exact kt
    obtain ⟨xa, hxa⟩ : ∃ z, z = ((p1 &&& (255 : Int32)).toUInt32.toUInt16.toUInt32.toInt32) := ⟨_, rfl⟩
    have c5 : ∀ t, own_S p e below T2 (mkF m 83 #[oi p0, oi p1, oi p2, oi p3, oi 0, oa dre, oi ((p3 &&& (3 : Int32)) % (3 : Int32)), oi ((((p3.toUInt32 >>> ((2 : Int32) &&& 31).toUInt32).toInt32) &&& (3 : Int32)) % (3 : Int32)), oi xa, oi ((((p1.toUInt32 >>> ((8 : Int32) &&& 31).toUInt32).toInt32) &&& (255 : Int32)).toUInt32.toUInt16.toUInt32.toInt32), oi ((p2 &&& (255 : Int32)).toUInt32.toUInt16.toUInt32.toInt32), oi ((((p2.toUInt32 >>> ((8 : Int32) &&& 31).toUInt32).toInt32) &&& (255 : Int32)).toUInt32.toUInt16.toUInt32.toInt32), .unset, .unset, .unset, .unset, .unset, .unset, .unset] []) t → own_S p e below T2 (mkF m 83 #[oi p0, oi p1, oi p2, oi p3, oi 0, oa dre, oi ((p3 &&& (3 : Int32)) % (3 : Int32)), oi ((((p3.toUInt32 >>> ((2 : Int32) &&& 31).toUInt32).toInt32) &&& (3 : Int32)) % (3 : Int32)), oi ((p1 &&& (255 : Int32)).toUInt32.toUInt16.toUInt32.toInt32), oi ((((p1.toUInt32 >>> ((8 : Int32) &&& 31).toUInt32).toInt32) &&& (255 : Int32)).toUInt32.toUInt16.toUInt32.toInt32), oi ((p2 &&& (255 : Int32)).toUInt32.toUInt16.toUInt32.toInt32), oi ((((p2.toUInt32 >>> ((8 : Int32) &&& 31).toUInt32).toInt32) &&& (255 : Int32)).toUInt32.toUInt16.toUInt32.toInt32), .unset, .unset, .unset, .unset, .unset, .unset, .unset] []) t := fun t kt => by rw [hxa] at kt; exact kt
    have hr_xa : own_r xa := by rw [hxa]; exact own_c8 _
    obtain ⟨xb, hxb⟩ : ∃ z, z = ((((p1.toUInt32 >>> ((8 : Int32) &&& 31).toUInt32).toInt32) &&& (255 : Int32)).toUInt32.toUInt16.toUInt32.toInt32) := ⟨_, rfl⟩
    have c6 : ∀ t, own_S p e below T2 (mkF m 83 #[oi p0, oi p1, oi p2, oi p3, oi 0, oa dre, oi ((p3 &&& (3 : Int32)) % (3 : Int32)), oi ((((p3.toUInt32 >>> ((2 : Int32) &&& 31).toUInt32).toInt32) &&& (3 : Int32)) % (3 : Int32)), oi xa, oi xb, oi ((p2 &&& (255 : Int32)).toUInt32.toUInt16.toUInt32.toInt32), oi ((((p2.toUInt32 >>> ((8 : Int32) &&& 31).toUInt32).toInt32) &&& (255 : Int32)).toUInt32.toUInt16.toUInt32.toInt32), .unset, .unset, .unset, .unset, .unset, .unset, .unset] []) t → own_S p e below T2 (mkF m 83 #[oi p0, oi p1, oi p2, oi p3, oi 0, oa dre, oi ((p3 &&& (3 : Int32)) % (3 : Int32)), oi ((((p3.toUInt32 >>> ((2 : Int32) &&& 31).toUInt32).toInt32) &&& (3 : Int32)) % (3 : Int32)), oi xa, oi ((((p1.toUInt32 >>> ((8 : Int32) &&& 31).toUInt32).toInt32) &&& (255 : Int32)).toUInt32.toUInt16.toUInt32.toInt32), oi ((p2 &&& (255 : Int32)).toUInt32.toUInt16.toUInt32.toInt32), oi ((((p2.toUInt32 >>> ((8 : Int32) &&& 31).toUInt32).toInt32) &&& (255 : Int32)).toUInt32.toUInt16.toUInt32.toInt32), .unset, .unset, .unset, .unset, .unset, .unset, .unset] []) t := fun t kt => by rw [hxb] at kt; exact kt
    have hr_xb : own_r xb := by rw [hxb]; exact own_c8 _
    obtain ⟨xc, hxc⟩ : ∃ z, z = ((p2 &&& (255 : Int32)).toUInt32.toUInt16.toUInt32.toInt32) := ⟨_, rfl⟩
    have c7 : ∀ t, own_S p e below T2 (mkF m 83 #[oi p0, oi p1, oi p2, oi p3, oi 0, oa dre, oi ((p3 &&& (3 : Int32)) % (3 : Int32)), oi ((((p3.toUInt32 >>> ((2 : Int32) &&& 31).toUInt32).toInt32) &&& (3 : Int32)) % (3 : Int32)), oi xa, oi xb, oi xc, oi ((((p2.toUInt32 >>> ((8 : Int32) &&& 31).toUInt32).toInt32) &&& (255 : Int32)).toUInt32.toUInt16.toUInt32.toInt32), .unset, .unset, .unset, .unset, .unset, .unset, .unset] []) t → own_S p e below T2 (mkF m 83 #[oi p0, oi p1, oi p2, oi p3, oi 0, oa dre, oi ((p3 &&& (3 : Int32)) % (3 : Int32)), oi ((((p3.toUInt32 >>> ((2 : Int32) &&& 31).toUInt32).toInt32) &&& (3 : Int32)) % (3 : Int32)), oi xa, oi xb, oi ((p2 &&& (255 : Int32)).toUInt32.toUInt16.toUInt32.toInt32), oi ((((p2.toUInt32 >>> ((8 : Int32) &&& 31).toUInt32).toInt32) &&& (255 : Int32)).toUInt32.toUInt16.toUInt32.toInt32), .unset, .unset, .unset, .unset, .unset, .unset, .unset] []) t := fun t kt => by rw [hxc] at kt; exact kt
    have hr_xc : own_r xc := by rw [hxc]; exact own_c8 _
    obtain ⟨xd, hxd⟩ : ∃ z, z = ((((p2.toUInt32 >>> ((8 : Int32) &&& 31).toUInt32).toInt32) &&& (255 : Int32)).toUInt32.toUInt16.toUInt32.toInt32) := ⟨_, rfl⟩
    have c8 : ∀ t, own_S p e below T2 (mkF m 83 #[oi p0, oi p1, oi p2, oi p3, oi 0, oa dre, oi ((p3 &&& (3 : Int32)) % (3 : Int32)), oi ((((p3.toUInt32 >>> ((2 : Int32) &&& 31).toUInt32).toInt32) &&& (3 : Int32)) % (3 : Int32)), oi xa, oi xb, oi xc, oi xd, .unset, .unset, .unset, .unset, .unset, .unset, .unset] []) t → own_S p e below T2 (mkF m 83 #[oi p0, oi p1, oi p2, oi p3, oi 0, oa dre, oi ((p3 &&& (3 : Int32)) % (3 : Int32)), oi ((((p3.toUInt32 >>> ((2 : Int32) &&& 31).toUInt32).toInt32) &&& (3 : Int32)) % (3 : Int32)), oi xa, oi xb, oi xc, oi ((((p2.toUInt32 >>> ((8 : Int32) &&& 31).toUInt32).toInt32) &&& (255 : Int32)).toUInt32.toUInt16.toUInt32.toInt32), .unset, .unset, .unset, .unset, .unset, .unset, .unset] []) t := fun t kt => by rw [hxd] at kt; exact kt
    have hr_xd : own_r xd := by rw [hxd]; exact own_c8 _
    obtain ⟨vfl, hvfl⟩ : ∃ z, z = ((p3 &&& (3 : Int32)) % (3 : Int32)) := ⟨_, rfl⟩
    have c9 : ∀ t, own_S p e below T2 (mkF m 83 #[oi p0, oi p1, oi p2, oi p3, oi 0, oa dre, oi vfl, oi ((((p3.toUInt32 >>> ((2 : Int32) &&& 31).toUInt32).toInt32) &&& (3 : Int32)) % (3 : Int32)), oi xa, oi xb, oi xc, oi xd, .unset, .unset, .unset, .unset, .unset, .unset, .unset] []) t → own_S p e below T2 (mkF m 83 #[oi p0, oi p1, oi p2, oi p3, oi 0, oa dre, oi ((p3 &&& (3 : Int32)) % (3 : Int32)), oi ((((p3.toUInt32 >>> ((2 : Int32) &&& 31).toUInt32).toInt32) &&& (3 : Int32)) % (3 : Int32)), oi xa, oi xb, oi xc, oi xd, .unset, .unset, .unset, .unset, .unset, .unset, .unset] []) t := fun t kt => by rw [hvfl] at kt; exact kt
    have h3_vfl : vfl = 0 ∨ vfl = 1 ∨ vfl = 2 := by rw [hvfl]; exact own_m3 _
    obtain ⟨vwl, hvwl⟩ : ∃ z, z = ((((p3.toUInt32 >>> ((2 : Int32) &&& 31).toUInt32).toInt32) &&& (3 : Int32)) % (3 : Int32)) := ⟨_, rfl⟩
    have c10 : ∀ t, own_S p e below T2 (mkF m 83 #[oi p0, oi p1, oi p2, oi p3, oi 0, oa dre, oi vfl, oi vwl, oi xa, oi xb, oi xc, oi xd, .unset, .unset, .unset, .unset, .unset, .unset, .unset] []) t → own_S p e below T2 (mkF m 83 #[oi p0, oi p1, oi p2, oi p3, oi 0, oa dre, oi vfl, oi ((((p3.toUInt32 >>> ((2 : Int32) &&& 31).toUInt32).toInt32) &&& (3 : Int32)) % (3 : Int32)), oi xa, oi xb, oi xc, oi xd, .unset, .unset, .unset, .unset, .unset, .unset, .unset] []) t := fun t kt => by rw [hvwl] at kt; exact kt
    have h3_vwl : vwl = 0 ∨ vwl = 1 ∨ vwl = 2 := by rw [hvwl]; exact own_m3 _
    have c11 : own_G p e below T2 (mkF m 89 #[oi p0, oi p1, oi p2, oi p3, oi 0, oa dre, oi vfl, oi vwl, oi xa, oi xb, oi xc, oi xd, .unset, .unset, .unset, .unset, .unset, .unset, .unset] [(.int xb), (.int xa), (.int vfl)]) (mkF m 83 #[oi p0, oi p1, oi p2, oi p3, oi 0, oa dre, oi vfl, oi vwl, oi xa, oi xb, oi xc, oi xd, .unset, .unset, .unset, .unset, .unset, .unset, .unset] []) := by
      intro t kt
      show oS T2 (mkF m 83 #[oi p0, oi p1, oi p2, oi p3, oi 0, oa dre, oi vfl, oi vwl, oi xa, oi xb, oi xc, oi xd, .unset, .unset, .unset, .unset, .unset, .unset, .unset] []) _
      refine XS.iload X2.here hx rfl (hb hby at_83) rfl ?_
      show oS T2 (mkF m 85 #[oi p0, oi p1, oi p2, oi p3, oi 0, oa dre, oi vfl, oi vwl, oi xa, oi xb, oi xc, oi xd, .unset, .unset, .unset, .unset, .unset, .unset, .unset] [(.int vfl)]) _
      refine XS.iload X2.here hx rfl (hb hby at_85) rfl ?_
      show oS T2 (mkF m 87 #[oi p0, oi p1, oi p2, oi p3, oi 0, oa dre, oi vfl, oi vwl, oi xa, oi xb, oi xc, oi xd, .unset, .unset, .unset, .unset, .unset, .unset, .unset] [(.int xa), (.int vfl)]) _
      refine XS.iload X2.here hx rfl (hb hby at_87) rfl ?_
      exact kt
    obtain ⟨_, _, ⟨T12, L12, k12, n12⟩, -, X12, hSq12, gr12, ⟨Lc12, hQ12, l12, y12, z12, CHq12⟩, st12⟩ := callSS (s := s.setVm s.vm) X2 hx (y := yy_36) hown (mvT hZ (own_t hw 3 rfl)) (mvT hZ (own_t hw 4 rfl)) (mvT hZ (own_t hw 5 rfl)) (mvT hZ (own_t hw 6 rfl)) (by decide) (backOfSH (s := s) (vm0 := s.vm) (W := 0) (rm1 l Z a0 hw [] vfl xa xb cs fm h0 n0 Z0 hr_xa hr_xb O0 SC hcs SF hfm) hZ (own_t hw 6 rfl) (own_t hw 5 rfl) (by decide) (by decide) hEL (CHr.refl hCH).1) (g := (mkF m 89 #[oi p0, oi p1, oi p2, oi p3, oi 0, oa dre, oi vfl, oi vwl, oi xa, oi xb, oi xc, oi xd, .unset, .unset, .unset, .unset, .unset, .unset, .unset] [(.int xb), (.int xa), (.int vfl)])) rfl (by rw [hml]; rfl) (argsL := [(.int vfl), (.int xa), (.int xb)]) (rest := []) (lenOf pd_29 rfl) rfl (by show 2 * 0 + _ ≤ _; exact Nat.le_of_eq rfl) (hb hby at_89) (fun _ _ => ⟨rfl, e2, (by decide : 0 + 6 ≤ _), (by decide : 0 + 14 ≤ _)⟩)
    dsimp only [Pt.U, Pt.locs, Pt.cells, Pt.slots] at X12 l12 y12 z12 st12 hQ12 hSq12 gr12 CHq12
    subst l12 y12 z12
    have hS12 : s.Since T12.vm T12.heap.size := foldS (T := T2) hS0 (by rw [e2]; exact (Nat.zero_le _)) hSq12 gr12
    have hZ12 : Z.Warmed39 (s.setVm T12.vm).vm := State.Warmed39.trans (t := s.setVm s.vm) hZ hSq12.1
    have hown12 : (s.setVm T12.vm).vm.findClass "com/example/emex/emex/read/FileRefusalLinePinLaw" = some m.cls := by rw [show (s.setVm T12.vm).vm = T12.vm from rfl, hSq12.1.alike.findClass]; exact hown
    replace hZ := hZ12
    replace hown := hown12
    have ch12 := (CHr.refl hCH).trans CHq12
    obtain ⟨sa12, rb12, kb12, rfl, N12q, Kq12, Es12, Fv12, Fc12, Va12⟩ := hQ12
    have N12 := Fr.app N0 N12q
    obtain ⟨Go12, X12, N12⟩ := own_opq X12 N12
    have c13 : own_G p e below T12 (mkF m 100 #[oi p0, oi p1, oi p2, oi p3, oi 0, oa dre, oi vfl, oi vwl, oi xa, oi xb, oi xc, oi xd, oa sa12, .unset, .unset, .unset, .unset, .unset, .unset] [(.int xd), (.int xc), (.int vwl)]) (mkF m 92 #[oi p0, oi p1, oi p2, oi p3, oi 0, oa dre, oi vfl, oi vwl, oi xa, oi xb, oi xc, oi xd, .unset, .unset, .unset, .unset, .unset, .unset, .unset] [(.ref sa12)]) := by
      intro t kt
      show oS T12 (mkF m 92 #[oi p0, oi p1, oi p2, oi p3, oi 0, oa dre, oi vfl, oi vwl, oi xa, oi xb, oi xc, oi xd, .unset, .unset, .unset, .unset, .unset, .unset, .unset] [(.ref sa12)]) _
      refine XS.astore X12.here hx rfl (hb hby at_92) rfl rfl (l' := #[oi p0, oi p1, oi p2, oi p3, oi 0, oa dre, oi vfl, oi vwl, oi xa, oi xb, oi xc, oi xd, oa sa12, .unset, .unset, .unset, .unset, .unset, .unset]) rfl ?_
      show oS T12 (mkF m 94 #[oi p0, oi p1, oi p2, oi p3, oi 0, oa dre, oi vfl, oi vwl, oi xa, oi xb, oi xc, oi xd, oa sa12, .unset, .unset, .unset, .unset, .unset, .unset] []) _
      refine XS.iload X12.here hx rfl (hb hby at_94) rfl ?_
      show oS T12 (mkF m 96 #[oi p0, oi p1, oi p2, oi p3, oi 0, oa dre, oi vfl, oi vwl, oi xa, oi xb, oi xc, oi xd, oa sa12, .unset, .unset, .unset, .unset, .unset, .unset] [(.int vwl)]) _
      refine XS.iload X12.here hx rfl (hb hby at_96) rfl ?_
      show oS T12 (mkF m 98 #[oi p0, oi p1, oi p2, oi p3, oi 0, oa dre, oi vfl, oi vwl, oi xa, oi xb, oi xc, oi xd, oa sa12, .unset, .unset, .unset, .unset, .unset, .unset] [(.int xc), (.int vwl)]) _
      refine XS.iload X12.here hx rfl (hb hby at_98) rfl ?_
      exact kt
    have f14 := (Nat.le_trans Z0 Kq12.1)
    have f15 := (O0.keep Kq12 all0)
    have f16 := ((Keep.refl h0 []).trans Kq12 all0)
    obtain ⟨_, _, ⟨T17, L17, k17, n17⟩, -, X17, hSq17, gr17, ⟨Lc17, hQ17, l17, y17, z17, CHq17⟩, st17⟩ := callSS (s := s.setVm T12.vm) X12 hx (y := yy_36) hown (mvT hZ (own_t hw 3 rfl)) (mvT hZ (own_t hw 4 rfl)) (mvT hZ (own_t hw 5 rfl)) (mvT hZ (own_t hw 6 rfl)) (by decide) (backOfSH (s := s) (vm0 := T12.vm) (W := 0) (rm1 l Z a0 hw [] vwl xc xd cs fm T12.heap n0 f14 hr_xc hr_xd f15 SC hcs SF hfm) hZ (own_t hw 6 rfl) (own_t hw 5 rfl) (by decide) (by decide) hEL ch12.1) (g := (mkF m 100 #[oi p0, oi p1, oi p2, oi p3, oi 0, oa dre, oi vfl, oi vwl, oi xa, oi xb, oi xc, oi xd, oa sa12, .unset, .unset, .unset, .unset, .unset, .unset] [(.int xd), (.int xc), (.int vwl)])) rfl (by rw [hml]; rfl) (argsL := [(.int vwl), (.int xc), (.int xd)]) (rest := []) (lenOf pd_29 rfl) rfl (by show 2 * 0 + _ ≤ _; exact Nat.le_of_eq rfl) (hb hby at_100) (fun _ _ => ⟨rfl, rfl, (by decide : 6 + 6 ≤ _), (by decide : 14 + 14 ≤ _)⟩)
    dsimp only [Pt.U, Pt.locs, Pt.cells, Pt.slots] at X17 l17 y17 z17 st17 hQ17 hSq17 gr17 CHq17
    subst l17 y17 z17
    have hS17 : s.Since T17.vm T17.heap.size := foldS (T := T12) hS12 (Nat.le_refl _) hSq17 gr17
    have hZ17 : Z.Warmed39 (s.setVm T17.vm).vm := State.Warmed39.trans (t := s.setVm T12.vm) hZ hSq17.1
    have hown17 : (s.setVm T17.vm).vm.findClass "com/example/emex/emex/read/FileRefusalLinePinLaw" = some m.cls := by rw [show (s.setVm T17.vm).vm = T17.vm from rfl, hSq17.1.alike.findClass]; exact hown
    replace hZ := hZ17
    replace hown := hown17
    have ch17 := ch12.trans CHq17
    obtain ⟨sa17, rb17, kb17, rfl, N17q, Kq17, Es17, Fv17, Fc17, Va17⟩ := hQ17
    have N17 := Fr.app N12 N17q
    obtain ⟨Go17, X17, N17⟩ := own_opq X17 N17
    have c18 : own_G p e below T17 (mkF m 111 #[oi p0, oi p1, oi p2, oi p3, oi 0, oa dre, oi vfl, oi vwl, oi xa, oi xb, oi xc, oi xd, oa sa12, oa sa17, .unset, .unset, .unset, .unset, .unset] [(.ref sa17), (.ref sa12), (.ref dre)]) (mkF m 103 #[oi p0, oi p1, oi p2, oi p3, oi 0, oa dre, oi vfl, oi vwl, oi xa, oi xb, oi xc, oi xd, oa sa12, .unset, .unset, .unset, .unset, .unset, .unset] [(.ref sa17)]) := by
      intro t kt
      show oS T17 (mkF m 103 #[oi p0, oi p1, oi p2, oi p3, oi 0, oa dre, oi vfl, oi vwl, oi xa, oi xb, oi xc, oi xd, oa sa12, .unset, .unset, .unset, .unset, .unset, .unset] [(.ref sa17)]) _
      refine XS.astore X17.here hx rfl (hb hby at_103) rfl rfl (l' := #[oi p0, oi p1, oi p2, oi p3, oi 0, oa dre, oi vfl, oi vwl, oi xa, oi xb, oi xc, oi xd, oa sa12, oa sa17, .unset, .unset, .unset, .unset, .unset]) rfl ?_
      show oS T17 (mkF m 105 #[oi p0, oi p1, oi p2, oi p3, oi 0, oa dre, oi vfl, oi vwl, oi xa, oi xb, oi xc, oi xd, oa sa12, oa sa17, .unset, .unset, .unset, .unset, .unset] []) _
      refine XS.aload X17.here hx rfl (hb hby at_105) rfl rfl ?_
      show oS T17 (mkF m 107 #[oi p0, oi p1, oi p2, oi p3, oi 0, oa dre, oi vfl, oi vwl, oi xa, oi xb, oi xc, oi xd, oa sa12, oa sa17, .unset, .unset, .unset, .unset, .unset] [(.ref dre)]) _
      refine XS.aload X17.here hx rfl (hb hby at_107) rfl rfl ?_
      show oS T17 (mkF m 109 #[oi p0, oi p1, oi p2, oi p3, oi 0, oa dre, oi vfl, oi vwl, oi xa, oi xb, oi xc, oi xd, oa sa12, oa sa17, .unset, .unset, .unset, .unset, .unset] [(.ref sa12), (.ref dre)]) _
      refine XS.aload X17.here hx rfl (hb hby at_109) rfl rfl ?_
      exact kt
    have f19 := (f15.keep Kq17 all0)
    have sf20_dre : Safe Z consts_1 T17.vm T17.heap dre := Safe.exa hZ.alike (Ere.ext f19.2) (by decide) (by decide)
    have f21 := (Nat.le_trans f14 Kq17.1)
    have f22 := (Es12.keep Kq17)
    have f23 := (Fv12.keep Kq17 nin0)
    have f24 := (Fc12.keep Kq17 nin0)
    have f25 := (Va12.keep Kq17 nin0)
    have f26 := (f16.trans Kq17 all0)
    obtain ⟨cq27, kq27, q27a, q27b, q27c⟩ := isOf hZ rfl (Ere.ext f19.2)
    obtain ⟨_, _, ⟨T28, L28, k28, n28⟩, -, X28, hSq28, gr28, ⟨Lc28, hQ28, l28, y28, z28, CHq28⟩, st28⟩ := Stand.virtualBackS (s := s.setVm T17.vm) X17 hx (y := yy_37) (z := yy_37) hown (mvT hZ (own_t hw 44 rfl)) (mvT hZ (own_t hw 45 rfl)) (notFace_of_selects (args := #[]) (mvT hZ (own_t hw 47 rfl))) (mvT hZ (own_t hw 47 rfl)) (mvT hZ (own_t hw 46 rfl)) (by decide) (backOfSH (s := s) (vm0 := T17.vm) (W := 0) (rm9 l Z a0 hw [] dre sa12 sa17 sre vre rb12 rb17 kre kb12 kb17 ([114, 101, 97, 100] : List Int32) (own_mk vfl xa xb) (own_mk vwl xc xd) cs fm T17.heap n0 f21 (Ere.ext f19.2) (Wre.ext f19.2) (Ire.ext f19.2) (Fre.ext f19.2) (Cre.ext f19.2) (Vre.ext f19.2) f22 f23 f24 f25 Es17 Fv17 Fc17 Va17 f19 SC hcs SF hfm (by decide) (own_mkl _ _ _) (own_mkl _ _ _)) hZ (own_t hw 48 rfl) (own_t hw 1 rfl) (by decide) (by decide) hEL ch17.1) q27a q27c (g := (mkF m 111 #[oi p0, oi p1, oi p2, oi p3, oi 0, oa dre, oi vfl, oi vwl, oi xa, oi xb, oi xc, oi xd, oa sa12, oa sa17, .unset, .unset, .unset, .unset, .unset] [(.ref sa17), (.ref sa12), (.ref dre)])) rfl (by rw [hml]; rfl) (Steps.refl _) (argsL := [(.ref sa12), (.ref sa17)]) (rest := []) (lenOf pd_30 rfl) rfl (by show 2 * 0 + _ ≤ _; exact Nat.le_of_eq rfl) (hb hby at_111) (fun _ _ => ⟨rfl, rfl, (by decide : 12 + 16 ≤ _), (by decide : 28 + 400 ≤ _)⟩)
    dsimp only [Pt.U, Pt.locs, Pt.cells, Pt.slots] at X28 l28 y28 z28 st28 hQ28 hSq28 gr28 CHq28
    subst l28 y28 z28
    have hS28 : s.Since T28.vm T28.heap.size := foldS (T := T17) hS17 (Nat.le_refl _) hSq28 gr28
    have hZ28 : Z.Warmed39 (s.setVm T28.vm).vm := State.Warmed39.trans (t := s.setVm T17.vm) hZ hSq28.1
    have hown28 : (s.setVm T28.vm).vm.findClass "com/example/emex/emex/read/FileRefusalLinePinLaw" = some m.cls := by rw [show (s.setVm T28.vm).vm = T28.vm from rfl, hSq28.1.alike.findClass]; exact hown
    replace hZ := hZ28
    replace hown := hown28
    have ch28 := ch17.trans CHq28
    obtain ⟨sa28, rb28, kb28, rfl, N28q, Kq28, Es28, Fv28, Fc28, Va28⟩ := hQ28
    have N28 := Fr.app N17 N28q
    obtain ⟨tt, htt⟩ : ∃ z, z = ((((((([] : List Int32) ++ ([99, 97, 110, 110, 111, 116, 32] : List Int32)) ++ ([114, 101, 97, 100] : List Int32)) ++ ([32] : List Int32)) ++ (own_mk vfl xa xb)) ++ ([58, 32] : List Int32)) ++ (own_mk vwl xc xd)) := ⟨_, rfl⟩
    rw [← htt] at Va28
    have hm1 := own_mkl vfl xa xb
    have hm2 := own_mkl vwl xc xd
    obtain ⟨Go28, X28, N28⟩ := own_opq X28 N28
    have c29 : own_G p e below T28 (mkF m 135 (own_L p0 p1 p2 p3 0 dre vfl vwl xa xb xc xd sa12 sa17 sa28 4 (.unset) (.unset) (.unset)) [(.ref sa28)]) (mkF m 114 #[oi p0, oi p1, oi p2, oi p3, oi 0, oa dre, oi vfl, oi vwl, oi xa, oi xb, oi xc, oi xd, oa sa12, oa sa17, .unset, .unset, .unset, .unset, .unset] [(.ref sa28)]) := by
      intro t kt
      show oS T28 (mkF m 114 #[oi p0, oi p1, oi p2, oi p3, oi 0, oa dre, oi vfl, oi vwl, oi xa, oi xb, oi xc, oi xd, oa sa12, oa sa17, .unset, .unset, .unset, .unset, .unset] [(.ref sa28)]) _
      refine XS.astore X28.here hx rfl (hb hby at_114) rfl rfl (l' := #[oi p0, oi p1, oi p2, oi p3, oi 0, oa dre, oi vfl, oi vwl, oi xa, oi xb, oi xc, oi xd, oa sa12, oa sa17, oa sa28, .unset, .unset, .unset, .unset]) rfl ?_
      show oS T28 (mkF m 116 #[oi p0, oi p1, oi p2, oi p3, oi 0, oa dre, oi vfl, oi vwl, oi xa, oi xb, oi xc, oi xd, oa sa12, oa sa17, oa sa28, .unset, .unset, .unset, .unset] []) _
      refine XS.iload X28.here hx rfl (hb hby at_116) rfl ?_
      show oS T28 (mkF m 118 #[oi p0, oi p1, oi p2, oi p3, oi 0, oa dre, oi vfl, oi vwl, oi xa, oi xb, oi xc, oi xd, oa sa12, oa sa17, oa sa28, .unset, .unset, .unset, .unset] [(.int (0 : Int32))]) _
      refine XS.ifYes X28.here hx rfl (pc0 := 118) (pc' := 125) rfl (hb hby at_118) rfl ((if0 _ _).trans (teq (by decide : (0 : Int32) = (0 : Int32))).1) (by decide) (by decide) ?_
      show oS T28 (mkF m 125 #[oi p0, oi p1, oi p2, oi p3, oi 0, oa dre, oi vfl, oi vwl, oi xa, oi xb, oi xc, oi xd, oa sa12, oa sa17, oa sa28, .unset, .unset, .unset, .unset] []) _
      refine XS.iconst X28.here hx rfl (hb hby at_125) ?_
      show oS T28 (mkF m 126 #[oi p0, oi p1, oi p2, oi p3, oi 0, oa dre, oi vfl, oi vwl, oi xa, oi xb, oi xc, oi xd, oa sa12, oa sa17, oa sa28, .unset, .unset, .unset, .unset] [(.int (4 : Int32))]) _
      refine XS.istore X28.here hx rfl (hb hby at_126) rfl (l' := (own_L p0 p1 p2 p3 0 dre vfl vwl xa xb xc xd sa12 sa17 sa28 4 (.unset) (.unset) (.unset))) rfl ?_
      show oS T28 (mkF m 128 (own_L p0 p1 p2 p3 0 dre vfl vwl xa xb xc xd sa12 sa17 sa28 4 (.unset) (.unset) (.unset)) []) _
      refine XS.aload X28.here hx rfl (hb hby at_128) rfl rfl ?_
      show oS T28 (mkF m 130 (own_L p0 p1 p2 p3 0 dre vfl vwl xa xb xc xd sa12 sa17 sa28 4 (.unset) (.unset) (.unset)) [(.ref sa28)]) _
      refine XS.ifnullNo X28.here hx rfl (hb hby at_130) rfl ?_
      show oS T28 (mkF m 133 (own_L p0 p1 p2 p3 0 dre vfl vwl xa xb xc xd sa12 sa17 sa28 4 (.unset) (.unset) (.unset)) []) _
      refine XS.aload X28.here hx rfl (hb hby at_133) rfl rfl ?_
      exact kt
    have f30 := (Nat.le_trans f21 Kq28.1)
    have f31 := (f19.keep Kq28 all0)
    obtain ⟨cq32, kq32, q32a, q32b, q32c⟩ := isOf hZ rfl Es28
    obtain ⟨_, _, ⟨T33, L33, k33, n33⟩, -, X33, ⟨Lc33, hQ33, l33, y33, z33⟩, st33⟩ := X28.virtualBack hx (y := yy_6) (z := yy_6) hown (mvT hZ (own_t hw 164 rfl)) (mvT hZ (own_t hw 79 rfl)) (notFace_of_selects (args := #[]) (mvT hZ (own_t hw 81 rfl))) (mvT hZ (own_t hw 81 rfl)) (mvT hZ (own_t hw 80 rfl)) (by decide) (backOf (W := 0) (rm14 l Z a0 hw [] sa28 rb28 kb28 (Int32.ofNat tt.length) ((tt.map (fun c => c.toInt8.toInt32)).map Value.int) (.int 0) cs T28.heap n0 f30 Es28 Fv28 Va28 (SC.ext f31.2) hcs Fc28) hZ (own_t hw 82 rfl) (own_t hw 9 rfl) (by decide) (by decide)) q32a q32c (g := (mkF m 135 (own_L p0 p1 p2 p3 0 dre vfl vwl xa xb xc xd sa12 sa17 sa28 4 (.unset) (.unset) (.unset)) [(.ref sa28)])) rfl (by rw [hml]; rfl) (Steps.refl _) (argsL := []) (rest := []) (lenOf pd_11 rfl) rfl (by show 2 * 0 + _ ≤ _; exact Nat.le_of_eq rfl) (hb hby at_135) (fun _ _ => ⟨rfl, rfl, (by decide : 28 + 0 ≤ _), (by decide : 428 + 0 ≤ _)⟩)
    dsimp only [Pt.U, Pt.locs, Pt.cells, Pt.slots] at X33 l33 y33 z33 st33 hQ33
    subst l33 y33 z33
    obtain ⟨rfl, N33q, e33⟩ := hQ33
    have N33 := Fr.app N28 N33q
    obtain ⟨Go33, X33, N33⟩ := own_opq X33 N33
    have hlen : (Int32.ofNat tt.length) = ((((((7 : Int32) + (4 : Int32)) + (1 : Int32)) + vfl) + (2 : Int32)) + vwl) := by rw [htt]; exact own_lnr _ _ _ _ _ _ h3_vfl h3_vwl
    have c34 : own_G p e below T33 (mkF m 153 (own_L p0 p1 p2 p3 0 dre vfl vwl xa xb xc xd sa12 sa17 sa28 4 (.unset) (.unset) (.unset)) [(.int ((((((7 : Int32) + (4 : Int32)) + (1 : Int32)) + vfl) + (2 : Int32)) + vwl)), (.int (Int32.ofNat tt.length))]) (mkF m 138 (own_L p0 p1 p2 p3 0 dre vfl vwl xa xb xc xd sa12 sa17 sa28 4 (.unset) (.unset) (.unset)) [(.int (Int32.ofNat tt.length))]) := by
      intro t kt
      show oS T33 (mkF m 138 (own_L p0 p1 p2 p3 0 dre vfl vwl xa xb xc xd sa12 sa17 sa28 4 (.unset) (.unset) (.unset)) [(.int (Int32.ofNat tt.length))]) _
      refine XS.bipush X33.here hx rfl (hb hby at_138) ?_
      show oS T33 (mkF m 140 (own_L p0 p1 p2 p3 0 dre vfl vwl xa xb xc xd sa12 sa17 sa28 4 (.unset) (.unset) (.unset)) [(.int (7 : Int32)), (.int (Int32.ofNat tt.length))]) _
      refine XS.iload X33.here hx rfl (hb hby at_140) rfl ?_
      show oS T33 (mkF m 142 (own_L p0 p1 p2 p3 0 dre vfl vwl xa xb xc xd sa12 sa17 sa28 4 (.unset) (.unset) (.unset)) [(.int (4 : Int32)), (.int (7 : Int32)), (.int (Int32.ofNat tt.length))]) _
      refine XS.iadd X33.here hx rfl (hb hby at_142) rfl ?_
      show oS T33 (mkF m 143 (own_L p0 p1 p2 p3 0 dre vfl vwl xa xb xc xd sa12 sa17 sa28 4 (.unset) (.unset) (.unset)) [(.int ((7 : Int32) + (4 : Int32))), (.int (Int32.ofNat tt.length))]) _
      refine XS.iconst X33.here hx rfl (hb hby at_143) ?_
      show oS T33 (mkF m 144 (own_L p0 p1 p2 p3 0 dre vfl vwl xa xb xc xd sa12 sa17 sa28 4 (.unset) (.unset) (.unset)) [(.int (1 : Int32)), (.int ((7 : Int32) + (4 : Int32))), (.int (Int32.ofNat tt.length))]) _
      refine XS.iadd X33.here hx rfl (hb hby at_144) rfl ?_
      show oS T33 (mkF m 145 (own_L p0 p1 p2 p3 0 dre vfl vwl xa xb xc xd sa12 sa17 sa28 4 (.unset) (.unset) (.unset)) [(.int (((7 : Int32) + (4 : Int32)) + (1 : Int32))), (.int (Int32.ofNat tt.length))]) _
      refine XS.iload X33.here hx rfl (hb hby at_145) rfl ?_
      show oS T33 (mkF m 147 (own_L p0 p1 p2 p3 0 dre vfl vwl xa xb xc xd sa12 sa17 sa28 4 (.unset) (.unset) (.unset)) [(.int vfl), (.int (((7 : Int32) + (4 : Int32)) + (1 : Int32))), (.int (Int32.ofNat tt.length))]) _
      refine XS.iadd X33.here hx rfl (hb hby at_147) rfl ?_
      show oS T33 (mkF m 148 (own_L p0 p1 p2 p3 0 dre vfl vwl xa xb xc xd sa12 sa17 sa28 4 (.unset) (.unset) (.unset)) [(.int ((((7 : Int32) + (4 : Int32)) + (1 : Int32)) + vfl)), (.int (Int32.ofNat tt.length))]) _
      refine XS.iconst X33.here hx rfl (hb hby at_148) ?_
      show oS T33 (mkF m 149 (own_L p0 p1 p2 p3 0 dre vfl vwl xa xb xc xd sa12 sa17 sa28 4 (.unset) (.unset) (.unset)) [(.int (2 : Int32)), (.int ((((7 : Int32) + (4 : Int32)) + (1 : Int32)) + vfl)), (.int (Int32.ofNat tt.length))]) _
      refine XS.iadd X33.here hx rfl (hb hby at_149) rfl ?_
      show oS T33 (mkF m 150 (own_L p0 p1 p2 p3 0 dre vfl vwl xa xb xc xd sa12 sa17 sa28 4 (.unset) (.unset) (.unset)) [(.int (((((7 : Int32) + (4 : Int32)) + (1 : Int32)) + vfl) + (2 : Int32))), (.int (Int32.ofNat tt.length))]) _
      refine XS.iload X33.here hx rfl (hb hby at_150) rfl ?_
      show oS T33 (mkF m 152 (own_L p0 p1 p2 p3 0 dre vfl vwl xa xb xc xd sa12 sa17 sa28 4 (.unset) (.unset) (.unset)) [(.int vwl), (.int (((((7 : Int32) + (4 : Int32)) + (1 : Int32)) + vfl) + (2 : Int32))), (.int (Int32.ofNat tt.length))]) _
      refine XS.iadd X33.here hx rfl (hb hby at_152) rfl ?_
      exact kt
    have c35 : own_G p e below T33 (mkF m 153 (own_L p0 p1 p2 p3 0 dre vfl vwl xa xb xc xd sa12 sa17 sa28 4 (.unset) (.unset) (.unset)) [(.int (Int32.ofNat tt.length)), (.int (Int32.ofNat tt.length))]) (mkF m 153 (own_L p0 p1 p2 p3 0 dre vfl vwl xa xb xc xd sa12 sa17 sa28 4 (.unset) (.unset) (.unset)) [(.int ((((((7 : Int32) + (4 : Int32)) + (1 : Int32)) + vfl) + (2 : Int32)) + vwl)), (.int (Int32.ofNat tt.length))]) := fun t kt => castTop (congrArg (fun zv => (mkF m 153 (own_L p0 p1 p2 p3 0 dre vfl vwl xa xb xc xd sa12 sa17 sa28 4 (.unset) (.unset) (.unset)) [(.int zv), (.int (Int32.ofNat tt.length))])) (show ((((((7 : Int32) + (4 : Int32)) + (1 : Int32)) + vfl) + (2 : Int32)) + vwl) = (Int32.ofNat tt.length) from hlen.symm)) kt
    have c36 : own_G p e below T33 (mkF m 158 (own_L p0 p1 p2 p3 0 dre vfl vwl xa xb xc xd sa12 sa17 sa28 4 (.unset) (.unset) (.unset)) []) (mkF m 153 (own_L p0 p1 p2 p3 0 dre vfl vwl xa xb xc xd sa12 sa17 sa28 4 (.unset) (.unset) (.unset)) [(.int (Int32.ofNat tt.length)), (.int (Int32.ofNat tt.length))]) := by
      intro t kt
      show oS T33 (mkF m 153 (own_L p0 p1 p2 p3 0 dre vfl vwl xa xb xc xd sa12 sa17 sa28 4 (.unset) (.unset) (.unset)) [(.int (Int32.ofNat tt.length)), (.int (Int32.ofNat tt.length))]) _
      refine XS.icmpYes X33.here hx rfl (pc0 := 153) (pc' := 158) rfl (hb hby at_153) rfl (teq (rfl : (Int32.ofNat tt.length) = (Int32.ofNat tt.length))).1 (by decide) (by decide) ?_
      exact kt
    obtain ⟨T37, L37, h37, X37, e37, N37, -, qh37, st37⟩ := tA p0 p1 p2 p3 vfl vwl xa xb xc xd dre sa12 sa17 sa28 rb28 kb28 tt cs fm 0 4 (s := s.setVm T28.vm) X33 hx hZ hw hby hml hown e33 N33 f30 Es28 Fv28 Fc28 Va28 (SF.ext f31.2) hfm (SC.ext f31.2) hcs (by rw [htt]; simp only [List.length_append, List.length_cons, List.length_nil]; omega) (by rw [htt]; simp only [List.length_append, List.length_cons, List.length_nil]; omega) (by rw [htt]; rfl) (by rw [htt]; rfl) (by rw [htt]; rfl) (by rw [htt]; rfl) (by rw [htt]; rfl) (by rw [htt]; rfl) (by rw [htt]; rfl) hr_xa hr_xb hr_xc hr_xd
    rw [qh37] at e37
    obtain ⟨T38, L38, h38, X38, e38, N38, -, qh38, st38⟩ := tBr p0 p1 p2 p3 vfl vwl xa xb xc xd dre sa12 sa17 sa28 rb28 kb28 tt cs fm (s := s.setVm T28.vm) X37 hx hZ hw hby hml hown e37 N37 f30 Es28 Fv28 Fc28 Va28 (SF.ext f31.2) hfm (SC.ext f31.2) hcs (by rw [htt]; simp only [List.length_append, List.length_cons, List.length_nil]; omega) (by rw [htt]; simp only [List.length_append, List.length_cons, List.length_nil]; omega) (by rw [htt]; rfl) (by rw [htt]; rfl) (by rw [htt]; rfl) (by rw [htt]; rfl) (by rw [htt]; rfl) hr_xa hr_xb hr_xc hr_xd
    rw [qh38] at e38
    rcases h3_vfl with hi_ | hi_ | hi_
    · skip
      rcases h3_vwl with hj_ | hj_ | hj_
      · skip
        have c39 : own_G p e below T38 (mkF m 414 (own_L p0 p1 p2 p3 0 dre (0 : Int32) vwl xa xb xc xd sa12 sa17 sa28 4 (oi 1) (oi 11) (.unset)) []) (mkF m 414 (own_L p0 p1 p2 p3 0 dre vfl vwl xa xb xc xd sa12 sa17 sa28 4 (oi 1) (oi 11) (.unset)) []) := fun t kt => castTop (congrArg (fun zv => (mkF m 414 (own_L p0 p1 p2 p3 0 dre zv vwl xa xb xc xd sa12 sa17 sa28 4 (oi 1) (oi 11) (.unset)) [])) (show vfl = (0 : Int32) from hi_)) kt
        have c40 : own_G p e below T38 (mkF m 414 (own_L p0 p1 p2 p3 0 dre 0 (0 : Int32) xa xb xc xd sa12 sa17 sa28 4 (oi 1) (oi 11) (.unset)) []) (mkF m 414 (own_L p0 p1 p2 p3 0 dre 0 vwl xa xb xc xd sa12 sa17 sa28 4 (oi 1) (oi 11) (.unset)) []) := fun t kt => castTop (congrArg (fun zv => (mkF m 414 (own_L p0 p1 p2 p3 0 dre 0 zv xa xb xc xd sa12 sa17 sa28 4 (oi 1) (oi 11) (.unset)) [])) (show vwl = (0 : Int32) from hj_)) kt
        have htk41 : tt = ((((((([] : List Int32) ++ ([99, 97, 110, 110, 111, 116, 32] : List Int32)) ++ ([114, 101, 97, 100] : List Int32)) ++ ([32] : List Int32)) ++ ([] : List Int32)) ++ ([58, 32] : List Int32)) ++ ([] : List Int32)) := by rw [htt, show own_mk vfl xa xb = ([] : List Int32) from by rw [hi_]; rfl, show own_mk vwl xc xd = ([] : List Int32) from by rw [hj_]; rfl]
        obtain ⟨T42, L42, h42, X42, e42, N42, -, qh42, st42⟩ := tF0 p0 p1 p2 p3 (0 : Int32) (0 : Int32) xa xb xc xd dre sa12 sa17 sa28 rb28 kb28 tt cs fm 0 4 11 (s := s.setVm T28.vm) X38 hx hZ hw hby hml hown e38 N38 f30 Es28 Fv28 Fc28 Va28 (SF.ext f31.2) hfm (SC.ext f31.2) hcs (by rw [htk41]; simp only [List.length_append, List.length_cons, List.length_nil]; omega) (by rw [htk41]; simp only [List.length_append, List.length_cons, List.length_nil]; omega) (by rw [htk41]; rfl) (by rw [htk41]; rfl) hr_xa hr_xb hr_xc hr_xd (by decide)
        rw [qh42] at e42
        obtain ⟨T43, L43, h43, X43, e43, N43, -, qh43, st43⟩ := tW0 p0 p1 p2 p3 (0 : Int32) (0 : Int32) xa xb xc xd dre sa12 sa17 sa28 rb28 kb28 tt cs fm 0 4 11 12 (s := s.setVm T28.vm) X42 hx hZ hw hby hml hown e42 N42 f30 Es28 Fv28 Fc28 Va28 (SF.ext f31.2) hfm (SC.ext f31.2) hcs (by rw [htk41]; simp only [List.length_append, List.length_cons, List.length_nil]; omega) (by rw [htk41]; simp only [List.length_append, List.length_cons, List.length_nil]; omega)  hr_xa hr_xb hr_xc hr_xd
        rw [qh43] at e43
        have c44 : own_G p e below T43 (mkF m 591 (own_L p0 p1 p2 p3 0 dre 0 0 xa xb xc xd sa12 sa17 sa28 4 (oi 1) (oi 11) (oi 12)) [(.int (1 : Int32))]) (mkF m 589 (own_L p0 p1 p2 p3 0 dre 0 0 xa xb xc xd sa12 sa17 sa28 4 (oi 1) (oi 11) (oi 12)) []) := by
          intro t kt
          show oS T43 (mkF m 589 (own_L p0 p1 p2 p3 0 dre 0 0 xa xb xc xd sa12 sa17 sa28 4 (oi 1) (oi 11) (oi 12)) []) _
          refine XS.iload X43.here hx rfl (hb hby at_589) rfl ?_
          exact kt
        obtain ⟨fs, hr, hrun, hended, hwd⟩ := Stand.leaveW (s := s) (vm₁ := T28.vm) X43 hS28 (by rw [e43]; exact (Nat.le_refl _)) (v := some (.int (1 : Int32))) (fun h => by rw [Bd.returns] at h; cases h)
        refine ⟨_, _, pre0 _ (c1 _ (c3 _ (st2 _ (c4 _ (c5 _ (c6 _ (c7 _ (c8 _ (c9 _ (c10 _ (c11 _ (st12.trans (c13 _ (st17.trans (c18 _ (st28.trans (c29 _ (st33.trans (c34 _ (c35 _ (c36 _ (st37 _ (st38 _ (c39 _ (c40 _ (st42 _ (st43 _ (c44 _ (?_))))))))))))))))))))))))))))), hrun, hended, _, _, rfl, ?_, hwd.1, hwd.2.1, hwd.2.2.1, hwd.2.2.2.mono (by decide) (by decide)⟩
        · show Steps p.tables e below (T43.setTop (mkF m 591 (own_L p0 p1 p2 p3 0 dre 0 0 xa xb xc xd sa12 sa17 sa28 4 (oi 1) (oi 11) (oi 12)) [(.int (1 : Int32))])) _
          exact retN X43 hx (t := .boolean) Bd.returns (by simp) (hb hby at_591) hr
        · show Q0 Z p0 p1 p2 p3 cs fm dre sre vre dwq swq vwq kre kwq h0 n0 _ T43.heap _
          rw [e43]
          exact ⟨congrArg (fun z => some (Value.int z)) (show (1 : Int32) = (1 : Int32) from by rfl), N43⟩
      · skip
        have c46 : own_G p e below T38 (mkF m 414 (own_L p0 p1 p2 p3 0 dre (0 : Int32) vwl xa xb xc xd sa12 sa17 sa28 4 (oi 1) (oi 11) (.unset)) []) (mkF m 414 (own_L p0 p1 p2 p3 0 dre vfl vwl xa xb xc xd sa12 sa17 sa28 4 (oi 1) (oi 11) (.unset)) []) := fun t kt => castTop (congrArg (fun zv => (mkF m 414 (own_L p0 p1 p2 p3 0 dre zv vwl xa xb xc xd sa12 sa17 sa28 4 (oi 1) (oi 11) (.unset)) [])) (show vfl = (0 : Int32) from hi_)) kt
        have c47 : own_G p e below T38 (mkF m 414 (own_L p0 p1 p2 p3 0 dre 0 (1 : Int32) xa xb xc xd sa12 sa17 sa28 4 (oi 1) (oi 11) (.unset)) []) (mkF m 414 (own_L p0 p1 p2 p3 0 dre 0 vwl xa xb xc xd sa12 sa17 sa28 4 (oi 1) (oi 11) (.unset)) []) := fun t kt => castTop (congrArg (fun zv => (mkF m 414 (own_L p0 p1 p2 p3 0 dre 0 zv xa xb xc xd sa12 sa17 sa28 4 (oi 1) (oi 11) (.unset)) [])) (show vwl = (1 : Int32) from hj_)) kt
        have htk48 : tt = ((((((([] : List Int32) ++ ([99, 97, 110, 110, 111, 116, 32] : List Int32)) ++ ([114, 101, 97, 100] : List Int32)) ++ ([32] : List Int32)) ++ ([] : List Int32)) ++ ([58, 32] : List Int32)) ++ ([xc] : List Int32)) := by rw [htt, show own_mk vfl xa xb = ([] : List Int32) from by rw [hi_]; rfl, show own_mk vwl xc xd = ([xc] : List Int32) from by rw [hj_]; rfl]
        obtain ⟨T49, L49, h49, X49, e49, N49, -, qh49, st49⟩ := tF0 p0 p1 p2 p3 (0 : Int32) (1 : Int32) xa xb xc xd dre sa12 sa17 sa28 rb28 kb28 tt cs fm 0 4 11 (s := s.setVm T28.vm) X38 hx hZ hw hby hml hown e38 N38 f30 Es28 Fv28 Fc28 Va28 (SF.ext f31.2) hfm (SC.ext f31.2) hcs (by rw [htk48]; simp only [List.length_append, List.length_cons, List.length_nil]; omega) (by rw [htk48]; simp only [List.length_append, List.length_cons, List.length_nil]; omega) (by rw [htk48]; rfl) (by rw [htk48]; rfl) hr_xa hr_xb hr_xc hr_xd (by decide)
        rw [qh49] at e49
        obtain ⟨T50, L50, h50, X50, e50, N50, -, qh50, st50⟩ := tW1 p0 p1 p2 p3 (0 : Int32) (1 : Int32) xa xb xc xd dre sa12 sa17 sa28 rb28 kb28 tt cs fm 0 4 11 12 (s := s.setVm T28.vm) X49 hx hZ hw hby hml hown e49 N49 f30 Es28 Fv28 Fc28 Va28 (SF.ext f31.2) hfm (SC.ext f31.2) hcs (by rw [htk48]; simp only [List.length_append, List.length_cons, List.length_nil]; omega) (by rw [htk48]; simp only [List.length_append, List.length_cons, List.length_nil]; omega) (by rw [htk48]; rfl) hr_xa hr_xb hr_xc hr_xd
        rw [qh50] at e50
        have c51 : own_G p e below T50 (mkF m 591 (own_L p0 p1 p2 p3 0 dre 0 1 xa xb xc xd sa12 sa17 sa28 4 (oi 1) (oi 11) (oi 12)) [(.int (1 : Int32))]) (mkF m 589 (own_L p0 p1 p2 p3 0 dre 0 1 xa xb xc xd sa12 sa17 sa28 4 (oi 1) (oi 11) (oi 12)) []) := by
          intro t kt
          show oS T50 (mkF m 589 (own_L p0 p1 p2 p3 0 dre 0 1 xa xb xc xd sa12 sa17 sa28 4 (oi 1) (oi 11) (oi 12)) []) _
          refine XS.iload X50.here hx rfl (hb hby at_589) rfl ?_
          exact kt
        obtain ⟨fs, hr, hrun, hended, hwd⟩ := Stand.leaveW (s := s) (vm₁ := T28.vm) X50 hS28 (by rw [e50]; exact (Nat.le_refl _)) (v := some (.int (1 : Int32))) (fun h => by rw [Bd.returns] at h; cases h)
        refine ⟨_, _, pre0 _ (c1 _ (c3 _ (st2 _ (c4 _ (c5 _ (c6 _ (c7 _ (c8 _ (c9 _ (c10 _ (c11 _ (st12.trans (c13 _ (st17.trans (c18 _ (st28.trans (c29 _ (st33.trans (c34 _ (c35 _ (c36 _ (st37 _ (st38 _ (c46 _ (c47 _ (st49 _ (st50 _ (c51 _ (?_))))))))))))))))))))))))))))), hrun, hended, _, _, rfl, ?_, hwd.1, hwd.2.1, hwd.2.2.1, hwd.2.2.2.mono (by decide) (by decide)⟩
        · show Steps p.tables e below (T50.setTop (mkF m 591 (own_L p0 p1 p2 p3 0 dre 0 1 xa xb xc xd sa12 sa17 sa28 4 (oi 1) (oi 11) (oi 12)) [(.int (1 : Int32))])) _
          exact retN X50 hx (t := .boolean) Bd.returns (by simp) (hb hby at_591) hr
        · show Q0 Z p0 p1 p2 p3 cs fm dre sre vre dwq swq vwq kre kwq h0 n0 _ T50.heap _
          rw [e50]
          exact ⟨congrArg (fun z => some (Value.int z)) (show (1 : Int32) = (1 : Int32) from by rfl), N50⟩
      · skip
        have c53 : own_G p e below T38 (mkF m 414 (own_L p0 p1 p2 p3 0 dre (0 : Int32) vwl xa xb xc xd sa12 sa17 sa28 4 (oi 1) (oi 11) (.unset)) []) (mkF m 414 (own_L p0 p1 p2 p3 0 dre vfl vwl xa xb xc xd sa12 sa17 sa28 4 (oi 1) (oi 11) (.unset)) []) := fun t kt => castTop (congrArg (fun zv => (mkF m 414 (own_L p0 p1 p2 p3 0 dre zv vwl xa xb xc xd sa12 sa17 sa28 4 (oi 1) (oi 11) (.unset)) [])) (show vfl = (0 : Int32) from hi_)) kt
        have c54 : own_G p e below T38 (mkF m 414 (own_L p0 p1 p2 p3 0 dre 0 (2 : Int32) xa xb xc xd sa12 sa17 sa28 4 (oi 1) (oi 11) (.unset)) []) (mkF m 414 (own_L p0 p1 p2 p3 0 dre 0 vwl xa xb xc xd sa12 sa17 sa28 4 (oi 1) (oi 11) (.unset)) []) := fun t kt => castTop (congrArg (fun zv => (mkF m 414 (own_L p0 p1 p2 p3 0 dre 0 zv xa xb xc xd sa12 sa17 sa28 4 (oi 1) (oi 11) (.unset)) [])) (show vwl = (2 : Int32) from hj_)) kt
        have htk55 : tt = ((((((([] : List Int32) ++ ([99, 97, 110, 110, 111, 116, 32] : List Int32)) ++ ([114, 101, 97, 100] : List Int32)) ++ ([32] : List Int32)) ++ ([] : List Int32)) ++ ([58, 32] : List Int32)) ++ ([xc, xd] : List Int32)) := by rw [htt, show own_mk vfl xa xb = ([] : List Int32) from by rw [hi_]; rfl, show own_mk vwl xc xd = ([xc, xd] : List Int32) from by rw [hj_]; rfl]
        obtain ⟨T56, L56, h56, X56, e56, N56, -, qh56, st56⟩ := tF0 p0 p1 p2 p3 (0 : Int32) (2 : Int32) xa xb xc xd dre sa12 sa17 sa28 rb28 kb28 tt cs fm 0 4 11 (s := s.setVm T28.vm) X38 hx hZ hw hby hml hown e38 N38 f30 Es28 Fv28 Fc28 Va28 (SF.ext f31.2) hfm (SC.ext f31.2) hcs (by rw [htk55]; simp only [List.length_append, List.length_cons, List.length_nil]; omega) (by rw [htk55]; simp only [List.length_append, List.length_cons, List.length_nil]; omega) (by rw [htk55]; rfl) (by rw [htk55]; rfl) hr_xa hr_xb hr_xc hr_xd (by decide)
        rw [qh56] at e56
        obtain ⟨T57, L57, h57, X57, e57, N57, -, qh57, st57⟩ := tW2 p0 p1 p2 p3 (0 : Int32) (2 : Int32) xa xb xc xd dre sa12 sa17 sa28 rb28 kb28 tt cs fm 0 4 11 12 (s := s.setVm T28.vm) X56 hx hZ hw hby hml hown e56 N56 f30 Es28 Fv28 Fc28 Va28 (SF.ext f31.2) hfm (SC.ext f31.2) hcs (by rw [htk55]; simp only [List.length_append, List.length_cons, List.length_nil]; omega) (by rw [htk55]; simp only [List.length_append, List.length_cons, List.length_nil]; omega) (by rw [htk55]; rfl) (by rw [htk55]; rfl) hr_xa hr_xb hr_xc hr_xd
        rw [qh57] at e57
        have c58 : own_G p e below T57 (mkF m 591 (own_L p0 p1 p2 p3 0 dre 0 2 xa xb xc xd sa12 sa17 sa28 4 (oi 1) (oi 11) (oi 12)) [(.int (1 : Int32))]) (mkF m 589 (own_L p0 p1 p2 p3 0 dre 0 2 xa xb xc xd sa12 sa17 sa28 4 (oi 1) (oi 11) (oi 12)) []) := by
          intro t kt
          show oS T57 (mkF m 589 (own_L p0 p1 p2 p3 0 dre 0 2 xa xb xc xd sa12 sa17 sa28 4 (oi 1) (oi 11) (oi 12)) []) _
          refine XS.iload X57.here hx rfl (hb hby at_589) rfl ?_
          exact kt
        obtain ⟨fs, hr, hrun, hended, hwd⟩ := Stand.leaveW (s := s) (vm₁ := T28.vm) X57 hS28 (by rw [e57]; exact (Nat.le_refl _)) (v := some (.int (1 : Int32))) (fun h => by rw [Bd.returns] at h; cases h)
        refine ⟨_, _, pre0 _ (c1 _ (c3 _ (st2 _ (c4 _ (c5 _ (c6 _ (c7 _ (c8 _ (c9 _ (c10 _ (c11 _ (st12.trans (c13 _ (st17.trans (c18 _ (st28.trans (c29 _ (st33.trans (c34 _ (c35 _ (c36 _ (st37 _ (st38 _ (c53 _ (c54 _ (st56 _ (st57 _ (c58 _ (?_))))))))))))))))))))))))))))), hrun, hended, _, _, rfl, ?_, hwd.1, hwd.2.1, hwd.2.2.1, hwd.2.2.2.mono (by decide) (by decide)⟩
        · show Steps p.tables e below (T57.setTop (mkF m 591 (own_L p0 p1 p2 p3 0 dre 0 2 xa xb xc xd sa12 sa17 sa28 4 (oi 1) (oi 11) (oi 12)) [(.int (1 : Int32))])) _
          exact retN X57 hx (t := .boolean) Bd.returns (by simp) (hb hby at_591) hr
        · show Q0 Z p0 p1 p2 p3 cs fm dre sre vre dwq swq vwq kre kwq h0 n0 _ T57.heap _
          rw [e57]
          exact ⟨congrArg (fun z => some (Value.int z)) (show (1 : Int32) = (1 : Int32) from by rfl), N57⟩
    · skip
      rcases h3_vwl with hj_ | hj_ | hj_
      · skip
        have c60 : own_G p e below T38 (mkF m 414 (own_L p0 p1 p2 p3 0 dre (1 : Int32) vwl xa xb xc xd sa12 sa17 sa28 4 (oi 1) (oi 11) (.unset)) []) (mkF m 414 (own_L p0 p1 p2 p3 0 dre vfl vwl xa xb xc xd sa12 sa17 sa28 4 (oi 1) (oi 11) (.unset)) []) := fun t kt => castTop (congrArg (fun zv => (mkF m 414 (own_L p0 p1 p2 p3 0 dre zv vwl xa xb xc xd sa12 sa17 sa28 4 (oi 1) (oi 11) (.unset)) [])) (show vfl = (1 : Int32) from hi_)) kt
        have c61 : own_G p e below T38 (mkF m 414 (own_L p0 p1 p2 p3 0 dre 1 (0 : Int32) xa xb xc xd sa12 sa17 sa28 4 (oi 1) (oi 11) (.unset)) []) (mkF m 414 (own_L p0 p1 p2 p3 0 dre 1 vwl xa xb xc xd sa12 sa17 sa28 4 (oi 1) (oi 11) (.unset)) []) := fun t kt => castTop (congrArg (fun zv => (mkF m 414 (own_L p0 p1 p2 p3 0 dre 1 zv xa xb xc xd sa12 sa17 sa28 4 (oi 1) (oi 11) (.unset)) [])) (show vwl = (0 : Int32) from hj_)) kt
        have htk62 : tt = ((((((([] : List Int32) ++ ([99, 97, 110, 110, 111, 116, 32] : List Int32)) ++ ([114, 101, 97, 100] : List Int32)) ++ ([32] : List Int32)) ++ ([xa] : List Int32)) ++ ([58, 32] : List Int32)) ++ ([] : List Int32)) := by rw [htt, show own_mk vfl xa xb = ([xa] : List Int32) from by rw [hi_]; rfl, show own_mk vwl xc xd = ([] : List Int32) from by rw [hj_]; rfl]
        obtain ⟨T63, L63, h63, X63, e63, N63, -, qh63, st63⟩ := tF1 p0 p1 p2 p3 (1 : Int32) (0 : Int32) xa xb xc xd dre sa12 sa17 sa28 rb28 kb28 tt cs fm 0 4 11 (s := s.setVm T28.vm) X38 hx hZ hw hby hml hown e38 N38 f30 Es28 Fv28 Fc28 Va28 (SF.ext f31.2) hfm (SC.ext f31.2) hcs (by rw [htk62]; simp only [List.length_append, List.length_cons, List.length_nil]; omega) (by rw [htk62]; simp only [List.length_append, List.length_cons, List.length_nil]; omega) (by rw [htk62]; rfl) (by rw [htk62]; rfl) (by rw [htk62]; rfl) hr_xa hr_xb hr_xc hr_xd (by decide)
        rw [qh63] at e63
        obtain ⟨T64, L64, h64, X64, e64, N64, -, qh64, st64⟩ := tW0 p0 p1 p2 p3 (1 : Int32) (0 : Int32) xa xb xc xd dre sa12 sa17 sa28 rb28 kb28 tt cs fm 0 4 11 13 (s := s.setVm T28.vm) X63 hx hZ hw hby hml hown e63 N63 f30 Es28 Fv28 Fc28 Va28 (SF.ext f31.2) hfm (SC.ext f31.2) hcs (by rw [htk62]; simp only [List.length_append, List.length_cons, List.length_nil]; omega) (by rw [htk62]; simp only [List.length_append, List.length_cons, List.length_nil]; omega)  hr_xa hr_xb hr_xc hr_xd
        rw [qh64] at e64
        have c65 : own_G p e below T64 (mkF m 591 (own_L p0 p1 p2 p3 0 dre 1 0 xa xb xc xd sa12 sa17 sa28 4 (oi 1) (oi 11) (oi 13)) [(.int (1 : Int32))]) (mkF m 589 (own_L p0 p1 p2 p3 0 dre 1 0 xa xb xc xd sa12 sa17 sa28 4 (oi 1) (oi 11) (oi 13)) []) := by
          intro t kt
          show oS T64 (mkF m 589 (own_L p0 p1 p2 p3 0 dre 1 0 xa xb xc xd sa12 sa17 sa28 4 (oi 1) (oi 11) (oi 13)) []) _
          refine XS.iload X64.here hx rfl (hb hby at_589) rfl ?_
          exact kt
        obtain ⟨fs, hr, hrun, hended, hwd⟩ := Stand.leaveW (s := s) (vm₁ := T28.vm) X64 hS28 (by rw [e64]; exact (Nat.le_refl _)) (v := some (.int (1 : Int32))) (fun h => by rw [Bd.returns] at h; cases h)
        refine ⟨_, _, pre0 _ (c1 _ (c3 _ (st2 _ (c4 _ (c5 _ (c6 _ (c7 _ (c8 _ (c9 _ (c10 _ (c11 _ (st12.trans (c13 _ (st17.trans (c18 _ (st28.trans (c29 _ (st33.trans (c34 _ (c35 _ (c36 _ (st37 _ (st38 _ (c60 _ (c61 _ (st63 _ (st64 _ (c65 _ (?_))))))))))))))))))))))))))))), hrun, hended, _, _, rfl, ?_, hwd.1, hwd.2.1, hwd.2.2.1, hwd.2.2.2.mono (by decide) (by decide)⟩
        · show Steps p.tables e below (T64.setTop (mkF m 591 (own_L p0 p1 p2 p3 0 dre 1 0 xa xb xc xd sa12 sa17 sa28 4 (oi 1) (oi 11) (oi 13)) [(.int (1 : Int32))])) _
          exact retN X64 hx (t := .boolean) Bd.returns (by simp) (hb hby at_591) hr
        · show Q0 Z p0 p1 p2 p3 cs fm dre sre vre dwq swq vwq kre kwq h0 n0 _ T64.heap _
          rw [e64]
          exact ⟨congrArg (fun z => some (Value.int z)) (show (1 : Int32) = (1 : Int32) from by rfl), N64⟩
      · skip
        have c67 : own_G p e below T38 (mkF m 414 (own_L p0 p1 p2 p3 0 dre (1 : Int32) vwl xa xb xc xd sa12 sa17 sa28 4 (oi 1) (oi 11) (.unset)) []) (mkF m 414 (own_L p0 p1 p2 p3 0 dre vfl vwl xa xb xc xd sa12 sa17 sa28 4 (oi 1) (oi 11) (.unset)) []) := fun t kt => castTop (congrArg (fun zv => (mkF m 414 (own_L p0 p1 p2 p3 0 dre zv vwl xa xb xc xd sa12 sa17 sa28 4 (oi 1) (oi 11) (.unset)) [])) (show vfl = (1 : Int32) from hi_)) kt
        have c68 : own_G p e below T38 (mkF m 414 (own_L p0 p1 p2 p3 0 dre 1 (1 : Int32) xa xb xc xd sa12 sa17 sa28 4 (oi 1) (oi 11) (.unset)) []) (mkF m 414 (own_L p0 p1 p2 p3 0 dre 1 vwl xa xb xc xd sa12 sa17 sa28 4 (oi 1) (oi 11) (.unset)) []) := fun t kt => castTop (congrArg (fun zv => (mkF m 414 (own_L p0 p1 p2 p3 0 dre 1 zv xa xb xc xd sa12 sa17 sa28 4 (oi 1) (oi 11) (.unset)) [])) (show vwl = (1 : Int32) from hj_)) kt
        have htk69 : tt = ((((((([] : List Int32) ++ ([99, 97, 110, 110, 111, 116, 32] : List Int32)) ++ ([114, 101, 97, 100] : List Int32)) ++ ([32] : List Int32)) ++ ([xa] : List Int32)) ++ ([58, 32] : List Int32)) ++ ([xc] : List Int32)) := by rw [htt, show own_mk vfl xa xb = ([xa] : List Int32) from by rw [hi_]; rfl, show own_mk vwl xc xd = ([xc] : List Int32) from by rw [hj_]; rfl]
        obtain ⟨T70, L70, h70, X70, e70, N70, -, qh70, st70⟩ := tF1 p0 p1 p2 p3 (1 : Int32) (1 : Int32) xa xb xc xd dre sa12 sa17 sa28 rb28 kb28 tt cs fm 0 4 11 (s := s.setVm T28.vm) X38 hx hZ hw hby hml hown e38 N38 f30 Es28 Fv28 Fc28 Va28 (SF.ext f31.2) hfm (SC.ext f31.2) hcs (by rw [htk69]; simp only [List.length_append, List.length_cons, List.length_nil]; omega) (by rw [htk69]; simp only [List.length_append, List.length_cons, List.length_nil]; omega) (by rw [htk69]; rfl) (by rw [htk69]; rfl) (by rw [htk69]; rfl) hr_xa hr_xb hr_xc hr_xd (by decide)
        rw [qh70] at e70
        obtain ⟨T71, L71, h71, X71, e71, N71, -, qh71, st71⟩ := tW1 p0 p1 p2 p3 (1 : Int32) (1 : Int32) xa xb xc xd dre sa12 sa17 sa28 rb28 kb28 tt cs fm 0 4 11 13 (s := s.setVm T28.vm) X70 hx hZ hw hby hml hown e70 N70 f30 Es28 Fv28 Fc28 Va28 (SF.ext f31.2) hfm (SC.ext f31.2) hcs (by rw [htk69]; simp only [List.length_append, List.length_cons, List.length_nil]; omega) (by rw [htk69]; simp only [List.length_append, List.length_cons, List.length_nil]; omega) (by rw [htk69]; rfl) hr_xa hr_xb hr_xc hr_xd
        rw [qh71] at e71
        have c72 : own_G p e below T71 (mkF m 591 (own_L p0 p1 p2 p3 0 dre 1 1 xa xb xc xd sa12 sa17 sa28 4 (oi 1) (oi 11) (oi 13)) [(.int (1 : Int32))]) (mkF m 589 (own_L p0 p1 p2 p3 0 dre 1 1 xa xb xc xd sa12 sa17 sa28 4 (oi 1) (oi 11) (oi 13)) []) := by
          intro t kt
          show oS T71 (mkF m 589 (own_L p0 p1 p2 p3 0 dre 1 1 xa xb xc xd sa12 sa17 sa28 4 (oi 1) (oi 11) (oi 13)) []) _
          refine XS.iload X71.here hx rfl (hb hby at_589) rfl ?_
          exact kt
        obtain ⟨fs, hr, hrun, hended, hwd⟩ := Stand.leaveW (s := s) (vm₁ := T28.vm) X71 hS28 (by rw [e71]; exact (Nat.le_refl _)) (v := some (.int (1 : Int32))) (fun h => by rw [Bd.returns] at h; cases h)
        refine ⟨_, _, pre0 _ (c1 _ (c3 _ (st2 _ (c4 _ (c5 _ (c6 _ (c7 _ (c8 _ (c9 _ (c10 _ (c11 _ (st12.trans (c13 _ (st17.trans (c18 _ (st28.trans (c29 _ (st33.trans (c34 _ (c35 _ (c36 _ (st37 _ (st38 _ (c67 _ (c68 _ (st70 _ (st71 _ (c72 _ (?_))))))))))))))))))))))))))))), hrun, hended, _, _, rfl, ?_, hwd.1, hwd.2.1, hwd.2.2.1, hwd.2.2.2.mono (by decide) (by decide)⟩
        · show Steps p.tables e below (T71.setTop (mkF m 591 (own_L p0 p1 p2 p3 0 dre 1 1 xa xb xc xd sa12 sa17 sa28 4 (oi 1) (oi 11) (oi 13)) [(.int (1 : Int32))])) _
          exact retN X71 hx (t := .boolean) Bd.returns (by simp) (hb hby at_591) hr
        · show Q0 Z p0 p1 p2 p3 cs fm dre sre vre dwq swq vwq kre kwq h0 n0 _ T71.heap _
          rw [e71]
          exact ⟨congrArg (fun z => some (Value.int z)) (show (1 : Int32) = (1 : Int32) from by rfl), N71⟩
      · skip
        have c74 : own_G p e below T38 (mkF m 414 (own_L p0 p1 p2 p3 0 dre (1 : Int32) vwl xa xb xc xd sa12 sa17 sa28 4 (oi 1) (oi 11) (.unset)) []) (mkF m 414 (own_L p0 p1 p2 p3 0 dre vfl vwl xa xb xc xd sa12 sa17 sa28 4 (oi 1) (oi 11) (.unset)) []) := fun t kt => castTop (congrArg (fun zv => (mkF m 414 (own_L p0 p1 p2 p3 0 dre zv vwl xa xb xc xd sa12 sa17 sa28 4 (oi 1) (oi 11) (.unset)) [])) (show vfl = (1 : Int32) from hi_)) kt
        have c75 : own_G p e below T38 (mkF m 414 (own_L p0 p1 p2 p3 0 dre 1 (2 : Int32) xa xb xc xd sa12 sa17 sa28 4 (oi 1) (oi 11) (.unset)) []) (mkF m 414 (own_L p0 p1 p2 p3 0 dre 1 vwl xa xb xc xd sa12 sa17 sa28 4 (oi 1) (oi 11) (.unset)) []) := fun t kt => castTop (congrArg (fun zv => (mkF m 414 (own_L p0 p1 p2 p3 0 dre 1 zv xa xb xc xd sa12 sa17 sa28 4 (oi 1) (oi 11) (.unset)) [])) (show vwl = (2 : Int32) from hj_)) kt
        have htk76 : tt = ((((((([] : List Int32) ++ ([99, 97, 110, 110, 111, 116, 32] : List Int32)) ++ ([114, 101, 97, 100] : List Int32)) ++ ([32] : List Int32)) ++ ([xa] : List Int32)) ++ ([58, 32] : List Int32)) ++ ([xc, xd] : List Int32)) := by rw [htt, show own_mk vfl xa xb = ([xa] : List Int32) from by rw [hi_]; rfl, show own_mk vwl xc xd = ([xc, xd] : List Int32) from by rw [hj_]; rfl]
        obtain ⟨T77, L77, h77, X77, e77, N77, -, qh77, st77⟩ := tF1 p0 p1 p2 p3 (1 : Int32) (2 : Int32) xa xb xc xd dre sa12 sa17 sa28 rb28 kb28 tt cs fm 0 4 11 (s := s.setVm T28.vm) X38 hx hZ hw hby hml hown e38 N38 f30 Es28 Fv28 Fc28 Va28 (SF.ext f31.2) hfm (SC.ext f31.2) hcs (by rw [htk76]; simp only [List.length_append, List.length_cons, List.length_nil]; omega) (by rw [htk76]; simp only [List.length_append, List.length_cons, List.length_nil]; omega) (by rw [htk76]; rfl) (by rw [htk76]; rfl) (by rw [htk76]; rfl) hr_xa hr_xb hr_xc hr_xd (by decide)
        rw [qh77] at e77
        obtain ⟨T78, L78, h78, X78, e78, N78, -, qh78, st78⟩ := tW2 p0 p1 p2 p3 (1 : Int32) (2 : Int32) xa xb xc xd dre sa12 sa17 sa28 rb28 kb28 tt cs fm 0 4 11 13 (s := s.setVm T28.vm) X77 hx hZ hw hby hml hown e77 N77 f30 Es28 Fv28 Fc28 Va28 (SF.ext f31.2) hfm (SC.ext f31.2) hcs (by rw [htk76]; simp only [List.length_append, List.length_cons, List.length_nil]; omega) (by rw [htk76]; simp only [List.length_append, List.length_cons, List.length_nil]; omega) (by rw [htk76]; rfl) (by rw [htk76]; rfl) hr_xa hr_xb hr_xc hr_xd
        rw [qh78] at e78
        have c79 : own_G p e below T78 (mkF m 591 (own_L p0 p1 p2 p3 0 dre 1 2 xa xb xc xd sa12 sa17 sa28 4 (oi 1) (oi 11) (oi 13)) [(.int (1 : Int32))]) (mkF m 589 (own_L p0 p1 p2 p3 0 dre 1 2 xa xb xc xd sa12 sa17 sa28 4 (oi 1) (oi 11) (oi 13)) []) := by
          intro t kt
          show oS T78 (mkF m 589 (own_L p0 p1 p2 p3 0 dre 1 2 xa xb xc xd sa12 sa17 sa28 4 (oi 1) (oi 11) (oi 13)) []) _
          refine XS.iload X78.here hx rfl (hb hby at_589) rfl ?_
          exact kt
        obtain ⟨fs, hr, hrun, hended, hwd⟩ := Stand.leaveW (s := s) (vm₁ := T28.vm) X78 hS28 (by rw [e78]; exact (Nat.le_refl _)) (v := some (.int (1 : Int32))) (fun h => by rw [Bd.returns] at h; cases h)
        refine ⟨_, _, pre0 _ (c1 _ (c3 _ (st2 _ (c4 _ (c5 _ (c6 _ (c7 _ (c8 _ (c9 _ (c10 _ (c11 _ (st12.trans (c13 _ (st17.trans (c18 _ (st28.trans (c29 _ (st33.trans (c34 _ (c35 _ (c36 _ (st37 _ (st38 _ (c74 _ (c75 _ (st77 _ (st78 _ (c79 _ (?_))))))))))))))))))))))))))))), hrun, hended, _, _, rfl, ?_, hwd.1, hwd.2.1, hwd.2.2.1, hwd.2.2.2.mono (by decide) (by decide)⟩
        · show Steps p.tables e below (T78.setTop (mkF m 591 (own_L p0 p1 p2 p3 0 dre 1 2 xa xb xc xd sa12 sa17 sa28 4 (oi 1) (oi 11) (oi 13)) [(.int (1 : Int32))])) _
          exact retN X78 hx (t := .boolean) Bd.returns (by simp) (hb hby at_591) hr
        · show Q0 Z p0 p1 p2 p3 cs fm dre sre vre dwq swq vwq kre kwq h0 n0 _ T78.heap _
          rw [e78]
          exact ⟨congrArg (fun z => some (Value.int z)) (show (1 : Int32) = (1 : Int32) from by rfl), N78⟩
    · skip
      rcases h3_vwl with hj_ | hj_ | hj_
      · skip
        have c81 : own_G p e below T38 (mkF m 414 (own_L p0 p1 p2 p3 0 dre (2 : Int32) vwl xa xb xc xd sa12 sa17 sa28 4 (oi 1) (oi 11) (.unset)) []) (mkF m 414 (own_L p0 p1 p2 p3 0 dre vfl vwl xa xb xc xd sa12 sa17 sa28 4 (oi 1) (oi 11) (.unset)) []) := fun t kt => castTop (congrArg (fun zv => (mkF m 414 (own_L p0 p1 p2 p3 0 dre zv vwl xa xb xc xd sa12 sa17 sa28 4 (oi 1) (oi 11) (.unset)) [])) (show vfl = (2 : Int32) from hi_)) kt
        have c82 : own_G p e below T38 (mkF m 414 (own_L p0 p1 p2 p3 0 dre 2 (0 : Int32) xa xb xc xd sa12 sa17 sa28 4 (oi 1) (oi 11) (.unset)) []) (mkF m 414 (own_L p0 p1 p2 p3 0 dre 2 vwl xa xb xc xd sa12 sa17 sa28 4 (oi 1) (oi 11) (.unset)) []) := fun t kt => castTop (congrArg (fun zv => (mkF m 414 (own_L p0 p1 p2 p3 0 dre 2 zv xa xb xc xd sa12 sa17 sa28 4 (oi 1) (oi 11) (.unset)) [])) (show vwl = (0 : Int32) from hj_)) kt
        have htk83 : tt = ((((((([] : List Int32) ++ ([99, 97, 110, 110, 111, 116, 32] : List Int32)) ++ ([114, 101, 97, 100] : List Int32)) ++ ([32] : List Int32)) ++ ([xa, xb] : List Int32)) ++ ([58, 32] : List Int32)) ++ ([] : List Int32)) := by rw [htt, show own_mk vfl xa xb = ([xa, xb] : List Int32) from by rw [hi_]; rfl, show own_mk vwl xc xd = ([] : List Int32) from by rw [hj_]; rfl]
        obtain ⟨T84, L84, h84, X84, e84, N84, -, qh84, st84⟩ := tF2 p0 p1 p2 p3 (2 : Int32) (0 : Int32) xa xb xc xd dre sa12 sa17 sa28 rb28 kb28 tt cs fm 0 4 11 (s := s.setVm T28.vm) X38 hx hZ hw hby hml hown e38 N38 f30 Es28 Fv28 Fc28 Va28 (SF.ext f31.2) hfm (SC.ext f31.2) hcs (by rw [htk83]; simp only [List.length_append, List.length_cons, List.length_nil]; omega) (by rw [htk83]; simp only [List.length_append, List.length_cons, List.length_nil]; omega) (by rw [htk83]; rfl) (by rw [htk83]; rfl) (by rw [htk83]; rfl) (by rw [htk83]; rfl) hr_xa hr_xb hr_xc hr_xd (by decide)
        rw [qh84] at e84
        obtain ⟨T85, L85, h85, X85, e85, N85, -, qh85, st85⟩ := tW0 p0 p1 p2 p3 (2 : Int32) (0 : Int32) xa xb xc xd dre sa12 sa17 sa28 rb28 kb28 tt cs fm 0 4 11 14 (s := s.setVm T28.vm) X84 hx hZ hw hby hml hown e84 N84 f30 Es28 Fv28 Fc28 Va28 (SF.ext f31.2) hfm (SC.ext f31.2) hcs (by rw [htk83]; simp only [List.length_append, List.length_cons, List.length_nil]; omega) (by rw [htk83]; simp only [List.length_append, List.length_cons, List.length_nil]; omega)  hr_xa hr_xb hr_xc hr_xd
        rw [qh85] at e85
        have c86 : own_G p e below T85 (mkF m 591 (own_L p0 p1 p2 p3 0 dre 2 0 xa xb xc xd sa12 sa17 sa28 4 (oi 1) (oi 11) (oi 14)) [(.int (1 : Int32))]) (mkF m 589 (own_L p0 p1 p2 p3 0 dre 2 0 xa xb xc xd sa12 sa17 sa28 4 (oi 1) (oi 11) (oi 14)) []) := by
          intro t kt
          show oS T85 (mkF m 589 (own_L p0 p1 p2 p3 0 dre 2 0 xa xb xc xd sa12 sa17 sa28 4 (oi 1) (oi 11) (oi 14)) []) _
          refine XS.iload X85.here hx rfl (hb hby at_589) rfl ?_
          exact kt
        obtain ⟨fs, hr, hrun, hended, hwd⟩ := Stand.leaveW (s := s) (vm₁ := T28.vm) X85 hS28 (by rw [e85]; exact (Nat.le_refl _)) (v := some (.int (1 : Int32))) (fun h => by rw [Bd.returns] at h; cases h)
        refine ⟨_, _, pre0 _ (c1 _ (c3 _ (st2 _ (c4 _ (c5 _ (c6 _ (c7 _ (c8 _ (c9 _ (c10 _ (c11 _ (st12.trans (c13 _ (st17.trans (c18 _ (st28.trans (c29 _ (st33.trans (c34 _ (c35 _ (c36 _ (st37 _ (st38 _ (c81 _ (c82 _ (st84 _ (st85 _ (c86 _ (?_))))))))))))))))))))))))))))), hrun, hended, _, _, rfl, ?_, hwd.1, hwd.2.1, hwd.2.2.1, hwd.2.2.2.mono (by decide) (by decide)⟩
        · show Steps p.tables e below (T85.setTop (mkF m 591 (own_L p0 p1 p2 p3 0 dre 2 0 xa xb xc xd sa12 sa17 sa28 4 (oi 1) (oi 11) (oi 14)) [(.int (1 : Int32))])) _
          exact retN X85 hx (t := .boolean) Bd.returns (by simp) (hb hby at_591) hr
        · show Q0 Z p0 p1 p2 p3 cs fm dre sre vre dwq swq vwq kre kwq h0 n0 _ T85.heap _
          rw [e85]
          exact ⟨congrArg (fun z => some (Value.int z)) (show (1 : Int32) = (1 : Int32) from by rfl), N85⟩
      · skip
        have c88 : own_G p e below T38 (mkF m 414 (own_L p0 p1 p2 p3 0 dre (2 : Int32) vwl xa xb xc xd sa12 sa17 sa28 4 (oi 1) (oi 11) (.unset)) []) (mkF m 414 (own_L p0 p1 p2 p3 0 dre vfl vwl xa xb xc xd sa12 sa17 sa28 4 (oi 1) (oi 11) (.unset)) []) := fun t kt => castTop (congrArg (fun zv => (mkF m 414 (own_L p0 p1 p2 p3 0 dre zv vwl xa xb xc xd sa12 sa17 sa28 4 (oi 1) (oi 11) (.unset)) [])) (show vfl = (2 : Int32) from hi_)) kt
        have c89 : own_G p e below T38 (mkF m 414 (own_L p0 p1 p2 p3 0 dre 2 (1 : Int32) xa xb xc xd sa12 sa17 sa28 4 (oi 1) (oi 11) (.unset)) []) (mkF m 414 (own_L p0 p1 p2 p3 0 dre 2 vwl xa xb xc xd sa12 sa17 sa28 4 (oi 1) (oi 11) (.unset)) []) := fun t kt => castTop (congrArg (fun zv => (mkF m 414 (own_L p0 p1 p2 p3 0 dre 2 zv xa xb xc xd sa12 sa17 sa28 4 (oi 1) (oi 11) (.unset)) [])) (show vwl = (1 : Int32) from hj_)) kt
        have htk90 : tt = ((((((([] : List Int32) ++ ([99, 97, 110, 110, 111, 116, 32] : List Int32)) ++ ([114, 101, 97, 100] : List Int32)) ++ ([32] : List Int32)) ++ ([xa, xb] : List Int32)) ++ ([58, 32] : List Int32)) ++ ([xc] : List Int32)) := by rw [htt, show own_mk vfl xa xb = ([xa, xb] : List Int32) from by rw [hi_]; rfl, show own_mk vwl xc xd = ([xc] : List Int32) from by rw [hj_]; rfl]
        obtain ⟨T91, L91, h91, X91, e91, N91, -, qh91, st91⟩ := tF2 p0 p1 p2 p3 (2 : Int32) (1 : Int32) xa xb xc xd dre sa12 sa17 sa28 rb28 kb28 tt cs fm 0 4 11 (s := s.setVm T28.vm) X38 hx hZ hw hby hml hown e38 N38 f30 Es28 Fv28 Fc28 Va28 (SF.ext f31.2) hfm (SC.ext f31.2) hcs (by rw [htk90]; simp only [List.length_append, List.length_cons, List.length_nil]; omega) (by rw [htk90]; simp only [List.length_append, List.length_cons, List.length_nil]; omega) (by rw [htk90]; rfl) (by rw [htk90]; rfl) (by rw [htk90]; rfl) (by rw [htk90]; rfl) hr_xa hr_xb hr_xc hr_xd (by decide)
        rw [qh91] at e91
        obtain ⟨T92, L92, h92, X92, e92, N92, -, qh92, st92⟩ := tW1 p0 p1 p2 p3 (2 : Int32) (1 : Int32) xa xb xc xd dre sa12 sa17 sa28 rb28 kb28 tt cs fm 0 4 11 14 (s := s.setVm T28.vm) X91 hx hZ hw hby hml hown e91 N91 f30 Es28 Fv28 Fc28 Va28 (SF.ext f31.2) hfm (SC.ext f31.2) hcs (by rw [htk90]; simp only [List.length_append, List.length_cons, List.length_nil]; omega) (by rw [htk90]; simp only [List.length_append, List.length_cons, List.length_nil]; omega) (by rw [htk90]; rfl) hr_xa hr_xb hr_xc hr_xd
        rw [qh92] at e92
        have c93 : own_G p e below T92 (mkF m 591 (own_L p0 p1 p2 p3 0 dre 2 1 xa xb xc xd sa12 sa17 sa28 4 (oi 1) (oi 11) (oi 14)) [(.int (1 : Int32))]) (mkF m 589 (own_L p0 p1 p2 p3 0 dre 2 1 xa xb xc xd sa12 sa17 sa28 4 (oi 1) (oi 11) (oi 14)) []) := by
          intro t kt
          show oS T92 (mkF m 589 (own_L p0 p1 p2 p3 0 dre 2 1 xa xb xc xd sa12 sa17 sa28 4 (oi 1) (oi 11) (oi 14)) []) _
          refine XS.iload X92.here hx rfl (hb hby at_589) rfl ?_
          exact kt
        obtain ⟨fs, hr, hrun, hended, hwd⟩ := Stand.leaveW (s := s) (vm₁ := T28.vm) X92 hS28 (by rw [e92]; exact (Nat.le_refl _)) (v := some (.int (1 : Int32))) (fun h => by rw [Bd.returns] at h; cases h)
        refine ⟨_, _, pre0 _ (c1 _ (c3 _ (st2 _ (c4 _ (c5 _ (c6 _ (c7 _ (c8 _ (c9 _ (c10 _ (c11 _ (st12.trans (c13 _ (st17.trans (c18 _ (st28.trans (c29 _ (st33.trans (c34 _ (c35 _ (c36 _ (st37 _ (st38 _ (c88 _ (c89 _ (st91 _ (st92 _ (c93 _ (?_))))))))))))))))))))))))))))), hrun, hended, _, _, rfl, ?_, hwd.1, hwd.2.1, hwd.2.2.1, hwd.2.2.2.mono (by decide) (by decide)⟩
        · show Steps p.tables e below (T92.setTop (mkF m 591 (own_L p0 p1 p2 p3 0 dre 2 1 xa xb xc xd sa12 sa17 sa28 4 (oi 1) (oi 11) (oi 14)) [(.int (1 : Int32))])) _
          exact retN X92 hx (t := .boolean) Bd.returns (by simp) (hb hby at_591) hr
        · show Q0 Z p0 p1 p2 p3 cs fm dre sre vre dwq swq vwq kre kwq h0 n0 _ T92.heap _
          rw [e92]
          exact ⟨congrArg (fun z => some (Value.int z)) (show (1 : Int32) = (1 : Int32) from by rfl), N92⟩
      · skip
        have c95 : own_G p e below T38 (mkF m 414 (own_L p0 p1 p2 p3 0 dre (2 : Int32) vwl xa xb xc xd sa12 sa17 sa28 4 (oi 1) (oi 11) (.unset)) []) (mkF m 414 (own_L p0 p1 p2 p3 0 dre vfl vwl xa xb xc xd sa12 sa17 sa28 4 (oi 1) (oi 11) (.unset)) []) := fun t kt => castTop (congrArg (fun zv => (mkF m 414 (own_L p0 p1 p2 p3 0 dre zv vwl xa xb xc xd sa12 sa17 sa28 4 (oi 1) (oi 11) (.unset)) [])) (show vfl = (2 : Int32) from hi_)) kt
        have c96 : own_G p e below T38 (mkF m 414 (own_L p0 p1 p2 p3 0 dre 2 (2 : Int32) xa xb xc xd sa12 sa17 sa28 4 (oi 1) (oi 11) (.unset)) []) (mkF m 414 (own_L p0 p1 p2 p3 0 dre 2 vwl xa xb xc xd sa12 sa17 sa28 4 (oi 1) (oi 11) (.unset)) []) := fun t kt => castTop (congrArg (fun zv => (mkF m 414 (own_L p0 p1 p2 p3 0 dre 2 zv xa xb xc xd sa12 sa17 sa28 4 (oi 1) (oi 11) (.unset)) [])) (show vwl = (2 : Int32) from hj_)) kt
        have htk97 : tt = ((((((([] : List Int32) ++ ([99, 97, 110, 110, 111, 116, 32] : List Int32)) ++ ([114, 101, 97, 100] : List Int32)) ++ ([32] : List Int32)) ++ ([xa, xb] : List Int32)) ++ ([58, 32] : List Int32)) ++ ([xc, xd] : List Int32)) := by rw [htt, show own_mk vfl xa xb = ([xa, xb] : List Int32) from by rw [hi_]; rfl, show own_mk vwl xc xd = ([xc, xd] : List Int32) from by rw [hj_]; rfl]
        obtain ⟨T98, L98, h98, X98, e98, N98, -, qh98, st98⟩ := tF2 p0 p1 p2 p3 (2 : Int32) (2 : Int32) xa xb xc xd dre sa12 sa17 sa28 rb28 kb28 tt cs fm 0 4 11 (s := s.setVm T28.vm) X38 hx hZ hw hby hml hown e38 N38 f30 Es28 Fv28 Fc28 Va28 (SF.ext f31.2) hfm (SC.ext f31.2) hcs (by rw [htk97]; simp only [List.length_append, List.length_cons, List.length_nil]; omega) (by rw [htk97]; simp only [List.length_append, List.length_cons, List.length_nil]; omega) (by rw [htk97]; rfl) (by rw [htk97]; rfl) (by rw [htk97]; rfl) (by rw [htk97]; rfl) hr_xa hr_xb hr_xc hr_xd (by decide)
        rw [qh98] at e98
        obtain ⟨T99, L99, h99, X99, e99, N99, -, qh99, st99⟩ := tW2 p0 p1 p2 p3 (2 : Int32) (2 : Int32) xa xb xc xd dre sa12 sa17 sa28 rb28 kb28 tt cs fm 0 4 11 14 (s := s.setVm T28.vm) X98 hx hZ hw hby hml hown e98 N98 f30 Es28 Fv28 Fc28 Va28 (SF.ext f31.2) hfm (SC.ext f31.2) hcs (by rw [htk97]; simp only [List.length_append, List.length_cons, List.length_nil]; omega) (by rw [htk97]; simp only [List.length_append, List.length_cons, List.length_nil]; omega) (by rw [htk97]; rfl) (by rw [htk97]; rfl) hr_xa hr_xb hr_xc hr_xd
        rw [qh99] at e99
        have c100 : own_G p e below T99 (mkF m 591 (own_L p0 p1 p2 p3 0 dre 2 2 xa xb xc xd sa12 sa17 sa28 4 (oi 1) (oi 11) (oi 14)) [(.int (1 : Int32))]) (mkF m 589 (own_L p0 p1 p2 p3 0 dre 2 2 xa xb xc xd sa12 sa17 sa28 4 (oi 1) (oi 11) (oi 14)) []) := by
          intro t kt
          show oS T99 (mkF m 589 (own_L p0 p1 p2 p3 0 dre 2 2 xa xb xc xd sa12 sa17 sa28 4 (oi 1) (oi 11) (oi 14)) []) _
          refine XS.iload X99.here hx rfl (hb hby at_589) rfl ?_
          exact kt
        obtain ⟨fs, hr, hrun, hended, hwd⟩ := Stand.leaveW (s := s) (vm₁ := T28.vm) X99 hS28 (by rw [e99]; exact (Nat.le_refl _)) (v := some (.int (1 : Int32))) (fun h => by rw [Bd.returns] at h; cases h)
        refine ⟨_, _, pre0 _ (c1 _ (c3 _ (st2 _ (c4 _ (c5 _ (c6 _ (c7 _ (c8 _ (c9 _ (c10 _ (c11 _ (st12.trans (c13 _ (st17.trans (c18 _ (st28.trans (c29 _ (st33.trans (c34 _ (c35 _ (c36 _ (st37 _ (st38 _ (c95 _ (c96 _ (st98 _ (st99 _ (c100 _ (?_))))))))))))))))))))))))))))), hrun, hended, _, _, rfl, ?_, hwd.1, hwd.2.1, hwd.2.2.1, hwd.2.2.2.mono (by decide) (by decide)⟩
        · show Steps p.tables e below (T99.setTop (mkF m 591 (own_L p0 p1 p2 p3 0 dre 2 2 xa xb xc xd sa12 sa17 sa28 4 (oi 1) (oi 11) (oi 14)) [(.int (1 : Int32))])) _
          exact retN X99 hx (t := .boolean) Bd.returns (by simp) (hb hby at_591) hr
        · show Q0 Z p0 p1 p2 p3 cs fm dre sre vre dwq swq vwq kre kwq h0 n0 _ T99.heap _
          rw [e99]
          exact ⟨congrArg (fun z => some (Value.int z)) (show (1 : Int32) = (1 : Int32) from by rfl), N99⟩
  · -- it isn't
    have c103 : own_G p e below s₁ (mkF m 18 #[oi p0, oi p1, oi p2, oi p3, oi 1, .unset, .unset, .unset, .unset, .unset, .unset, .unset, .unset, .unset, .unset, .unset, .unset, .unset, .unset] []) (mkF m 3 #[oi p0, oi p1, oi p2, oi p3, .unset, .unset, .unset, .unset, .unset, .unset, .unset, .unset, .unset, .unset, .unset, .unset, .unset, .unset, .unset] [(.int (p0 &&& (1 : Int32)))]) := by
      intro t kt
      show oS s₁ (mkF m 3 #[oi p0, oi p1, oi p2, oi p3, .unset, .unset, .unset, .unset, .unset, .unset, .unset, .unset, .unset, .unset, .unset, .unset, .unset, .unset, .unset] [(.int (p0 &&& (1 : Int32)))]) _
      refine XS.ifNo X0.here hx rfl (hb hby at_3) rfl ((if0 _ _).trans (feq hc3).1) ?_
      show oS s₁ (mkF m 6 #[oi p0, oi p1, oi p2, oi p3, .unset, .unset, .unset, .unset, .unset, .unset, .unset, .unset, .unset, .unset, .unset, .unset, .unset, .unset, .unset] []) _
      refine XS.iconst X0.here hx rfl (hb hby at_6) ?_
      show oS s₁ (mkF m 7 #[oi p0, oi p1, oi p2, oi p3, .unset, .unset, .unset, .unset, .unset, .unset, .unset, .unset, .unset, .unset, .unset, .unset, .unset, .unset, .unset] [(.int (1 : Int32))]) _
      refine XS.goto X0.here hx rfl (pc0 := 7) (pc' := 11) rfl (hb hby at_7) (by decide) (by decide) ?_
      show oS s₁ (mkF m 11 #[oi p0, oi p1, oi p2, oi p3, .unset, .unset, .unset, .unset, .unset, .unset, .unset, .unset, .unset, .unset, .unset, .unset, .unset, .unset, .unset] [(.int (1 : Int32))]) _
      refine XS.istore X0.here hx rfl (hb hby at_11) rfl (l' := #[oi p0, oi p1, oi p2, oi p3, oi 1, .unset, .unset, .unset, .unset, .unset, .unset, .unset, .unset, .unset, .unset, .unset, .unset, .unset, .unset]) rfl ?_
      show oS s₁ (mkF m 13 #[oi p0, oi p1, oi p2, oi p3, oi 1, .unset, .unset, .unset, .unset, .unset, .unset, .unset, .unset, .unset, .unset, .unset, .unset, .unset, .unset] []) _
      refine XS.iload X0.here hx rfl (hb hby at_13) rfl ?_
      show oS s₁ (mkF m 15 #[oi p0, oi p1, oi p2, oi p3, oi 1, .unset, .unset, .unset, .unset, .unset, .unset, .unset, .unset, .unset, .unset, .unset, .unset, .unset, .unset] [(.int (1 : Int32))]) _
      refine XS.ifNo X0.here hx rfl (hb hby at_15) rfl ((if0 _ _).trans (feq (by decide : ¬ ((1 : Int32) = (0 : Int32)))).1) ?_
      exact kt
    obtain ⟨T102, X102, e102, st102⟩ := getS2 X0 hx hZ hown (host := "") (Or.inl (own_t hw 213 rfl)) Via.refl e0 (Twq.ext O0.2) (g := (mkF m 18 #[oi p0, oi p1, oi p2, oi p3, oi 1, .unset, .unset, .unset, .unset, .unset, .unset, .unset, .unset, .unset, .unset, .unset, .unset, .unset, .unset] [])) rfl (hb hby at_18)
    have c104 : own_G p e below T102 (mkF m 83 #[oi p0, oi p1, oi p2, oi p3, oi 1, oa dwq, oi ((p3 &&& (3 : Int32)) % (3 : Int32)), oi ((((p3.toUInt32 >>> ((2 : Int32) &&& 31).toUInt32).toInt32) &&& (3 : Int32)) % (3 : Int32)), oi ((p1 &&& (255 : Int32)).toUInt32.toUInt16.toUInt32.toInt32), oi ((((p1.toUInt32 >>> ((8 : Int32) &&& 31).toUInt32).toInt32) &&& (255 : Int32)).toUInt32.toUInt16.toUInt32.toInt32), oi ((p2 &&& (255 : Int32)).toUInt32.toUInt16.toUInt32.toInt32), oi ((((p2.toUInt32 >>> ((8 : Int32) &&& 31).toUInt32).toInt32) &&& (255 : Int32)).toUInt32.toUInt16.toUInt32.toInt32), .unset, .unset, .unset, .unset, .unset, .unset, .unset] []) (mkF m 21 #[oi p0, oi p1, oi p2, oi p3, oi 1, .unset, .unset, .unset, .unset, .unset, .unset, .unset, .unset, .unset, .unset, .unset, .unset, .unset, .unset] [(.ref dwq)]) := by
      intro t kt
      show oS T102 (mkF m 21 #[oi p0, oi p1, oi p2, oi p3, oi 1, .unset, .unset, .unset, .unset, .unset, .unset, .unset, .unset, .unset, .unset, .unset, .unset, .unset, .unset] [(.ref dwq)]) _
      refine XS.goto X102.here hx rfl (pc0 := 21) (pc' := 27) rfl (hb hby at_21) (by decide) (by decide) ?_
      show oS T102 (mkF m 27 #[oi p0, oi p1, oi p2, oi p3, oi 1, .unset, .unset, .unset, .unset, .unset, .unset, .unset, .unset, .unset, .unset, .unset, .unset, .unset, .unset] [(.ref dwq)]) _
      refine XS.astore X102.here hx rfl (hb hby at_27) rfl rfl (l' := #[oi p0, oi p1, oi p2, oi p3, oi 1, oa dwq, .unset, .unset, .unset, .unset, .unset, .unset, .unset, .unset, .unset, .unset, .unset, .unset, .unset]) rfl ?_
      show oS T102 (mkF m 29 #[oi p0, oi p1, oi p2, oi p3, oi 1, oa dwq, .unset, .unset, .unset, .unset, .unset, .unset, .unset, .unset, .unset, .unset, .unset, .unset, .unset] []) _
      refine XS.iloadN X102.here hx rfl (hb hby at_29) rfl ?_
      show oS T102 (mkF m 30 #[oi p0, oi p1, oi p2, oi p3, oi 1, oa dwq, .unset, .unset, .unset, .unset, .unset, .unset, .unset, .unset, .unset, .unset, .unset, .unset, .unset] [(.int p3)]) _
      refine XS.iconst X102.here hx rfl (hb hby at_30) ?_
      show oS T102 (mkF m 31 #[oi p0, oi p1, oi p2, oi p3, oi 1, oa dwq, .unset, .unset, .unset, .unset, .unset, .unset, .unset, .unset, .unset, .unset, .unset, .unset, .unset] [(.int (3 : Int32)), (.int p3)]) _
      refine XS.iand X102.here hx rfl (hb hby at_31) rfl ?_
      show oS T102 (mkF m 32 #[oi p0, oi p1, oi p2, oi p3, oi 1, oa dwq, .unset, .unset, .unset, .unset, .unset, .unset, .unset, .unset, .unset, .unset, .unset, .unset, .unset] [(.int (p3 &&& (3 : Int32)))]) _
      refine XS.iconst X102.here hx rfl (hb hby at_32) ?_
      show oS T102 (mkF m 33 #[oi p0, oi p1, oi p2, oi p3, oi 1, oa dwq, .unset, .unset, .unset, .unset, .unset, .unset, .unset, .unset, .unset, .unset, .unset, .unset, .unset] [(.int (3 : Int32)), (.int (p3 &&& (3 : Int32)))]) _
      refine iremM X102 hx rfl (hb hby at_33) rfl (by decide) ?_
      show oS T102 (mkF m 34 #[oi p0, oi p1, oi p2, oi p3, oi 1, oa dwq, .unset, .unset, .unset, .unset, .unset, .unset, .unset, .unset, .unset, .unset, .unset, .unset, .unset] [(.int ((p3 &&& (3 : Int32)) % (3 : Int32)))]) _
      refine XS.istore X102.here hx rfl (hb hby at_34) rfl (l' := #[oi p0, oi p1, oi p2, oi p3, oi 1, oa dwq, oi ((p3 &&& (3 : Int32)) % (3 : Int32)), .unset, .unset, .unset, .unset, .unset, .unset, .unset, .unset, .unset, .unset, .unset, .unset]) rfl ?_
      show oS T102 (mkF m 36 #[oi p0, oi p1, oi p2, oi p3, oi 1, oa dwq, oi ((p3 &&& (3 : Int32)) % (3 : Int32)), .unset, .unset, .unset, .unset, .unset, .unset, .unset, .unset, .unset, .unset, .unset, .unset] []) _
      refine XS.iloadN X102.here hx rfl (hb hby at_36) rfl ?_
      show oS T102 (mkF m 37 #[oi p0, oi p1, oi p2, oi p3, oi 1, oa dwq, oi ((p3 &&& (3 : Int32)) % (3 : Int32)), .unset, .unset, .unset, .unset, .unset, .unset, .unset, .unset, .unset, .unset, .unset, .unset] [(.int p3)]) _
      refine XS.iconst X102.here hx rfl (hb hby at_37) ?_
      show oS T102 (mkF m 38 #[oi p0, oi p1, oi p2, oi p3, oi 1, oa dwq, oi ((p3 &&& (3 : Int32)) % (3 : Int32)), .unset, .unset, .unset, .unset, .unset, .unset, .unset, .unset, .unset, .unset, .unset, .unset] [(.int (2 : Int32)), (.int p3)]) _
      refine XS.iushr X102.here hx rfl (hb hby at_38) rfl ?_
      show oS T102 (mkF m 39 #[oi p0, oi p1, oi p2, oi p3, oi 1, oa dwq, oi ((p3 &&& (3 : Int32)) % (3 : Int32)), .unset, .unset, .unset, .unset, .unset, .unset, .unset, .unset, .unset, .unset, .unset, .unset] [(.int ((p3.toUInt32 >>> ((2 : Int32) &&& 31).toUInt32).toInt32))]) _
      refine XS.iconst X102.here hx rfl (hb hby at_39) ?_
      show oS T102 (mkF m 40 #[oi p0, oi p1, oi p2, oi p3, oi 1, oa dwq, oi ((p3 &&& (3 : Int32)) % (3 : Int32)), .unset, .unset, .unset, .unset, .unset, .unset, .unset, .unset, .unset, .unset, .unset, .unset] [(.int (3 : Int32)), (.int ((p3.toUInt32 >>> ((2 : Int32) &&& 31).toUInt32).toInt32))]) _
      refine XS.iand X102.here hx rfl (hb hby at_40) rfl ?_
      show oS T102 (mkF m 41 #[oi p0, oi p1, oi p2, oi p3, oi 1, oa dwq, oi ((p3 &&& (3 : Int32)) % (3 : Int32)), .unset, .unset, .unset, .unset, .unset, .unset, .unset, .unset, .unset, .unset, .unset, .unset] [(.int (((p3.toUInt32 >>> ((2 : Int32) &&& 31).toUInt32).toInt32) &&& (3 : Int32)))]) _
      refine XS.iconst X102.here hx rfl (hb hby at_41) ?_
      show oS T102 (mkF m 42 #[oi p0, oi p1, oi p2, oi p3, oi 1, oa dwq, oi ((p3 &&& (3 : Int32)) % (3 : Int32)), .unset, .unset, .unset, .unset, .unset, .unset, .unset, .unset, .unset, .unset, .unset, .unset] [(.int (3 : Int32)), (.int (((p3.toUInt32 >>> ((2 : Int32) &&& 31).toUInt32).toInt32) &&& (3 : Int32)))]) _
      refine iremM X102 hx rfl (hb hby at_42) rfl (by decide) ?_
      show oS T102 (mkF m 43 #[oi p0, oi p1, oi p2, oi p3, oi 1, oa dwq, oi ((p3 &&& (3 : Int32)) % (3 : Int32)), .unset, .unset, .unset, .unset, .unset, .unset, .unset, .unset, .unset, .unset, .unset, .unset] [(.int ((((p3.toUInt32 >>> ((2 : Int32) &&& 31).toUInt32).toInt32) &&& (3 : Int32)) % (3 : Int32)))]) _
      refine XS.istore X102.here hx rfl (hb hby at_43) rfl (l' := #[oi p0, oi p1, oi p2, oi p3, oi 1, oa dwq, oi ((p3 &&& (3 : Int32)) % (3 : Int32)), oi ((((p3.toUInt32 >>> ((2 : Int32) &&& 31).toUInt32).toInt32) &&& (3 : Int32)) % (3 : Int32)), .unset, .unset, .unset, .unset, .unset, .unset, .unset, .unset, .unset, .unset, .unset]) rfl ?_
      show oS T102 (mkF m 45 #[oi p0, oi p1, oi p2, oi p3, oi 1, oa dwq, oi ((p3 &&& (3 : Int32)) % (3 : Int32)), oi ((((p3.toUInt32 >>> ((2 : Int32) &&& 31).toUInt32).toInt32) &&& (3 : Int32)) % (3 : Int32)), .unset, .unset, .unset, .unset, .unset, .unset, .unset, .unset, .unset, .unset, .unset] []) _
      refine XS.iloadN X102.here hx rfl (hb hby at_45) rfl ?_
      show oS T102 (mkF m 46 #[oi p0, oi p1, oi p2, oi p3, oi 1, oa dwq, oi ((p3 &&& (3 : Int32)) % (3 : Int32)), oi ((((p3.toUInt32 >>> ((2 : Int32) &&& 31).toUInt32).toInt32) &&& (3 : Int32)) % (3 : Int32)), .unset, .unset, .unset, .unset, .unset, .unset, .unset, .unset, .unset, .unset, .unset] [(.int p1)]) _
      refine XS.sipush X102.here hx rfl (hb hby at_46) ?_
      show oS T102 (mkF m 49 #[oi p0, oi p1, oi p2, oi p3, oi 1, oa dwq, oi ((p3 &&& (3 : Int32)) % (3 : Int32)), oi ((((p3.toUInt32 >>> ((2 : Int32) &&& 31).toUInt32).toInt32) &&& (3 : Int32)) % (3 : Int32)), .unset, .unset, .unset, .unset, .unset, .unset, .unset, .unset, .unset, .unset, .unset] [(.int (255 : Int32)), (.int p1)]) _
      refine XS.iand X102.here hx rfl (hb hby at_49) rfl ?_
      show oS T102 (mkF m 50 #[oi p0, oi p1, oi p2, oi p3, oi 1, oa dwq, oi ((p3 &&& (3 : Int32)) % (3 : Int32)), oi ((((p3.toUInt32 >>> ((2 : Int32) &&& 31).toUInt32).toInt32) &&& (3 : Int32)) % (3 : Int32)), .unset, .unset, .unset, .unset, .unset, .unset, .unset, .unset, .unset, .unset, .unset] [(.int (p1 &&& (255 : Int32)))]) _
      refine XS.i2c X102.here hx rfl (hb hby at_50) rfl ?_
      show oS T102 (mkF m 51 #[oi p0, oi p1, oi p2, oi p3, oi 1, oa dwq, oi ((p3 &&& (3 : Int32)) % (3 : Int32)), oi ((((p3.toUInt32 >>> ((2 : Int32) &&& 31).toUInt32).toInt32) &&& (3 : Int32)) % (3 : Int32)), .unset, .unset, .unset, .unset, .unset, .unset, .unset, .unset, .unset, .unset, .unset] [(.int ((p1 &&& (255 : Int32)).toUInt32.toUInt16.toUInt32.toInt32))]) _
      refine XS.istore X102.here hx rfl (hb hby at_51) rfl (l' := #[oi p0, oi p1, oi p2, oi p3, oi 1, oa dwq, oi ((p3 &&& (3 : Int32)) % (3 : Int32)), oi ((((p3.toUInt32 >>> ((2 : Int32) &&& 31).toUInt32).toInt32) &&& (3 : Int32)) % (3 : Int32)), oi ((p1 &&& (255 : Int32)).toUInt32.toUInt16.toUInt32.toInt32), .unset, .unset, .unset, .unset, .unset, .unset, .unset, .unset, .unset, .unset]) rfl ?_
      show oS T102 (mkF m 53 #[oi p0, oi p1, oi p2, oi p3, oi 1, oa dwq, oi ((p3 &&& (3 : Int32)) % (3 : Int32)), oi ((((p3.toUInt32 >>> ((2 : Int32) &&& 31).toUInt32).toInt32) &&& (3 : Int32)) % (3 : Int32)), oi ((p1 &&& (255 : Int32)).toUInt32.toUInt16.toUInt32.toInt32), .unset, .unset, .unset, .unset, .unset, .unset, .unset, .unset, .unset, .unset] []) _
      refine XS.iloadN X102.here hx rfl (hb hby at_53) rfl ?_
      show oS T102 (mkF m 54 #[oi p0, oi p1, oi p2, oi p3, oi 1, oa dwq, oi ((p3 &&& (3 : Int32)) % (3 : Int32)), oi ((((p3.toUInt32 >>> ((2 : Int32) &&& 31).toUInt32).toInt32) &&& (3 : Int32)) % (3 : Int32)), oi ((p1 &&& (255 : Int32)).toUInt32.toUInt16.toUInt32.toInt32), .unset, .unset, .unset, .unset, .unset, .unset, .unset, .unset, .unset, .unset] [(.int p1)]) _
      refine XS.bipush X102.here hx rfl (hb hby at_54) ?_
      show oS T102 (mkF m 56 #[oi p0, oi p1, oi p2, oi p3, oi 1, oa dwq, oi ((p3 &&& (3 : Int32)) % (3 : Int32)), oi ((((p3.toUInt32 >>> ((2 : Int32) &&& 31).toUInt32).toInt32) &&& (3 : Int32)) % (3 : Int32)), oi ((p1 &&& (255 : Int32)).toUInt32.toUInt16.toUInt32.toInt32), .unset, .unset, .unset, .unset, .unset, .unset, .unset, .unset, .unset, .unset] [(.int (8 : Int32)), (.int p1)]) _
      refine XS.iushr X102.here hx rfl (hb hby at_56) rfl ?_
      show oS T102 (mkF m 57 #[oi p0, oi p1, oi p2, oi p3, oi 1, oa dwq, oi ((p3 &&& (3 : Int32)) % (3 : Int32)), oi ((((p3.toUInt32 >>> ((2 : Int32) &&& 31).toUInt32).toInt32) &&& (3 : Int32)) % (3 : Int32)), oi ((p1 &&& (255 : Int32)).toUInt32.toUInt16.toUInt32.toInt32), .unset, .unset, .unset, .unset, .unset, .unset, .unset, .unset, .unset, .unset] [(.int ((p1.toUInt32 >>> ((8 : Int32) &&& 31).toUInt32).toInt32))]) _
      refine XS.sipush X102.here hx rfl (hb hby at_57) ?_
      show oS T102 (mkF m 60 #[oi p0, oi p1, oi p2, oi p3, oi 1, oa dwq, oi ((p3 &&& (3 : Int32)) % (3 : Int32)), oi ((((p3.toUInt32 >>> ((2 : Int32) &&& 31).toUInt32).toInt32) &&& (3 : Int32)) % (3 : Int32)), oi ((p1 &&& (255 : Int32)).toUInt32.toUInt16.toUInt32.toInt32), .unset, .unset, .unset, .unset, .unset, .unset, .unset, .unset, .unset, .unset] [(.int (255 : Int32)), (.int ((p1.toUInt32 >>> ((8 : Int32) &&& 31).toUInt32).toInt32))]) _
      refine XS.iand X102.here hx rfl (hb hby at_60) rfl ?_
      show oS T102 (mkF m 61 #[oi p0, oi p1, oi p2, oi p3, oi 1, oa dwq, oi ((p3 &&& (3 : Int32)) % (3 : Int32)), oi ((((p3.toUInt32 >>> ((2 : Int32) &&& 31).toUInt32).toInt32) &&& (3 : Int32)) % (3 : Int32)), oi ((p1 &&& (255 : Int32)).toUInt32.toUInt16.toUInt32.toInt32), .unset, .unset, .unset, .unset, .unset, .unset, .unset, .unset, .unset, .unset] [(.int (((p1.toUInt32 >>> ((8 : Int32) &&& 31).toUInt32).toInt32) &&& (255 : Int32)))]) _
      refine XS.i2c X102.here hx rfl (hb hby at_61) rfl ?_
      show oS T102 (mkF m 62 #[oi p0, oi p1, oi p2, oi p3, oi 1, oa dwq, oi ((p3 &&& (3 : Int32)) % (3 : Int32)), oi ((((p3.toUInt32 >>> ((2 : Int32) &&& 31).toUInt32).toInt32) &&& (3 : Int32)) % (3 : Int32)), oi ((p1 &&& (255 : Int32)).toUInt32.toUInt16.toUInt32.toInt32), .unset, .unset, .unset, .unset, .unset, .unset, .unset, .unset, .unset, .unset] [(.int ((((p1.toUInt32 >>> ((8 : Int32) &&& 31).toUInt32).toInt32) &&& (255 : Int32)).toUInt32.toUInt16.toUInt32.toInt32))]) _
      refine XS.istore X102.here hx rfl (hb hby at_62) rfl (l' := #[oi p0, oi p1, oi p2, oi p3, oi 1, oa dwq, oi ((p3 &&& (3 : Int32)) % (3 : Int32)), oi ((((p3.toUInt32 >>> ((2 : Int32) &&& 31).toUInt32).toInt32) &&& (3 : Int32)) % (3 : Int32)), oi ((p1 &&& (255 : Int32)).toUInt32.toUInt16.toUInt32.toInt32), oi ((((p1.toUInt32 >>> ((8 : Int32) &&& 31).toUInt32).toInt32) &&& (255 : Int32)).toUInt32.toUInt16.toUInt32.toInt32), .unset, .unset, .unset, .unset, .unset, .unset, .unset, .unset, .unset]) rfl ?_
      show oS T102 (mkF m 64 #[oi p0, oi p1, oi p2, oi p3, oi 1, oa dwq, oi ((p3 &&& (3 : Int32)) % (3 : Int32)), oi ((((p3.toUInt32 >>> ((2 : Int32) &&& 31).toUInt32).toInt32) &&& (3 : Int32)) % (3 : Int32)), oi ((p1 &&& (255 : Int32)).toUInt32.toUInt16.toUInt32.toInt32), oi ((((p1.toUInt32 >>> ((8 : Int32) &&& 31).toUInt32).toInt32) &&& (255 : Int32)).toUInt32.toUInt16.toUInt32.toInt32), .unset, .unset, .unset, .unset, .unset, .unset, .unset, .unset, .unset] []) _
      refine XS.iloadN X102.here hx rfl (hb hby at_64) rfl ?_
      show oS T102 (mkF m 65 #[oi p0, oi p1, oi p2, oi p3, oi 1, oa dwq, oi ((p3 &&& (3 : Int32)) % (3 : Int32)), oi ((((p3.toUInt32 >>> ((2 : Int32) &&& 31).toUInt32).toInt32) &&& (3 : Int32)) % (3 : Int32)), oi ((p1 &&& (255 : Int32)).toUInt32.toUInt16.toUInt32.toInt32), oi ((((p1.toUInt32 >>> ((8 : Int32) &&& 31).toUInt32).toInt32) &&& (255 : Int32)).toUInt32.toUInt16.toUInt32.toInt32), .unset, .unset, .unset, .unset, .unset, .unset, .unset, .unset, .unset] [(.int p2)]) _
      refine XS.sipush X102.here hx rfl (hb hby at_65) ?_
      show oS T102 (mkF m 68 #[oi p0, oi p1, oi p2, oi p3, oi 1, oa dwq, oi ((p3 &&& (3 : Int32)) % (3 : Int32)), oi ((((p3.toUInt32 >>> ((2 : Int32) &&& 31).toUInt32).toInt32) &&& (3 : Int32)) % (3 : Int32)), oi ((p1 &&& (255 : Int32)).toUInt32.toUInt16.toUInt32.toInt32), oi ((((p1.toUInt32 >>> ((8 : Int32) &&& 31).toUInt32).toInt32) &&& (255 : Int32)).toUInt32.toUInt16.toUInt32.toInt32), .unset, .unset, .unset, .unset, .unset, .unset, .unset, .unset, .unset] [(.int (255 : Int32)), (.int p2)]) _
      refine XS.iand X102.here hx rfl (hb hby at_68) rfl ?_
      show oS T102 (mkF m 69 #[oi p0, oi p1, oi p2, oi p3, oi 1, oa dwq, oi ((p3 &&& (3 : Int32)) % (3 : Int32)), oi ((((p3.toUInt32 >>> ((2 : Int32) &&& 31).toUInt32).toInt32) &&& (3 : Int32)) % (3 : Int32)), oi ((p1 &&& (255 : Int32)).toUInt32.toUInt16.toUInt32.toInt32), oi ((((p1.toUInt32 >>> ((8 : Int32) &&& 31).toUInt32).toInt32) &&& (255 : Int32)).toUInt32.toUInt16.toUInt32.toInt32), .unset, .unset, .unset, .unset, .unset, .unset, .unset, .unset, .unset] [(.int (p2 &&& (255 : Int32)))]) _
      refine XS.i2c X102.here hx rfl (hb hby at_69) rfl ?_
      show oS T102 (mkF m 70 #[oi p0, oi p1, oi p2, oi p3, oi 1, oa dwq, oi ((p3 &&& (3 : Int32)) % (3 : Int32)), oi ((((p3.toUInt32 >>> ((2 : Int32) &&& 31).toUInt32).toInt32) &&& (3 : Int32)) % (3 : Int32)), oi ((p1 &&& (255 : Int32)).toUInt32.toUInt16.toUInt32.toInt32), oi ((((p1.toUInt32 >>> ((8 : Int32) &&& 31).toUInt32).toInt32) &&& (255 : Int32)).toUInt32.toUInt16.toUInt32.toInt32), .unset, .unset, .unset, .unset, .unset, .unset, .unset, .unset, .unset] [(.int ((p2 &&& (255 : Int32)).toUInt32.toUInt16.toUInt32.toInt32))]) _
      refine XS.istore X102.here hx rfl (hb hby at_70) rfl (l' := #[oi p0, oi p1, oi p2, oi p3, oi 1, oa dwq, oi ((p3 &&& (3 : Int32)) % (3 : Int32)), oi ((((p3.toUInt32 >>> ((2 : Int32) &&& 31).toUInt32).toInt32) &&& (3 : Int32)) % (3 : Int32)), oi ((p1 &&& (255 : Int32)).toUInt32.toUInt16.toUInt32.toInt32), oi ((((p1.toUInt32 >>> ((8 : Int32) &&& 31).toUInt32).toInt32) &&& (255 : Int32)).toUInt32.toUInt16.toUInt32.toInt32), oi ((p2 &&& (255 : Int32)).toUInt32.toUInt16.toUInt32.toInt32), .unset, .unset, .unset, .unset, .unset, .unset, .unset, .unset]) rfl ?_
      show oS T102 (mkF m 72 #[oi p0, oi p1, oi p2, oi p3, oi 1, oa dwq, oi ((p3 &&& (3 : Int32)) % (3 : Int32)), oi ((((p3.toUInt32 >>> ((2 : Int32) &&& 31).toUInt32).toInt32) &&& (3 : Int32)) % (3 : Int32)), oi ((p1 &&& (255 : Int32)).toUInt32.toUInt16.toUInt32.toInt32), oi ((((p1.toUInt32 >>> ((8 : Int32) &&& 31).toUInt32).toInt32) &&& (255 : Int32)).toUInt32.toUInt16.toUInt32.toInt32), oi ((p2 &&& (255 : Int32)).toUInt32.toUInt16.toUInt32.toInt32), .unset, .unset, .unset, .unset, .unset, .unset, .unset, .unset] []) _
      refine XS.iloadN X102.here hx rfl (hb hby at_72) rfl ?_
      show oS T102 (mkF m 73 #[oi p0, oi p1, oi p2, oi p3, oi 1, oa dwq, oi ((p3 &&& (3 : Int32)) % (3 : Int32)), oi ((((p3.toUInt32 >>> ((2 : Int32) &&& 31).toUInt32).toInt32) &&& (3 : Int32)) % (3 : Int32)), oi ((p1 &&& (255 : Int32)).toUInt32.toUInt16.toUInt32.toInt32), oi ((((p1.toUInt32 >>> ((8 : Int32) &&& 31).toUInt32).toInt32) &&& (255 : Int32)).toUInt32.toUInt16.toUInt32.toInt32), oi ((p2 &&& (255 : Int32)).toUInt32.toUInt16.toUInt32.toInt32), .unset, .unset, .unset, .unset, .unset, .unset, .unset, .unset] [(.int p2)]) _
      refine XS.bipush X102.here hx rfl (hb hby at_73) ?_
      show oS T102 (mkF m 75 #[oi p0, oi p1, oi p2, oi p3, oi 1, oa dwq, oi ((p3 &&& (3 : Int32)) % (3 : Int32)), oi ((((p3.toUInt32 >>> ((2 : Int32) &&& 31).toUInt32).toInt32) &&& (3 : Int32)) % (3 : Int32)), oi ((p1 &&& (255 : Int32)).toUInt32.toUInt16.toUInt32.toInt32), oi ((((p1.toUInt32 >>> ((8 : Int32) &&& 31).toUInt32).toInt32) &&& (255 : Int32)).toUInt32.toUInt16.toUInt32.toInt32), oi ((p2 &&& (255 : Int32)).toUInt32.toUInt16.toUInt32.toInt32), .unset, .unset, .unset, .unset, .unset, .unset, .unset, .unset] [(.int (8 : Int32)), (.int p2)]) _
      refine XS.iushr X102.here hx rfl (hb hby at_75) rfl ?_
      show oS T102 (mkF m 76 #[oi p0, oi p1, oi p2, oi p3, oi 1, oa dwq, oi ((p3 &&& (3 : Int32)) % (3 : Int32)), oi ((((p3.toUInt32 >>> ((2 : Int32) &&& 31).toUInt32).toInt32) &&& (3 : Int32)) % (3 : Int32)), oi ((p1 &&& (255 : Int32)).toUInt32.toUInt16.toUInt32.toInt32), oi ((((p1.toUInt32 >>> ((8 : Int32) &&& 31).toUInt32).toInt32) &&& (255 : Int32)).toUInt32.toUInt16.toUInt32.toInt32), oi ((p2 &&& (255 : Int32)).toUInt32.toUInt16.toUInt32.toInt32), .unset, .unset, .unset, .unset, .unset, .unset, .unset, .unset] [(.int ((p2.toUInt32 >>> ((8 : Int32) &&& 31).toUInt32).toInt32))]) _
      refine XS.sipush X102.here hx rfl (hb hby at_76) ?_
      show oS T102 (mkF m 79 #[oi p0, oi p1, oi p2, oi p3, oi 1, oa dwq, oi ((p3 &&& (3 : Int32)) % (3 : Int32)), oi ((((p3.toUInt32 >>> ((2 : Int32) &&& 31).toUInt32).toInt32) &&& (3 : Int32)) % (3 : Int32)), oi ((p1 &&& (255 : Int32)).toUInt32.toUInt16.toUInt32.toInt32), oi ((((p1.toUInt32 >>> ((8 : Int32) &&& 31).toUInt32).toInt32) &&& (255 : Int32)).toUInt32.toUInt16.toUInt32.toInt32), oi ((p2 &&& (255 : Int32)).toUInt32.toUInt16.toUInt32.toInt32), .unset, .unset, .unset, .unset, .unset, .unset, .unset, .unset] [(.int (255 : Int32)), (.int ((p2.toUInt32 >>> ((8 : Int32) &&& 31).toUInt32).toInt32))]) _
      refine XS.iand X102.here hx rfl (hb hby at_79) rfl ?_
      show oS T102 (mkF m 80 #[oi p0, oi p1, oi p2, oi p3, oi 1, oa dwq, oi ((p3 &&& (3 : Int32)) % (3 : Int32)), oi ((((p3.toUInt32 >>> ((2 : Int32) &&& 31).toUInt32).toInt32) &&& (3 : Int32)) % (3 : Int32)), oi ((p1 &&& (255 : Int32)).toUInt32.toUInt16.toUInt32.toInt32), oi ((((p1.toUInt32 >>> ((8 : Int32) &&& 31).toUInt32).toInt32) &&& (255 : Int32)).toUInt32.toUInt16.toUInt32.toInt32), oi ((p2 &&& (255 : Int32)).toUInt32.toUInt16.toUInt32.toInt32), .unset, .unset, .unset, .unset, .unset, .unset, .unset, .unset] [(.int (((p2.toUInt32 >>> ((8 : Int32) &&& 31).toUInt32).toInt32) &&& (255 : Int32)))]) _
      refine XS.i2c X102.here hx rfl (hb hby at_80) rfl ?_
      show oS T102 (mkF m 81 #[oi p0, oi p1, oi p2, oi p3, oi 1, oa dwq, oi ((p3 &&& (3 : Int32)) % (3 : Int32)), oi ((((p3.toUInt32 >>> ((2 : Int32) &&& 31).toUInt32).toInt32) &&& (3 : Int32)) % (3 : Int32)), oi ((p1 &&& (255 : Int32)).toUInt32.toUInt16.toUInt32.toInt32), oi ((((p1.toUInt32 >>> ((8 : Int32) &&& 31).toUInt32).toInt32) &&& (255 : Int32)).toUInt32.toUInt16.toUInt32.toInt32), oi ((p2 &&& (255 : Int32)).toUInt32.toUInt16.toUInt32.toInt32), .unset, .unset, .unset, .unset, .unset, .unset, .unset, .unset] [(.int ((((p2.toUInt32 >>> ((8 : Int32) &&& 31).toUInt32).toInt32) &&& (255 : Int32)).toUInt32.toUInt16.toUInt32.toInt32))]) _
      refine XS.istore X102.here hx rfl (hb hby at_81) rfl (l' := #[oi p0, oi p1, oi p2, oi p3, oi 1, oa dwq, oi ((p3 &&& (3 : Int32)) % (3 : Int32)), oi ((((p3.toUInt32 >>> ((2 : Int32) &&& 31).toUInt32).toInt32) &&& (3 : Int32)) % (3 : Int32)), oi ((p1 &&& (255 : Int32)).toUInt32.toUInt16.toUInt32.toInt32), oi ((((p1.toUInt32 >>> ((8 : Int32) &&& 31).toUInt32).toInt32) &&& (255 : Int32)).toUInt32.toUInt16.toUInt32.toInt32), oi ((p2 &&& (255 : Int32)).toUInt32.toUInt16.toUInt32.toInt32), oi ((((p2.toUInt32 >>> ((8 : Int32) &&& 31).toUInt32).toInt32) &&& (255 : Int32)).toUInt32.toUInt16.toUInt32.toInt32), .unset, .unset, .unset, .unset, .unset, .unset, .unset]) rfl ?_
      exact kt
    obtain ⟨xa, hxa⟩ : ∃ z, z = ((p1 &&& (255 : Int32)).toUInt32.toUInt16.toUInt32.toInt32) := ⟨_, rfl⟩
    have c105 : ∀ t, own_S p e below T102 (mkF m 83 #[oi p0, oi p1, oi p2, oi p3, oi 1, oa dwq, oi ((p3 &&& (3 : Int32)) % (3 : Int32)), oi ((((p3.toUInt32 >>> ((2 : Int32) &&& 31).toUInt32).toInt32) &&& (3 : Int32)) % (3 : Int32)), oi xa, oi ((((p1.toUInt32 >>> ((8 : Int32) &&& 31).toUInt32).toInt32) &&& (255 : Int32)).toUInt32.toUInt16.toUInt32.toInt32), oi ((p2 &&& (255 : Int32)).toUInt32.toUInt16.toUInt32.toInt32), oi ((((p2.toUInt32 >>> ((8 : Int32) &&& 31).toUInt32).toInt32) &&& (255 : Int32)).toUInt32.toUInt16.toUInt32.toInt32), .unset, .unset, .unset, .unset, .unset, .unset, .unset] []) t → own_S p e below T102 (mkF m 83 #[oi p0, oi p1, oi p2, oi p3, oi 1, oa dwq, oi ((p3 &&& (3 : Int32)) % (3 : Int32)), oi ((((p3.toUInt32 >>> ((2 : Int32) &&& 31).toUInt32).toInt32) &&& (3 : Int32)) % (3 : Int32)), oi ((p1 &&& (255 : Int32)).toUInt32.toUInt16.toUInt32.toInt32), oi ((((p1.toUInt32 >>> ((8 : Int32) &&& 31).toUInt32).toInt32) &&& (255 : Int32)).toUInt32.toUInt16.toUInt32.toInt32), oi ((p2 &&& (255 : Int32)).toUInt32.toUInt16.toUInt32.toInt32), oi ((((p2.toUInt32 >>> ((8 : Int32) &&& 31).toUInt32).toInt32) &&& (255 : Int32)).toUInt32.toUInt16.toUInt32.toInt32), .unset, .unset, .unset, .unset, .unset, .unset, .unset] []) t := fun t kt => by rw [hxa] at kt; exact kt
    have hr_xa : own_r xa := by rw [hxa]; exact own_c8 _
    obtain ⟨xb, hxb⟩ : ∃ z, z = ((((p1.toUInt32 >>> ((8 : Int32) &&& 31).toUInt32).toInt32) &&& (255 : Int32)).toUInt32.toUInt16.toUInt32.toInt32) := ⟨_, rfl⟩
    have c106 : ∀ t, own_S p e below T102 (mkF m 83 #[oi p0, oi p1, oi p2, oi p3, oi 1, oa dwq, oi ((p3 &&& (3 : Int32)) % (3 : Int32)), oi ((((p3.toUInt32 >>> ((2 : Int32) &&& 31).toUInt32).toInt32) &&& (3 : Int32)) % (3 : Int32)), oi xa, oi xb, oi ((p2 &&& (255 : Int32)).toUInt32.toUInt16.toUInt32.toInt32), oi ((((p2.toUInt32 >>> ((8 : Int32) &&& 31).toUInt32).toInt32) &&& (255 : Int32)).toUInt32.toUInt16.toUInt32.toInt32), .unset, .unset, .unset, .unset, .unset, .unset, .unset] []) t → own_S p e below T102 (mkF m 83 #[oi p0, oi p1, oi p2, oi p3, oi 1, oa dwq, oi ((p3 &&& (3 : Int32)) % (3 : Int32)), oi ((((p3.toUInt32 >>> ((2 : Int32) &&& 31).toUInt32).toInt32) &&& (3 : Int32)) % (3 : Int32)), oi xa, oi ((((p1.toUInt32 >>> ((8 : Int32) &&& 31).toUInt32).toInt32) &&& (255 : Int32)).toUInt32.toUInt16.toUInt32.toInt32), oi ((p2 &&& (255 : Int32)).toUInt32.toUInt16.toUInt32.toInt32), oi ((((p2.toUInt32 >>> ((8 : Int32) &&& 31).toUInt32).toInt32) &&& (255 : Int32)).toUInt32.toUInt16.toUInt32.toInt32), .unset, .unset, .unset, .unset, .unset, .unset, .unset] []) t := fun t kt => by rw [hxb] at kt; exact kt
    have hr_xb : own_r xb := by rw [hxb]; exact own_c8 _
    obtain ⟨xc, hxc⟩ : ∃ z, z = ((p2 &&& (255 : Int32)).toUInt32.toUInt16.toUInt32.toInt32) := ⟨_, rfl⟩
    have c107 : ∀ t, own_S p e below T102 (mkF m 83 #[oi p0, oi p1, oi p2, oi p3, oi 1, oa dwq, oi ((p3 &&& (3 : Int32)) % (3 : Int32)), oi ((((p3.toUInt32 >>> ((2 : Int32) &&& 31).toUInt32).toInt32) &&& (3 : Int32)) % (3 : Int32)), oi xa, oi xb, oi xc, oi ((((p2.toUInt32 >>> ((8 : Int32) &&& 31).toUInt32).toInt32) &&& (255 : Int32)).toUInt32.toUInt16.toUInt32.toInt32), .unset, .unset, .unset, .unset, .unset, .unset, .unset] []) t → own_S p e below T102 (mkF m 83 #[oi p0, oi p1, oi p2, oi p3, oi 1, oa dwq, oi ((p3 &&& (3 : Int32)) % (3 : Int32)), oi ((((p3.toUInt32 >>> ((2 : Int32) &&& 31).toUInt32).toInt32) &&& (3 : Int32)) % (3 : Int32)), oi xa, oi xb, oi ((p2 &&& (255 : Int32)).toUInt32.toUInt16.toUInt32.toInt32), oi ((((p2.toUInt32 >>> ((8 : Int32) &&& 31).toUInt32).toInt32) &&& (255 : Int32)).toUInt32.toUInt16.toUInt32.toInt32), .unset, .unset, .unset, .unset, .unset, .unset, .unset] []) t := fun t kt => by rw [hxc] at kt; exact kt
    have hr_xc : own_r xc := by rw [hxc]; exact own_c8 _
    obtain ⟨xd, hxd⟩ : ∃ z, z = ((((p2.toUInt32 >>> ((8 : Int32) &&& 31).toUInt32).toInt32) &&& (255 : Int32)).toUInt32.toUInt16.toUInt32.toInt32) := ⟨_, rfl⟩
    have c108 : ∀ t, own_S p e below T102 (mkF m 83 #[oi p0, oi p1, oi p2, oi p3, oi 1, oa dwq, oi ((p3 &&& (3 : Int32)) % (3 : Int32)), oi ((((p3.toUInt32 >>> ((2 : Int32) &&& 31).toUInt32).toInt32) &&& (3 : Int32)) % (3 : Int32)), oi xa, oi xb, oi xc, oi xd, .unset, .unset, .unset, .unset, .unset, .unset, .unset] []) t → own_S p e below T102 (mkF m 83 #[oi p0, oi p1, oi p2, oi p3, oi 1, oa dwq, oi ((p3 &&& (3 : Int32)) % (3 : Int32)), oi ((((p3.toUInt32 >>> ((2 : Int32) &&& 31).toUInt32).toInt32) &&& (3 : Int32)) % (3 : Int32)), oi xa, oi xb, oi xc, oi ((((p2.toUInt32 >>> ((8 : Int32) &&& 31).toUInt32).toInt32) &&& (255 : Int32)).toUInt32.toUInt16.toUInt32.toInt32), .unset, .unset, .unset, .unset, .unset, .unset, .unset] []) t := fun t kt => by rw [hxd] at kt; exact kt
    have hr_xd : own_r xd := by rw [hxd]; exact own_c8 _
    obtain ⟨vfl, hvfl⟩ : ∃ z, z = ((p3 &&& (3 : Int32)) % (3 : Int32)) := ⟨_, rfl⟩
    have c109 : ∀ t, own_S p e below T102 (mkF m 83 #[oi p0, oi p1, oi p2, oi p3, oi 1, oa dwq, oi vfl, oi ((((p3.toUInt32 >>> ((2 : Int32) &&& 31).toUInt32).toInt32) &&& (3 : Int32)) % (3 : Int32)), oi xa, oi xb, oi xc, oi xd, .unset, .unset, .unset, .unset, .unset, .unset, .unset] []) t → own_S p e below T102 (mkF m 83 #[oi p0, oi p1, oi p2, oi p3, oi 1, oa dwq, oi ((p3 &&& (3 : Int32)) % (3 : Int32)), oi ((((p3.toUInt32 >>> ((2 : Int32) &&& 31).toUInt32).toInt32) &&& (3 : Int32)) % (3 : Int32)), oi xa, oi xb, oi xc, oi xd, .unset, .unset, .unset, .unset, .unset, .unset, .unset] []) t := fun t kt => by rw [hvfl] at kt; exact kt
    have h3_vfl : vfl = 0 ∨ vfl = 1 ∨ vfl = 2 := by rw [hvfl]; exact own_m3 _
    obtain ⟨vwl, hvwl⟩ : ∃ z, z = ((((p3.toUInt32 >>> ((2 : Int32) &&& 31).toUInt32).toInt32) &&& (3 : Int32)) % (3 : Int32)) := ⟨_, rfl⟩
    have c110 : ∀ t, own_S p e below T102 (mkF m 83 #[oi p0, oi p1, oi p2, oi p3, oi 1, oa dwq, oi vfl, oi vwl, oi xa, oi xb, oi xc, oi xd, .unset, .unset, .unset, .unset, .unset, .unset, .unset] []) t → own_S p e below T102 (mkF m 83 #[oi p0, oi p1, oi p2, oi p3, oi 1, oa dwq, oi vfl, oi ((((p3.toUInt32 >>> ((2 : Int32) &&& 31).toUInt32).toInt32) &&& (3 : Int32)) % (3 : Int32)), oi xa, oi xb, oi xc, oi xd, .unset, .unset, .unset, .unset, .unset, .unset, .unset] []) t := fun t kt => by rw [hvwl] at kt; exact kt
    have h3_vwl : vwl = 0 ∨ vwl = 1 ∨ vwl = 2 := by rw [hvwl]; exact own_m3 _
    have c111 : own_G p e below T102 (mkF m 89 #[oi p0, oi p1, oi p2, oi p3, oi 1, oa dwq, oi vfl, oi vwl, oi xa, oi xb, oi xc, oi xd, .unset, .unset, .unset, .unset, .unset, .unset, .unset] [(.int xb), (.int xa), (.int vfl)]) (mkF m 83 #[oi p0, oi p1, oi p2, oi p3, oi 1, oa dwq, oi vfl, oi vwl, oi xa, oi xb, oi xc, oi xd, .unset, .unset, .unset, .unset, .unset, .unset, .unset] []) := by
      intro t kt
      show oS T102 (mkF m 83 #[oi p0, oi p1, oi p2, oi p3, oi 1, oa dwq, oi vfl, oi vwl, oi xa, oi xb, oi xc, oi xd, .unset, .unset, .unset, .unset, .unset, .unset, .unset] []) _
      refine XS.iload X102.here hx rfl (hb hby at_83) rfl ?_
      show oS T102 (mkF m 85 #[oi p0, oi p1, oi p2, oi p3, oi 1, oa dwq, oi vfl, oi vwl, oi xa, oi xb, oi xc, oi xd, .unset, .unset, .unset, .unset, .unset, .unset, .unset] [(.int vfl)]) _
      refine XS.iload X102.here hx rfl (hb hby at_85) rfl ?_
      show oS T102 (mkF m 87 #[oi p0, oi p1, oi p2, oi p3, oi 1, oa dwq, oi vfl, oi vwl, oi xa, oi xb, oi xc, oi xd, .unset, .unset, .unset, .unset, .unset, .unset, .unset] [(.int xa), (.int vfl)]) _
      refine XS.iload X102.here hx rfl (hb hby at_87) rfl ?_
      exact kt
    obtain ⟨_, _, ⟨T112, L112, k112, n112⟩, -, X112, hSq112, gr112, ⟨Lc112, hQ112, l112, y112, z112, CHq112⟩, st112⟩ := callSS (s := s.setVm s.vm) X102 hx (y := yy_36) hown (mvT hZ (own_t hw 3 rfl)) (mvT hZ (own_t hw 4 rfl)) (mvT hZ (own_t hw 5 rfl)) (mvT hZ (own_t hw 6 rfl)) (by decide) (backOfSH (s := s) (vm0 := s.vm) (W := 0) (rm1 l Z a0 hw [] vfl xa xb cs fm h0 n0 Z0 hr_xa hr_xb O0 SC hcs SF hfm) hZ (own_t hw 6 rfl) (own_t hw 5 rfl) (by decide) (by decide) hEL (CHr.refl hCH).1) (g := (mkF m 89 #[oi p0, oi p1, oi p2, oi p3, oi 1, oa dwq, oi vfl, oi vwl, oi xa, oi xb, oi xc, oi xd, .unset, .unset, .unset, .unset, .unset, .unset, .unset] [(.int xb), (.int xa), (.int vfl)])) rfl (by rw [hml]; rfl) (argsL := [(.int vfl), (.int xa), (.int xb)]) (rest := []) (lenOf pd_29 rfl) rfl (by show 2 * 0 + _ ≤ _; exact Nat.le_of_eq rfl) (hb hby at_89) (fun _ _ => ⟨rfl, e102, (by decide : 0 + 6 ≤ _), (by decide : 0 + 14 ≤ _)⟩)
    dsimp only [Pt.U, Pt.locs, Pt.cells, Pt.slots] at X112 l112 y112 z112 st112 hQ112 hSq112 gr112 CHq112
    subst l112 y112 z112
    have hS112 : s.Since T112.vm T112.heap.size := foldS (T := T102) hS0 (by rw [e102]; exact (Nat.zero_le _)) hSq112 gr112
    have hZ112 : Z.Warmed39 (s.setVm T112.vm).vm := State.Warmed39.trans (t := s.setVm s.vm) hZ hSq112.1
    have hown112 : (s.setVm T112.vm).vm.findClass "com/example/emex/emex/read/FileRefusalLinePinLaw" = some m.cls := by rw [show (s.setVm T112.vm).vm = T112.vm from rfl, hSq112.1.alike.findClass]; exact hown
    replace hZ := hZ112
    replace hown := hown112
    have ch112 := (CHr.refl hCH).trans CHq112
    obtain ⟨sa112, rb112, kb112, rfl, N112q, Kq112, Es112, Fv112, Fc112, Va112⟩ := hQ112
    have N112 := Fr.app N0 N112q
    obtain ⟨Go112, X112, N112⟩ := own_opq X112 N112
    have c113 : own_G p e below T112 (mkF m 100 #[oi p0, oi p1, oi p2, oi p3, oi 1, oa dwq, oi vfl, oi vwl, oi xa, oi xb, oi xc, oi xd, oa sa112, .unset, .unset, .unset, .unset, .unset, .unset] [(.int xd), (.int xc), (.int vwl)]) (mkF m 92 #[oi p0, oi p1, oi p2, oi p3, oi 1, oa dwq, oi vfl, oi vwl, oi xa, oi xb, oi xc, oi xd, .unset, .unset, .unset, .unset, .unset, .unset, .unset] [(.ref sa112)]) := by
      intro t kt
      show oS T112 (mkF m 92 #[oi p0, oi p1, oi p2, oi p3, oi 1, oa dwq, oi vfl, oi vwl, oi xa, oi xb, oi xc, oi xd, .unset, .unset, .unset, .unset, .unset, .unset, .unset] [(.ref sa112)]) _
      refine XS.astore X112.here hx rfl (hb hby at_92) rfl rfl (l' := #[oi p0, oi p1, oi p2, oi p3, oi 1, oa dwq, oi vfl, oi vwl, oi xa, oi xb, oi xc, oi xd, oa sa112, .unset, .unset, .unset, .unset, .unset, .unset]) rfl ?_
      show oS T112 (mkF m 94 #[oi p0, oi p1, oi p2, oi p3, oi 1, oa dwq, oi vfl, oi vwl, oi xa, oi xb, oi xc, oi xd, oa sa112, .unset, .unset, .unset, .unset, .unset, .unset] []) _
      refine XS.iload X112.here hx rfl (hb hby at_94) rfl ?_
      show oS T112 (mkF m 96 #[oi p0, oi p1, oi p2, oi p3, oi 1, oa dwq, oi vfl, oi vwl, oi xa, oi xb, oi xc, oi xd, oa sa112, .unset, .unset, .unset, .unset, .unset, .unset] [(.int vwl)]) _
      refine XS.iload X112.here hx rfl (hb hby at_96) rfl ?_
      show oS T112 (mkF m 98 #[oi p0, oi p1, oi p2, oi p3, oi 1, oa dwq, oi vfl, oi vwl, oi xa, oi xb, oi xc, oi xd, oa sa112, .unset, .unset, .unset, .unset, .unset, .unset] [(.int xc), (.int vwl)]) _
      refine XS.iload X112.here hx rfl (hb hby at_98) rfl ?_
      exact kt
    have f114 := (Nat.le_trans Z0 Kq112.1)
    have f115 := (O0.keep Kq112 all0)
    have f116 := ((Keep.refl h0 []).trans Kq112 all0)
    obtain ⟨_, _, ⟨T117, L117, k117, n117⟩, -, X117, hSq117, gr117, ⟨Lc117, hQ117, l117, y117, z117, CHq117⟩, st117⟩ := callSS (s := s.setVm T112.vm) X112 hx (y := yy_36) hown (mvT hZ (own_t hw 3 rfl)) (mvT hZ (own_t hw 4 rfl)) (mvT hZ (own_t hw 5 rfl)) (mvT hZ (own_t hw 6 rfl)) (by decide) (backOfSH (s := s) (vm0 := T112.vm) (W := 0) (rm1 l Z a0 hw [] vwl xc xd cs fm T112.heap n0 f114 hr_xc hr_xd f115 SC hcs SF hfm) hZ (own_t hw 6 rfl) (own_t hw 5 rfl) (by decide) (by decide) hEL ch112.1) (g := (mkF m 100 #[oi p0, oi p1, oi p2, oi p3, oi 1, oa dwq, oi vfl, oi vwl, oi xa, oi xb, oi xc, oi xd, oa sa112, .unset, .unset, .unset, .unset, .unset, .unset] [(.int xd), (.int xc), (.int vwl)])) rfl (by rw [hml]; rfl) (argsL := [(.int vwl), (.int xc), (.int xd)]) (rest := []) (lenOf pd_29 rfl) rfl (by show 2 * 0 + _ ≤ _; exact Nat.le_of_eq rfl) (hb hby at_100) (fun _ _ => ⟨rfl, rfl, (by decide : 6 + 6 ≤ _), (by decide : 14 + 14 ≤ _)⟩)
    dsimp only [Pt.U, Pt.locs, Pt.cells, Pt.slots] at X117 l117 y117 z117 st117 hQ117 hSq117 gr117 CHq117
    subst l117 y117 z117
    have hS117 : s.Since T117.vm T117.heap.size := foldS (T := T112) hS112 (Nat.le_refl _) hSq117 gr117
    have hZ117 : Z.Warmed39 (s.setVm T117.vm).vm := State.Warmed39.trans (t := s.setVm T112.vm) hZ hSq117.1
    have hown117 : (s.setVm T117.vm).vm.findClass "com/example/emex/emex/read/FileRefusalLinePinLaw" = some m.cls := by rw [show (s.setVm T117.vm).vm = T117.vm from rfl, hSq117.1.alike.findClass]; exact hown
    replace hZ := hZ117
    replace hown := hown117
    have ch117 := ch112.trans CHq117
    obtain ⟨sa117, rb117, kb117, rfl, N117q, Kq117, Es117, Fv117, Fc117, Va117⟩ := hQ117
    have N117 := Fr.app N112 N117q
    obtain ⟨Go117, X117, N117⟩ := own_opq X117 N117
    have c118 : own_G p e below T117 (mkF m 111 #[oi p0, oi p1, oi p2, oi p3, oi 1, oa dwq, oi vfl, oi vwl, oi xa, oi xb, oi xc, oi xd, oa sa112, oa sa117, .unset, .unset, .unset, .unset, .unset] [(.ref sa117), (.ref sa112), (.ref dwq)]) (mkF m 103 #[oi p0, oi p1, oi p2, oi p3, oi 1, oa dwq, oi vfl, oi vwl, oi xa, oi xb, oi xc, oi xd, oa sa112, .unset, .unset, .unset, .unset, .unset, .unset] [(.ref sa117)]) := by
      intro t kt
      show oS T117 (mkF m 103 #[oi p0, oi p1, oi p2, oi p3, oi 1, oa dwq, oi vfl, oi vwl, oi xa, oi xb, oi xc, oi xd, oa sa112, .unset, .unset, .unset, .unset, .unset, .unset] [(.ref sa117)]) _
      refine XS.astore X117.here hx rfl (hb hby at_103) rfl rfl (l' := #[oi p0, oi p1, oi p2, oi p3, oi 1, oa dwq, oi vfl, oi vwl, oi xa, oi xb, oi xc, oi xd, oa sa112, oa sa117, .unset, .unset, .unset, .unset, .unset]) rfl ?_
      show oS T117 (mkF m 105 #[oi p0, oi p1, oi p2, oi p3, oi 1, oa dwq, oi vfl, oi vwl, oi xa, oi xb, oi xc, oi xd, oa sa112, oa sa117, .unset, .unset, .unset, .unset, .unset] []) _
      refine XS.aload X117.here hx rfl (hb hby at_105) rfl rfl ?_
      show oS T117 (mkF m 107 #[oi p0, oi p1, oi p2, oi p3, oi 1, oa dwq, oi vfl, oi vwl, oi xa, oi xb, oi xc, oi xd, oa sa112, oa sa117, .unset, .unset, .unset, .unset, .unset] [(.ref dwq)]) _
      refine XS.aload X117.here hx rfl (hb hby at_107) rfl rfl ?_
      show oS T117 (mkF m 109 #[oi p0, oi p1, oi p2, oi p3, oi 1, oa dwq, oi vfl, oi vwl, oi xa, oi xb, oi xc, oi xd, oa sa112, oa sa117, .unset, .unset, .unset, .unset, .unset] [(.ref sa112), (.ref dwq)]) _
      refine XS.aload X117.here hx rfl (hb hby at_109) rfl rfl ?_
      exact kt
    have f119 := (f115.keep Kq117 all0)
    have sf120_dwq : Safe Z consts_1 T117.vm T117.heap dwq := Safe.exa hZ.alike (Ewq.ext f119.2) (by decide) (by decide)
    have f121 := (Nat.le_trans f114 Kq117.1)
    have f122 := (Es112.keep Kq117)
    have f123 := (Fv112.keep Kq117 nin0)
    have f124 := (Fc112.keep Kq117 nin0)
    have f125 := (Va112.keep Kq117 nin0)
    have f126 := (f116.trans Kq117 all0)
    obtain ⟨cq127, kq127, q127a, q127b, q127c⟩ := isOf hZ rfl (Ewq.ext f119.2)
    obtain ⟨_, _, ⟨T128, L128, k128, n128⟩, -, X128, hSq128, gr128, ⟨Lc128, hQ128, l128, y128, z128, CHq128⟩, st128⟩ := Stand.virtualBackS (s := s.setVm T117.vm) X117 hx (y := yy_37) (z := yy_37) hown (mvT hZ (own_t hw 44 rfl)) (mvT hZ (own_t hw 45 rfl)) (notFace_of_selects (args := #[]) (mvT hZ (own_t hw 47 rfl))) (mvT hZ (own_t hw 47 rfl)) (mvT hZ (own_t hw 46 rfl)) (by decide) (backOfSH (s := s) (vm0 := T117.vm) (W := 0) (rm9 l Z a0 hw [] dwq sa112 sa117 swq vwq rb112 rb117 kwq kb112 kb117 ([119, 114, 105, 116, 101] : List Int32) (own_mk vfl xa xb) (own_mk vwl xc xd) cs fm T117.heap n0 f121 (Ewq.ext f119.2) (Wwq.ext f119.2) (Iwq.ext f119.2) (Fwq.ext f119.2) (Cwq.ext f119.2) (Vwq.ext f119.2) f122 f123 f124 f125 Es117 Fv117 Fc117 Va117 f119 SC hcs SF hfm (by decide) (own_mkl _ _ _) (own_mkl _ _ _)) hZ (own_t hw 48 rfl) (own_t hw 1 rfl) (by decide) (by decide) hEL ch117.1) q127a q127c (g := (mkF m 111 #[oi p0, oi p1, oi p2, oi p3, oi 1, oa dwq, oi vfl, oi vwl, oi xa, oi xb, oi xc, oi xd, oa sa112, oa sa117, .unset, .unset, .unset, .unset, .unset] [(.ref sa117), (.ref sa112), (.ref dwq)])) rfl (by rw [hml]; rfl) (Steps.refl _) (argsL := [(.ref sa112), (.ref sa117)]) (rest := []) (lenOf pd_30 rfl) rfl (by show 2 * 0 + _ ≤ _; exact Nat.le_of_eq rfl) (hb hby at_111) (fun _ _ => ⟨rfl, rfl, (by decide : 12 + 16 ≤ _), (by decide : 28 + 400 ≤ _)⟩)
    dsimp only [Pt.U, Pt.locs, Pt.cells, Pt.slots] at X128 l128 y128 z128 st128 hQ128 hSq128 gr128 CHq128
    subst l128 y128 z128
    have hS128 : s.Since T128.vm T128.heap.size := foldS (T := T117) hS117 (Nat.le_refl _) hSq128 gr128
    have hZ128 : Z.Warmed39 (s.setVm T128.vm).vm := State.Warmed39.trans (t := s.setVm T117.vm) hZ hSq128.1
    have hown128 : (s.setVm T128.vm).vm.findClass "com/example/emex/emex/read/FileRefusalLinePinLaw" = some m.cls := by rw [show (s.setVm T128.vm).vm = T128.vm from rfl, hSq128.1.alike.findClass]; exact hown
    replace hZ := hZ128
    replace hown := hown128
    have ch128 := ch117.trans CHq128
    obtain ⟨sa128, rb128, kb128, rfl, N128q, Kq128, Es128, Fv128, Fc128, Va128⟩ := hQ128
    have N128 := Fr.app N117 N128q
    obtain ⟨tt, htt⟩ : ∃ z, z = ((((((([] : List Int32) ++ ([99, 97, 110, 110, 111, 116, 32] : List Int32)) ++ ([119, 114, 105, 116, 101] : List Int32)) ++ ([32] : List Int32)) ++ (own_mk vfl xa xb)) ++ ([58, 32] : List Int32)) ++ (own_mk vwl xc xd)) := ⟨_, rfl⟩
    rw [← htt] at Va128
    have hm1 := own_mkl vfl xa xb
    have hm2 := own_mkl vwl xc xd
    obtain ⟨Go128, X128, N128⟩ := own_opq X128 N128
    have c129 : own_G p e below T128 (mkF m 135 (own_L p0 p1 p2 p3 1 dwq vfl vwl xa xb xc xd sa112 sa117 sa128 5 (.unset) (.unset) (.unset)) [(.ref sa128)]) (mkF m 114 #[oi p0, oi p1, oi p2, oi p3, oi 1, oa dwq, oi vfl, oi vwl, oi xa, oi xb, oi xc, oi xd, oa sa112, oa sa117, .unset, .unset, .unset, .unset, .unset] [(.ref sa128)]) := by
      intro t kt
      show oS T128 (mkF m 114 #[oi p0, oi p1, oi p2, oi p3, oi 1, oa dwq, oi vfl, oi vwl, oi xa, oi xb, oi xc, oi xd, oa sa112, oa sa117, .unset, .unset, .unset, .unset, .unset] [(.ref sa128)]) _
      refine XS.astore X128.here hx rfl (hb hby at_114) rfl rfl (l' := #[oi p0, oi p1, oi p2, oi p3, oi 1, oa dwq, oi vfl, oi vwl, oi xa, oi xb, oi xc, oi xd, oa sa112, oa sa117, oa sa128, .unset, .unset, .unset, .unset]) rfl ?_
      show oS T128 (mkF m 116 #[oi p0, oi p1, oi p2, oi p3, oi 1, oa dwq, oi vfl, oi vwl, oi xa, oi xb, oi xc, oi xd, oa sa112, oa sa117, oa sa128, .unset, .unset, .unset, .unset] []) _
      refine XS.iload X128.here hx rfl (hb hby at_116) rfl ?_
      show oS T128 (mkF m 118 #[oi p0, oi p1, oi p2, oi p3, oi 1, oa dwq, oi vfl, oi vwl, oi xa, oi xb, oi xc, oi xd, oa sa112, oa sa117, oa sa128, .unset, .unset, .unset, .unset] [(.int (1 : Int32))]) _
      refine XS.ifNo X128.here hx rfl (hb hby at_118) rfl ((if0 _ _).trans (feq (by decide : ¬ ((1 : Int32) = (0 : Int32)))).1) ?_
      show oS T128 (mkF m 121 #[oi p0, oi p1, oi p2, oi p3, oi 1, oa dwq, oi vfl, oi vwl, oi xa, oi xb, oi xc, oi xd, oa sa112, oa sa117, oa sa128, .unset, .unset, .unset, .unset] []) _
      refine XS.iconst X128.here hx rfl (hb hby at_121) ?_
      show oS T128 (mkF m 122 #[oi p0, oi p1, oi p2, oi p3, oi 1, oa dwq, oi vfl, oi vwl, oi xa, oi xb, oi xc, oi xd, oa sa112, oa sa117, oa sa128, .unset, .unset, .unset, .unset] [(.int (5 : Int32))]) _
      refine XS.goto X128.here hx rfl (pc0 := 122) (pc' := 126) rfl (hb hby at_122) (by decide) (by decide) ?_
      show oS T128 (mkF m 126 #[oi p0, oi p1, oi p2, oi p3, oi 1, oa dwq, oi vfl, oi vwl, oi xa, oi xb, oi xc, oi xd, oa sa112, oa sa117, oa sa128, .unset, .unset, .unset, .unset] [(.int (5 : Int32))]) _
      refine XS.istore X128.here hx rfl (hb hby at_126) rfl (l' := (own_L p0 p1 p2 p3 1 dwq vfl vwl xa xb xc xd sa112 sa117 sa128 5 (.unset) (.unset) (.unset))) rfl ?_
      show oS T128 (mkF m 128 (own_L p0 p1 p2 p3 1 dwq vfl vwl xa xb xc xd sa112 sa117 sa128 5 (.unset) (.unset) (.unset)) []) _
      refine XS.aload X128.here hx rfl (hb hby at_128) rfl rfl ?_
      show oS T128 (mkF m 130 (own_L p0 p1 p2 p3 1 dwq vfl vwl xa xb xc xd sa112 sa117 sa128 5 (.unset) (.unset) (.unset)) [(.ref sa128)]) _
      refine XS.ifnullNo X128.here hx rfl (hb hby at_130) rfl ?_
      show oS T128 (mkF m 133 (own_L p0 p1 p2 p3 1 dwq vfl vwl xa xb xc xd sa112 sa117 sa128 5 (.unset) (.unset) (.unset)) []) _
      refine XS.aload X128.here hx rfl (hb hby at_133) rfl rfl ?_
      exact kt
    have f130 := (Nat.le_trans f121 Kq128.1)
    have f131 := (f119.keep Kq128 all0)
    obtain ⟨cq132, kq132, q132a, q132b, q132c⟩ := isOf hZ rfl Es128
    obtain ⟨_, _, ⟨T133, L133, k133, n133⟩, -, X133, ⟨Lc133, hQ133, l133, y133, z133⟩, st133⟩ := X128.virtualBack hx (y := yy_6) (z := yy_6) hown (mvT hZ (own_t hw 164 rfl)) (mvT hZ (own_t hw 79 rfl)) (notFace_of_selects (args := #[]) (mvT hZ (own_t hw 81 rfl))) (mvT hZ (own_t hw 81 rfl)) (mvT hZ (own_t hw 80 rfl)) (by decide) (backOf (W := 0) (rm14 l Z a0 hw [] sa128 rb128 kb128 (Int32.ofNat tt.length) ((tt.map (fun c => c.toInt8.toInt32)).map Value.int) (.int 0) cs T128.heap n0 f130 Es128 Fv128 Va128 (SC.ext f131.2) hcs Fc128) hZ (own_t hw 82 rfl) (own_t hw 9 rfl) (by decide) (by decide)) q132a q132c (g := (mkF m 135 (own_L p0 p1 p2 p3 1 dwq vfl vwl xa xb xc xd sa112 sa117 sa128 5 (.unset) (.unset) (.unset)) [(.ref sa128)])) rfl (by rw [hml]; rfl) (Steps.refl _) (argsL := []) (rest := []) (lenOf pd_11 rfl) rfl (by show 2 * 0 + _ ≤ _; exact Nat.le_of_eq rfl) (hb hby at_135) (fun _ _ => ⟨rfl, rfl, (by decide : 28 + 0 ≤ _), (by decide : 428 + 0 ≤ _)⟩)
    dsimp only [Pt.U, Pt.locs, Pt.cells, Pt.slots] at X133 l133 y133 z133 st133 hQ133
    subst l133 y133 z133
    obtain ⟨rfl, N133q, e133⟩ := hQ133
    have N133 := Fr.app N128 N133q
    obtain ⟨Go133, X133, N133⟩ := own_opq X133 N133
    have hlen : (Int32.ofNat tt.length) = ((((((7 : Int32) + (5 : Int32)) + (1 : Int32)) + vfl) + (2 : Int32)) + vwl) := by rw [htt]; exact own_lnw _ _ _ _ _ _ h3_vfl h3_vwl
    have c134 : own_G p e below T133 (mkF m 153 (own_L p0 p1 p2 p3 1 dwq vfl vwl xa xb xc xd sa112 sa117 sa128 5 (.unset) (.unset) (.unset)) [(.int ((((((7 : Int32) + (5 : Int32)) + (1 : Int32)) + vfl) + (2 : Int32)) + vwl)), (.int (Int32.ofNat tt.length))]) (mkF m 138 (own_L p0 p1 p2 p3 1 dwq vfl vwl xa xb xc xd sa112 sa117 sa128 5 (.unset) (.unset) (.unset)) [(.int (Int32.ofNat tt.length))]) := by
      intro t kt
      show oS T133 (mkF m 138 (own_L p0 p1 p2 p3 1 dwq vfl vwl xa xb xc xd sa112 sa117 sa128 5 (.unset) (.unset) (.unset)) [(.int (Int32.ofNat tt.length))]) _
      refine XS.bipush X133.here hx rfl (hb hby at_138) ?_
      show oS T133 (mkF m 140 (own_L p0 p1 p2 p3 1 dwq vfl vwl xa xb xc xd sa112 sa117 sa128 5 (.unset) (.unset) (.unset)) [(.int (7 : Int32)), (.int (Int32.ofNat tt.length))]) _
      refine XS.iload X133.here hx rfl (hb hby at_140) rfl ?_
      show oS T133 (mkF m 142 (own_L p0 p1 p2 p3 1 dwq vfl vwl xa xb xc xd sa112 sa117 sa128 5 (.unset) (.unset) (.unset)) [(.int (5 : Int32)), (.int (7 : Int32)), (.int (Int32.ofNat tt.length))]) _
      refine XS.iadd X133.here hx rfl (hb hby at_142) rfl ?_
      show oS T133 (mkF m 143 (own_L p0 p1 p2 p3 1 dwq vfl vwl xa xb xc xd sa112 sa117 sa128 5 (.unset) (.unset) (.unset)) [(.int ((7 : Int32) + (5 : Int32))), (.int (Int32.ofNat tt.length))]) _
      refine XS.iconst X133.here hx rfl (hb hby at_143) ?_
      show oS T133 (mkF m 144 (own_L p0 p1 p2 p3 1 dwq vfl vwl xa xb xc xd sa112 sa117 sa128 5 (.unset) (.unset) (.unset)) [(.int (1 : Int32)), (.int ((7 : Int32) + (5 : Int32))), (.int (Int32.ofNat tt.length))]) _
      refine XS.iadd X133.here hx rfl (hb hby at_144) rfl ?_
      show oS T133 (mkF m 145 (own_L p0 p1 p2 p3 1 dwq vfl vwl xa xb xc xd sa112 sa117 sa128 5 (.unset) (.unset) (.unset)) [(.int (((7 : Int32) + (5 : Int32)) + (1 : Int32))), (.int (Int32.ofNat tt.length))]) _
      refine XS.iload X133.here hx rfl (hb hby at_145) rfl ?_
      show oS T133 (mkF m 147 (own_L p0 p1 p2 p3 1 dwq vfl vwl xa xb xc xd sa112 sa117 sa128 5 (.unset) (.unset) (.unset)) [(.int vfl), (.int (((7 : Int32) + (5 : Int32)) + (1 : Int32))), (.int (Int32.ofNat tt.length))]) _
      refine XS.iadd X133.here hx rfl (hb hby at_147) rfl ?_
      show oS T133 (mkF m 148 (own_L p0 p1 p2 p3 1 dwq vfl vwl xa xb xc xd sa112 sa117 sa128 5 (.unset) (.unset) (.unset)) [(.int ((((7 : Int32) + (5 : Int32)) + (1 : Int32)) + vfl)), (.int (Int32.ofNat tt.length))]) _
      refine XS.iconst X133.here hx rfl (hb hby at_148) ?_
      show oS T133 (mkF m 149 (own_L p0 p1 p2 p3 1 dwq vfl vwl xa xb xc xd sa112 sa117 sa128 5 (.unset) (.unset) (.unset)) [(.int (2 : Int32)), (.int ((((7 : Int32) + (5 : Int32)) + (1 : Int32)) + vfl)), (.int (Int32.ofNat tt.length))]) _
      refine XS.iadd X133.here hx rfl (hb hby at_149) rfl ?_
      show oS T133 (mkF m 150 (own_L p0 p1 p2 p3 1 dwq vfl vwl xa xb xc xd sa112 sa117 sa128 5 (.unset) (.unset) (.unset)) [(.int (((((7 : Int32) + (5 : Int32)) + (1 : Int32)) + vfl) + (2 : Int32))), (.int (Int32.ofNat tt.length))]) _
      refine XS.iload X133.here hx rfl (hb hby at_150) rfl ?_
      show oS T133 (mkF m 152 (own_L p0 p1 p2 p3 1 dwq vfl vwl xa xb xc xd sa112 sa117 sa128 5 (.unset) (.unset) (.unset)) [(.int vwl), (.int (((((7 : Int32) + (5 : Int32)) + (1 : Int32)) + vfl) + (2 : Int32))), (.int (Int32.ofNat tt.length))]) _
      refine XS.iadd X133.here hx rfl (hb hby at_152) rfl ?_
      exact kt
    have c135 : own_G p e below T133 (mkF m 153 (own_L p0 p1 p2 p3 1 dwq vfl vwl xa xb xc xd sa112 sa117 sa128 5 (.unset) (.unset) (.unset)) [(.int (Int32.ofNat tt.length)), (.int (Int32.ofNat tt.length))]) (mkF m 153 (own_L p0 p1 p2 p3 1 dwq vfl vwl xa xb xc xd sa112 sa117 sa128 5 (.unset) (.unset) (.unset)) [(.int ((((((7 : Int32) + (5 : Int32)) + (1 : Int32)) + vfl) + (2 : Int32)) + vwl)), (.int (Int32.ofNat tt.length))]) := fun t kt => castTop (congrArg (fun zv => (mkF m 153 (own_L p0 p1 p2 p3 1 dwq vfl vwl xa xb xc xd sa112 sa117 sa128 5 (.unset) (.unset) (.unset)) [(.int zv), (.int (Int32.ofNat tt.length))])) (show ((((((7 : Int32) + (5 : Int32)) + (1 : Int32)) + vfl) + (2 : Int32)) + vwl) = (Int32.ofNat tt.length) from hlen.symm)) kt
    have c136 : own_G p e below T133 (mkF m 158 (own_L p0 p1 p2 p3 1 dwq vfl vwl xa xb xc xd sa112 sa117 sa128 5 (.unset) (.unset) (.unset)) []) (mkF m 153 (own_L p0 p1 p2 p3 1 dwq vfl vwl xa xb xc xd sa112 sa117 sa128 5 (.unset) (.unset) (.unset)) [(.int (Int32.ofNat tt.length)), (.int (Int32.ofNat tt.length))]) := by
      intro t kt
      show oS T133 (mkF m 153 (own_L p0 p1 p2 p3 1 dwq vfl vwl xa xb xc xd sa112 sa117 sa128 5 (.unset) (.unset) (.unset)) [(.int (Int32.ofNat tt.length)), (.int (Int32.ofNat tt.length))]) _
      refine XS.icmpYes X133.here hx rfl (pc0 := 153) (pc' := 158) rfl (hb hby at_153) rfl (teq (rfl : (Int32.ofNat tt.length) = (Int32.ofNat tt.length))).1 (by decide) (by decide) ?_
      exact kt
    obtain ⟨T137, L137, h137, X137, e137, N137, -, qh137, st137⟩ := tA p0 p1 p2 p3 vfl vwl xa xb xc xd dwq sa112 sa117 sa128 rb128 kb128 tt cs fm 1 5 (s := s.setVm T128.vm) X133 hx hZ hw hby hml hown e133 N133 f130 Es128 Fv128 Fc128 Va128 (SF.ext f131.2) hfm (SC.ext f131.2) hcs (by rw [htt]; simp only [List.length_append, List.length_cons, List.length_nil]; omega) (by rw [htt]; simp only [List.length_append, List.length_cons, List.length_nil]; omega) (by rw [htt]; rfl) (by rw [htt]; rfl) (by rw [htt]; rfl) (by rw [htt]; rfl) (by rw [htt]; rfl) (by rw [htt]; rfl) (by rw [htt]; rfl) hr_xa hr_xb hr_xc hr_xd
    rw [qh137] at e137
    obtain ⟨T138, L138, h138, X138, e138, N138, -, qh138, st138⟩ := tBw p0 p1 p2 p3 vfl vwl xa xb xc xd dwq sa112 sa117 sa128 rb128 kb128 tt cs fm (s := s.setVm T128.vm) X137 hx hZ hw hby hml hown e137 N137 f130 Es128 Fv128 Fc128 Va128 (SF.ext f131.2) hfm (SC.ext f131.2) hcs (by rw [htt]; simp only [List.length_append, List.length_cons, List.length_nil]; omega) (by rw [htt]; simp only [List.length_append, List.length_cons, List.length_nil]; omega) (by rw [htt]; rfl) (by rw [htt]; rfl) (by rw [htt]; rfl) (by rw [htt]; rfl) (by rw [htt]; rfl) (by rw [htt]; rfl) hr_xa hr_xb hr_xc hr_xd
    rw [qh138] at e138
    rcases h3_vfl with hi_ | hi_ | hi_
    · skip
      rcases h3_vwl with hj_ | hj_ | hj_
      · skip
        have c139 : own_G p e below T138 (mkF m 414 (own_L p0 p1 p2 p3 1 dwq (0 : Int32) vwl xa xb xc xd sa112 sa117 sa128 5 (oi 1) (oi 12) (.unset)) []) (mkF m 414 (own_L p0 p1 p2 p3 1 dwq vfl vwl xa xb xc xd sa112 sa117 sa128 5 (oi 1) (oi 12) (.unset)) []) := fun t kt => castTop (congrArg (fun zv => (mkF m 414 (own_L p0 p1 p2 p3 1 dwq zv vwl xa xb xc xd sa112 sa117 sa128 5 (oi 1) (oi 12) (.unset)) [])) (show vfl = (0 : Int32) from hi_)) kt
        have c140 : own_G p e below T138 (mkF m 414 (own_L p0 p1 p2 p3 1 dwq 0 (0 : Int32) xa xb xc xd sa112 sa117 sa128 5 (oi 1) (oi 12) (.unset)) []) (mkF m 414 (own_L p0 p1 p2 p3 1 dwq 0 vwl xa xb xc xd sa112 sa117 sa128 5 (oi 1) (oi 12) (.unset)) []) := fun t kt => castTop (congrArg (fun zv => (mkF m 414 (own_L p0 p1 p2 p3 1 dwq 0 zv xa xb xc xd sa112 sa117 sa128 5 (oi 1) (oi 12) (.unset)) [])) (show vwl = (0 : Int32) from hj_)) kt
        have htk141 : tt = ((((((([] : List Int32) ++ ([99, 97, 110, 110, 111, 116, 32] : List Int32)) ++ ([119, 114, 105, 116, 101] : List Int32)) ++ ([32] : List Int32)) ++ ([] : List Int32)) ++ ([58, 32] : List Int32)) ++ ([] : List Int32)) := by rw [htt, show own_mk vfl xa xb = ([] : List Int32) from by rw [hi_]; rfl, show own_mk vwl xc xd = ([] : List Int32) from by rw [hj_]; rfl]
        obtain ⟨T142, L142, h142, X142, e142, N142, -, qh142, st142⟩ := tF0 p0 p1 p2 p3 (0 : Int32) (0 : Int32) xa xb xc xd dwq sa112 sa117 sa128 rb128 kb128 tt cs fm 1 5 12 (s := s.setVm T128.vm) X138 hx hZ hw hby hml hown e138 N138 f130 Es128 Fv128 Fc128 Va128 (SF.ext f131.2) hfm (SC.ext f131.2) hcs (by rw [htk141]; simp only [List.length_append, List.length_cons, List.length_nil]; omega) (by rw [htk141]; simp only [List.length_append, List.length_cons, List.length_nil]; omega) (by rw [htk141]; rfl) (by rw [htk141]; rfl) hr_xa hr_xb hr_xc hr_xd (by decide)
        rw [qh142] at e142
        obtain ⟨T143, L143, h143, X143, e143, N143, -, qh143, st143⟩ := tW0 p0 p1 p2 p3 (0 : Int32) (0 : Int32) xa xb xc xd dwq sa112 sa117 sa128 rb128 kb128 tt cs fm 1 5 12 13 (s := s.setVm T128.vm) X142 hx hZ hw hby hml hown e142 N142 f130 Es128 Fv128 Fc128 Va128 (SF.ext f131.2) hfm (SC.ext f131.2) hcs (by rw [htk141]; simp only [List.length_append, List.length_cons, List.length_nil]; omega) (by rw [htk141]; simp only [List.length_append, List.length_cons, List.length_nil]; omega)  hr_xa hr_xb hr_xc hr_xd
        rw [qh143] at e143
        have c144 : own_G p e below T143 (mkF m 591 (own_L p0 p1 p2 p3 1 dwq 0 0 xa xb xc xd sa112 sa117 sa128 5 (oi 1) (oi 12) (oi 13)) [(.int (1 : Int32))]) (mkF m 589 (own_L p0 p1 p2 p3 1 dwq 0 0 xa xb xc xd sa112 sa117 sa128 5 (oi 1) (oi 12) (oi 13)) []) := by
          intro t kt
          show oS T143 (mkF m 589 (own_L p0 p1 p2 p3 1 dwq 0 0 xa xb xc xd sa112 sa117 sa128 5 (oi 1) (oi 12) (oi 13)) []) _
          refine XS.iload X143.here hx rfl (hb hby at_589) rfl ?_
          exact kt
        obtain ⟨fs, hr, hrun, hended, hwd⟩ := Stand.leaveW (s := s) (vm₁ := T128.vm) X143 hS128 (by rw [e143]; exact (Nat.le_refl _)) (v := some (.int (1 : Int32))) (fun h => by rw [Bd.returns] at h; cases h)
        refine ⟨_, _, pre0 _ (c1 _ (c103 _ (st102 _ (c104 _ (c105 _ (c106 _ (c107 _ (c108 _ (c109 _ (c110 _ (c111 _ (st112.trans (c113 _ (st117.trans (c118 _ (st128.trans (c129 _ (st133.trans (c134 _ (c135 _ (c136 _ (st137 _ (st138 _ (c139 _ (c140 _ (st142 _ (st143 _ (c144 _ (?_))))))))))))))))))))))))))))), hrun, hended, _, _, rfl, ?_, hwd.1, hwd.2.1, hwd.2.2.1, hwd.2.2.2.mono (by decide) (by decide)⟩
        · show Steps p.tables e below (T143.setTop (mkF m 591 (own_L p0 p1 p2 p3 1 dwq 0 0 xa xb xc xd sa112 sa117 sa128 5 (oi 1) (oi 12) (oi 13)) [(.int (1 : Int32))])) _
          exact retN X143 hx (t := .boolean) Bd.returns (by simp) (hb hby at_591) hr
        · show Q0 Z p0 p1 p2 p3 cs fm dre sre vre dwq swq vwq kre kwq h0 n0 _ T143.heap _
          rw [e143]
          exact ⟨congrArg (fun z => some (Value.int z)) (show (1 : Int32) = (1 : Int32) from by rfl), N143⟩
      · skip
        have c146 : own_G p e below T138 (mkF m 414 (own_L p0 p1 p2 p3 1 dwq (0 : Int32) vwl xa xb xc xd sa112 sa117 sa128 5 (oi 1) (oi 12) (.unset)) []) (mkF m 414 (own_L p0 p1 p2 p3 1 dwq vfl vwl xa xb xc xd sa112 sa117 sa128 5 (oi 1) (oi 12) (.unset)) []) := fun t kt => castTop (congrArg (fun zv => (mkF m 414 (own_L p0 p1 p2 p3 1 dwq zv vwl xa xb xc xd sa112 sa117 sa128 5 (oi 1) (oi 12) (.unset)) [])) (show vfl = (0 : Int32) from hi_)) kt
        have c147 : own_G p e below T138 (mkF m 414 (own_L p0 p1 p2 p3 1 dwq 0 (1 : Int32) xa xb xc xd sa112 sa117 sa128 5 (oi 1) (oi 12) (.unset)) []) (mkF m 414 (own_L p0 p1 p2 p3 1 dwq 0 vwl xa xb xc xd sa112 sa117 sa128 5 (oi 1) (oi 12) (.unset)) []) := fun t kt => castTop (congrArg (fun zv => (mkF m 414 (own_L p0 p1 p2 p3 1 dwq 0 zv xa xb xc xd sa112 sa117 sa128 5 (oi 1) (oi 12) (.unset)) [])) (show vwl = (1 : Int32) from hj_)) kt
        have htk148 : tt = ((((((([] : List Int32) ++ ([99, 97, 110, 110, 111, 116, 32] : List Int32)) ++ ([119, 114, 105, 116, 101] : List Int32)) ++ ([32] : List Int32)) ++ ([] : List Int32)) ++ ([58, 32] : List Int32)) ++ ([xc] : List Int32)) := by rw [htt, show own_mk vfl xa xb = ([] : List Int32) from by rw [hi_]; rfl, show own_mk vwl xc xd = ([xc] : List Int32) from by rw [hj_]; rfl]
        obtain ⟨T149, L149, h149, X149, e149, N149, -, qh149, st149⟩ := tF0 p0 p1 p2 p3 (0 : Int32) (1 : Int32) xa xb xc xd dwq sa112 sa117 sa128 rb128 kb128 tt cs fm 1 5 12 (s := s.setVm T128.vm) X138 hx hZ hw hby hml hown e138 N138 f130 Es128 Fv128 Fc128 Va128 (SF.ext f131.2) hfm (SC.ext f131.2) hcs (by rw [htk148]; simp only [List.length_append, List.length_cons, List.length_nil]; omega) (by rw [htk148]; simp only [List.length_append, List.length_cons, List.length_nil]; omega) (by rw [htk148]; rfl) (by rw [htk148]; rfl) hr_xa hr_xb hr_xc hr_xd (by decide)
        rw [qh149] at e149
        obtain ⟨T150, L150, h150, X150, e150, N150, -, qh150, st150⟩ := tW1 p0 p1 p2 p3 (0 : Int32) (1 : Int32) xa xb xc xd dwq sa112 sa117 sa128 rb128 kb128 tt cs fm 1 5 12 13 (s := s.setVm T128.vm) X149 hx hZ hw hby hml hown e149 N149 f130 Es128 Fv128 Fc128 Va128 (SF.ext f131.2) hfm (SC.ext f131.2) hcs (by rw [htk148]; simp only [List.length_append, List.length_cons, List.length_nil]; omega) (by rw [htk148]; simp only [List.length_append, List.length_cons, List.length_nil]; omega) (by rw [htk148]; rfl) hr_xa hr_xb hr_xc hr_xd
        rw [qh150] at e150
        have c151 : own_G p e below T150 (mkF m 591 (own_L p0 p1 p2 p3 1 dwq 0 1 xa xb xc xd sa112 sa117 sa128 5 (oi 1) (oi 12) (oi 13)) [(.int (1 : Int32))]) (mkF m 589 (own_L p0 p1 p2 p3 1 dwq 0 1 xa xb xc xd sa112 sa117 sa128 5 (oi 1) (oi 12) (oi 13)) []) := by
          intro t kt
          show oS T150 (mkF m 589 (own_L p0 p1 p2 p3 1 dwq 0 1 xa xb xc xd sa112 sa117 sa128 5 (oi 1) (oi 12) (oi 13)) []) _
          refine XS.iload X150.here hx rfl (hb hby at_589) rfl ?_
          exact kt
        obtain ⟨fs, hr, hrun, hended, hwd⟩ := Stand.leaveW (s := s) (vm₁ := T128.vm) X150 hS128 (by rw [e150]; exact (Nat.le_refl _)) (v := some (.int (1 : Int32))) (fun h => by rw [Bd.returns] at h; cases h)
        refine ⟨_, _, pre0 _ (c1 _ (c103 _ (st102 _ (c104 _ (c105 _ (c106 _ (c107 _ (c108 _ (c109 _ (c110 _ (c111 _ (st112.trans (c113 _ (st117.trans (c118 _ (st128.trans (c129 _ (st133.trans (c134 _ (c135 _ (c136 _ (st137 _ (st138 _ (c146 _ (c147 _ (st149 _ (st150 _ (c151 _ (?_))))))))))))))))))))))))))))), hrun, hended, _, _, rfl, ?_, hwd.1, hwd.2.1, hwd.2.2.1, hwd.2.2.2.mono (by decide) (by decide)⟩
        · show Steps p.tables e below (T150.setTop (mkF m 591 (own_L p0 p1 p2 p3 1 dwq 0 1 xa xb xc xd sa112 sa117 sa128 5 (oi 1) (oi 12) (oi 13)) [(.int (1 : Int32))])) _
          exact retN X150 hx (t := .boolean) Bd.returns (by simp) (hb hby at_591) hr
        · show Q0 Z p0 p1 p2 p3 cs fm dre sre vre dwq swq vwq kre kwq h0 n0 _ T150.heap _
          rw [e150]
          exact ⟨congrArg (fun z => some (Value.int z)) (show (1 : Int32) = (1 : Int32) from by rfl), N150⟩
      · skip
        have c153 : own_G p e below T138 (mkF m 414 (own_L p0 p1 p2 p3 1 dwq (0 : Int32) vwl xa xb xc xd sa112 sa117 sa128 5 (oi 1) (oi 12) (.unset)) []) (mkF m 414 (own_L p0 p1 p2 p3 1 dwq vfl vwl xa xb xc xd sa112 sa117 sa128 5 (oi 1) (oi 12) (.unset)) []) := fun t kt => castTop (congrArg (fun zv => (mkF m 414 (own_L p0 p1 p2 p3 1 dwq zv vwl xa xb xc xd sa112 sa117 sa128 5 (oi 1) (oi 12) (.unset)) [])) (show vfl = (0 : Int32) from hi_)) kt
        have c154 : own_G p e below T138 (mkF m 414 (own_L p0 p1 p2 p3 1 dwq 0 (2 : Int32) xa xb xc xd sa112 sa117 sa128 5 (oi 1) (oi 12) (.unset)) []) (mkF m 414 (own_L p0 p1 p2 p3 1 dwq 0 vwl xa xb xc xd sa112 sa117 sa128 5 (oi 1) (oi 12) (.unset)) []) := fun t kt => castTop (congrArg (fun zv => (mkF m 414 (own_L p0 p1 p2 p3 1 dwq 0 zv xa xb xc xd sa112 sa117 sa128 5 (oi 1) (oi 12) (.unset)) [])) (show vwl = (2 : Int32) from hj_)) kt
        have htk155 : tt = ((((((([] : List Int32) ++ ([99, 97, 110, 110, 111, 116, 32] : List Int32)) ++ ([119, 114, 105, 116, 101] : List Int32)) ++ ([32] : List Int32)) ++ ([] : List Int32)) ++ ([58, 32] : List Int32)) ++ ([xc, xd] : List Int32)) := by rw [htt, show own_mk vfl xa xb = ([] : List Int32) from by rw [hi_]; rfl, show own_mk vwl xc xd = ([xc, xd] : List Int32) from by rw [hj_]; rfl]
        obtain ⟨T156, L156, h156, X156, e156, N156, -, qh156, st156⟩ := tF0 p0 p1 p2 p3 (0 : Int32) (2 : Int32) xa xb xc xd dwq sa112 sa117 sa128 rb128 kb128 tt cs fm 1 5 12 (s := s.setVm T128.vm) X138 hx hZ hw hby hml hown e138 N138 f130 Es128 Fv128 Fc128 Va128 (SF.ext f131.2) hfm (SC.ext f131.2) hcs (by rw [htk155]; simp only [List.length_append, List.length_cons, List.length_nil]; omega) (by rw [htk155]; simp only [List.length_append, List.length_cons, List.length_nil]; omega) (by rw [htk155]; rfl) (by rw [htk155]; rfl) hr_xa hr_xb hr_xc hr_xd (by decide)
        rw [qh156] at e156
        obtain ⟨T157, L157, h157, X157, e157, N157, -, qh157, st157⟩ := tW2 p0 p1 p2 p3 (0 : Int32) (2 : Int32) xa xb xc xd dwq sa112 sa117 sa128 rb128 kb128 tt cs fm 1 5 12 13 (s := s.setVm T128.vm) X156 hx hZ hw hby hml hown e156 N156 f130 Es128 Fv128 Fc128 Va128 (SF.ext f131.2) hfm (SC.ext f131.2) hcs (by rw [htk155]; simp only [List.length_append, List.length_cons, List.length_nil]; omega) (by rw [htk155]; simp only [List.length_append, List.length_cons, List.length_nil]; omega) (by rw [htk155]; rfl) (by rw [htk155]; rfl) hr_xa hr_xb hr_xc hr_xd
        rw [qh157] at e157
        have c158 : own_G p e below T157 (mkF m 591 (own_L p0 p1 p2 p3 1 dwq 0 2 xa xb xc xd sa112 sa117 sa128 5 (oi 1) (oi 12) (oi 13)) [(.int (1 : Int32))]) (mkF m 589 (own_L p0 p1 p2 p3 1 dwq 0 2 xa xb xc xd sa112 sa117 sa128 5 (oi 1) (oi 12) (oi 13)) []) := by
          intro t kt
          show oS T157 (mkF m 589 (own_L p0 p1 p2 p3 1 dwq 0 2 xa xb xc xd sa112 sa117 sa128 5 (oi 1) (oi 12) (oi 13)) []) _
          refine XS.iload X157.here hx rfl (hb hby at_589) rfl ?_
          exact kt
        obtain ⟨fs, hr, hrun, hended, hwd⟩ := Stand.leaveW (s := s) (vm₁ := T128.vm) X157 hS128 (by rw [e157]; exact (Nat.le_refl _)) (v := some (.int (1 : Int32))) (fun h => by rw [Bd.returns] at h; cases h)
        refine ⟨_, _, pre0 _ (c1 _ (c103 _ (st102 _ (c104 _ (c105 _ (c106 _ (c107 _ (c108 _ (c109 _ (c110 _ (c111 _ (st112.trans (c113 _ (st117.trans (c118 _ (st128.trans (c129 _ (st133.trans (c134 _ (c135 _ (c136 _ (st137 _ (st138 _ (c153 _ (c154 _ (st156 _ (st157 _ (c158 _ (?_))))))))))))))))))))))))))))), hrun, hended, _, _, rfl, ?_, hwd.1, hwd.2.1, hwd.2.2.1, hwd.2.2.2.mono (by decide) (by decide)⟩
        · show Steps p.tables e below (T157.setTop (mkF m 591 (own_L p0 p1 p2 p3 1 dwq 0 2 xa xb xc xd sa112 sa117 sa128 5 (oi 1) (oi 12) (oi 13)) [(.int (1 : Int32))])) _
          exact retN X157 hx (t := .boolean) Bd.returns (by simp) (hb hby at_591) hr
        · show Q0 Z p0 p1 p2 p3 cs fm dre sre vre dwq swq vwq kre kwq h0 n0 _ T157.heap _
          rw [e157]
          exact ⟨congrArg (fun z => some (Value.int z)) (show (1 : Int32) = (1 : Int32) from by rfl), N157⟩
    · skip
      rcases h3_vwl with hj_ | hj_ | hj_
      · skip
        have c160 : own_G p e below T138 (mkF m 414 (own_L p0 p1 p2 p3 1 dwq (1 : Int32) vwl xa xb xc xd sa112 sa117 sa128 5 (oi 1) (oi 12) (.unset)) []) (mkF m 414 (own_L p0 p1 p2 p3 1 dwq vfl vwl xa xb xc xd sa112 sa117 sa128 5 (oi 1) (oi 12) (.unset)) []) := fun t kt => castTop (congrArg (fun zv => (mkF m 414 (own_L p0 p1 p2 p3 1 dwq zv vwl xa xb xc xd sa112 sa117 sa128 5 (oi 1) (oi 12) (.unset)) [])) (show vfl = (1 : Int32) from hi_)) kt
        have c161 : own_G p e below T138 (mkF m 414 (own_L p0 p1 p2 p3 1 dwq 1 (0 : Int32) xa xb xc xd sa112 sa117 sa128 5 (oi 1) (oi 12) (.unset)) []) (mkF m 414 (own_L p0 p1 p2 p3 1 dwq 1 vwl xa xb xc xd sa112 sa117 sa128 5 (oi 1) (oi 12) (.unset)) []) := fun t kt => castTop (congrArg (fun zv => (mkF m 414 (own_L p0 p1 p2 p3 1 dwq 1 zv xa xb xc xd sa112 sa117 sa128 5 (oi 1) (oi 12) (.unset)) [])) (show vwl = (0 : Int32) from hj_)) kt
        have htk162 : tt = ((((((([] : List Int32) ++ ([99, 97, 110, 110, 111, 116, 32] : List Int32)) ++ ([119, 114, 105, 116, 101] : List Int32)) ++ ([32] : List Int32)) ++ ([xa] : List Int32)) ++ ([58, 32] : List Int32)) ++ ([] : List Int32)) := by rw [htt, show own_mk vfl xa xb = ([xa] : List Int32) from by rw [hi_]; rfl, show own_mk vwl xc xd = ([] : List Int32) from by rw [hj_]; rfl]
        obtain ⟨T163, L163, h163, X163, e163, N163, -, qh163, st163⟩ := tF1 p0 p1 p2 p3 (1 : Int32) (0 : Int32) xa xb xc xd dwq sa112 sa117 sa128 rb128 kb128 tt cs fm 1 5 12 (s := s.setVm T128.vm) X138 hx hZ hw hby hml hown e138 N138 f130 Es128 Fv128 Fc128 Va128 (SF.ext f131.2) hfm (SC.ext f131.2) hcs (by rw [htk162]; simp only [List.length_append, List.length_cons, List.length_nil]; omega) (by rw [htk162]; simp only [List.length_append, List.length_cons, List.length_nil]; omega) (by rw [htk162]; rfl) (by rw [htk162]; rfl) (by rw [htk162]; rfl) hr_xa hr_xb hr_xc hr_xd (by decide)
        rw [qh163] at e163
        obtain ⟨T164, L164, h164, X164, e164, N164, -, qh164, st164⟩ := tW0 p0 p1 p2 p3 (1 : Int32) (0 : Int32) xa xb xc xd dwq sa112 sa117 sa128 rb128 kb128 tt cs fm 1 5 12 14 (s := s.setVm T128.vm) X163 hx hZ hw hby hml hown e163 N163 f130 Es128 Fv128 Fc128 Va128 (SF.ext f131.2) hfm (SC.ext f131.2) hcs (by rw [htk162]; simp only [List.length_append, List.length_cons, List.length_nil]; omega) (by rw [htk162]; simp only [List.length_append, List.length_cons, List.length_nil]; omega)  hr_xa hr_xb hr_xc hr_xd
        rw [qh164] at e164
        have c165 : own_G p e below T164 (mkF m 591 (own_L p0 p1 p2 p3 1 dwq 1 0 xa xb xc xd sa112 sa117 sa128 5 (oi 1) (oi 12) (oi 14)) [(.int (1 : Int32))]) (mkF m 589 (own_L p0 p1 p2 p3 1 dwq 1 0 xa xb xc xd sa112 sa117 sa128 5 (oi 1) (oi 12) (oi 14)) []) := by
          intro t kt
          show oS T164 (mkF m 589 (own_L p0 p1 p2 p3 1 dwq 1 0 xa xb xc xd sa112 sa117 sa128 5 (oi 1) (oi 12) (oi 14)) []) _
          refine XS.iload X164.here hx rfl (hb hby at_589) rfl ?_
          exact kt
        obtain ⟨fs, hr, hrun, hended, hwd⟩ := Stand.leaveW (s := s) (vm₁ := T128.vm) X164 hS128 (by rw [e164]; exact (Nat.le_refl _)) (v := some (.int (1 : Int32))) (fun h => by rw [Bd.returns] at h; cases h)
        refine ⟨_, _, pre0 _ (c1 _ (c103 _ (st102 _ (c104 _ (c105 _ (c106 _ (c107 _ (c108 _ (c109 _ (c110 _ (c111 _ (st112.trans (c113 _ (st117.trans (c118 _ (st128.trans (c129 _ (st133.trans (c134 _ (c135 _ (c136 _ (st137 _ (st138 _ (c160 _ (c161 _ (st163 _ (st164 _ (c165 _ (?_))))))))))))))))))))))))))))), hrun, hended, _, _, rfl, ?_, hwd.1, hwd.2.1, hwd.2.2.1, hwd.2.2.2.mono (by decide) (by decide)⟩
        · show Steps p.tables e below (T164.setTop (mkF m 591 (own_L p0 p1 p2 p3 1 dwq 1 0 xa xb xc xd sa112 sa117 sa128 5 (oi 1) (oi 12) (oi 14)) [(.int (1 : Int32))])) _
          exact retN X164 hx (t := .boolean) Bd.returns (by simp) (hb hby at_591) hr
        · show Q0 Z p0 p1 p2 p3 cs fm dre sre vre dwq swq vwq kre kwq h0 n0 _ T164.heap _
          rw [e164]
          exact ⟨congrArg (fun z => some (Value.int z)) (show (1 : Int32) = (1 : Int32) from by rfl), N164⟩
      · skip
        have c167 : own_G p e below T138 (mkF m 414 (own_L p0 p1 p2 p3 1 dwq (1 : Int32) vwl xa xb xc xd sa112 sa117 sa128 5 (oi 1) (oi 12) (.unset)) []) (mkF m 414 (own_L p0 p1 p2 p3 1 dwq vfl vwl xa xb xc xd sa112 sa117 sa128 5 (oi 1) (oi 12) (.unset)) []) := fun t kt => castTop (congrArg (fun zv => (mkF m 414 (own_L p0 p1 p2 p3 1 dwq zv vwl xa xb xc xd sa112 sa117 sa128 5 (oi 1) (oi 12) (.unset)) [])) (show vfl = (1 : Int32) from hi_)) kt
        have c168 : own_G p e below T138 (mkF m 414 (own_L p0 p1 p2 p3 1 dwq 1 (1 : Int32) xa xb xc xd sa112 sa117 sa128 5 (oi 1) (oi 12) (.unset)) []) (mkF m 414 (own_L p0 p1 p2 p3 1 dwq 1 vwl xa xb xc xd sa112 sa117 sa128 5 (oi 1) (oi 12) (.unset)) []) := fun t kt => castTop (congrArg (fun zv => (mkF m 414 (own_L p0 p1 p2 p3 1 dwq 1 zv xa xb xc xd sa112 sa117 sa128 5 (oi 1) (oi 12) (.unset)) [])) (show vwl = (1 : Int32) from hj_)) kt
        have htk169 : tt = ((((((([] : List Int32) ++ ([99, 97, 110, 110, 111, 116, 32] : List Int32)) ++ ([119, 114, 105, 116, 101] : List Int32)) ++ ([32] : List Int32)) ++ ([xa] : List Int32)) ++ ([58, 32] : List Int32)) ++ ([xc] : List Int32)) := by rw [htt, show own_mk vfl xa xb = ([xa] : List Int32) from by rw [hi_]; rfl, show own_mk vwl xc xd = ([xc] : List Int32) from by rw [hj_]; rfl]
        obtain ⟨T170, L170, h170, X170, e170, N170, -, qh170, st170⟩ := tF1 p0 p1 p2 p3 (1 : Int32) (1 : Int32) xa xb xc xd dwq sa112 sa117 sa128 rb128 kb128 tt cs fm 1 5 12 (s := s.setVm T128.vm) X138 hx hZ hw hby hml hown e138 N138 f130 Es128 Fv128 Fc128 Va128 (SF.ext f131.2) hfm (SC.ext f131.2) hcs (by rw [htk169]; simp only [List.length_append, List.length_cons, List.length_nil]; omega) (by rw [htk169]; simp only [List.length_append, List.length_cons, List.length_nil]; omega) (by rw [htk169]; rfl) (by rw [htk169]; rfl) (by rw [htk169]; rfl) hr_xa hr_xb hr_xc hr_xd (by decide)
        rw [qh170] at e170
        obtain ⟨T171, L171, h171, X171, e171, N171, -, qh171, st171⟩ := tW1 p0 p1 p2 p3 (1 : Int32) (1 : Int32) xa xb xc xd dwq sa112 sa117 sa128 rb128 kb128 tt cs fm 1 5 12 14 (s := s.setVm T128.vm) X170 hx hZ hw hby hml hown e170 N170 f130 Es128 Fv128 Fc128 Va128 (SF.ext f131.2) hfm (SC.ext f131.2) hcs (by rw [htk169]; simp only [List.length_append, List.length_cons, List.length_nil]; omega) (by rw [htk169]; simp only [List.length_append, List.length_cons, List.length_nil]; omega) (by rw [htk169]; rfl) hr_xa hr_xb hr_xc hr_xd
        rw [qh171] at e171
        have c172 : own_G p e below T171 (mkF m 591 (own_L p0 p1 p2 p3 1 dwq 1 1 xa xb xc xd sa112 sa117 sa128 5 (oi 1) (oi 12) (oi 14)) [(.int (1 : Int32))]) (mkF m 589 (own_L p0 p1 p2 p3 1 dwq 1 1 xa xb xc xd sa112 sa117 sa128 5 (oi 1) (oi 12) (oi 14)) []) := by
          intro t kt
          show oS T171 (mkF m 589 (own_L p0 p1 p2 p3 1 dwq 1 1 xa xb xc xd sa112 sa117 sa128 5 (oi 1) (oi 12) (oi 14)) []) _
          refine XS.iload X171.here hx rfl (hb hby at_589) rfl ?_
          exact kt
        obtain ⟨fs, hr, hrun, hended, hwd⟩ := Stand.leaveW (s := s) (vm₁ := T128.vm) X171 hS128 (by rw [e171]; exact (Nat.le_refl _)) (v := some (.int (1 : Int32))) (fun h => by rw [Bd.returns] at h; cases h)
        refine ⟨_, _, pre0 _ (c1 _ (c103 _ (st102 _ (c104 _ (c105 _ (c106 _ (c107 _ (c108 _ (c109 _ (c110 _ (c111 _ (st112.trans (c113 _ (st117.trans (c118 _ (st128.trans (c129 _ (st133.trans (c134 _ (c135 _ (c136 _ (st137 _ (st138 _ (c167 _ (c168 _ (st170 _ (st171 _ (c172 _ (?_))))))))))))))))))))))))))))), hrun, hended, _, _, rfl, ?_, hwd.1, hwd.2.1, hwd.2.2.1, hwd.2.2.2.mono (by decide) (by decide)⟩
        · show Steps p.tables e below (T171.setTop (mkF m 591 (own_L p0 p1 p2 p3 1 dwq 1 1 xa xb xc xd sa112 sa117 sa128 5 (oi 1) (oi 12) (oi 14)) [(.int (1 : Int32))])) _
          exact retN X171 hx (t := .boolean) Bd.returns (by simp) (hb hby at_591) hr
        · show Q0 Z p0 p1 p2 p3 cs fm dre sre vre dwq swq vwq kre kwq h0 n0 _ T171.heap _
          rw [e171]
          exact ⟨congrArg (fun z => some (Value.int z)) (show (1 : Int32) = (1 : Int32) from by rfl), N171⟩
      · skip
        have c174 : own_G p e below T138 (mkF m 414 (own_L p0 p1 p2 p3 1 dwq (1 : Int32) vwl xa xb xc xd sa112 sa117 sa128 5 (oi 1) (oi 12) (.unset)) []) (mkF m 414 (own_L p0 p1 p2 p3 1 dwq vfl vwl xa xb xc xd sa112 sa117 sa128 5 (oi 1) (oi 12) (.unset)) []) := fun t kt => castTop (congrArg (fun zv => (mkF m 414 (own_L p0 p1 p2 p3 1 dwq zv vwl xa xb xc xd sa112 sa117 sa128 5 (oi 1) (oi 12) (.unset)) [])) (show vfl = (1 : Int32) from hi_)) kt
        have c175 : own_G p e below T138 (mkF m 414 (own_L p0 p1 p2 p3 1 dwq 1 (2 : Int32) xa xb xc xd sa112 sa117 sa128 5 (oi 1) (oi 12) (.unset)) []) (mkF m 414 (own_L p0 p1 p2 p3 1 dwq 1 vwl xa xb xc xd sa112 sa117 sa128 5 (oi 1) (oi 12) (.unset)) []) := fun t kt => castTop (congrArg (fun zv => (mkF m 414 (own_L p0 p1 p2 p3 1 dwq 1 zv xa xb xc xd sa112 sa117 sa128 5 (oi 1) (oi 12) (.unset)) [])) (show vwl = (2 : Int32) from hj_)) kt
        have htk176 : tt = ((((((([] : List Int32) ++ ([99, 97, 110, 110, 111, 116, 32] : List Int32)) ++ ([119, 114, 105, 116, 101] : List Int32)) ++ ([32] : List Int32)) ++ ([xa] : List Int32)) ++ ([58, 32] : List Int32)) ++ ([xc, xd] : List Int32)) := by rw [htt, show own_mk vfl xa xb = ([xa] : List Int32) from by rw [hi_]; rfl, show own_mk vwl xc xd = ([xc, xd] : List Int32) from by rw [hj_]; rfl]
        obtain ⟨T177, L177, h177, X177, e177, N177, -, qh177, st177⟩ := tF1 p0 p1 p2 p3 (1 : Int32) (2 : Int32) xa xb xc xd dwq sa112 sa117 sa128 rb128 kb128 tt cs fm 1 5 12 (s := s.setVm T128.vm) X138 hx hZ hw hby hml hown e138 N138 f130 Es128 Fv128 Fc128 Va128 (SF.ext f131.2) hfm (SC.ext f131.2) hcs (by rw [htk176]; simp only [List.length_append, List.length_cons, List.length_nil]; omega) (by rw [htk176]; simp only [List.length_append, List.length_cons, List.length_nil]; omega) (by rw [htk176]; rfl) (by rw [htk176]; rfl) (by rw [htk176]; rfl) hr_xa hr_xb hr_xc hr_xd (by decide)
        rw [qh177] at e177
        obtain ⟨T178, L178, h178, X178, e178, N178, -, qh178, st178⟩ := tW2 p0 p1 p2 p3 (1 : Int32) (2 : Int32) xa xb xc xd dwq sa112 sa117 sa128 rb128 kb128 tt cs fm 1 5 12 14 (s := s.setVm T128.vm) X177 hx hZ hw hby hml hown e177 N177 f130 Es128 Fv128 Fc128 Va128 (SF.ext f131.2) hfm (SC.ext f131.2) hcs (by rw [htk176]; simp only [List.length_append, List.length_cons, List.length_nil]; omega) (by rw [htk176]; simp only [List.length_append, List.length_cons, List.length_nil]; omega) (by rw [htk176]; rfl) (by rw [htk176]; rfl) hr_xa hr_xb hr_xc hr_xd
        rw [qh178] at e178
        have c179 : own_G p e below T178 (mkF m 591 (own_L p0 p1 p2 p3 1 dwq 1 2 xa xb xc xd sa112 sa117 sa128 5 (oi 1) (oi 12) (oi 14)) [(.int (1 : Int32))]) (mkF m 589 (own_L p0 p1 p2 p3 1 dwq 1 2 xa xb xc xd sa112 sa117 sa128 5 (oi 1) (oi 12) (oi 14)) []) := by
          intro t kt
          show oS T178 (mkF m 589 (own_L p0 p1 p2 p3 1 dwq 1 2 xa xb xc xd sa112 sa117 sa128 5 (oi 1) (oi 12) (oi 14)) []) _
          refine XS.iload X178.here hx rfl (hb hby at_589) rfl ?_
          exact kt
        obtain ⟨fs, hr, hrun, hended, hwd⟩ := Stand.leaveW (s := s) (vm₁ := T128.vm) X178 hS128 (by rw [e178]; exact (Nat.le_refl _)) (v := some (.int (1 : Int32))) (fun h => by rw [Bd.returns] at h; cases h)
        refine ⟨_, _, pre0 _ (c1 _ (c103 _ (st102 _ (c104 _ (c105 _ (c106 _ (c107 _ (c108 _ (c109 _ (c110 _ (c111 _ (st112.trans (c113 _ (st117.trans (c118 _ (st128.trans (c129 _ (st133.trans (c134 _ (c135 _ (c136 _ (st137 _ (st138 _ (c174 _ (c175 _ (st177 _ (st178 _ (c179 _ (?_))))))))))))))))))))))))))))), hrun, hended, _, _, rfl, ?_, hwd.1, hwd.2.1, hwd.2.2.1, hwd.2.2.2.mono (by decide) (by decide)⟩
        · show Steps p.tables e below (T178.setTop (mkF m 591 (own_L p0 p1 p2 p3 1 dwq 1 2 xa xb xc xd sa112 sa117 sa128 5 (oi 1) (oi 12) (oi 14)) [(.int (1 : Int32))])) _
          exact retN X178 hx (t := .boolean) Bd.returns (by simp) (hb hby at_591) hr
        · show Q0 Z p0 p1 p2 p3 cs fm dre sre vre dwq swq vwq kre kwq h0 n0 _ T178.heap _
          rw [e178]
          exact ⟨congrArg (fun z => some (Value.int z)) (show (1 : Int32) = (1 : Int32) from by rfl), N178⟩
    · skip
      rcases h3_vwl with hj_ | hj_ | hj_
      · skip
        have c181 : own_G p e below T138 (mkF m 414 (own_L p0 p1 p2 p3 1 dwq (2 : Int32) vwl xa xb xc xd sa112 sa117 sa128 5 (oi 1) (oi 12) (.unset)) []) (mkF m 414 (own_L p0 p1 p2 p3 1 dwq vfl vwl xa xb xc xd sa112 sa117 sa128 5 (oi 1) (oi 12) (.unset)) []) := fun t kt => castTop (congrArg (fun zv => (mkF m 414 (own_L p0 p1 p2 p3 1 dwq zv vwl xa xb xc xd sa112 sa117 sa128 5 (oi 1) (oi 12) (.unset)) [])) (show vfl = (2 : Int32) from hi_)) kt
        have c182 : own_G p e below T138 (mkF m 414 (own_L p0 p1 p2 p3 1 dwq 2 (0 : Int32) xa xb xc xd sa112 sa117 sa128 5 (oi 1) (oi 12) (.unset)) []) (mkF m 414 (own_L p0 p1 p2 p3 1 dwq 2 vwl xa xb xc xd sa112 sa117 sa128 5 (oi 1) (oi 12) (.unset)) []) := fun t kt => castTop (congrArg (fun zv => (mkF m 414 (own_L p0 p1 p2 p3 1 dwq 2 zv xa xb xc xd sa112 sa117 sa128 5 (oi 1) (oi 12) (.unset)) [])) (show vwl = (0 : Int32) from hj_)) kt
        have htk183 : tt = ((((((([] : List Int32) ++ ([99, 97, 110, 110, 111, 116, 32] : List Int32)) ++ ([119, 114, 105, 116, 101] : List Int32)) ++ ([32] : List Int32)) ++ ([xa, xb] : List Int32)) ++ ([58, 32] : List Int32)) ++ ([] : List Int32)) := by rw [htt, show own_mk vfl xa xb = ([xa, xb] : List Int32) from by rw [hi_]; rfl, show own_mk vwl xc xd = ([] : List Int32) from by rw [hj_]; rfl]
        obtain ⟨T184, L184, h184, X184, e184, N184, -, qh184, st184⟩ := tF2 p0 p1 p2 p3 (2 : Int32) (0 : Int32) xa xb xc xd dwq sa112 sa117 sa128 rb128 kb128 tt cs fm 1 5 12 (s := s.setVm T128.vm) X138 hx hZ hw hby hml hown e138 N138 f130 Es128 Fv128 Fc128 Va128 (SF.ext f131.2) hfm (SC.ext f131.2) hcs (by rw [htk183]; simp only [List.length_append, List.length_cons, List.length_nil]; omega) (by rw [htk183]; simp only [List.length_append, List.length_cons, List.length_nil]; omega) (by rw [htk183]; rfl) (by rw [htk183]; rfl) (by rw [htk183]; rfl) (by rw [htk183]; rfl) hr_xa hr_xb hr_xc hr_xd (by decide)
        rw [qh184] at e184
        obtain ⟨T185, L185, h185, X185, e185, N185, -, qh185, st185⟩ := tW0 p0 p1 p2 p3 (2 : Int32) (0 : Int32) xa xb xc xd dwq sa112 sa117 sa128 rb128 kb128 tt cs fm 1 5 12 15 (s := s.setVm T128.vm) X184 hx hZ hw hby hml hown e184 N184 f130 Es128 Fv128 Fc128 Va128 (SF.ext f131.2) hfm (SC.ext f131.2) hcs (by rw [htk183]; simp only [List.length_append, List.length_cons, List.length_nil]; omega) (by rw [htk183]; simp only [List.length_append, List.length_cons, List.length_nil]; omega)  hr_xa hr_xb hr_xc hr_xd
        rw [qh185] at e185
        have c186 : own_G p e below T185 (mkF m 591 (own_L p0 p1 p2 p3 1 dwq 2 0 xa xb xc xd sa112 sa117 sa128 5 (oi 1) (oi 12) (oi 15)) [(.int (1 : Int32))]) (mkF m 589 (own_L p0 p1 p2 p3 1 dwq 2 0 xa xb xc xd sa112 sa117 sa128 5 (oi 1) (oi 12) (oi 15)) []) := by
          intro t kt
          show oS T185 (mkF m 589 (own_L p0 p1 p2 p3 1 dwq 2 0 xa xb xc xd sa112 sa117 sa128 5 (oi 1) (oi 12) (oi 15)) []) _
          refine XS.iload X185.here hx rfl (hb hby at_589) rfl ?_
          exact kt
        obtain ⟨fs, hr, hrun, hended, hwd⟩ := Stand.leaveW (s := s) (vm₁ := T128.vm) X185 hS128 (by rw [e185]; exact (Nat.le_refl _)) (v := some (.int (1 : Int32))) (fun h => by rw [Bd.returns] at h; cases h)
        refine ⟨_, _, pre0 _ (c1 _ (c103 _ (st102 _ (c104 _ (c105 _ (c106 _ (c107 _ (c108 _ (c109 _ (c110 _ (c111 _ (st112.trans (c113 _ (st117.trans (c118 _ (st128.trans (c129 _ (st133.trans (c134 _ (c135 _ (c136 _ (st137 _ (st138 _ (c181 _ (c182 _ (st184 _ (st185 _ (c186 _ (?_))))))))))))))))))))))))))))), hrun, hended, _, _, rfl, ?_, hwd.1, hwd.2.1, hwd.2.2.1, hwd.2.2.2.mono (by decide) (by decide)⟩
        · show Steps p.tables e below (T185.setTop (mkF m 591 (own_L p0 p1 p2 p3 1 dwq 2 0 xa xb xc xd sa112 sa117 sa128 5 (oi 1) (oi 12) (oi 15)) [(.int (1 : Int32))])) _
          exact retN X185 hx (t := .boolean) Bd.returns (by simp) (hb hby at_591) hr
        · show Q0 Z p0 p1 p2 p3 cs fm dre sre vre dwq swq vwq kre kwq h0 n0 _ T185.heap _
          rw [e185]
          exact ⟨congrArg (fun z => some (Value.int z)) (show (1 : Int32) = (1 : Int32) from by rfl), N185⟩
      · skip
        have c188 : own_G p e below T138 (mkF m 414 (own_L p0 p1 p2 p3 1 dwq (2 : Int32) vwl xa xb xc xd sa112 sa117 sa128 5 (oi 1) (oi 12) (.unset)) []) (mkF m 414 (own_L p0 p1 p2 p3 1 dwq vfl vwl xa xb xc xd sa112 sa117 sa128 5 (oi 1) (oi 12) (.unset)) []) := fun t kt => castTop (congrArg (fun zv => (mkF m 414 (own_L p0 p1 p2 p3 1 dwq zv vwl xa xb xc xd sa112 sa117 sa128 5 (oi 1) (oi 12) (.unset)) [])) (show vfl = (2 : Int32) from hi_)) kt
        have c189 : own_G p e below T138 (mkF m 414 (own_L p0 p1 p2 p3 1 dwq 2 (1 : Int32) xa xb xc xd sa112 sa117 sa128 5 (oi 1) (oi 12) (.unset)) []) (mkF m 414 (own_L p0 p1 p2 p3 1 dwq 2 vwl xa xb xc xd sa112 sa117 sa128 5 (oi 1) (oi 12) (.unset)) []) := fun t kt => castTop (congrArg (fun zv => (mkF m 414 (own_L p0 p1 p2 p3 1 dwq 2 zv xa xb xc xd sa112 sa117 sa128 5 (oi 1) (oi 12) (.unset)) [])) (show vwl = (1 : Int32) from hj_)) kt
        have htk190 : tt = ((((((([] : List Int32) ++ ([99, 97, 110, 110, 111, 116, 32] : List Int32)) ++ ([119, 114, 105, 116, 101] : List Int32)) ++ ([32] : List Int32)) ++ ([xa, xb] : List Int32)) ++ ([58, 32] : List Int32)) ++ ([xc] : List Int32)) := by rw [htt, show own_mk vfl xa xb = ([xa, xb] : List Int32) from by rw [hi_]; rfl, show own_mk vwl xc xd = ([xc] : List Int32) from by rw [hj_]; rfl]
        obtain ⟨T191, L191, h191, X191, e191, N191, -, qh191, st191⟩ := tF2 p0 p1 p2 p3 (2 : Int32) (1 : Int32) xa xb xc xd dwq sa112 sa117 sa128 rb128 kb128 tt cs fm 1 5 12 (s := s.setVm T128.vm) X138 hx hZ hw hby hml hown e138 N138 f130 Es128 Fv128 Fc128 Va128 (SF.ext f131.2) hfm (SC.ext f131.2) hcs (by rw [htk190]; simp only [List.length_append, List.length_cons, List.length_nil]; omega) (by rw [htk190]; simp only [List.length_append, List.length_cons, List.length_nil]; omega) (by rw [htk190]; rfl) (by rw [htk190]; rfl) (by rw [htk190]; rfl) (by rw [htk190]; rfl) hr_xa hr_xb hr_xc hr_xd (by decide)
        rw [qh191] at e191
        obtain ⟨T192, L192, h192, X192, e192, N192, -, qh192, st192⟩ := tW1 p0 p1 p2 p3 (2 : Int32) (1 : Int32) xa xb xc xd dwq sa112 sa117 sa128 rb128 kb128 tt cs fm 1 5 12 15 (s := s.setVm T128.vm) X191 hx hZ hw hby hml hown e191 N191 f130 Es128 Fv128 Fc128 Va128 (SF.ext f131.2) hfm (SC.ext f131.2) hcs (by rw [htk190]; simp only [List.length_append, List.length_cons, List.length_nil]; omega) (by rw [htk190]; simp only [List.length_append, List.length_cons, List.length_nil]; omega) (by rw [htk190]; rfl) hr_xa hr_xb hr_xc hr_xd
        rw [qh192] at e192
        have c193 : own_G p e below T192 (mkF m 591 (own_L p0 p1 p2 p3 1 dwq 2 1 xa xb xc xd sa112 sa117 sa128 5 (oi 1) (oi 12) (oi 15)) [(.int (1 : Int32))]) (mkF m 589 (own_L p0 p1 p2 p3 1 dwq 2 1 xa xb xc xd sa112 sa117 sa128 5 (oi 1) (oi 12) (oi 15)) []) := by
          intro t kt
          show oS T192 (mkF m 589 (own_L p0 p1 p2 p3 1 dwq 2 1 xa xb xc xd sa112 sa117 sa128 5 (oi 1) (oi 12) (oi 15)) []) _
          refine XS.iload X192.here hx rfl (hb hby at_589) rfl ?_
          exact kt
        obtain ⟨fs, hr, hrun, hended, hwd⟩ := Stand.leaveW (s := s) (vm₁ := T128.vm) X192 hS128 (by rw [e192]; exact (Nat.le_refl _)) (v := some (.int (1 : Int32))) (fun h => by rw [Bd.returns] at h; cases h)
        refine ⟨_, _, pre0 _ (c1 _ (c103 _ (st102 _ (c104 _ (c105 _ (c106 _ (c107 _ (c108 _ (c109 _ (c110 _ (c111 _ (st112.trans (c113 _ (st117.trans (c118 _ (st128.trans (c129 _ (st133.trans (c134 _ (c135 _ (c136 _ (st137 _ (st138 _ (c188 _ (c189 _ (st191 _ (st192 _ (c193 _ (?_))))))))))))))))))))))))))))), hrun, hended, _, _, rfl, ?_, hwd.1, hwd.2.1, hwd.2.2.1, hwd.2.2.2.mono (by decide) (by decide)⟩
        · show Steps p.tables e below (T192.setTop (mkF m 591 (own_L p0 p1 p2 p3 1 dwq 2 1 xa xb xc xd sa112 sa117 sa128 5 (oi 1) (oi 12) (oi 15)) [(.int (1 : Int32))])) _
          exact retN X192 hx (t := .boolean) Bd.returns (by simp) (hb hby at_591) hr
        · show Q0 Z p0 p1 p2 p3 cs fm dre sre vre dwq swq vwq kre kwq h0 n0 _ T192.heap _
          rw [e192]
          exact ⟨congrArg (fun z => some (Value.int z)) (show (1 : Int32) = (1 : Int32) from by rfl), N192⟩
      · skip
        have c195 : own_G p e below T138 (mkF m 414 (own_L p0 p1 p2 p3 1 dwq (2 : Int32) vwl xa xb xc xd sa112 sa117 sa128 5 (oi 1) (oi 12) (.unset)) []) (mkF m 414 (own_L p0 p1 p2 p3 1 dwq vfl vwl xa xb xc xd sa112 sa117 sa128 5 (oi 1) (oi 12) (.unset)) []) := fun t kt => castTop (congrArg (fun zv => (mkF m 414 (own_L p0 p1 p2 p3 1 dwq zv vwl xa xb xc xd sa112 sa117 sa128 5 (oi 1) (oi 12) (.unset)) [])) (show vfl = (2 : Int32) from hi_)) kt
        have c196 : own_G p e below T138 (mkF m 414 (own_L p0 p1 p2 p3 1 dwq 2 (2 : Int32) xa xb xc xd sa112 sa117 sa128 5 (oi 1) (oi 12) (.unset)) []) (mkF m 414 (own_L p0 p1 p2 p3 1 dwq 2 vwl xa xb xc xd sa112 sa117 sa128 5 (oi 1) (oi 12) (.unset)) []) := fun t kt => castTop (congrArg (fun zv => (mkF m 414 (own_L p0 p1 p2 p3 1 dwq 2 zv xa xb xc xd sa112 sa117 sa128 5 (oi 1) (oi 12) (.unset)) [])) (show vwl = (2 : Int32) from hj_)) kt
        have htk197 : tt = ((((((([] : List Int32) ++ ([99, 97, 110, 110, 111, 116, 32] : List Int32)) ++ ([119, 114, 105, 116, 101] : List Int32)) ++ ([32] : List Int32)) ++ ([xa, xb] : List Int32)) ++ ([58, 32] : List Int32)) ++ ([xc, xd] : List Int32)) := by rw [htt, show own_mk vfl xa xb = ([xa, xb] : List Int32) from by rw [hi_]; rfl, show own_mk vwl xc xd = ([xc, xd] : List Int32) from by rw [hj_]; rfl]
        obtain ⟨T198, L198, h198, X198, e198, N198, -, qh198, st198⟩ := tF2 p0 p1 p2 p3 (2 : Int32) (2 : Int32) xa xb xc xd dwq sa112 sa117 sa128 rb128 kb128 tt cs fm 1 5 12 (s := s.setVm T128.vm) X138 hx hZ hw hby hml hown e138 N138 f130 Es128 Fv128 Fc128 Va128 (SF.ext f131.2) hfm (SC.ext f131.2) hcs (by rw [htk197]; simp only [List.length_append, List.length_cons, List.length_nil]; omega) (by rw [htk197]; simp only [List.length_append, List.length_cons, List.length_nil]; omega) (by rw [htk197]; rfl) (by rw [htk197]; rfl) (by rw [htk197]; rfl) (by rw [htk197]; rfl) hr_xa hr_xb hr_xc hr_xd (by decide)
        rw [qh198] at e198
        obtain ⟨T199, L199, h199, X199, e199, N199, -, qh199, st199⟩ := tW2 p0 p1 p2 p3 (2 : Int32) (2 : Int32) xa xb xc xd dwq sa112 sa117 sa128 rb128 kb128 tt cs fm 1 5 12 15 (s := s.setVm T128.vm) X198 hx hZ hw hby hml hown e198 N198 f130 Es128 Fv128 Fc128 Va128 (SF.ext f131.2) hfm (SC.ext f131.2) hcs (by rw [htk197]; simp only [List.length_append, List.length_cons, List.length_nil]; omega) (by rw [htk197]; simp only [List.length_append, List.length_cons, List.length_nil]; omega) (by rw [htk197]; rfl) (by rw [htk197]; rfl) hr_xa hr_xb hr_xc hr_xd
        rw [qh199] at e199
        have c200 : own_G p e below T199 (mkF m 591 (own_L p0 p1 p2 p3 1 dwq 2 2 xa xb xc xd sa112 sa117 sa128 5 (oi 1) (oi 12) (oi 15)) [(.int (1 : Int32))]) (mkF m 589 (own_L p0 p1 p2 p3 1 dwq 2 2 xa xb xc xd sa112 sa117 sa128 5 (oi 1) (oi 12) (oi 15)) []) := by
          intro t kt
          show oS T199 (mkF m 589 (own_L p0 p1 p2 p3 1 dwq 2 2 xa xb xc xd sa112 sa117 sa128 5 (oi 1) (oi 12) (oi 15)) []) _
          refine XS.iload X199.here hx rfl (hb hby at_589) rfl ?_
          exact kt
        obtain ⟨fs, hr, hrun, hended, hwd⟩ := Stand.leaveW (s := s) (vm₁ := T128.vm) X199 hS128 (by rw [e199]; exact (Nat.le_refl _)) (v := some (.int (1 : Int32))) (fun h => by rw [Bd.returns] at h; cases h)
        refine ⟨_, _, pre0 _ (c1 _ (c103 _ (st102 _ (c104 _ (c105 _ (c106 _ (c107 _ (c108 _ (c109 _ (c110 _ (c111 _ (st112.trans (c113 _ (st117.trans (c118 _ (st128.trans (c129 _ (st133.trans (c134 _ (c135 _ (c136 _ (st137 _ (st138 _ (c195 _ (c196 _ (st198 _ (st199 _ (c200 _ (?_))))))))))))))))))))))))))))), hrun, hended, _, _, rfl, ?_, hwd.1, hwd.2.1, hwd.2.2.1, hwd.2.2.2.mono (by decide) (by decide)⟩
        · show Steps p.tables e below (T199.setTop (mkF m 591 (own_L p0 p1 p2 p3 1 dwq 2 2 xa xb xc xd sa112 sa117 sa128 5 (oi 1) (oi 12) (oi 15)) [(.int (1 : Int32))])) _
          exact retN X199 hx (t := .boolean) Bd.returns (by simp) (hb hby at_591) hr
        · show Q0 Z p0 p1 p2 p3 cs fm dre sre vre dwq swq vwq kre kwq h0 n0 _ T199.heap _
          rw [e199]
          exact ⟨congrArg (fun z => some (Value.int z)) (show (1 : Int32) = (1 : Int32) from by rfl), N199⟩
set_option maxRecDepth 65536 in
set_option maxHeartbeats 40000000 in
theorem comes_1 {Post : Tables → Env → Array Value → State → Outcome → State → Prop} (hpost : ∀ tb e args s v u, (limb_1_1.after args s (.returned v) u = true ∧ limb_1_2.after args s (.returned v) u = true ∧ True) → ReturnedEndW s (.returned v) u (Jvm.fieldLocs frame_1_writes args s ++ Jvm.arrayLocs frame_1_arrays args s ++ Jvm.staticLocs frame_1_statics s) 40 4416 → Post tb e args s (.returned v) u) :
    ArmFor flags0 classFile x code maxLocals ret World_1 tables_1 room_1 Calls_1 rest_1 Pre_1 Post := by
  intro l hfl _ _ p e ha hc hk s m args below hf hA hF happ hP
  obtain ⟨hcalls, hrest, hpre⟩ := hP
  obtain ⟨-, -, -, hnamed, -, -, -, hat⟩ := (Spec.applies_iff hf).mp happ
  obtain ⟨hg, hn⟩ := and_e (Cond.before_iff.mp (show (Jvm.Cond.and given_1 narrow_1).before args s = true from hpre))
  obtain ⟨g1, g2⟩ := and_e hg
  obtain ⟨g3, g4⟩ := and_e g2
  obtain ⟨g5, g6⟩ := and_e g4
  obtain ⟨g7, g8⟩ := and_e g6
  obtain ⟨w0, w1, w2, w3, rfl⟩ : ∃ w0 w1 w2 w3 : Value, args = #[w0, w1, w2, w3] := by
    have hs : args.size = 4 := by simpa [Cond.value, given_1] using g1
    obtain ⟨L⟩ := args
    match L, hs with
    | [w0, w1, w2, w3], _ => exact ⟨w0, w1, w2, w3, rfl⟩
  have hw := fun d (hd : d ∈ tables_1) => atoms_spec (ws := Jvm.Cond.code x code maxLocals ret :: tables_1) hat d (List.mem_cons_of_mem _ hd)
  have hfit : Fit s := fun {y c} hc i hi => by
    obtain ⟨ha, rfl⟩ := Array.getElem?_eq_some_iff.mp hc
    have q := List.all_eq_true.mp ((Array.all_eq_true_iff_forall_mem.mp hF) _ (Array.getElem_mem ha)) i (List.mem_range.mpr hi)
    simpa [Array.getElem?_eq_getElem hi] using q
  obtain ⟨hsets, hown0⟩ := atoms_of _ (rest_1_c_eq ▸ (show rest_1_c.before _ s = true from hrest))
  have hr0 := Cond.before_iff.mp hown0
  obtain ⟨i0, ei0⟩ := is_v g3
  obtain rfl : w0 = (.int i0) := Option.some.inj ei0
  obtain ⟨i1, ei1⟩ := is_v g5
  obtain rfl : w1 = (.int i1) := Option.some.inj ei1
  obtain ⟨i2, ei2⟩ := is_v g7
  obtain rfl : w2 = (.int i2) := Option.some.inj ei2
  obtain ⟨i3, ei3⟩ := is_v g8
  obtain rfl : w3 = (.int i3) := Option.some.inj ei3
  obtain ⟨m1, r1⟩ := and_e hn
  obtain ⟨m2, r2⟩ := and_e r1
  obtain ⟨m3, r3⟩ := and_e r2
  obtain ⟨m4, r4⟩ := and_e r3
  obtain ⟨m5, r5⟩ := and_e r4
  obtain ⟨m6, r6⟩ := and_e r5
  obtain ⟨m7, r7⟩ := and_e r6
  obtain ⟨m8, r8⟩ := and_e r7
  obtain ⟨m9, r9⟩ := and_e r8
  obtain ⟨m10, r10⟩ := and_e r9
  obtain ⟨m11, r11⟩ := and_e r10
  obtain ⟨m12, r12⟩ := and_e r11
  obtain ⟨m13, r13⟩ := and_e r12
  obtain ⟨m14, r14⟩ := and_e r13
  obtain ⟨m15, r15⟩ := and_e r14
  obtain ⟨m16, r16⟩ := and_e r15
  obtain ⟨m17, r17⟩ := and_e r16
  obtain ⟨m18, r18⟩ := and_e r17
  obtain ⟨m19, r19⟩ := and_e r18
  obtain ⟨m20, r20⟩ := and_e r19
  have n3 := not_v (Cond.before_iff.mp (hsets _ (List.mem_of_getElem? (i := 2) rfl)))
  obtain ⟨cs, ecs⟩ := is_v (Cond.before_iff.mp (hsets _ (List.mem_of_getElem? (i := 1) rfl)))
  have SC : Sta s s.heap "java/lang/String" "COMPACT_STRINGS" "Z" (.int cs) := Sta.start ecs (Or.inl (hsets _ (List.mem_of_getElem? (i := 0) rfl)))
  have hcs : ¬ (cs = (0 : Int32)) := gotF (Cond.eq_ints ecs (Term.int_eval (0))) n3
  obtain ⟨fm, efm, hfm⟩ := isR_v (Cond.before_iff.mp (hsets _ (List.mem_of_getElem? (i := 8) rfl)))
  have SF : Sta s s.heap "jdk/internal/util/Preconditions" "SIOOBE_FORMATTER" "Ljava/util/function/BiFunction;" fm := Sta.start efm (Or.inl (hsets _ (List.mem_of_getElem? (i := 7) rfl)))
  obtain ⟨dre, xre⟩ := exa_v m1
  have Tre := Sta.start xre (Or.inr ⟨(hw _ (List.mem_of_getElem? (i := 1) rfl)), (hw _ (List.mem_of_getElem? (i := 2) rfl))⟩)
  have Ere := Exa.start xre m1
  obtain ⟨sre, yre⟩ := exa_v m2
  have Ire := Exa.start yre m2
  have Wre := Fld.start ((fld_at xre).symm.trans yre)
  have Cre := Fld.start ((fld_at yre).symm.trans (own_int m6))
  obtain ⟨vre, zre⟩ := arr_v m3
  have Fre := Fld.start ((fld_at yre).symm.trans zre)
  obtain ⟨clre, Are⟩ := Arr.start zre m3
  have hAre := Arr.fin (Z := s) (U := s) (State.Warmed39.refl s).alike Are
  obtain ⟨qare, qbre⟩ := own_ln zre hAre m5
  have Vre : Arv s s.heap vre clre.cls .byte (Int32.ofNat ([114, 101, 97, 100] : List Int32).length) ((([114, 101, 97, 100] : List Int32).map (fun c => c.toInt8.toInt32)).map Value.int) (.int 0) := Arv.start (vs := [(.int (114 : Int32)), (.int (101 : Int32)), (.int (97 : Int32)), (.int (100 : Int32))]) (z := (4 : Int32)) hfit Are qare qbre (by decide) rfl ⟨own_el zre hAre (by decide) m7, own_el zre hAre (by decide) m8, own_el zre hAre (by decide) m9, own_el zre hAre (by decide) m10, trivial⟩
  obtain ⟨dwq, xwq⟩ := exa_v m11
  have Twq := Sta.start xwq (Or.inr ⟨(hw _ (List.mem_of_getElem? (i := 1) rfl)), (hw _ (List.mem_of_getElem? (i := 214) rfl))⟩)
  have Ewq := Exa.start xwq m11
  obtain ⟨swq, ywq⟩ := exa_v m12
  have Iwq := Exa.start ywq m12
  have Wwq := Fld.start ((fld_at xwq).symm.trans ywq)
  have Cwq := Fld.start ((fld_at ywq).symm.trans (own_int m16))
  obtain ⟨vwq, zwq⟩ := arr_v m13
  have Fwq := Fld.start ((fld_at ywq).symm.trans zwq)
  obtain ⟨clwq, Awq⟩ := Arr.start zwq m13
  have hAwq := Arr.fin (Z := s) (U := s) (State.Warmed39.refl s).alike Awq
  obtain ⟨qawq, qbwq⟩ := own_ln zwq hAwq m15
  have hEL : EW s _ consts_1 := (EW.cons (hw _ (List.mem_of_getElem? (i := 67) rfl)) (by decide) (EW.cons (hw _ (List.mem_of_getElem? (i := 117) rfl)) (by decide) (EW.cons (hw _ (List.mem_of_getElem? (i := 118) rfl)) (by decide) (EW.cons (hw _ (List.mem_of_getElem? (i := 41) rfl)) (by decide) EW.nil))))
  have CH0 : CHv s consts_1 s.vm s.heap := CHv.start hEL (fun p hp => hcalls.1 p hp) (hsets _ (List.mem_of_getElem? (i := 2) rfl)) (hw _ (List.mem_of_getElem? (i := 21) rfl)) (hw _ (List.mem_of_getElem? (i := 17) rfl))
  have Vwq : Arv s s.heap vwq clwq.cls .byte (Int32.ofNat ([119, 114, 105, 116, 101] : List Int32).length) ((([119, 114, 105, 116, 101] : List Int32).map (fun c => c.toInt8.toInt32)).map Value.int) (.int 0) := Arv.start (vs := [(.int (119 : Int32)), (.int (114 : Int32)), (.int (105 : Int32)), (.int (116 : Int32)), (.int (101 : Int32))]) (z := (5 : Int32)) hfit Awq qawq qbwq (by decide) rfl ⟨own_el zwq hAwq (by decide) m17, own_el zwq hAwq (by decide) m18, own_el zwq hAwq (by decide) m19, own_el zwq hAwq (by decide) m20, own_el zwq hAwq (by decide) r20, trivial⟩
  obtain ⟨n, o, h1, h2, h3, _, L, rfl, ⟨rfl, N⟩, hq⟩ := rm0 l s _ hw tables_1 i0 i1 i2 i3 cs fm dre sre vre dwq swq vwq clre.cls clwq.cls s.heap s.heap.size (Nat.le_refl _) (Old.start s) SC hcs SF hfm Tre Ere Wre Ire Cre Fre Vre Twq Ewq Wwq Iwq Cwq Fwq Vwq p e ha hc hk s m _ below hf ((Spec.applies_iff_loose hf).mp happ).1 ⟨rfl, State.Warmed39.refl s, rfl, CH0⟩ trivial
  refine ⟨n, _, h1, h2, h3, hpost _ _ _ _ _ _ ⟨Cond.after_iff.mpr rfl, Cond.after_iff.mpr (eq_i res_at (Term.int_eval (1)) rfl), trivial⟩ ⟨hq.1, hq.2.1, hq.2.2.1, (hq.2.2.2.sift fun y hy => Or.inr (N y hy)).mono (by decide) (by decide)⟩⟩
theorem main_1_1 : Claimed_1_1 := comes_1 fun _ _ _ _ _ _ h hF => ⟨h.1, hF⟩
theorem main_1_2 : Claimed_1_2 := comes_1 fun _ _ _ _ _ _ h hF => ⟨h.2.1, hF⟩
end Jvm.Pilot.@@N@@
namespace Jvm.Pilot.@@N@@
open Jvm Jvm.ClassFile Sem Op Lib Jvm.Free Jvm.Stand Jvm.Pilot.@@N@@.Jvm.D
/-! MADE BY PROGRAM (witnessworld.py) out of the Statement's table words and the real class files: 27 classes; the members and pool entries that the words name. The judged class is class 1, her method 1. -/
namespace start1
open Jvm.ClassFile
def u (s : String) : CpInfo := .utf8 (stringToUtf16 s)
/-- a pool by its gaps: so many unusable entries, then the entry; so many at the end -/
def gap : Nat → List CpInfo → List CpInfo
  | 0, r => r
  | n + 1, r => .unusable :: gap n r
def poolList (es : List (Nat × CpInfo)) (last : Nat) : List CpInfo := es.foldr (fun e r => gap e.1 (e.2 :: r)) (gap last [])
def pool (es : List (Nat × CpInfo)) (last : Nat) : Array CpInfo := ⟨poolList es last⟩
def fileOf (pool : Array CpInfo) (this : Nat) (attrs : Array Attribute := #[]) (ms : Array MethodInfo := #[]) (fl : Nat := 33) (sup : Nat := 0) (ifs : Array Nat := #[]) (fds : Array FieldInfo := #[]) : ClassFile where
  minorVersion := 0
  majorVersion := 65
  constantPool := pool
  accessFlags := fl
  thisClass := this
  superClass := sup
  interfaces := ifs
  fields := fds
  methods := ms
  attributes := attrs
def plain (name : String) (sup : Option ClassId) : Class where
  name := name
  kind := .ordinary
  loader := none
  accessFlags := 33
  super := sup
  interfaces := #[]
  cf := none
  fields := #[]
  methods := #[]
  instanceTypes := #[]
  staticTypes := #[]
  resolved := #[]
  callSites := []
  init := .initialized
  statics := none
  mirror := none

def pool0 : Array CpInfo := pool [(5, u "<init>"), (0, u "()V"), (1, .class_ 10), (1, u "java/lang/Object"), (85, u "clone"), (0, u "()Ljava/lang/Object;")] 26

def k0c0 : Code := { maxStack := 0, maxLocals := 1, code := object_method_1_code, exceptionTable := #[], attributes := #[] }
def k0m0 : Method := { name := "<init>", desc := "()V", sig := { parameters := [], returnType := none }, accessFlags := 1, code := some k0c0 }
def k0m1 : Method := { name := "clone", desc := "()Ljava/lang/Object;", sig := { parameters := [], returnType := some (.object "java/lang/Object") }, accessFlags := 260, code := none }
/-- java/lang/Object -/
def k0 : Class := { plain "java/lang/Object" none with
  accessFlags := 33
  interfaces := #[]
  cf := some (fileOf pool0 8 #[] #[{ accessFlags := 1, nameIndex := 5, descriptorIndex := 6, attributes := #[] }, { accessFlags := 260, nameIndex := 96, descriptorIndex := 97, attributes := #[] }] 33 0 #[] #[])
  fields := #[]
  methods := #[k0m0, k0m1]
  instanceTypes := #[]
  staticTypes := #[]
  resolved := Array.replicate 124 none
  statics := none }

def pool1 : Array CpInfo := pool [(2, .class_ 4), (1, u "java/lang/Object"), (0, u "<init>"), (0, u "()V"), (0, .fieldref 8 9), (0, .class_ 10), (0, .nameAndType 11 12), (0, u "com/example/emex/emex/read/FileRefusal"), (0, u "WRITE"), (0, u "Lcom/example/emex/emex/read/FileRefusal;"), (0, .fieldref 8 14), (0, .nameAndType 15 12), (0, u "READ"), (0, .methodref 17 18), (0, .class_ 19), (0, .nameAndType 20 21), (0, u "com/example/emex/emex/read/FileRefusalLinePinLaw"), (0, u "make"), (0, u "(ICC)Ljava/lang/String;"), (0, .methodref 8 23), (0, .nameAndType 24 25), (0, u "line"), (0, u "(Ljava/lang/String;Ljava/lang/String;)Ljava/lang/String;"), (0, .methodref 27 28), (0, .class_ 29), (0, .nameAndType 30 31), (0, u "java/lang/String"), (0, u "length"), (0, u "()I"), (0, .methodref 27 33), (0, .nameAndType 34 35), (0, u "charAt"), (0, u "(I)C"), (0, .methodref 27 37), (0, .nameAndType 5 38), (0, u "([C)V"), (0, .methodref 27 40), (0, .nameAndType 41 42), (0, u "valueOf"), (0, u "(C)Ljava/lang/String;"), (2, u "law"), (0, u "(IIII)Z")] 3

def k1m0 : Method := { name := "<init>", desc := "()V", sig := { parameters := [], returnType := none }, accessFlags := 1, code := none }
def k1c1 : Code := { maxStack := 3, maxLocals := 19, code := code, exceptionTable := #[], attributes := #[] }
def k1m1 : Method := { name := "law", desc := "(IIII)Z", sig := { parameters := [.int, .int, .int, .int], returnType := some .boolean }, accessFlags := 9, code := some k1c1 }
def k1c2 : Code := { maxStack := 6, maxLocals := 3, code := method_3_code, exceptionTable := #[], attributes := #[] }
def k1m2 : Method := { name := "make", desc := "(ICC)Ljava/lang/String;", sig := { parameters := [.int, .char, .char], returnType := some (.object "java/lang/String") }, accessFlags := 10, code := some k1c2 }
/-- com/example/emex/emex/read/FileRefusalLinePinLaw -/
def k1 : Class := { plain "com/example/emex/emex/read/FileRefusalLinePinLaw" (some 0) with
  accessFlags := 49
  interfaces := #[]
  cf := some (fileOf pool1 17 #[] #[{ accessFlags := 1, nameIndex := 5, descriptorIndex := 6, attributes := #[] }, { accessFlags := 9, nameIndex := 45, descriptorIndex := 46, attributes := #[] }, { accessFlags := 10, nameIndex := 20, descriptorIndex := 21, attributes := #[] }] 49 2 #[] #[])
  fields := #[]
  methods := #[k1m0, k1m1, k1m2]
  instanceTypes := #[]
  staticTypes := #[]
  resolved := Array.replicate 50 none
  statics := none }

def pool2 : Array CpInfo := pool [(1, .class_ 2), (0, u "java/lang/constant/Constable"), (0, .class_ 4), (0, u "java/lang/Object")] 6

/-- java/lang/constant/Constable -/
def k2 : Class := { plain "java/lang/constant/Constable" (some 0) with
  accessFlags := 1537
  interfaces := #[]
  cf := some (fileOf pool2 1 #[] #[] 1537 3 #[] #[])
  fields := #[]
  methods := #[]
  instanceTypes := #[]
  staticTypes := #[]
  resolved := Array.replicate 11 none
  statics := none }

def pool3 : Array CpInfo := pool [(1, .class_ 2), (0, u "java/lang/Comparable"), (0, .class_ 4), (0, u "java/lang/Object")] 7

/-- java/lang/Comparable -/
def k3 : Class := { plain "java/lang/Comparable" (some 0) with
  accessFlags := 1537
  interfaces := #[]
  cf := some (fileOf pool3 1 #[] #[] 1537 3 #[] #[])
  fields := #[]
  methods := #[]
  instanceTypes := #[]
  staticTypes := #[]
  resolved := Array.replicate 12 none
  statics := none }

def pool4 : Array CpInfo := pool [(1, .class_ 2), (0, u "java/io/Serializable"), (0, .class_ 4), (0, u "java/lang/Object")] 2

/-- java/io/Serializable -/
def k4 : Class := { plain "java/io/Serializable" (some 0) with
  accessFlags := 1537
  interfaces := #[]
  cf := some (fileOf pool4 1 #[] #[] 1537 3 #[] #[])
  fields := #[]
  methods := #[]
  instanceTypes := #[]
  staticTypes := #[]
  resolved := Array.replicate 7 none
  statics := none }

def pool5 : Array CpInfo := pool [(2, .class_ 4), (1, u "java/lang/Enum"), (0, u "name"), (0, u "Ljava/lang/String;"), (2, u "ordinal"), (0, u "I"), (1, .class_ 14), (1, u "java/lang/Object"), (4, u "hash"), (86, .class_ 108), (1, u "java/lang/Enum$EnumDesc"), (2, .class_ 112), (0, u "java/lang/constant/Constable"), (0, .class_ 114), (0, u "java/lang/Comparable"), (0, .class_ 116), (0, u "java/io/Serializable")] 87

/-- java/lang/Enum -/
def k5 : Class := { plain "java/lang/Enum" (some 0) with
  accessFlags := 1057
  interfaces := #[2, 3, 4]
  cf := some (fileOf pool5 2 #[.nestMembers #[106]] #[] 1057 12 #[111, 113, 115] #[{ accessFlags := 18, nameIndex := 5, descriptorIndex := 6, attributes := #[] }, { accessFlags := 18, nameIndex := 9, descriptorIndex := 10, attributes := #[] }, { accessFlags := 2, nameIndex := 19, descriptorIndex := 10, attributes := #[] }])
  fields := #[{ name := "name", type := (.object "java/lang/String"), accessFlags := 18, slot := 0, constantValue := 0 }, { name := "ordinal", type := .int, accessFlags := 18, slot := 1, constantValue := 0 }, { name := "hash", type := .int, accessFlags := 2, slot := 2, constantValue := 0 }]
  methods := #[]
  instanceTypes := #[(.object "java/lang/String"), .int, .int]
  staticTypes := #[]
  resolved := Array.replicate 204 none
  statics := none }

def pool6 : Array CpInfo := pool [(1, .class_ 2), (0, u "com/example/emex/emex/read/FileRefusal"), (2, u "READ"), (0, u "Lcom/example/emex/emex/read/FileRefusal;"), (2, u "WRITE"), (2, u "$VALUES"), (0, u "[Lcom/example/emex/emex/read/FileRefusal;"), (6, .class_ 22), (1, u "java/lang/Enum"), (4, u "<init>"), (1, .fieldref 1 30), (0, .nameAndType 31 32), (0, u "verb"), (0, u "Ljava/lang/String;"), (0, .class_ 34), (0, u "java/lang/StringBuilder"), (0, .methodref 33 36), (0, .nameAndType 27 37), (0, u "()V"), (0, .string 39), (0, u "cannot "), (0, .methodref 33 41), (0, .nameAndType 42 43), (0, u "append"), (0, u "(Ljava/lang/String;)Ljava/lang/StringBuilder;"), (0, .string 45), (0, u " "), (0, .string 47), (0, u ": "), (0, .methodref 33 49), (0, .nameAndType 50 51), (0, u "toString"), (0, u "()Ljava/lang/String;"), (20, u "line"), (0, u "(Ljava/lang/String;Ljava/lang/String;)Ljava/lang/String;")] 4

def k6c0 : Code := { maxStack := 2, maxLocals := 3, code := prog_17_method_4_code, exceptionTable := #[], attributes := #[] }
def k6m0 : Method := { name := "line", desc := "(Ljava/lang/String;Ljava/lang/String;)Ljava/lang/String;", sig := { parameters := [(.object "java/lang/String"), (.object "java/lang/String")], returnType := some (.object "java/lang/String") }, accessFlags := 1, code := some k6c0 }
/-- com/example/emex/emex/read/FileRefusal -/
def k6 : Class := { plain "com/example/emex/emex/read/FileRefusal" (some 5) with
  accessFlags := 16433
  interfaces := #[]
  cf := some (fileOf pool6 1 #[] #[{ accessFlags := 1, nameIndex := 72, descriptorIndex := 73, attributes := #[] }] 16433 20 #[] #[{ accessFlags := 16409, nameIndex := 5, descriptorIndex := 6, attributes := #[] }, { accessFlags := 16409, nameIndex := 9, descriptorIndex := 6, attributes := #[] }, { accessFlags := 18, nameIndex := 31, descriptorIndex := 32, attributes := #[] }, { accessFlags := 4122, nameIndex := 12, descriptorIndex := 13, attributes := #[] }])
  fields := #[{ name := "READ", type := (.object "com/example/emex/emex/read/FileRefusal"), accessFlags := 16409, slot := 0, constantValue := 0 }, { name := "WRITE", type := (.object "com/example/emex/emex/read/FileRefusal"), accessFlags := 16409, slot := 1, constantValue := 0 }, { name := "verb", type := (.object "java/lang/String"), accessFlags := 18, slot := 3, constantValue := 0 }, { name := "$VALUES", type := (.array (.object "com/example/emex/emex/read/FileRefusal")), accessFlags := 4122, slot := 2, constantValue := 0 }]
  methods := #[k6m0]
  instanceTypes := #[(.object "java/lang/String"), .int, .int, (.object "java/lang/String")]
  staticTypes := #[(.object "com/example/emex/emex/read/FileRefusal"), (.object "com/example/emex/emex/read/FileRefusal"), (.array (.object "com/example/emex/emex/read/FileRefusal"))]
  resolved := Array.replicate 78 none
  statics := some 0 }

def pool7 : Array CpInfo := pool [(2, .class_ 4), (1, u "java/lang/CharSequence"), (42, .class_ 48), (0, u "java/lang/CharSequence$1CodePointIterator"), (10, .class_ 60), (0, u "java/lang/CharSequence$1CharIterator"), (5, .class_ 67), (0, u "java/lang/Object")] 63

/-- java/lang/CharSequence -/
def k7 : Class := { plain "java/lang/CharSequence" (some 0) with
  accessFlags := 1537
  interfaces := #[]
  cf := some (fileOf pool7 2 #[.nestMembers #[47, 59]] #[] 1537 66 #[] #[])
  fields := #[]
  methods := #[]
  instanceTypes := #[]
  staticTypes := #[]
  resolved := Array.replicate 131 none
  statics := none }

def pool8 : Array CpInfo := pool [(1, .class_ 2), (0, u "java/lang/constant/ConstantDesc"), (0, .class_ 4), (0, u "java/lang/Object")] 32

/-- java/lang/constant/ConstantDesc -/
def k8 : Class := { plain "java/lang/constant/ConstantDesc" (some 0) with
  accessFlags := 1537
  interfaces := #[]
  cf := some (fileOf pool8 1 #[] #[] 1537 3 #[] #[])
  fields := #[]
  methods := #[]
  instanceTypes := #[]
  staticTypes := #[]
  resolved := Array.replicate 37 none
  statics := none }

def pool9 : Array CpInfo := pool [(1, .methodref 2 3), (0, .class_ 4), (0, .nameAndType 5 6), (0, u "java/lang/Object"), (0, u "<init>"), (0, u "()V"), (0, .string 8), (0, u ""), (0, .fieldref 10 11), (0, .class_ 12), (0, .nameAndType 13 14), (0, u "java/lang/String"), (0, u "value"), (0, u "[B"), (0, .fieldref 10 16), (0, .nameAndType 17 18), (0, u "coder"), (0, u "B"), (2, u "hash"), (0, u "I"), (2, u "hashIsZero"), (0, u "Z"), (0, .methodref 10 28), (0, .nameAndType 5 29), (0, u "([CIILjava/lang/Void;)V"), (8, .fieldref 10 39), (0, .nameAndType 40 26), (0, u "COMPACT_STRINGS"), (1, .class_ 44), (1, u "java/lang/StringUTF16"), (0, u "compress"), (1, .methodref 42 48), (0, .nameAndType 49 50), (0, u "coderFromArrayLen"), (0, u "([BI)B"), (2, u "toBytes"), (0, .methodref 55 56), (0, .class_ 57), (0, .nameAndType 58 59), (0, u "java/util/Arrays"), (0, u "copyOfRange"), (0, u "([BII)[B"), (47, .class_ 109), (1, u "java/lang/StringLatin1"), (32, u "()Z"), (34, .methodref 42 178), (0, .nameAndType 45 179), (0, u "([CII)[B"), (13, .class_ 195), (1, u "java/lang/System"), (13, .methodref 10 210), (0, .nameAndType 5 211), (0, u "([BB)V"), (0, .methodref 193 213), (0, .nameAndType 214 215), (0, u "arraycopy"), (0, u "(Ljava/lang/Object;ILjava/lang/Object;II)V"), (118, u "()I"), (0, .methodref 10 336), (0, .nameAndType 17 337), (0, u "()B"), (2, u "()[B"), (22, u "([BI)C"), (5, u "(C)Z"), (21, u "(II)V"), (35, u "(I)C"), (61, .methodref 10 490), (0, .nameAndType 5 491), (0, u "(Ljava/lang/AbstractStringBuilder;Ljava/lang/Void;)V"), (0, .methodref 10 493), (0, .nameAndType 494 142), (0, u "isLatin1"), (0, .methodref 107 496), (0, .nameAndType 497 363), (0, u "charAt"), (3, u "checkIndex"), (4, .nameAndType 507 334), (0, u "length"), (24, u "getBytes"), (16, .methodref 550 506), (0, .class_ 551), (0, u "java/lang/AbstractStringBuilder"), (0, .methodref 550 553), (0, .nameAndType 554 340), (0, u "getValue"), (20, .class_ 576), (0, u "java/lang/CharSequence"), (22, u "CASE_INSENSITIVE_ORDER"), (0, u "Ljava/util/Comparator;"), (181, u "valueOf"), (0, u "(C)Ljava/lang/String;"), (37, u "([BIB)V"), (188, u "([C)V"), (4, .methodref 107 1016), (0, .nameAndType 1017 369), (0, u "canEncode"), (0, .methodref 107 1019), (0, .nameAndType 53 1020), (0, u "(C)[B"), (26, .methodref 550 493), (5, .fieldref 1054 1055), (0, .class_ 1056), (0, .nameAndType 1057 1058), (0, u "jdk/internal/util/Preconditions"), (0, u "SIOOBE_FORMATTER"), (0, u "Ljava/util/function/BiFunction;"), (0, .methodref 1054 1060), (0, .nameAndType 501 1061), (0, u "(IILjava/util/function/BiFunction;)I"), (39, u "serialPersistentFields"), (0, u "[Ljava/io/ObjectStreamField;"), (0, .class_ 1104), (0, u "java/lang/String$CaseInsensitiveComparator"), (1, .class_ 1107), (0, u "java/io/Serializable"), (0, .class_ 1109), (0, u "java/lang/Comparable"), (0, .class_ 1111), (0, u "java/lang/constant/Constable"), (0, .class_ 1113), (0, u "java/lang/constant/ConstantDesc"), (2, u "serialVersionUID"), (0, u "J"), (3, u "REPL"), (0, u "C"), (2, u "LATIN1"), (1, u "UTF16"), (105, u "(Ljava/lang/StringBuilder;)V")] 217

def k9m0 : Method := { name := "<init>", desc := "()V", sig := { parameters := [], returnType := none }, accessFlags := 1, code := none }
def k9c1 : Code := { maxStack := 5, maxLocals := 2, code := jdk_42_method_3_code, exceptionTable := #[], attributes := #[] }
def k9m1 : Method := { name := "<init>", desc := "([C)V", sig := { parameters := [(.array .char)], returnType := none }, accessFlags := 1, code := some k9c1 }
def k9c2 : Code := { maxStack := 3, maxLocals := 2, code := jdk_42_method_53_code, exceptionTable := #[], attributes := #[] }
def k9m2 : Method := { name := "<init>", desc := "(Ljava/lang/StringBuilder;)V", sig := { parameters := [(.object "java/lang/StringBuilder")], returnType := none }, accessFlags := 1, code := some k9c2 }
def k9c3 : Code := { maxStack := 2, maxLocals := 1, code := jdk_42_method_54_code, exceptionTable := #[], attributes := #[] }
def k9m3 : Method := { name := "length", desc := "()I", sig := { parameters := [], returnType := some .int }, accessFlags := 1, code := some k9c3 }
def k9c4 : Code := { maxStack := 2, maxLocals := 2, code := jdk_42_method_56_code, exceptionTable := #[], attributes := #[] }
def k9m4 : Method := { name := "charAt", desc := "(I)C", sig := { parameters := [.int], returnType := some .char }, accessFlags := 1, code := some k9c4 }
def k9c5 : Code := { maxStack := 4, maxLocals := 1, code := jdk_42_method_139_code, exceptionTable := #[], attributes := #[] }
def k9m5 : Method := { name := "valueOf", desc := "(C)Ljava/lang/String;", sig := { parameters := [.char], returnType := some (.object "java/lang/String") }, accessFlags := 9, code := some k9c5 }
def k9c6 : Code := { maxStack := 5, maxLocals := 4, code := jdk_42_method_147_code, exceptionTable := #[], attributes := #[] }
def k9m6 : Method := { name := "getBytes", desc := "([BIB)V", sig := { parameters := [(.array .byte), .int, .byte], returnType := none }, accessFlags := 0, code := some k9c6 }
def k9c7 : Code := { maxStack := 4, maxLocals := 6, code := jdk_42_method_149_code, exceptionTable := #[], attributes := #[] }
def k9m7 : Method := { name := "<init>", desc := "([CIILjava/lang/Void;)V", sig := { parameters := [(.array .char), .int, .int, (.object "java/lang/Void")], returnType := none }, accessFlags := 2, code := some k9c7 }
def k9c8 : Code := { maxStack := 5, maxLocals := 5, code := jdk_42_method_150_code, exceptionTable := #[], attributes := #[] }
def k9m8 : Method := { name := "<init>", desc := "(Ljava/lang/AbstractStringBuilder;Ljava/lang/Void;)V", sig := { parameters := [(.object "java/lang/AbstractStringBuilder"), (.object "java/lang/Void")], returnType := none }, accessFlags := 0, code := some k9c8 }
def k9c9 : Code := { maxStack := 2, maxLocals := 3, code := jdk_42_method_151_code, exceptionTable := #[], attributes := #[] }
def k9m9 : Method := { name := "<init>", desc := "([BB)V", sig := { parameters := [(.array .byte), .byte], returnType := none }, accessFlags := 0, code := some k9c9 }
def k9c10 : Code := { maxStack := 1, maxLocals := 1, code := jdk_42_method_152_code, exceptionTable := #[], attributes := #[] }
def k9m10 : Method := { name := "coder", desc := "()B", sig := { parameters := [], returnType := some .byte }, accessFlags := 0, code := some k9c10 }
def k9c11 : Code := { maxStack := 1, maxLocals := 1, code := jdk_42_method_154_code, exceptionTable := #[], attributes := #[] }
def k9m11 : Method := { name := "isLatin1", desc := "()Z", sig := { parameters := [], returnType := some .boolean }, accessFlags := 0, code := some k9c11 }
def k9c12 : Code := { maxStack := 3, maxLocals := 2, code := jdk_42_method_155_code, exceptionTable := #[], attributes := #[] }
def k9m12 : Method := { name := "checkIndex", desc := "(II)V", sig := { parameters := [.int, .int], returnType := none }, accessFlags := 8, code := some k9c12 }
/-- java/lang/String -/
def k9 : Class := { plain "java/lang/String" (some 0) with
  accessFlags := 49
  interfaces := #[4, 3, 7, 2, 8]
  cf := some (fileOf pool9 10 #[.nestMembers #[1103]] #[{ accessFlags := 1, nameIndex := 5, descriptorIndex := 6, attributes := #[] }, { accessFlags := 1, nameIndex := 5, descriptorIndex := 1010, attributes := #[] }, { accessFlags := 1, nameIndex := 5, descriptorIndex := 1233, attributes := #[] }, { accessFlags := 1, nameIndex := 507, descriptorIndex := 334, attributes := #[] }, { accessFlags := 1, nameIndex := 497, descriptorIndex := 427, attributes := #[] }, { accessFlags := 9, nameIndex := 782, descriptorIndex := 783, attributes := #[] }, { accessFlags := 0, nameIndex := 532, descriptorIndex := 821, attributes := #[] }, { accessFlags := 2, nameIndex := 5, descriptorIndex := 29, attributes := #[] }, { accessFlags := 0, nameIndex := 5, descriptorIndex := 491, attributes := #[] }, { accessFlags := 0, nameIndex := 5, descriptorIndex := 211, attributes := #[] }, { accessFlags := 0, nameIndex := 17, descriptorIndex := 337, attributes := #[] }, { accessFlags := 0, nameIndex := 494, descriptorIndex := 142, attributes := #[] }, { accessFlags := 8, nameIndex := 501, descriptorIndex := 391, attributes := #[] }] 49 2 #[1106, 1108, 575, 1110, 1112] #[{ accessFlags := 18, nameIndex := 13, descriptorIndex := 14, attributes := #[] }, { accessFlags := 18, nameIndex := 17, descriptorIndex := 18, attributes := #[] }, { accessFlags := 2, nameIndex := 21, descriptorIndex := 22, attributes := #[] }, { accessFlags := 2, nameIndex := 25, descriptorIndex := 26, attributes := #[] }, { accessFlags := 26, nameIndex := 1116, descriptorIndex := 1117, attributes := #[] }, { accessFlags := 24, nameIndex := 40, descriptorIndex := 26, attributes := #[] }, { accessFlags := 26, nameIndex := 1101, descriptorIndex := 1102, attributes := #[] }, { accessFlags := 26, nameIndex := 1121, descriptorIndex := 1122, attributes := #[] }, { accessFlags := 25, nameIndex := 599, descriptorIndex := 600, attributes := #[] }, { accessFlags := 24, nameIndex := 1125, descriptorIndex := 18, attributes := #[] }, { accessFlags := 24, nameIndex := 1127, descriptorIndex := 18, attributes := #[] }])
  fields := #[{ name := "value", type := (.array .byte), accessFlags := 18, slot := 0, constantValue := 0 }, { name := "coder", type := .byte, accessFlags := 18, slot := 1, constantValue := 0 }, { name := "hash", type := .int, accessFlags := 2, slot := 2, constantValue := 0 }, { name := "hashIsZero", type := .boolean, accessFlags := 2, slot := 3, constantValue := 0 }, { name := "serialVersionUID", type := .long, accessFlags := 26, slot := 0, constantValue := 0 }, { name := "COMPACT_STRINGS", type := .boolean, accessFlags := 24, slot := 1, constantValue := 0 }, { name := "serialPersistentFields", type := (.array (.object "java/io/ObjectStreamField")), accessFlags := 26, slot := 2, constantValue := 0 }, { name := "REPL", type := .char, accessFlags := 26, slot := 3, constantValue := 0 }, { name := "CASE_INSENSITIVE_ORDER", type := (.object "java/util/Comparator"), accessFlags := 25, slot := 4, constantValue := 0 }, { name := "LATIN1", type := .byte, accessFlags := 24, slot := 5, constantValue := 0 }, { name := "UTF16", type := .byte, accessFlags := 24, slot := 6, constantValue := 0 }]
  methods := #[k9m0, k9m1, k9m2, k9m3, k9m4, k9m5, k9m6, k9m7, k9m8, k9m9, k9m10, k9m11, k9m12]
  instanceTypes := #[(.array .byte), .byte, .int, .boolean]
  staticTypes := #[.long, .boolean, (.array (.object "java/io/ObjectStreamField")), .char, (.object "java/util/Comparator"), .byte, .byte]
  resolved := Array.replicate 1451 none
  statics := some 1 }

def pool10 : Array CpInfo := pool [(1, .class_ 2), (0, u "java/lang/String"), (1, .class_ 6), (1, u "java/lang/Object"), (0, u "<init>"), (0, u "()V"), (0, .methodref 1 10), (0, .nameAndType 11 12), (0, u "checkIndex"), (0, u "(II)V"), (1, .class_ 16), (1, u "java/lang/StringLatin1"), (36, u "([BI)C"), (36, u "canEncode"), (14, u "(C)Z"), (15, u "$assertionsDisabled"), (0, u "Z"), (98, .class_ 223), (1, u "java/lang/StringLatin1$LinesSpliterator"), (28, u "charAt"), (127, u "toBytes"), (1, u "(C)[B"), (7, .class_ 391), (0, u "java/lang/StringLatin1$CharsSpliterator")] 3

def k10m0 : Method := { name := "<init>", desc := "()V", sig := { parameters := [], returnType := none }, accessFlags := 0, code := none }
def k10c1 : Code := { maxStack := 2, maxLocals := 2, code := jdk_43_method_2_code, exceptionTable := #[], attributes := #[] }
def k10m1 : Method := { name := "charAt", desc := "([BI)C", sig := { parameters := [(.array .byte), .int], returnType := some .char }, accessFlags := 9, code := some k10c1 }
def k10c2 : Code := { maxStack := 2, maxLocals := 1, code := jdk_43_method_3_code, exceptionTable := #[], attributes := #[] }
def k10m2 : Method := { name := "canEncode", desc := "(C)Z", sig := { parameters := [.char], returnType := some .boolean }, accessFlags := 9, code := some k10c2 }
def k10c3 : Code := { maxStack := 4, maxLocals := 1, code := jdk_43_method_46_code, exceptionTable := #[], attributes := #[] }
def k10m3 : Method := { name := "toBytes", desc := "(C)[B", sig := { parameters := [.char], returnType := some (.array .byte) }, accessFlags := 9, code := some k10c3 }
/-- java/lang/StringLatin1 -/
def k10 : Class := { plain "java/lang/StringLatin1" (some 0) with
  accessFlags := 48
  interfaces := #[]
  cf := some (fileOf pool10 14 #[.nestMembers #[390, 221]] #[{ accessFlags := 0, nameIndex := 7, descriptorIndex := 8, attributes := #[] }, { accessFlags := 9, nameIndex := 252, descriptorIndex := 53, attributes := #[] }, { accessFlags := 9, nameIndex := 90, descriptorIndex := 105, attributes := #[] }, { accessFlags := 9, nameIndex := 380, descriptorIndex := 382, attributes := #[] }] 48 4 #[] #[{ accessFlags := 4120, nameIndex := 121, descriptorIndex := 122, attributes := #[] }])
  fields := #[{ name := "$assertionsDisabled", type := .boolean, accessFlags := 4120, slot := 0, constantValue := 0 }]
  methods := #[k10m0, k10m1, k10m2, k10m3]
  instanceTypes := #[]
  staticTypes := #[.boolean]
  resolved := Array.replicate 395 none
  statics := none }

def pool11 : Array CpInfo := pool [(1, .class_ 2), (0, u "java/lang/Appendable"), (0, .class_ 4), (0, u "java/lang/Object")] 9

/-- java/lang/Appendable -/
def k11 : Class := { plain "java/lang/Appendable" (some 0) with
  accessFlags := 1537
  interfaces := #[]
  cf := some (fileOf pool11 1 #[] #[] 1537 3 #[] #[])
  fields := #[]
  methods := #[]
  instanceTypes := #[]
  staticTypes := #[]
  resolved := Array.replicate 14 none
  statics := none }

def pool12 : Array CpInfo := pool [(1, .class_ 2), (0, u "java/lang/String"), (0, .methodref 4 5), (0, .class_ 6), (0, .nameAndType 7 8), (0, u "java/lang/Object"), (0, u "<init>"), (0, u "()V"), (1, .class_ 12), (1, u "java/lang/AbstractStringBuilder"), (0, u "EMPTYVALUE"), (0, u "[B"), (0, .fieldref 10 16), (0, .nameAndType 17 14), (0, u "value"), (0, .fieldref 1 19), (0, .nameAndType 20 21), (0, u "COMPACT_STRINGS"), (0, u "Z"), (0, .fieldref 10 23), (0, .nameAndType 24 25), (0, u "coder"), (0, u "B"), (6, .methodref 1 33), (0, .nameAndType 34 35), (0, u "length"), (0, u "()I"), (3, .integer 2147483647), (0, .methodref 1 41), (0, .nameAndType 24 42), (0, u "()B"), (2, u "append"), (0, u "(Ljava/lang/String;)Ljava/lang/AbstractStringBuilder;"), (1, .class_ 49), (0, u "java/lang/CharSequence"), (19, u "(Ljava/lang/String;)V"), (5, u "maybeLatin1"), (3, .fieldref 10 80), (0, .nameAndType 81 82), (0, u "count"), (0, u "I"), (2, u "isLatin1"), (0, u "()Z"), (13, .methodref 10 101), (0, .nameAndType 102 103), (0, u "ensureCapacityInternal"), (0, u "(I)V"), (0, .methodref 10 105), (0, .nameAndType 106 107), (0, u "newCapacity"), (0, u "(I)I"), (0, .methodref 109 110), (0, .class_ 111), (0, .nameAndType 112 113), (0, u "java/util/Arrays"), (0, u "copyOf"), (0, u "([BI)[B"), (0, .methodref 115 116), (0, .class_ 117), (0, .nameAndType 118 119), (0, u "jdk/internal/util/ArraysSupport"), (0, u "newLength"), (0, u "(III)I"), (88, .methodref 10 209), (0, .nameAndType 210 211), (0, u "putStringAt"), (0, u "(ILjava/lang/String;)V"), (5, u "inflateIfNeededFor"), (2, .nameAndType 221 222), (0, u "getBytes"), (0, u "([BIB)V"), (174, .methodref 10 398), (0, .nameAndType 217 69), (0, .methodref 1 220), (3, u "()[B"), (40, .class_ 445), (0, u "java/lang/Appendable"), (106, u "getValue")] 56

def k12m0 : Method := { name := "<init>", desc := "()V", sig := { parameters := [], returnType := none }, accessFlags := 0, code := none }
def k12c1 : Code := { maxStack := 2, maxLocals := 2, code := jdk_68_method_2_code, exceptionTable := #[], attributes := #[] }
def k12m1 : Method := { name := "<init>", desc := "(I)V", sig := { parameters := [.int], returnType := none }, accessFlags := 0, code := some k12c1 }
def k12c2 : Code := { maxStack := 1, maxLocals := 1, code := jdk_68_method_6_code, exceptionTable := #[], attributes := #[] }
def k12m2 : Method := { name := "length", desc := "()I", sig := { parameters := [], returnType := some .int }, accessFlags := 1, code := some k12c2 }
def k12c3 : Code := { maxStack := 4, maxLocals := 3, code := jdk_68_method_9_code, exceptionTable := #[], attributes := #[] }
def k12m3 : Method := { name := "ensureCapacityInternal", desc := "(I)V", sig := { parameters := [.int], returnType := none }, accessFlags := 2, code := some k12c3 }
def k12c4 : Code := { maxStack := 5, maxLocals := 6, code := jdk_68_method_10_code, exceptionTable := #[], attributes := #[] }
def k12m4 : Method := { name := "newCapacity", desc := "(I)I", sig := { parameters := [.int], returnType := some .int }, accessFlags := 2, code := some k12c4 }
def k12c5 : Code := { maxStack := 3, maxLocals := 3, code := jdk_68_method_22_code, exceptionTable := #[], attributes := #[] }
def k12m5 : Method := { name := "append", desc := "(Ljava/lang/String;)Ljava/lang/AbstractStringBuilder;", sig := { parameters := [(.object "java/lang/String")], returnType := some (.object "java/lang/AbstractStringBuilder") }, accessFlags := 1, code := some k12c5 }
def k12c6 : Code := { maxStack := 1, maxLocals := 1, code := jdk_68_method_64_code, exceptionTable := #[], attributes := #[] }
def k12m6 : Method := { name := "getValue", desc := "()[B", sig := { parameters := [], returnType := some (.array .byte) }, accessFlags := 16, code := some k12c6 }
def k12c7 : Code := { maxStack := 1, maxLocals := 1, code := jdk_68_method_68_code, exceptionTable := #[], attributes := #[] }
def k12m7 : Method := { name := "isLatin1", desc := "()Z", sig := { parameters := [], returnType := some .boolean }, accessFlags := 16, code := some k12c7 }
def k12c8 : Code := { maxStack := 2, maxLocals := 2, code := jdk_68_method_71_code, exceptionTable := #[], attributes := #[] }
def k12m8 : Method := { name := "inflateIfNeededFor", desc := "(Ljava/lang/String;)V", sig := { parameters := [(.object "java/lang/String")], returnType := none }, accessFlags := 2, code := some k12c8 }
def k12c9 : Code := { maxStack := 4, maxLocals := 3, code := jdk_68_method_73_code, exceptionTable := #[], attributes := #[] }
def k12m9 : Method := { name := "putStringAt", desc := "(ILjava/lang/String;)V", sig := { parameters := [.int, (.object "java/lang/String")], returnType := none }, accessFlags := 2, code := some k12c9 }
/-- java/lang/AbstractStringBuilder -/
def k12 : Class := { plain "java/lang/AbstractStringBuilder" (some 0) with
  accessFlags := 1056
  interfaces := #[11, 7]
  cf := some (fileOf pool12 10 #[] #[{ accessFlags := 0, nameIndex := 7, descriptorIndex := 8, attributes := #[] }, { accessFlags := 0, nameIndex := 7, descriptorIndex := 103, attributes := #[] }, { accessFlags := 1, nameIndex := 34, descriptorIndex := 35, attributes := #[] }, { accessFlags := 2, nameIndex := 102, descriptorIndex := 103, attributes := #[] }, { accessFlags := 2, nameIndex := 106, descriptorIndex := 107, attributes := #[] }, { accessFlags := 1, nameIndex := 45, descriptorIndex := 46, attributes := #[] }, { accessFlags := 16, nameIndex := 552, descriptorIndex := 403, attributes := #[] }, { accessFlags := 16, nameIndex := 85, descriptorIndex := 86, attributes := #[] }, { accessFlags := 2, nameIndex := 217, descriptorIndex := 69, attributes := #[] }, { accessFlags := 2, nameIndex := 210, descriptorIndex := 211, attributes := #[] }] 1056 4 #[444, 48] #[{ accessFlags := 0, nameIndex := 17, descriptorIndex := 14, attributes := #[] }, { accessFlags := 0, nameIndex := 24, descriptorIndex := 25, attributes := #[] }, { accessFlags := 0, nameIndex := 75, descriptorIndex := 21, attributes := #[] }, { accessFlags := 0, nameIndex := 81, descriptorIndex := 82, attributes := #[] }, { accessFlags := 26, nameIndex := 13, descriptorIndex := 14, attributes := #[] }])
  fields := #[{ name := "value", type := (.array .byte), accessFlags := 0, slot := 0, constantValue := 0 }, { name := "coder", type := .byte, accessFlags := 0, slot := 1, constantValue := 0 }, { name := "maybeLatin1", type := .boolean, accessFlags := 0, slot := 2, constantValue := 0 }, { name := "count", type := .int, accessFlags := 0, slot := 3, constantValue := 0 }, { name := "EMPTYVALUE", type := (.array .byte), accessFlags := 26, slot := 0, constantValue := 0 }]
  methods := #[k12m0, k12m1, k12m2, k12m3, k12m4, k12m5, k12m6, k12m7, k12m8, k12m9]
  instanceTypes := #[(.array .byte), .byte, .boolean, .int]
  staticTypes := #[(.array .byte)]
  resolved := Array.replicate 609 none
  statics := none }

def pool13 : Array CpInfo := pool [(1, .methodref 2 3), (0, .class_ 4), (0, .nameAndType 5 6), (0, u "java/lang/AbstractStringBuilder"), (0, u "<init>"), (0, u "(I)V"), (11, .class_ 20), (1, u "java/lang/String"), (3, .class_ 26), (1, u "java/lang/StringBuilder"), (0, u "append"), (0, u "(Ljava/lang/String;)Ljava/lang/StringBuilder;"), (0, .methodref 2 30), (0, .nameAndType 27 31), (0, u "(Ljava/lang/String;)Ljava/lang/AbstractStringBuilder;"), (105, .methodref 18 138), (0, .nameAndType 5 139), (0, u "(Ljava/lang/StringBuilder;)V"), (5, u "()V"), (10, u "()I"), (186, .methodref 2 344), (0, .nameAndType 345 156), (0, u "length"), (3, .class_ 350), (0, u "java/lang/Appendable"), (0, .class_ 352), (0, u "java/io/Serializable"), (0, .class_ 354), (0, u "java/lang/Comparable"), (0, .class_ 356), (0, u "java/lang/CharSequence"), (0, u "serialVersionUID"), (0, u "J"), (40, u "toString"), (0, u "()Ljava/lang/String;")] 21

def k13c0 : Code := { maxStack := 2, maxLocals := 1, code := jdk_67_method_1_code, exceptionTable := #[], attributes := #[] }
def k13m0 : Method := { name := "<init>", desc := "()V", sig := { parameters := [], returnType := none }, accessFlags := 1, code := some k13c0 }
def k13c1 : Code := { maxStack := 2, maxLocals := 2, code := jdk_67_method_7_code, exceptionTable := #[], attributes := #[] }
def k13m1 : Method := { name := "append", desc := "(Ljava/lang/String;)Ljava/lang/StringBuilder;", sig := { parameters := [(.object "java/lang/String")], returnType := some (.object "java/lang/StringBuilder") }, accessFlags := 1, code := some k13c1 }
def k13c2 : Code := { maxStack := 3, maxLocals := 1, code := jdk_67_method_42_code, exceptionTable := #[], attributes := #[] }
def k13m2 : Method := { name := "toString", desc := "()Ljava/lang/String;", sig := { parameters := [], returnType := some (.object "java/lang/String") }, accessFlags := 1, code := some k13c2 }
def k13c3 : Code := { maxStack := 1, maxLocals := 1, code := jdk_67_method_93_code, exceptionTable := #[], attributes := #[] }
def k13m3 : Method := { name := "length", desc := "()I", sig := { parameters := [], returnType := some .int }, accessFlags := 4161, code := some k13c3 }
/-- java/lang/StringBuilder -/
def k13 : Class := { plain "java/lang/StringBuilder" (some 12) with
  accessFlags := 49
  interfaces := #[11, 4, 3, 7]
  cf := some (fileOf pool13 24 #[] #[{ accessFlags := 1, nameIndex := 5, descriptorIndex := 145, attributes := #[] }, { accessFlags := 1, nameIndex := 27, descriptorIndex := 28, attributes := #[] }, { accessFlags := 1, nameIndex := 399, descriptorIndex := 400, attributes := #[] }, { accessFlags := 4161, nameIndex := 345, descriptorIndex := 156, attributes := #[] }] 49 2 #[349, 351, 353, 355] #[{ accessFlags := 24, nameIndex := 357, descriptorIndex := 358, attributes := #[] }])
  fields := #[{ name := "serialVersionUID", type := .long, accessFlags := 24, slot := 0, constantValue := 0 }]
  methods := #[k13m0, k13m1, k13m2, k13m3]
  instanceTypes := #[(.array .byte), .byte, .boolean, .int]
  staticTypes := #[.long]
  resolved := Array.replicate 422 none
  statics := none }

def pool14 : Array CpInfo := pool [(2, .class_ 4), (1, u "java/lang/Object"), (0, u "<init>"), (0, u "()V"), (1, .class_ 10), (1, u "java/lang/System"), (0, u "allowSecurityManager"), (0, u "I"), (16, u "cons"), (0, u "Ljava/io/Console;"), (77, .class_ 110), (1, u "java/lang/System$CallersHolder"), (43, u "initialErrStream"), (0, u "Ljava/io/PrintStream;"), (19, u "security"), (0, u "Ljava/lang/SecurityManager;"), (31, .class_ 209), (0, u "java/lang/System$1"), (7, u "props"), (0, u "Ljava/util/Properties;"), (2, u "lineSeparator"), (0, u "Ljava/lang/String;"), (96, .class_ 321), (1, u "java/lang/System$LoggerFinder"), (5, .class_ 328), (0, u "java/lang/System$Logger"), (67, u "err"), (2, u "out"), (91, u "notSupportedJnuEncoding"), (15, u "in"), (17, u "initialIn"), (0, u "Ljava/io/InputStream;"), (35, u "bootLayer"), (0, u "Ljava/lang/ModuleLayer;"), (99, .class_ 664), (0, u "java/lang/System$2"), (9, u "NEVER"), (2, u "MAYBE"), (49, u "arraycopy"), (0, u "(Ljava/lang/Object;ILjava/lang/Object;II)V"), (72, .class_ 802), (0, u "java/lang/System$Logger$Level")] 31

def k14m0 : Method := { name := "<init>", desc := "()V", sig := { parameters := [], returnType := none }, accessFlags := 2, code := none }
def k14m1 : Method := { name := "arraycopy", desc := "(Ljava/lang/Object;ILjava/lang/Object;II)V", sig := { parameters := [(.object "java/lang/Object"), .int, (.object "java/lang/Object"), .int, .int], returnType := none }, accessFlags := 265, code := none }
/-- java/lang/System -/
def k14 : Class := { plain "java/lang/System" (some 0) with
  accessFlags := 49
  interfaces := #[]
  cf := some (fileOf pool14 8 #[.nestMembers #[319, 327, 801, 108, 663, 208]] #[{ accessFlags := 2, nameIndex := 5, descriptorIndex := 6, attributes := #[] }, { accessFlags := 265, nameIndex := 727, descriptorIndex := 728, attributes := #[] }] 49 2 #[] #[{ accessFlags := 25, nameIndex := 507, descriptorIndex := 526, attributes := #[] }, { accessFlags := 25, nameIndex := 399, descriptorIndex := 155, attributes := #[] }, { accessFlags := 25, nameIndex := 396, descriptorIndex := 155, attributes := #[] }, { accessFlags := 10, nameIndex := 525, descriptorIndex := 526, attributes := #[] }, { accessFlags := 26, nameIndex := 674, descriptorIndex := 12, attributes := #[] }, { accessFlags := 26, nameIndex := 677, descriptorIndex := 12, attributes := #[] }, { accessFlags := 10, nameIndex := 11, descriptorIndex := 12, attributes := #[] }, { accessFlags := 74, nameIndex := 175, descriptorIndex := 176, attributes := #[] }, { accessFlags := 10, nameIndex := 491, descriptorIndex := 222, attributes := #[] }, { accessFlags := 74, nameIndex := 29, descriptorIndex := 30, attributes := #[] }, { accessFlags := 74, nameIndex := 154, descriptorIndex := 155, attributes := #[] }, { accessFlags := 10, nameIndex := 217, descriptorIndex := 218, attributes := #[] }, { accessFlags := 10, nameIndex := 221, descriptorIndex := 222, attributes := #[] }, { accessFlags := 8, nameIndex := 562, descriptorIndex := 563, attributes := #[] }])
  fields := #[{ name := "in", type := (.object "java/io/InputStream"), accessFlags := 25, slot := 0, constantValue := 0 }, { name := "out", type := (.object "java/io/PrintStream"), accessFlags := 25, slot := 1, constantValue := 0 }, { name := "err", type := (.object "java/io/PrintStream"), accessFlags := 25, slot := 2, constantValue := 0 }, { name := "initialIn", type := (.object "java/io/InputStream"), accessFlags := 10, slot := 3, constantValue := 0 }, { name := "NEVER", type := .int, accessFlags := 26, slot := 4, constantValue := 0 }, { name := "MAYBE", type := .int, accessFlags := 26, slot := 5, constantValue := 0 }, { name := "allowSecurityManager", type := .int, accessFlags := 10, slot := 6, constantValue := 0 }, { name := "security", type := (.object "java/lang/SecurityManager"), accessFlags := 74, slot := 7, constantValue := 0 }, { name := "notSupportedJnuEncoding", type := (.object "java/lang/String"), accessFlags := 10, slot := 8, constantValue := 0 }, { name := "cons", type := (.object "java/io/Console"), accessFlags := 74, slot := 9, constantValue := 0 }, { name := "initialErrStream", type := (.object "java/io/PrintStream"), accessFlags := 74, slot := 10, constantValue := 0 }, { name := "props", type := (.object "java/util/Properties"), accessFlags := 10, slot := 11, constantValue := 0 }, { name := "lineSeparator", type := (.object "java/lang/String"), accessFlags := 10, slot := 12, constantValue := 0 }, { name := "bootLayer", type := (.object "java/lang/ModuleLayer"), accessFlags := 8, slot := 13, constantValue := 0 }]
  methods := #[k14m0, k14m1]
  instanceTypes := #[]
  staticTypes := #[(.object "java/io/InputStream"), (.object "java/io/PrintStream"), (.object "java/io/PrintStream"), (.object "java/io/InputStream"), .int, .int, .int, (.object "java/lang/SecurityManager"), (.object "java/lang/String"), (.object "java/io/Console"), (.object "java/io/PrintStream"), (.object "java/util/Properties"), (.object "java/lang/String"), (.object "java/lang/ModuleLayer")]
  resolved := Array.replicate 834 none
  statics := none }

def pool15 : Array CpInfo := pool [(2, .class_ 4), (1, u "java/lang/Object"), (0, u "<init>"), (0, u "()V"), (7, .class_ 16), (1, u "java/util/Arrays"), (57, .class_ 76), (1, u "java/util/Arrays$NaturalOrder"), (32, u "()Ljava/lang/Object;"), (3, .class_ 115), (1, u "java/util/Arrays$LegacyMergeSort"), (1, u "Z"), (10, .nameAndType 129 109), (0, u "clone"), (9, u "copyOfRange"), (10, .methodref 151 152), (0, .class_ 153), (0, .nameAndType 154 155), (0, u "java/lang/System"), (0, u "arraycopy"), (0, u "(Ljava/lang/Object;ILjava/lang/Object;II)V"), (146, u "copyOf"), (1, .methodref 305 306), (0, .class_ 307), (0, .nameAndType 308 309), (0, u "java/lang/Math"), (0, u "min"), (0, u "(II)I"), (0, .methodref 311 128), (0, .class_ 312), (0, u "[B"), (26, .methodref 14 340), (0, .nameAndType 341 342), (0, u "copyOfRangeByte"), (0, u "([BII)[B"), (0, .methodref 14 344), (0, .nameAndType 345 346), (0, u "checkLength"), (0, u "(II)V"), (28, .class_ 376), (0, u "java/util/Arrays$ArrayList"), (68, u "$assertionsDisabled"), (269, u "MIN_ARRAY_SORT_GRAN"), (0, u "I"), (2, u "INSERTIONSORT_THRESHOLD"), (149, u "([BI)[B"), (105, .class_ 976), (0, u "java/util/Arrays$ArrayItr")] 52

def k15m0 : Method := { name := "<init>", desc := "()V", sig := { parameters := [], returnType := none }, accessFlags := 2, code := none }
def k15c1 : Code := { maxStack := 6, maxLocals := 3, code := jdk_65_method_121_code, exceptionTable := #[], attributes := #[] }
def k15m1 : Method := { name := "copyOf", desc := "([BI)[B", sig := { parameters := [(.array .byte), .int], returnType := some (.array .byte) }, accessFlags := 9, code := some k15c1 }
def k15c2 : Code := { maxStack := 4, maxLocals := 2, code := jdk_65_method_131_code, exceptionTable := #[], attributes := #[] }
def k15m2 : Method := { name := "checkLength", desc := "(II)V", sig := { parameters := [.int, .int], returnType := none }, accessFlags := 10, code := some k15c2 }
def k15c3 : Code := { maxStack := 3, maxLocals := 3, code := jdk_65_method_132_code, exceptionTable := #[], attributes := #[] }
def k15m3 : Method := { name := "copyOfRange", desc := "([BII)[B", sig := { parameters := [(.array .byte), .int, .int], returnType := some (.array .byte) }, accessFlags := 9, code := some k15c3 }
def k15c4 : Code := { maxStack := 6, maxLocals := 5, code := jdk_65_method_133_code, exceptionTable := #[], attributes := #[] }
def k15m4 : Method := { name := "copyOfRangeByte", desc := "([BII)[B", sig := { parameters := [(.array .byte), .int, .int], returnType := some (.array .byte) }, accessFlags := 10, code := some k15c4 }
/-- java/util/Arrays -/
def k15 : Class := { plain "java/util/Arrays" (some 0) with
  accessFlags := 49
  interfaces := #[]
  cf := some (fileOf pool15 14 #[.nestMembers #[975, 375, 113, 74]] #[{ accessFlags := 2, nameIndex := 5, descriptorIndex := 6, attributes := #[] }, { accessFlags := 9, nameIndex := 302, descriptorIndex := 869, attributes := #[] }, { accessFlags := 10, nameIndex := 345, descriptorIndex := 346, attributes := #[] }, { accessFlags := 9, nameIndex := 139, descriptorIndex := 342, attributes := #[] }, { accessFlags := 10, nameIndex := 341, descriptorIndex := 342, attributes := #[] }] 49 2 #[] #[{ accessFlags := 26, nameIndex := 715, descriptorIndex := 716, attributes := #[] }, { accessFlags := 26, nameIndex := 719, descriptorIndex := 716, attributes := #[] }, { accessFlags := 4120, nameIndex := 445, descriptorIndex := 117, attributes := #[] }])
  fields := #[{ name := "MIN_ARRAY_SORT_GRAN", type := .int, accessFlags := 26, slot := 0, constantValue := 0 }, { name := "INSERTIONSORT_THRESHOLD", type := .int, accessFlags := 26, slot := 1, constantValue := 0 }, { name := "$assertionsDisabled", type := .boolean, accessFlags := 4120, slot := 2, constantValue := 0 }]
  methods := #[k15m0, k15m1, k15m2, k15m3, k15m4]
  instanceTypes := #[]
  staticTypes := #[.int, .int, .boolean]
  resolved := Array.replicate 1029 none
  statics := none }

def pool16 : Array CpInfo := pool [(1, .class_ 2), (0, u "java/lang/Math"), (1, .class_ 6), (1, u "java/lang/Object"), (0, u "<init>"), (0, u "()V"), (89, .class_ 100), (1, u "java/lang/Math$RandomNumberGeneratorHolder"), (71, u "negativeZeroFloatBits"), (0, u "J"), (2, u "negativeZeroDoubleBits"), (21, u "max"), (2, u "min"), (43, u "$assertionsDisabled"), (0, u "Z"), (88, u "(II)I"), (2, u "twoToTheDoubleScaleDown"), (0, u "D"), (4, u "twoToTheDoubleScaleUp"), (9, u "E"), (3, u "PI"), (2, u "TAU"), (2, u "DEGREES_TO_RADIANS"), (0, u "RADIANS_TO_DEGREES")] 94

def k16m0 : Method := { name := "<init>", desc := "()V", sig := { parameters := [], returnType := none }, accessFlags := 2, code := none }
def k16c1 : Code := { maxStack := 2, maxLocals := 2, code := jdk_29_method_65_code, exceptionTable := #[], attributes := #[] }
def k16m1 : Method := { name := "max", desc := "(II)I", sig := { parameters := [.int, .int], returnType := some .int }, accessFlags := 9, code := some k16c1 }
def k16c2 : Code := { maxStack := 2, maxLocals := 2, code := jdk_29_method_69_code, exceptionTable := #[], attributes := #[] }
def k16m2 : Method := { name := "min", desc := "(II)I", sig := { parameters := [.int, .int], returnType := some .int }, accessFlags := 9, code := some k16c2 }
/-- java/lang/Math -/
def k16 : Class := { plain "java/lang/Math" (some 0) with
  accessFlags := 49
  interfaces := #[]
  cf := some (fileOf pool16 1 #[.nestMembers #[98]] #[{ accessFlags := 2, nameIndex := 7, descriptorIndex := 8, attributes := #[] }, { accessFlags := 9, nameIndex := 198, descriptorIndex := 335, attributes := #[] }, { accessFlags := 9, nameIndex := 201, descriptorIndex := 335, attributes := #[] }] 49 4 #[] #[{ accessFlags := 25, nameIndex := 354, descriptorIndex := 339, attributes := #[] }, { accessFlags := 25, nameIndex := 358, descriptorIndex := 339, attributes := #[] }, { accessFlags := 25, nameIndex := 361, descriptorIndex := 339, attributes := #[] }, { accessFlags := 26, nameIndex := 364, descriptorIndex := 339, attributes := #[] }, { accessFlags := 26, nameIndex := 365, descriptorIndex := 339, attributes := #[] }, { accessFlags := 26, nameIndex := 172, descriptorIndex := 173, attributes := #[] }, { accessFlags := 26, nameIndex := 176, descriptorIndex := 173, attributes := #[] }, { accessFlags := 8, nameIndex := 344, descriptorIndex := 339, attributes := #[] }, { accessFlags := 8, nameIndex := 338, descriptorIndex := 339, attributes := #[] }, { accessFlags := 4120, nameIndex := 245, descriptorIndex := 246, attributes := #[] }])
  fields := #[{ name := "E", type := .double, accessFlags := 25, slot := 0, constantValue := 0 }, { name := "PI", type := .double, accessFlags := 25, slot := 1, constantValue := 0 }, { name := "TAU", type := .double, accessFlags := 25, slot := 2, constantValue := 0 }, { name := "DEGREES_TO_RADIANS", type := .double, accessFlags := 26, slot := 3, constantValue := 0 }, { name := "RADIANS_TO_DEGREES", type := .double, accessFlags := 26, slot := 4, constantValue := 0 }, { name := "negativeZeroFloatBits", type := .long, accessFlags := 26, slot := 5, constantValue := 0 }, { name := "negativeZeroDoubleBits", type := .long, accessFlags := 26, slot := 6, constantValue := 0 }, { name := "twoToTheDoubleScaleUp", type := .double, accessFlags := 8, slot := 7, constantValue := 0 }, { name := "twoToTheDoubleScaleDown", type := .double, accessFlags := 8, slot := 8, constantValue := 0 }, { name := "$assertionsDisabled", type := .boolean, accessFlags := 4120, slot := 9, constantValue := 0 }]
  methods := #[k16m0, k16m1, k16m2]
  instanceTypes := #[]
  staticTypes := #[.double, .double, .double, .double, .double, .long, .long, .double, .double, .boolean]
  resolved := Array.replicate 460 none
  statics := none }

def pool17 : Array CpInfo := pool [(2, .class_ 4), (1, u "java/lang/Object"), (0, u "<init>"), (0, u "()V"), (17, .class_ 26), (1, u "jdk/internal/util/Preconditions"), (6, u "checkIndex"), (21, .class_ 56), (0, u "jdk/internal/util/Preconditions$4"), (57, .class_ 115), (0, u "jdk/internal/util/Preconditions$1"), (7, u "SIOOBE_FORMATTER"), (0, u "Ljava/util/function/BiFunction;"), (0, .class_ 126), (0, u "jdk/internal/util/Preconditions$2"), (3, u "AIOOBE_FORMATTER"), (0, .class_ 132), (0, u "jdk/internal/util/Preconditions$3"), (3, u "IOOBE_FORMATTER"), (41, u "(IILjava/util/function/BiFunction;)I")] 15

def k17m0 : Method := { name := "<init>", desc := "()V", sig := { parameters := [], returnType := none }, accessFlags := 1, code := none }
def k17c1 : Code := { maxStack := 3, maxLocals := 3, code := jdk_41_method_11_code, exceptionTable := #[], attributes := #[] }
def k17m1 : Method := { name := "checkIndex", desc := "(IILjava/util/function/BiFunction;)I", sig := { parameters := [.int, .int, (.object "java/util/function/BiFunction")], returnType := some .int }, accessFlags := 9, code := some k17c1 }
/-- jdk/internal/util/Preconditions -/
def k17 : Class := { plain "jdk/internal/util/Preconditions" (some 0) with
  accessFlags := 33
  interfaces := #[]
  cf := some (fileOf pool17 24 #[.nestMembers #[55, 131, 125, 114]] #[{ accessFlags := 1, nameIndex := 5, descriptorIndex := 6, attributes := #[] }, { accessFlags := 9, nameIndex := 33, descriptorIndex := 178, attributes := #[] }] 33 2 #[] #[{ accessFlags := 25, nameIndex := 123, descriptorIndex := 124, attributes := #[] }, { accessFlags := 25, nameIndex := 130, descriptorIndex := 124, attributes := #[] }, { accessFlags := 25, nameIndex := 136, descriptorIndex := 124, attributes := #[] }])
  fields := #[{ name := "SIOOBE_FORMATTER", type := (.object "java/util/function/BiFunction"), accessFlags := 25, slot := 0, constantValue := 0 }, { name := "AIOOBE_FORMATTER", type := (.object "java/util/function/BiFunction"), accessFlags := 25, slot := 1, constantValue := 0 }, { name := "IOOBE_FORMATTER", type := (.object "java/util/function/BiFunction"), accessFlags := 25, slot := 2, constantValue := 0 }]
  methods := #[k17m0, k17m1]
  instanceTypes := #[]
  staticTypes := #[(.object "java/util/function/BiFunction"), (.object "java/util/function/BiFunction"), (.object "java/util/function/BiFunction")]
  resolved := Array.replicate 194 none
  statics := some 2 }

def pool18 : Array CpInfo := pool [(6, .class_ 8), (1, u "java/lang/Object"), (0, u "<init>"), (0, u "()V"), (1, .class_ 14), (1, u "java/lang/StringUTF16"), (31, u "$assertionsDisabled"), (0, u "Z"), (13, u "HI_BYTE_SHIFT"), (0, u "I"), (2, u "LO_BYTE_SHIFT"), (49, .methodref 12 116), (0, .nameAndType 117 118), (0, u "compress"), (0, u "([CI[BII)I"), (3, u "([CII)[B"), (138, u "coderFromArrayLen"), (0, u "([BI)B"), (106, .class_ 371), (1, u "java/lang/StringUTF16$LinesSpliterator"), (58, u "MAX_LENGTH"), (196, .class_ 628), (0, u "java/lang/StringUTF16$CodePointsSpliterator"), (0, .class_ 630), (0, u "java/lang/StringUTF16$CharsSpliterator")] 4

def k18m0 : Method := { name := "<init>", desc := "()V", sig := { parameters := [], returnType := none }, accessFlags := 0, code := none }
def k18c1 : Code := { maxStack := 2, maxLocals := 2, code := jdk_52_method_15_code, exceptionTable := #[], attributes := #[] }
def k18m1 : Method := { name := "coderFromArrayLen", desc := "([BI)B", sig := { parameters := [(.array .byte), .int], returnType := some .byte }, accessFlags := 8, code := some k18c1 }
def k18c2 : Code := { maxStack := 5, maxLocals := 6, code := jdk_52_method_16_code, exceptionTable := #[], attributes := #[] }
def k18m2 : Method := { name := "compress", desc := "([CII)[B", sig := { parameters := [(.array .char), .int, .int], returnType := some (.array .byte) }, accessFlags := 9, code := some k18c2 }
def k18c3 : Code := { maxStack := 3, maxLocals := 7, code := jdk_52_method_21_code, exceptionTable := #[], attributes := #[] }
def k18m3 : Method := { name := "compress", desc := "([CI[BII)I", sig := { parameters := [(.array .char), .int, (.array .byte), .int, .int], returnType := some .int }, accessFlags := 9, code := some k18c3 }
/-- java/lang/StringUTF16 -/
def k18 : Class := { plain "java/lang/StringUTF16" (some 0) with
  accessFlags := 48
  interfaces := #[]
  cf := some (fileOf pool18 12 #[.nestMembers #[627, 629, 369]] #[{ accessFlags := 0, nameIndex := 9, descriptorIndex := 10, attributes := #[] }, { accessFlags := 8, nameIndex := 261, descriptorIndex := 262, attributes := #[] }, { accessFlags := 9, nameIndex := 117, descriptorIndex := 122, attributes := #[] }, { accessFlags := 9, nameIndex := 117, descriptorIndex := 118, attributes := #[] }] 48 6 #[] #[{ accessFlags := 26, nameIndex := 61, descriptorIndex := 62, attributes := #[] }, { accessFlags := 26, nameIndex := 65, descriptorIndex := 62, attributes := #[] }, { accessFlags := 24, nameIndex := 430, descriptorIndex := 62, attributes := #[] }, { accessFlags := 4120, nameIndex := 46, descriptorIndex := 47, attributes := #[] }])
  fields := #[{ name := "HI_BYTE_SHIFT", type := .int, accessFlags := 26, slot := 0, constantValue := 0 }, { name := "LO_BYTE_SHIFT", type := .int, accessFlags := 26, slot := 1, constantValue := 0 }, { name := "MAX_LENGTH", type := .int, accessFlags := 24, slot := 2, constantValue := 0 }, { name := "$assertionsDisabled", type := .boolean, accessFlags := 4120, slot := 3, constantValue := 0 }]
  methods := #[k18m0, k18m1, k18m2, k18m3]
  instanceTypes := #[]
  staticTypes := #[.int, .int, .int, .boolean]
  resolved := Array.replicate 635 none
  statics := none }

def pool19 : Array CpInfo := pool [(9, u "<init>"), (6, .class_ 18), (1, u "java/lang/Object"), (0, u "()V"), (1, .class_ 23), (1, u "jdk/internal/util/ArraysSupport"), (0, u "LOG2_ARRAY_LONG_INDEX_SCALE"), (0, u "I"), (2, u "U"), (0, u "Ljdk/internal/misc/Unsafe;"), (8, u "BIG_ENDIAN"), (0, u "Z"), (8, u "LOG2_BYTE_BIT_SIZE"), (4, u "LOG2_ARRAY_INT_INDEX_SCALE"), (54, u "JLA"), (0, u "Ljdk/internal/access/JavaLangAccess;"), (11, u "LOG2_ARRAY_BOOLEAN_INDEX_SCALE"), (9, u "LOG2_ARRAY_BYTE_INDEX_SCALE"), (5, u "LOG2_ARRAY_CHAR_INDEX_SCALE"), (5, u "LOG2_ARRAY_SHORT_INDEX_SCALE"), (18, u "LOG2_ARRAY_FLOAT_INDEX_SCALE"), (24, u "LOG2_ARRAY_DOUBLE_INDEX_SCALE"), (6, .methodref 195 196), (0, .class_ 197), (0, .nameAndType 198 199), (0, u "java/lang/Math"), (0, u "max"), (0, u "(II)I"), (0, .integer 2147483639), (76, u "T_BOOLEAN"), (2, u "T_CHAR"), (1, u "T_FLOAT"), (1, u "T_DOUBLE"), (1, u "T_BYTE"), (1, u "T_SHORT"), (1, u "T_INT"), (1, u "T_LONG"), (1, u "SOFT_MAX_ARRAY_LENGTH"), (56, u "newLength"), (0, u "(III)I")] 25

def k19m0 : Method := { name := "<init>", desc := "()V", sig := { parameters := [], returnType := none }, accessFlags := 2, code := none }
def k19c1 : Code := { maxStack := 3, maxLocals := 4, code := jdk_48_method_27_code, exceptionTable := #[], attributes := #[] }
def k19m1 : Method := { name := "newLength", desc := "(III)I", sig := { parameters := [.int, .int, .int], returnType := some .int }, accessFlags := 9, code := some k19c1 }
/-- jdk/internal/util/ArraysSupport -/
def k19 : Class := { plain "jdk/internal/util/ArraysSupport" (some 0) with
  accessFlags := 33
  interfaces := #[]
  cf := some (fileOf pool19 21 #[] #[{ accessFlags := 2, nameIndex := 9, descriptorIndex := 19, attributes := #[] }, { accessFlags := 9, nameIndex := 351, descriptorIndex := 352, attributes := #[] }] 33 16 #[] #[{ accessFlags := 24, nameIndex := 28, descriptorIndex := 29, attributes := #[] }, { accessFlags := 26, nameIndex := 38, descriptorIndex := 39, attributes := #[] }, { accessFlags := 25, nameIndex := 121, descriptorIndex := 25, attributes := #[] }, { accessFlags := 25, nameIndex := 131, descriptorIndex := 25, attributes := #[] }, { accessFlags := 25, nameIndex := 137, descriptorIndex := 25, attributes := #[] }, { accessFlags := 25, nameIndex := 143, descriptorIndex := 25, attributes := #[] }, { accessFlags := 25, nameIndex := 53, descriptorIndex := 25, attributes := #[] }, { accessFlags := 25, nameIndex := 24, descriptorIndex := 25, attributes := #[] }, { accessFlags := 25, nameIndex := 162, descriptorIndex := 25, attributes := #[] }, { accessFlags := 25, nameIndex := 187, descriptorIndex := 25, attributes := #[] }, { accessFlags := 26, nameIndex := 48, descriptorIndex := 25, attributes := #[] }, { accessFlags := 25, nameIndex := 277, descriptorIndex := 25, attributes := #[] }, { accessFlags := 25, nameIndex := 280, descriptorIndex := 25, attributes := #[] }, { accessFlags := 25, nameIndex := 282, descriptorIndex := 25, attributes := #[] }, { accessFlags := 25, nameIndex := 284, descriptorIndex := 25, attributes := #[] }, { accessFlags := 25, nameIndex := 286, descriptorIndex := 25, attributes := #[] }, { accessFlags := 25, nameIndex := 288, descriptorIndex := 25, attributes := #[] }, { accessFlags := 25, nameIndex := 290, descriptorIndex := 25, attributes := #[] }, { accessFlags := 25, nameIndex := 292, descriptorIndex := 25, attributes := #[] }, { accessFlags := 26, nameIndex := 108, descriptorIndex := 109, attributes := #[] }, { accessFlags := 25, nameIndex := 294, descriptorIndex := 25, attributes := #[] }])
  fields := #[{ name := "U", type := (.object "jdk/internal/misc/Unsafe"), accessFlags := 24, slot := 0, constantValue := 0 }, { name := "BIG_ENDIAN", type := .boolean, accessFlags := 26, slot := 1, constantValue := 0 }, { name := "LOG2_ARRAY_BOOLEAN_INDEX_SCALE", type := .int, accessFlags := 25, slot := 2, constantValue := 0 }, { name := "LOG2_ARRAY_BYTE_INDEX_SCALE", type := .int, accessFlags := 25, slot := 3, constantValue := 0 }, { name := "LOG2_ARRAY_CHAR_INDEX_SCALE", type := .int, accessFlags := 25, slot := 4, constantValue := 0 }, { name := "LOG2_ARRAY_SHORT_INDEX_SCALE", type := .int, accessFlags := 25, slot := 5, constantValue := 0 }, { name := "LOG2_ARRAY_INT_INDEX_SCALE", type := .int, accessFlags := 25, slot := 6, constantValue := 0 }, { name := "LOG2_ARRAY_LONG_INDEX_SCALE", type := .int, accessFlags := 25, slot := 7, constantValue := 0 }, { name := "LOG2_ARRAY_FLOAT_INDEX_SCALE", type := .int, accessFlags := 25, slot := 8, constantValue := 0 }, { name := "LOG2_ARRAY_DOUBLE_INDEX_SCALE", type := .int, accessFlags := 25, slot := 9, constantValue := 0 }, { name := "LOG2_BYTE_BIT_SIZE", type := .int, accessFlags := 26, slot := 10, constantValue := 0 }, { name := "T_BOOLEAN", type := .int, accessFlags := 25, slot := 11, constantValue := 0 }, { name := "T_CHAR", type := .int, accessFlags := 25, slot := 12, constantValue := 0 }, { name := "T_FLOAT", type := .int, accessFlags := 25, slot := 13, constantValue := 0 }, { name := "T_DOUBLE", type := .int, accessFlags := 25, slot := 14, constantValue := 0 }, { name := "T_BYTE", type := .int, accessFlags := 25, slot := 15, constantValue := 0 }, { name := "T_SHORT", type := .int, accessFlags := 25, slot := 16, constantValue := 0 }, { name := "T_INT", type := .int, accessFlags := 25, slot := 17, constantValue := 0 }, { name := "T_LONG", type := .int, accessFlags := 25, slot := 18, constantValue := 0 }, { name := "JLA", type := (.object "jdk/internal/access/JavaLangAccess"), accessFlags := 26, slot := 19, constantValue := 0 }, { name := "SOFT_MAX_ARRAY_LENGTH", type := .int, accessFlags := 25, slot := 20, constantValue := 0 }]
  methods := #[k19m0, k19m1]
  instanceTypes := #[]
  staticTypes := #[(.object "jdk/internal/misc/Unsafe"), .boolean, .int, .int, .int, .int, .int, .int, .int, .int, .int, .int, .int, .int, .int, .int, .int, .int, .int, (.object "jdk/internal/access/JavaLangAccess"), .int]
  resolved := Array.replicate 378 none
  statics := none }

def pool20 : Array CpInfo := pool [(1, .class_ 2), (0, u "java/lang/Cloneable"), (0, .class_ 4), (0, u "java/lang/Object")] 2

/-- java/lang/Cloneable -/
def k20 : Class := { plain "java/lang/Cloneable" (some 0) with
  accessFlags := 1537
  interfaces := #[]
  cf := some (fileOf pool20 1 #[] #[] 1537 3 #[] #[])
  fields := #[]
  methods := #[]
  instanceTypes := #[]
  staticTypes := #[]
  resolved := Array.replicate 7 none
  statics := none }

/-- the primitive byte -/
def k21 : Class := { plain "byte" none with kind := .primitive 'B', accessFlags := 0x411 }
/-- [B -/
def k22 : Class := { plain "[B" (some 0) with kind := .array 21 .byte, interfaces := #[20, 4], accessFlags := 1041 }

/-- the primitive char -/
def k23 : Class := { plain "char" none with kind := .primitive 'C', accessFlags := 0x411 }
/-- [C -/
def k24 : Class := { plain "[C" (some 0) with kind := .array 23 .char, interfaces := #[20, 4], accessFlags := 1041 }

/-- the primitive int -/
def k25 : Class := { plain "int" none with kind := .primitive 'I', accessFlags := 0x411 }
/-- [I -/
def k26 : Class := { plain "[I" (some 0) with kind := .array 25 .int, interfaces := #[20, 4], accessFlags := 1041 }

def heap : Heap := #[{ cls := 6, slots := #[.ref 7, .ref 8, .null], vm := .statics 6 },
  { cls := 9, slots := #[.long 0, .int 1, .null, .int 0, .null, .int 0, .int 0], vm := .statics 9 },
  { cls := 17, slots := #[.null, .null, .null], vm := .statics 17 },
  { cls := 22, slots := #[.int 114, .int 101, .int 97, .int 100], vm := .none },
  { cls := 22, slots := #[.int 119, .int 114, .int 105, .int 116, .int 101], vm := .none },
  { cls := 9, slots := #[.ref 3, .int 0, .int 0, .int 0], vm := .none },
  { cls := 9, slots := #[.ref 4, .int 0, .int 0, .int 0], vm := .none },
  { cls := 6, slots := #[.null, .int 0, .int 0, .ref 5], vm := .none },
  { cls := 6, slots := #[.null, .int 1, .int 0, .ref 6], vm := .none }]
def classes : Array Class := #[k0, k1, k2, k3, k4, k5, k6, k7, k8, k9, k10, k11, k12, k13, k14, k15, k16, k17, k18, k19, k20, k21, k22, k23, k24, k25, k26]
def interned : List (Array UInt16 × Addr) := []
def slotsUsed : Nat := 38
def theMethod : MethodId := ⟨1, 1⟩
def args0 : Array Value := #[.int 5, .int 5, .int 5, .int 5]
def aboutOver (below : List Frame) : State where
  vm := { classes := classes, interned := interned.toArray }
  heap := heap
  slotsUsed := slotsUsed
  threads := #[{ frames := .invoking theMethod args0 :: below }]
def below0 : List Frame := [.native { method := ⟨0, 0⟩, args := #[] }]
def about1 : State := aboutOver below0
def p0 : Program := .bare "" "" ""
def e0 : Env := launch0.env 0 0 0
theorem w_frames : about1.frames = Frame.invoking theMethod args0 :: below0 := rfl
set_option maxRecDepth 65536 in
theorem w_args : argsFit about1.vm theMethod args0 = true := by decide +kernel
set_option maxRecDepth 65536 in
theorem w_heap : heapFits about1 = true := by decide +kernel
set_option maxRecDepth 65536 in
theorem w_runnable : about1.curStatus? = some .runnable := by decide +kernel
set_option maxRecDepth 65536 in
theorem w_alone : about1.alone = true := by decide +kernel
set_option maxRecDepth 65536 in
theorem w_named : about1.methodNamed? x = some theMethod := by decide +kernel
set_option maxRecDepth 65536 in
theorem w_hears : about1.hears theMethod below0 = true := by decide +kernel
set_option maxRecDepth 65536 in
theorem w_ripe : about1.ripe theMethod args0 below0 = true := by decide +kernel
theorem w_running : about1.status = .running := rfl
set_option maxRecDepth 65536 in
theorem w_room : about1.hasRoom e0.platform room_1 = true :=
  launch0.hasRoom_least _ room_1 (by decide +kernel) (by decide +kernel) (by decide +kernel) (by decide +kernel) (by decide +kernel) (by decide +kernel)
theorem allAtoms_all (ts : List Jvm.Cond) (a : Array Jvm.Value) (st : Jvm.State) : (allAtoms ts).before a st = ts.all (fun c => c.before a st) := by
  induction ts with
  | nil => rfl
  | cons c t ih =>
    show (Jvm.Cond.and c (allAtoms t)).before a st = _
    rw [Jvm.Cond.before_and, ih, List.all_cons]
def words1 : List Jvm.Cond := Jvm.Cond.code x code maxLocals ret :: tables_1
/-- a 'code' word, met by the world's own term for the bytes: nothing is compared byte by byte -/
theorem code_word {y : MethodName} {bytes : ByteArray} {mx : Nat} {rt : Option FieldType} {a : Array Value} {s : State} {m : MethodId} {meth : Method} {c : Code} (h1 : s.methodNamed? y = some m) (h2 : s.vm.method? m = some meth) (h3 : meth.code = some c) (h4 : c.code = bytes)
    (h5 : (c.maxLocals == mx && c.exceptionTable.isEmpty && decide (c.maxStack ≤ mostOperands) && decide (meth.sig.returnType = rt) && !meth.locks && decide (parseMethodDescriptor y.desc = some meth.sig)) = true) : (Jvm.Cond.code y bytes mx rt).before a s = true := by
  simp only [Bool.and_eq_true, beq_iff_eq, Bool.not_eq_true', decide_eq_true_eq] at h5
  obtain ⟨⟨⟨⟨⟨g1, g2⟩, g3⟩, g4⟩, g5⟩, g6⟩ := h5
  simp [Cond.before, Cond.holds, Cond.value, h1, h2, h3, h4, g1, g2, g3, g4, g5, g6]
def isCode : Jvm.Cond → Bool
  | .code _ _ _ _ => true
  | _ => false
theorem all_split {L : List Jvm.Cond} {P : Jvm.Cond → Bool} (h1 : L.all (fun c => isCode c || P c) = true) (h2 : ∀ c ∈ L.filter isCode, P c = true) : L.all P = true := by
  refine List.all_eq_true.mpr fun c hc => ?_
  have h := List.all_eq_true.mp h1 c hc
  rcases Bool.eq_false_or_eq_true (isCode c) with hi | hi
  · exact h2 c (List.mem_filter.mpr ⟨hc, hi⟩)
  · simpa [hi] using h
set_option maxRecDepth 65536 in
theorem w_c0 : (Jvm.Cond.code x code maxLocals ret).before args0 about1 = true := code_word (m := ⟨1, 1⟩) (meth := k1m1) (c := k1c1) (by decide +kernel) rfl rfl rfl (by decide +kernel)
set_option maxRecDepth 65536 in
theorem w_c1 : (Jvm.Cond.code ({ cls := "com/example/emex/emex/read/FileRefusalLinePinLaw", name := "make", desc := "(ICC)Ljava/lang/String;" } : Jvm.MethodName) method_3_code (3 : Nat) (Option.some (Jvm.ClassFile.FieldType.object "java/lang/String"))).before args0 about1 = true := code_word (m := ⟨1, 2⟩) (meth := k1m2) (c := k1c2) (by decide +kernel) rfl rfl rfl (by decide +kernel)
set_option maxRecDepth 65536 in
theorem w_c2 : (Jvm.Cond.code ({ cls := "java/lang/String", name := "valueOf", desc := "(C)Ljava/lang/String;" } : Jvm.MethodName) jdk_42_method_139_code (1 : Nat) (Option.some (Jvm.ClassFile.FieldType.object "java/lang/String"))).before args0 about1 = true := code_word (m := ⟨9, 5⟩) (meth := k9m5) (c := k9c5) (by decide +kernel) rfl rfl rfl (by decide +kernel)
set_option maxRecDepth 65536 in
theorem w_c3 : (Jvm.Cond.code ({ cls := "java/lang/StringLatin1", name := "canEncode", desc := "(C)Z" } : Jvm.MethodName) jdk_43_method_3_code (1 : Nat) (Option.some Jvm.ClassFile.FieldType.boolean)).before args0 about1 = true := code_word (m := ⟨10, 2⟩) (meth := k10m2) (c := k10c2) (by decide +kernel) rfl rfl rfl (by decide +kernel)
set_option maxRecDepth 65536 in
theorem w_c4 : (Jvm.Cond.code ({ cls := "java/lang/StringLatin1", name := "toBytes", desc := "(C)[B" } : Jvm.MethodName) jdk_43_method_46_code (1 : Nat) (Option.some (Jvm.ClassFile.FieldType.array Jvm.ClassFile.FieldType.byte))).before args0 about1 = true := code_word (m := ⟨10, 3⟩) (meth := k10m3) (c := k10c3) (by decide +kernel) rfl rfl rfl (by decide +kernel)
set_option maxRecDepth 65536 in
theorem w_c5 : (Jvm.Cond.code ({ cls := "java/lang/String", name := "<init>", desc := "([BB)V" } : Jvm.MethodName) jdk_42_method_151_code (3 : Nat) (Option.none : Option Jvm.ClassFile.FieldType)).before args0 about1 = true := code_word (m := ⟨9, 9⟩) (meth := k9m9) (c := k9c9) (by decide +kernel) rfl rfl rfl (by decide +kernel)
set_option maxRecDepth 65536 in
theorem w_c6 : (Jvm.Cond.code ({ cls := "java/lang/Object", name := "<init>", desc := "()V" } : Jvm.MethodName) object_method_1_code (1 : Nat) (Option.none : Option Jvm.ClassFile.FieldType)).before args0 about1 = true := code_word (m := ⟨0, 0⟩) (meth := k0m0) (c := k0c0) (by decide +kernel) rfl rfl rfl (by decide +kernel)
set_option maxRecDepth 65536 in
theorem w_c7 : (Jvm.Cond.code ({ cls := "java/lang/String", name := "<init>", desc := "([C)V" } : Jvm.MethodName) jdk_42_method_3_code (2 : Nat) (Option.none : Option Jvm.ClassFile.FieldType)).before args0 about1 = true := code_word (m := ⟨9, 1⟩) (meth := k9m1) (c := k9c1) (by decide +kernel) rfl rfl rfl (by decide +kernel)
set_option maxRecDepth 65536 in
theorem w_c8 : (Jvm.Cond.code ({ cls := "java/lang/String", name := "<init>", desc := "([CIILjava/lang/Void;)V" } : Jvm.MethodName) jdk_42_method_149_code (6 : Nat) (Option.none : Option Jvm.ClassFile.FieldType)).before args0 about1 = true := code_word (m := ⟨9, 7⟩) (meth := k9m7) (c := k9c7) (by decide +kernel) rfl rfl rfl (by decide +kernel)
set_option maxRecDepth 65536 in
theorem w_c9 : (Jvm.Cond.code ({ cls := "com/example/emex/emex/read/FileRefusal", name := "line", desc := "(Ljava/lang/String;Ljava/lang/String;)Ljava/lang/String;" } : Jvm.MethodName) prog_17_method_4_code (3 : Nat) (Option.some (Jvm.ClassFile.FieldType.object "java/lang/String"))).before args0 about1 = true := code_word (m := ⟨6, 0⟩) (meth := k6m0) (c := k6c0) (by decide +kernel) rfl rfl rfl (by decide +kernel)
set_option maxRecDepth 65536 in
theorem w_c10 : (Jvm.Cond.code ({ cls := "java/lang/StringBuilder", name := "<init>", desc := "()V" } : Jvm.MethodName) jdk_67_method_1_code (1 : Nat) (Option.none : Option Jvm.ClassFile.FieldType)).before args0 about1 = true := code_word (m := ⟨13, 0⟩) (meth := k13m0) (c := k13c0) (by decide +kernel) rfl rfl rfl (by decide +kernel)
set_option maxRecDepth 65536 in
theorem w_c11 : (Jvm.Cond.code ({ cls := "java/lang/AbstractStringBuilder", name := "<init>", desc := "(I)V" } : Jvm.MethodName) jdk_68_method_2_code (2 : Nat) (Option.none : Option Jvm.ClassFile.FieldType)).before args0 about1 = true := code_word (m := ⟨12, 1⟩) (meth := k12m1) (c := k12c1) (by decide +kernel) rfl rfl rfl (by decide +kernel)
set_option maxRecDepth 65536 in
theorem w_c12 : (Jvm.Cond.code ({ cls := "java/lang/StringBuilder", name := "append", desc := "(Ljava/lang/String;)Ljava/lang/StringBuilder;" } : Jvm.MethodName) jdk_67_method_7_code (2 : Nat) (Option.some (Jvm.ClassFile.FieldType.object "java/lang/StringBuilder"))).before args0 about1 = true := code_word (m := ⟨13, 1⟩) (meth := k13m1) (c := k13c1) (by decide +kernel) rfl rfl rfl (by decide +kernel)
set_option maxRecDepth 65536 in
theorem w_c13 : (Jvm.Cond.code ({ cls := "java/lang/AbstractStringBuilder", name := "append", desc := "(Ljava/lang/String;)Ljava/lang/AbstractStringBuilder;" } : Jvm.MethodName) jdk_68_method_22_code (3 : Nat) (Option.some (Jvm.ClassFile.FieldType.object "java/lang/AbstractStringBuilder"))).before args0 about1 = true := code_word (m := ⟨12, 5⟩) (meth := k12m5) (c := k12c5) (by decide +kernel) rfl rfl rfl (by decide +kernel)
set_option maxRecDepth 65536 in
theorem w_c14 : (Jvm.Cond.code ({ cls := "java/lang/String", name := "length", desc := "()I" } : Jvm.MethodName) jdk_42_method_54_code (1 : Nat) (Option.some Jvm.ClassFile.FieldType.int)).before args0 about1 = true := code_word (m := ⟨9, 3⟩) (meth := k9m3) (c := k9c3) (by decide +kernel) rfl rfl rfl (by decide +kernel)
set_option maxRecDepth 65536 in
theorem w_c15 : (Jvm.Cond.code ({ cls := "java/lang/String", name := "coder", desc := "()B" } : Jvm.MethodName) jdk_42_method_152_code (1 : Nat) (Option.some Jvm.ClassFile.FieldType.byte)).before args0 about1 = true := code_word (m := ⟨9, 10⟩) (meth := k9m10) (c := k9c10) (by decide +kernel) rfl rfl rfl (by decide +kernel)
set_option maxRecDepth 65536 in
theorem w_c16 : (Jvm.Cond.code ({ cls := "java/lang/AbstractStringBuilder", name := "ensureCapacityInternal", desc := "(I)V" } : Jvm.MethodName) jdk_68_method_9_code (3 : Nat) (Option.none : Option Jvm.ClassFile.FieldType)).before args0 about1 = true := code_word (m := ⟨12, 3⟩) (meth := k12m3) (c := k12c3) (by decide +kernel) rfl rfl rfl (by decide +kernel)
set_option maxRecDepth 65536 in
theorem w_c17 : (Jvm.Cond.code ({ cls := "java/lang/AbstractStringBuilder", name := "putStringAt", desc := "(ILjava/lang/String;)V" } : Jvm.MethodName) jdk_68_method_73_code (3 : Nat) (Option.none : Option Jvm.ClassFile.FieldType)).before args0 about1 = true := code_word (m := ⟨12, 9⟩) (meth := k12m9) (c := k12c9) (by decide +kernel) rfl rfl rfl (by decide +kernel)
set_option maxRecDepth 65536 in
theorem w_c18 : (Jvm.Cond.code ({ cls := "java/lang/AbstractStringBuilder", name := "inflateIfNeededFor", desc := "(Ljava/lang/String;)V" } : Jvm.MethodName) jdk_68_method_71_code (2 : Nat) (Option.none : Option Jvm.ClassFile.FieldType)).before args0 about1 = true := code_word (m := ⟨12, 8⟩) (meth := k12m8) (c := k12c8) (by decide +kernel) rfl rfl rfl (by decide +kernel)
set_option maxRecDepth 65536 in
theorem w_c19 : (Jvm.Cond.code ({ cls := "java/lang/String", name := "getBytes", desc := "([BIB)V" } : Jvm.MethodName) jdk_42_method_147_code (4 : Nat) (Option.none : Option Jvm.ClassFile.FieldType)).before args0 about1 = true := code_word (m := ⟨9, 6⟩) (meth := k9m6) (c := k9c6) (by decide +kernel) rfl rfl rfl (by decide +kernel)
set_option maxRecDepth 65536 in
theorem w_c20 : (Jvm.Cond.code ({ cls := "java/lang/StringBuilder", name := "toString", desc := "()Ljava/lang/String;" } : Jvm.MethodName) jdk_67_method_42_code (1 : Nat) (Option.some (Jvm.ClassFile.FieldType.object "java/lang/String"))).before args0 about1 = true := code_word (m := ⟨13, 2⟩) (meth := k13m2) (c := k13c2) (by decide +kernel) rfl rfl rfl (by decide +kernel)
set_option maxRecDepth 65536 in
theorem w_c21 : (Jvm.Cond.code ({ cls := "java/lang/String", name := "<init>", desc := "(Ljava/lang/StringBuilder;)V" } : Jvm.MethodName) jdk_42_method_53_code (2 : Nat) (Option.none : Option Jvm.ClassFile.FieldType)).before args0 about1 = true := code_word (m := ⟨9, 2⟩) (meth := k9m2) (c := k9c2) (by decide +kernel) rfl rfl rfl (by decide +kernel)
set_option maxRecDepth 65536 in
theorem w_c22 : (Jvm.Cond.code ({ cls := "java/lang/String", name := "<init>", desc := "(Ljava/lang/AbstractStringBuilder;Ljava/lang/Void;)V" } : Jvm.MethodName) jdk_42_method_150_code (5 : Nat) (Option.none : Option Jvm.ClassFile.FieldType)).before args0 about1 = true := code_word (m := ⟨9, 8⟩) (meth := k9m8) (c := k9c8) (by decide +kernel) rfl rfl rfl (by decide +kernel)
set_option maxRecDepth 65536 in
theorem w_c23 : (Jvm.Cond.code ({ cls := "java/lang/AbstractStringBuilder", name := "getValue", desc := "()[B" } : Jvm.MethodName) jdk_68_method_64_code (1 : Nat) (Option.some (Jvm.ClassFile.FieldType.array Jvm.ClassFile.FieldType.byte))).before args0 about1 = true := code_word (m := ⟨12, 6⟩) (meth := k12m6) (c := k12c6) (by decide +kernel) rfl rfl rfl (by decide +kernel)
set_option maxRecDepth 65536 in
theorem w_c24 : (Jvm.Cond.code ({ cls := "java/lang/StringBuilder", name := "length", desc := "()I" } : Jvm.MethodName) jdk_67_method_93_code (1 : Nat) (Option.some Jvm.ClassFile.FieldType.int)).before args0 about1 = true := code_word (m := ⟨13, 3⟩) (meth := k13m3) (c := k13c3) (by decide +kernel) rfl rfl rfl (by decide +kernel)
set_option maxRecDepth 65536 in
theorem w_c25 : (Jvm.Cond.code ({ cls := "java/lang/AbstractStringBuilder", name := "length", desc := "()I" } : Jvm.MethodName) jdk_68_method_6_code (1 : Nat) (Option.some Jvm.ClassFile.FieldType.int)).before args0 about1 = true := code_word (m := ⟨12, 2⟩) (meth := k12m2) (c := k12c2) (by decide +kernel) rfl rfl rfl (by decide +kernel)
set_option maxRecDepth 65536 in
theorem w_c26 : (Jvm.Cond.code ({ cls := "java/lang/AbstractStringBuilder", name := "isLatin1", desc := "()Z" } : Jvm.MethodName) jdk_68_method_68_code (1 : Nat) (Option.some Jvm.ClassFile.FieldType.boolean)).before args0 about1 = true := code_word (m := ⟨12, 7⟩) (meth := k12m7) (c := k12c7) (by decide +kernel) rfl rfl rfl (by decide +kernel)
set_option maxRecDepth 65536 in
theorem w_c27 : (Jvm.Cond.code ({ cls := "java/util/Arrays", name := "copyOfRange", desc := "([BII)[B" } : Jvm.MethodName) jdk_65_method_132_code (3 : Nat) (Option.some (Jvm.ClassFile.FieldType.array Jvm.ClassFile.FieldType.byte))).before args0 about1 = true := code_word (m := ⟨15, 3⟩) (meth := k15m3) (c := k15c3) (by decide +kernel) rfl rfl rfl (by decide +kernel)
set_option maxRecDepth 65536 in
theorem w_c28 : (Jvm.Cond.code ({ cls := "java/util/Arrays", name := "copyOfRangeByte", desc := "([BII)[B" } : Jvm.MethodName) jdk_65_method_133_code (5 : Nat) (Option.some (Jvm.ClassFile.FieldType.array Jvm.ClassFile.FieldType.byte))).before args0 about1 = true := code_word (m := ⟨15, 4⟩) (meth := k15m4) (c := k15c4) (by decide +kernel) rfl rfl rfl (by decide +kernel)
set_option maxRecDepth 65536 in
theorem w_c29 : (Jvm.Cond.code ({ cls := "java/util/Arrays", name := "checkLength", desc := "(II)V" } : Jvm.MethodName) jdk_65_method_131_code (2 : Nat) (Option.none : Option Jvm.ClassFile.FieldType)).before args0 about1 = true := code_word (m := ⟨15, 2⟩) (meth := k15m2) (c := k15c2) (by decide +kernel) rfl rfl rfl (by decide +kernel)
set_option maxRecDepth 65536 in
theorem w_c30 : (Jvm.Cond.code ({ cls := "java/lang/Math", name := "min", desc := "(II)I" } : Jvm.MethodName) jdk_29_method_69_code (2 : Nat) (Option.some Jvm.ClassFile.FieldType.int)).before args0 about1 = true := code_word (m := ⟨16, 2⟩) (meth := k16m2) (c := k16c2) (by decide +kernel) rfl rfl rfl (by decide +kernel)
set_option maxRecDepth 65536 in
theorem w_c31 : (Jvm.Cond.code ({ cls := "java/lang/String", name := "charAt", desc := "(I)C" } : Jvm.MethodName) jdk_42_method_56_code (2 : Nat) (Option.some Jvm.ClassFile.FieldType.char)).before args0 about1 = true := code_word (m := ⟨9, 4⟩) (meth := k9m4) (c := k9c4) (by decide +kernel) rfl rfl rfl (by decide +kernel)
set_option maxRecDepth 65536 in
theorem w_c32 : (Jvm.Cond.code ({ cls := "java/lang/String", name := "isLatin1", desc := "()Z" } : Jvm.MethodName) jdk_42_method_154_code (1 : Nat) (Option.some Jvm.ClassFile.FieldType.boolean)).before args0 about1 = true := code_word (m := ⟨9, 11⟩) (meth := k9m11) (c := k9c11) (by decide +kernel) rfl rfl rfl (by decide +kernel)
set_option maxRecDepth 65536 in
theorem w_c33 : (Jvm.Cond.code ({ cls := "java/lang/StringLatin1", name := "charAt", desc := "([BI)C" } : Jvm.MethodName) jdk_43_method_2_code (2 : Nat) (Option.some Jvm.ClassFile.FieldType.char)).before args0 about1 = true := code_word (m := ⟨10, 1⟩) (meth := k10m1) (c := k10c1) (by decide +kernel) rfl rfl rfl (by decide +kernel)
set_option maxRecDepth 65536 in
theorem w_c34 : (Jvm.Cond.code ({ cls := "java/lang/String", name := "checkIndex", desc := "(II)V" } : Jvm.MethodName) jdk_42_method_155_code (2 : Nat) (Option.none : Option Jvm.ClassFile.FieldType)).before args0 about1 = true := code_word (m := ⟨9, 12⟩) (meth := k9m12) (c := k9c12) (by decide +kernel) rfl rfl rfl (by decide +kernel)
set_option maxRecDepth 65536 in
theorem w_c35 : (Jvm.Cond.code ({ cls := "jdk/internal/util/Preconditions", name := "checkIndex", desc := "(IILjava/util/function/BiFunction;)I" } : Jvm.MethodName) jdk_41_method_11_code (3 : Nat) (Option.some Jvm.ClassFile.FieldType.int)).before args0 about1 = true := code_word (m := ⟨17, 1⟩) (meth := k17m1) (c := k17c1) (by decide +kernel) rfl rfl rfl (by decide +kernel)
set_option maxRecDepth 65536 in
theorem w_c36 : (Jvm.Cond.code ({ cls := "java/lang/StringUTF16", name := "compress", desc := "([CII)[B" } : Jvm.MethodName) jdk_52_method_16_code (6 : Nat) (Option.some (Jvm.ClassFile.FieldType.array Jvm.ClassFile.FieldType.byte))).before args0 about1 = true := code_word (m := ⟨18, 2⟩) (meth := k18m2) (c := k18c2) (by decide +kernel) rfl rfl rfl (by decide +kernel)
set_option maxRecDepth 65536 in
theorem w_c37 : (Jvm.Cond.code ({ cls := "java/lang/StringUTF16", name := "compress", desc := "([CI[BII)I" } : Jvm.MethodName) jdk_52_method_21_code (7 : Nat) (Option.some Jvm.ClassFile.FieldType.int)).before args0 about1 = true := code_word (m := ⟨18, 3⟩) (meth := k18m3) (c := k18c3) (by decide +kernel) rfl rfl rfl (by decide +kernel)
set_option maxRecDepth 65536 in
theorem w_c38 : (Jvm.Cond.code ({ cls := "java/lang/StringUTF16", name := "coderFromArrayLen", desc := "([BI)B" } : Jvm.MethodName) jdk_52_method_15_code (2 : Nat) (Option.some Jvm.ClassFile.FieldType.byte)).before args0 about1 = true := code_word (m := ⟨18, 1⟩) (meth := k18m1) (c := k18c1) (by decide +kernel) rfl rfl rfl (by decide +kernel)
set_option maxRecDepth 65536 in
theorem w_c39 : (Jvm.Cond.code ({ cls := "java/lang/AbstractStringBuilder", name := "newCapacity", desc := "(I)I" } : Jvm.MethodName) jdk_68_method_10_code (6 : Nat) (Option.some Jvm.ClassFile.FieldType.int)).before args0 about1 = true := code_word (m := ⟨12, 4⟩) (meth := k12m4) (c := k12c4) (by decide +kernel) rfl rfl rfl (by decide +kernel)
set_option maxRecDepth 65536 in
theorem w_c40 : (Jvm.Cond.code ({ cls := "jdk/internal/util/ArraysSupport", name := "newLength", desc := "(III)I" } : Jvm.MethodName) jdk_48_method_27_code (4 : Nat) (Option.some Jvm.ClassFile.FieldType.int)).before args0 about1 = true := code_word (m := ⟨19, 1⟩) (meth := k19m1) (c := k19c1) (by decide +kernel) rfl rfl rfl (by decide +kernel)
set_option maxRecDepth 65536 in
theorem w_c41 : (Jvm.Cond.code ({ cls := "java/lang/Math", name := "max", desc := "(II)I" } : Jvm.MethodName) jdk_29_method_65_code (2 : Nat) (Option.some Jvm.ClassFile.FieldType.int)).before args0 about1 = true := code_word (m := ⟨16, 1⟩) (meth := k16m1) (c := k16c1) (by decide +kernel) rfl rfl rfl (by decide +kernel)
set_option maxRecDepth 65536 in
theorem w_c42 : (Jvm.Cond.code ({ cls := "java/util/Arrays", name := "copyOf", desc := "([BI)[B" } : Jvm.MethodName) jdk_65_method_121_code (3 : Nat) (Option.some (Jvm.ClassFile.FieldType.array Jvm.ClassFile.FieldType.byte))).before args0 about1 = true := code_word (m := ⟨15, 1⟩) (meth := k15m1) (c := k15c1) (by decide +kernel) rfl rfl rfl (by decide +kernel)
def codes1 : List Jvm.Cond := [Jvm.Cond.code x code maxLocals ret, Jvm.Cond.code ({ cls := "com/example/emex/emex/read/FileRefusalLinePinLaw", name := "make", desc := "(ICC)Ljava/lang/String;" } : Jvm.MethodName) method_3_code (3 : Nat) (Option.some (Jvm.ClassFile.FieldType.object "java/lang/String")), Jvm.Cond.code ({ cls := "java/lang/String", name := "valueOf", desc := "(C)Ljava/lang/String;" } : Jvm.MethodName) jdk_42_method_139_code (1 : Nat) (Option.some (Jvm.ClassFile.FieldType.object "java/lang/String")), Jvm.Cond.code ({ cls := "java/lang/StringLatin1", name := "canEncode", desc := "(C)Z" } : Jvm.MethodName) jdk_43_method_3_code (1 : Nat) (Option.some Jvm.ClassFile.FieldType.boolean), Jvm.Cond.code ({ cls := "java/lang/StringLatin1", name := "toBytes", desc := "(C)[B" } : Jvm.MethodName) jdk_43_method_46_code (1 : Nat) (Option.some (Jvm.ClassFile.FieldType.array Jvm.ClassFile.FieldType.byte)), Jvm.Cond.code ({ cls := "java/lang/String", name := "<init>", desc := "([BB)V" } : Jvm.MethodName) jdk_42_method_151_code (3 : Nat) (Option.none : Option Jvm.ClassFile.FieldType), Jvm.Cond.code ({ cls := "java/lang/Object", name := "<init>", desc := "()V" } : Jvm.MethodName) object_method_1_code (1 : Nat) (Option.none : Option Jvm.ClassFile.FieldType), Jvm.Cond.code ({ cls := "java/lang/String", name := "<init>", desc := "([C)V" } : Jvm.MethodName) jdk_42_method_3_code (2 : Nat) (Option.none : Option Jvm.ClassFile.FieldType), Jvm.Cond.code ({ cls := "java/lang/String", name := "<init>", desc := "([CIILjava/lang/Void;)V" } : Jvm.MethodName) jdk_42_method_149_code (6 : Nat) (Option.none : Option Jvm.ClassFile.FieldType), Jvm.Cond.code ({ cls := "com/example/emex/emex/read/FileRefusal", name := "line", desc := "(Ljava/lang/String;Ljava/lang/String;)Ljava/lang/String;" } : Jvm.MethodName) prog_17_method_4_code (3 : Nat) (Option.some (Jvm.ClassFile.FieldType.object "java/lang/String")), Jvm.Cond.code ({ cls := "java/lang/StringBuilder", name := "<init>", desc := "()V" } : Jvm.MethodName) jdk_67_method_1_code (1 : Nat) (Option.none : Option Jvm.ClassFile.FieldType), Jvm.Cond.code ({ cls := "java/lang/AbstractStringBuilder", name := "<init>", desc := "(I)V" } : Jvm.MethodName) jdk_68_method_2_code (2 : Nat) (Option.none : Option Jvm.ClassFile.FieldType), Jvm.Cond.code ({ cls := "java/lang/StringBuilder", name := "append", desc := "(Ljava/lang/String;)Ljava/lang/StringBuilder;" } : Jvm.MethodName) jdk_67_method_7_code (2 : Nat) (Option.some (Jvm.ClassFile.FieldType.object "java/lang/StringBuilder")), Jvm.Cond.code ({ cls := "java/lang/AbstractStringBuilder", name := "append", desc := "(Ljava/lang/String;)Ljava/lang/AbstractStringBuilder;" } : Jvm.MethodName) jdk_68_method_22_code (3 : Nat) (Option.some (Jvm.ClassFile.FieldType.object "java/lang/AbstractStringBuilder")), Jvm.Cond.code ({ cls := "java/lang/String", name := "length", desc := "()I" } : Jvm.MethodName) jdk_42_method_54_code (1 : Nat) (Option.some Jvm.ClassFile.FieldType.int), Jvm.Cond.code ({ cls := "java/lang/String", name := "coder", desc := "()B" } : Jvm.MethodName) jdk_42_method_152_code (1 : Nat) (Option.some Jvm.ClassFile.FieldType.byte), Jvm.Cond.code ({ cls := "java/lang/AbstractStringBuilder", name := "ensureCapacityInternal", desc := "(I)V" } : Jvm.MethodName) jdk_68_method_9_code (3 : Nat) (Option.none : Option Jvm.ClassFile.FieldType), Jvm.Cond.code ({ cls := "java/lang/AbstractStringBuilder", name := "putStringAt", desc := "(ILjava/lang/String;)V" } : Jvm.MethodName) jdk_68_method_73_code (3 : Nat) (Option.none : Option Jvm.ClassFile.FieldType), Jvm.Cond.code ({ cls := "java/lang/AbstractStringBuilder", name := "inflateIfNeededFor", desc := "(Ljava/lang/String;)V" } : Jvm.MethodName) jdk_68_method_71_code (2 : Nat) (Option.none : Option Jvm.ClassFile.FieldType), Jvm.Cond.code ({ cls := "java/lang/String", name := "getBytes", desc := "([BIB)V" } : Jvm.MethodName) jdk_42_method_147_code (4 : Nat) (Option.none : Option Jvm.ClassFile.FieldType), Jvm.Cond.code ({ cls := "java/lang/StringBuilder", name := "toString", desc := "()Ljava/lang/String;" } : Jvm.MethodName) jdk_67_method_42_code (1 : Nat) (Option.some (Jvm.ClassFile.FieldType.object "java/lang/String")), Jvm.Cond.code ({ cls := "java/lang/String", name := "<init>", desc := "(Ljava/lang/StringBuilder;)V" } : Jvm.MethodName) jdk_42_method_53_code (2 : Nat) (Option.none : Option Jvm.ClassFile.FieldType), Jvm.Cond.code ({ cls := "java/lang/String", name := "<init>", desc := "(Ljava/lang/AbstractStringBuilder;Ljava/lang/Void;)V" } : Jvm.MethodName) jdk_42_method_150_code (5 : Nat) (Option.none : Option Jvm.ClassFile.FieldType), Jvm.Cond.code ({ cls := "java/lang/AbstractStringBuilder", name := "getValue", desc := "()[B" } : Jvm.MethodName) jdk_68_method_64_code (1 : Nat) (Option.some (Jvm.ClassFile.FieldType.array Jvm.ClassFile.FieldType.byte)), Jvm.Cond.code ({ cls := "java/lang/StringBuilder", name := "length", desc := "()I" } : Jvm.MethodName) jdk_67_method_93_code (1 : Nat) (Option.some Jvm.ClassFile.FieldType.int), Jvm.Cond.code ({ cls := "java/lang/AbstractStringBuilder", name := "length", desc := "()I" } : Jvm.MethodName) jdk_68_method_6_code (1 : Nat) (Option.some Jvm.ClassFile.FieldType.int), Jvm.Cond.code ({ cls := "java/lang/AbstractStringBuilder", name := "isLatin1", desc := "()Z" } : Jvm.MethodName) jdk_68_method_68_code (1 : Nat) (Option.some Jvm.ClassFile.FieldType.boolean), Jvm.Cond.code ({ cls := "java/util/Arrays", name := "copyOfRange", desc := "([BII)[B" } : Jvm.MethodName) jdk_65_method_132_code (3 : Nat) (Option.some (Jvm.ClassFile.FieldType.array Jvm.ClassFile.FieldType.byte)), Jvm.Cond.code ({ cls := "java/util/Arrays", name := "copyOfRangeByte", desc := "([BII)[B" } : Jvm.MethodName) jdk_65_method_133_code (5 : Nat) (Option.some (Jvm.ClassFile.FieldType.array Jvm.ClassFile.FieldType.byte)), Jvm.Cond.code ({ cls := "java/util/Arrays", name := "checkLength", desc := "(II)V" } : Jvm.MethodName) jdk_65_method_131_code (2 : Nat) (Option.none : Option Jvm.ClassFile.FieldType), Jvm.Cond.code ({ cls := "java/lang/Math", name := "min", desc := "(II)I" } : Jvm.MethodName) jdk_29_method_69_code (2 : Nat) (Option.some Jvm.ClassFile.FieldType.int), Jvm.Cond.code ({ cls := "java/lang/String", name := "charAt", desc := "(I)C" } : Jvm.MethodName) jdk_42_method_56_code (2 : Nat) (Option.some Jvm.ClassFile.FieldType.char), Jvm.Cond.code ({ cls := "java/lang/String", name := "isLatin1", desc := "()Z" } : Jvm.MethodName) jdk_42_method_154_code (1 : Nat) (Option.some Jvm.ClassFile.FieldType.boolean), Jvm.Cond.code ({ cls := "java/lang/StringLatin1", name := "charAt", desc := "([BI)C" } : Jvm.MethodName) jdk_43_method_2_code (2 : Nat) (Option.some Jvm.ClassFile.FieldType.char), Jvm.Cond.code ({ cls := "java/lang/String", name := "checkIndex", desc := "(II)V" } : Jvm.MethodName) jdk_42_method_155_code (2 : Nat) (Option.none : Option Jvm.ClassFile.FieldType), Jvm.Cond.code ({ cls := "jdk/internal/util/Preconditions", name := "checkIndex", desc := "(IILjava/util/function/BiFunction;)I" } : Jvm.MethodName) jdk_41_method_11_code (3 : Nat) (Option.some Jvm.ClassFile.FieldType.int), Jvm.Cond.code ({ cls := "java/lang/StringUTF16", name := "compress", desc := "([CII)[B" } : Jvm.MethodName) jdk_52_method_16_code (6 : Nat) (Option.some (Jvm.ClassFile.FieldType.array Jvm.ClassFile.FieldType.byte)), Jvm.Cond.code ({ cls := "java/lang/StringUTF16", name := "compress", desc := "([CI[BII)I" } : Jvm.MethodName) jdk_52_method_21_code (7 : Nat) (Option.some Jvm.ClassFile.FieldType.int), Jvm.Cond.code ({ cls := "java/lang/StringUTF16", name := "coderFromArrayLen", desc := "([BI)B" } : Jvm.MethodName) jdk_52_method_15_code (2 : Nat) (Option.some Jvm.ClassFile.FieldType.byte), Jvm.Cond.code ({ cls := "java/lang/AbstractStringBuilder", name := "newCapacity", desc := "(I)I" } : Jvm.MethodName) jdk_68_method_10_code (6 : Nat) (Option.some Jvm.ClassFile.FieldType.int), Jvm.Cond.code ({ cls := "jdk/internal/util/ArraysSupport", name := "newLength", desc := "(III)I" } : Jvm.MethodName) jdk_48_method_27_code (4 : Nat) (Option.some Jvm.ClassFile.FieldType.int), Jvm.Cond.code ({ cls := "java/lang/Math", name := "max", desc := "(II)I" } : Jvm.MethodName) jdk_29_method_65_code (2 : Nat) (Option.some Jvm.ClassFile.FieldType.int), Jvm.Cond.code ({ cls := "java/util/Arrays", name := "copyOf", desc := "([BI)[B" } : Jvm.MethodName) jdk_65_method_121_code (3 : Nat) (Option.some (Jvm.ClassFile.FieldType.array Jvm.ClassFile.FieldType.byte))]
set_option maxRecDepth 65536 in
theorem codes_eq : words1.filter isCode = codes1 := rfl
theorem w_codes : ∀ c ∈ words1.filter isCode, c.before args0 about1 = true := by
  rw [codes_eq]
  intro c hc
  simp only [codes1, List.mem_cons, List.not_mem_nil, or_false] at hc
  rcases hc with rfl | rfl | rfl | rfl | rfl | rfl | rfl | rfl | rfl | rfl | rfl | rfl | rfl | rfl | rfl | rfl | rfl | rfl | rfl | rfl | rfl | rfl | rfl | rfl | rfl | rfl | rfl | rfl | rfl | rfl | rfl | rfl | rfl | rfl | rfl | rfl | rfl | rfl | rfl | rfl | rfl | rfl | rfl
  · exact w_c0
  · exact w_c1
  · exact w_c2
  · exact w_c3
  · exact w_c4
  · exact w_c5
  · exact w_c6
  · exact w_c7
  · exact w_c8
  · exact w_c9
  · exact w_c10
  · exact w_c11
  · exact w_c12
  · exact w_c13
  · exact w_c14
  · exact w_c15
  · exact w_c16
  · exact w_c17
  · exact w_c18
  · exact w_c19
  · exact w_c20
  · exact w_c21
  · exact w_c22
  · exact w_c23
  · exact w_c24
  · exact w_c25
  · exact w_c26
  · exact w_c27
  · exact w_c28
  · exact w_c29
  · exact w_c30
  · exact w_c31
  · exact w_c32
  · exact w_c33
  · exact w_c34
  · exact w_c35
  · exact w_c36
  · exact w_c37
  · exact w_c38
  · exact w_c39
  · exact w_c40
  · exact w_c41
  · exact w_c42
set_option maxRecDepth 65536 in
theorem w_t1 : (words1.take 24).all (fun c => isCode c || c.before args0 about1) = true := by decide +kernel
set_option maxRecDepth 65536 in
theorem w_t2 : ((words1.drop 24).take 24).all (fun c => isCode c || c.before args0 about1) = true := by decide +kernel
set_option maxRecDepth 65536 in
theorem w_t3 : (((words1.drop 24).drop 24).take 24).all (fun c => isCode c || c.before args0 about1) = true := by decide +kernel
set_option maxRecDepth 65536 in
theorem w_t4 : ((((words1.drop 24).drop 24).drop 24).take 24).all (fun c => isCode c || c.before args0 about1) = true := by decide +kernel
set_option maxRecDepth 65536 in
theorem w_t5 : (((((words1.drop 24).drop 24).drop 24).drop 24).take 24).all (fun c => isCode c || c.before args0 about1) = true := by decide +kernel
set_option maxRecDepth 65536 in
theorem w_t6 : ((((((words1.drop 24).drop 24).drop 24).drop 24).drop 24).take 24).all (fun c => isCode c || c.before args0 about1) = true := by decide +kernel
set_option maxRecDepth 65536 in
theorem w_t7 : (((((((words1.drop 24).drop 24).drop 24).drop 24).drop 24).drop 24).take 24).all (fun c => isCode c || c.before args0 about1) = true := by decide +kernel
set_option maxRecDepth 65536 in
theorem w_t8 : ((((((((words1.drop 24).drop 24).drop 24).drop 24).drop 24).drop 24).drop 24).take 24).all (fun c => isCode c || c.before args0 about1) = true := by decide +kernel
set_option maxRecDepth 65536 in
theorem w_t9 : (((((((((words1.drop 24).drop 24).drop 24).drop 24).drop 24).drop 24).drop 24).drop 24).take 24).all (fun c => isCode c || c.before args0 about1) = true := by decide +kernel
set_option maxRecDepth 65536 in
theorem w_t10 : (((((((((words1.drop 24).drop 24).drop 24).drop 24).drop 24).drop 24).drop 24).drop 24).drop 24).all (fun c => isCode c || c.before args0 about1) = true := by decide +kernel
theorem w_tables : (allAtoms (Jvm.Cond.code x code maxLocals ret :: tables_1)).before args0 about1 = true := by
  rw [allAtoms_all]
  show words1.all (fun c => c.before args0 about1) = true
  refine all_split ?_ w_codes
  rw [← List.take_append_drop 24 words1, List.all_append, w_t1, ← List.take_append_drop 24 (words1.drop 24), List.all_append, w_t2, ← List.take_append_drop 24 ((words1.drop 24).drop 24), List.all_append, w_t3, ← List.take_append_drop 24 (((words1.drop 24).drop 24).drop 24), List.all_append, w_t4, ← List.take_append_drop 24 ((((words1.drop 24).drop 24).drop 24).drop 24), List.all_append, w_t5, ← List.take_append_drop 24 (((((words1.drop 24).drop 24).drop 24).drop 24).drop 24), List.all_append, w_t6, ← List.take_append_drop 24 ((((((words1.drop 24).drop 24).drop 24).drop 24).drop 24).drop 24), List.all_append, w_t7, ← List.take_append_drop 24 (((((((words1.drop 24).drop 24).drop 24).drop 24).drop 24).drop 24).drop 24), List.all_append, w_t8, ← List.take_append_drop 24 ((((((((words1.drop 24).drop 24).drop 24).drop 24).drop 24).drop 24).drop 24).drop 24), List.all_append, w_t9, w_t10]
  rfl
set_option maxRecDepth 65536 in
theorem w_rest : rest_1_c.before args0 about1 = true := by decide +kernel
set_option maxRecDepth 65536 in
theorem w_case : (Jvm.Cond.and given_1 narrow_1).before args0 about1 = true := by decide +kernel
set_option maxRecDepth 65536 in
theorem w_consts : constsHeld consts_1 about1 := Jvm.Lit.constsHeldB_iff.mp (by decide +kernel)
theorem w_applies : (headSpec (Jvm.Cond.code x code maxLocals ret :: tables_1) room_1).applies x e0.platform about1 = true :=
  (Spec.applies_iff w_frames).mpr ⟨w_running, w_runnable, w_alone, w_named, w_hears, w_ripe, w_room, w_tables⟩
theorem atStart : AtStart classFile x code maxLocals ret World_1 tables_1 room_1 Calls_1 rest_1 Pre_1 launch0 p0 e0 about1 theMethod args0 below0 :=
  ⟨lists_1, trivial, launch0.admits_env _ _ _, launch0.least_env, fairChoices_fair.cas, fairChoices_fair.clock, w_frames, w_args, w_heap, w_applies, ⟨w_consts, trivial⟩, w_rest, w_case⟩
end start1
theorem witness_1 : WitnessClaimed_1 := ⟨start1.p0, start1.e0, start1.about1, start1.theMethod, start1.args0, start1.below0, start1.atStart⟩
end Jvm.Pilot.@@N@@
