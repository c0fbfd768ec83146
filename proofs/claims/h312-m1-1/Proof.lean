import JvmDerived
import JvmDerived.Pilot.@@N@@Statement
import JvmDerived.Pilot.@@N@@Code
set_option linter.unusedVariables false
set_option linter.unusedSimpArgs false

namespace Jvm.RoadKit
open Sem ClassFile Op Lib Jvm.Stand Jvm.Free Jvm.LawKit
section New
variable {p : Program} {l : Launch} {e : Env} {R : Room} {s : State} {m : MethodId} {args : Array Value} {below : List Frame} {meth : Method} {c : Code} {T : State} {locs : List Loc} {cells slots : Nat}
theorem retI (X : Stand p l e R s m args below meth c T locs cells slots) (hx : p.tables.exec = Jvm.exec) {pc : Nat} {Ls : Array Slot} {z : Int32} {rest : List Value} (hret : meth.sig.returnType = some .int) (hd : decode c.code pc = .ok (.ireturn, 1)) {fs : List Frame}
    (hl : ∀ (f : JFrame) (acts : List Action), f.method = m → f.locked = none → f.entered = [] → (doReturn e (T.setTop f) acts (some (.int z))).1 = T.setFrames fs) : Steps p.tables e below (T.setTop (mkF m pc Ls (.int z :: rest))) (T.setFrames fs) := by
  have hm' : T.vm.method? m = some meth := X.method'
  have hn : narrow .int (.int z) = .int z := rfl
  show Steps p.tables e below (T.setTop { method := m, pc := pc, locals := Ls, stack := _ :: rest, locked := none }) _
  jvm_step X.here [X.here.top, hx, hd, hm', hret, hn]
  first | (intro acts; rw [hl _ acts rfl rfl rfl]) | rw [hl _ _ rfl rfl rfl]
  exact Steps.refl _
theorem own_lrem {g : JFrame} {target : State} (X : Stand p l e R s m args below meth c T locs cells slots) (hx : p.tables.exec = Jvm.exec) (hg : g.method = m) {x y : Int64} {rest : List Value} (hd : decode c.code g.pc = .ok (.lrem, 1)) (hs : g.stack = .long y :: .long x :: rest) (hy : y ≠ 0)
    (hr : Steps p.tables e below (T.setTop { g with pc := g.pc + 1, stack := .long (x % y) :: rest }) target) : Steps p.tables e below (T.setTop g) target := by
  have q : x - x / y * y = x % y := lrem_mod x y
  exact XS.lrem X.here hx hg hd hs hy (by rw [q]; exact hr)
end New
end Jvm.RoadKit
/- laws to paste: Road.backV (cut by pick.py; bodies as the Statement names them) -/
namespace Jvm.Pilot.@@N@@
namespace StrChars
open Jvm Sem ClassFile Op Lib Jvm.Stand Jvm.Free.XT Jvm.Free.ALB Jvm.Free.JM Jvm.Free
open Jvm.Lib.Cold (StaticIs)
/-- a char array whose places are chars -/
def Ch (a : Addr) (A : Cell) (U : State) : Prop := Arr .char a A U ∧ Typed .char A
theorem Ch.mv {a : Addr} {A : Cell} {U U' : State} (h : Ch a A U) (hal : U.vm.Alike U'.vm) (hh : U'.heap = U.heap) : Ch a A U' := ⟨h.1.mv hal hh, h.2⟩
theorem Ch.keep {a : Addr} {A : Cell} {U U' : State} (h : Ch a A U) (hal : U.vm.Alike U'.vm) (hk : U'.heap[a]? = some A) : Ch a A U' := ⟨h.1.keep hal hk, h.2⟩
/-- what place i of a char[]'s cell holds -/
def cv (A : Cell) (i : Nat) : Int32 := match A.slots[i]? with | some (.int x) => x | _ => 0
theorem Ch.get {a : Addr} {A : Cell} {U : State} (h : Ch a A U) {i : Nat} (hi : i < A.slots.size) : A.slots[i]? = some (.int (cv A i)) := by
  have e := Array.getElem?_eq_getElem hi
  have f := h.2 i _ e
  unfold cv; rw [e]
  generalize A.slots[i] = v at f
  cases v <;> simp [fits] at f ⊢
/-- the byte that i2b leaves of a char -/
def lo8 (x : Int32) : Int32 := x.toInt8.toInt32
theorem fits_lo8 (y : Int32) : fits .byte (.int (lo8 y)) = true := by
  have h1 := y.toInt8.le_toInt
  have h2 := y.toInt8.toInt_lt
  simp only [lo8, fits, Bool.and_eq_true, decide_eq_true_eq, Int32.le_iff_toInt_le, Int8.toInt_toInt32, show (-128 : Int32).toInt = -128 from by decide, show (127 : Int32).toInt = 127 from by decide]
  omega
/-- A' is A but that each place j of lo .. hi - 1 holds f j -/
def Laid (A A' : Cell) (lo hi : Nat) (f : Nat → Value) : Prop := A'.cls = A.cls ∧ A'.vm = A.vm ∧ A'.slots.size = A.slots.size ∧ ∀ i, A'.slots[i]? = if lo ≤ i ∧ i < hi then some (f i) else A.slots[i]?
theorem Laid.zero (A : Cell) (lo : Nat) (f : Nat → Value) : Laid A A lo (lo + 0) f := ⟨rfl, rfl, rfl, fun i => by rw [if_neg (by omega)]⟩
theorem Laid.step {A Ak : Cell} {lo k : Nat} {f : Nat → Value} {v : Value} (h : Laid A Ak lo k f) (hlo : lo ≤ k) (hk : k < Ak.slots.size) (hv : v = f k) : Laid A (Ak.setSlot k v) lo (k + 1) f := by
  refine ⟨h.1, h.2.1, by simpa [Cell.setSlot] using h.2.2.1, fun i => ?_⟩
  by_cases e : k = i
  · subst e; rw [Cell.slots_setSlot_self v hk, if_pos (by omega), hv]
  · rw [Cell.slots_setSlot_ne v e, h.2.2.2 i]
    by_cases q : lo ≤ i ∧ i < k
    · rw [if_pos q, if_pos (by omega)]
    · rw [if_neg q, if_neg (by omega)]
def U16 : String := "java/lang/StringUTF16"
namespace Cmp5
def yN : MethodName := ⟨"java/lang/StringUTF16", "compress", "([CI[BII)I"⟩
abbrev yB : ByteArray := jdk_52_method_21_code
theorem d0 : decode yB 0 = .ok (.iconst 0, 1) := by decide +kernel
theorem d1 : decode yB 1 = .ok (.istore 5, 2) := by decide +kernel
theorem d3 : decode yB 3 = .ok (.iload 5, 2) := by decide +kernel
theorem d5 : decode yB 5 = .ok (.iload 4, 2) := by decide +kernel
theorem d7 : decode yB 7 = .ok (.if_icmp (.ge) 37, 3) := by decide +kernel
theorem d10 : decode yB 10 = .ok (.aload_n 0, 1) := by decide +kernel
theorem d11 : decode yB 11 = .ok (.iload_n 1, 1) := by decide +kernel
theorem d12 : decode yB 12 = .ok (.caload, 1) := by decide +kernel
theorem d13 : decode yB 13 = .ok (.istore 6, 2) := by decide +kernel
theorem d15 : decode yB 15 = .ok (.iload 6, 2) := by decide +kernel
theorem d17 : decode yB 17 = .ok (.sipush 255, 3) := by decide +kernel
theorem d20 : decode yB 20 = .ok (.if_icmp (.le) 6, 3) := by decide +kernel
theorem d26 : decode yB 26 = .ok (.aload_n 2, 1) := by decide +kernel
theorem d27 : decode yB 27 = .ok (.iload_n 3, 1) := by decide +kernel
theorem d28 : decode yB 28 = .ok (.iload 6, 2) := by decide +kernel
theorem d30 : decode yB 30 = .ok (.i2b, 1) := by decide +kernel
theorem d31 : decode yB 31 = .ok (.bastore, 1) := by decide +kernel
theorem d32 : decode yB 32 = .ok (.iinc 1 1, 3) := by decide +kernel
theorem d35 : decode yB 35 = .ok (.iinc 3 1, 3) := by decide +kernel
theorem d38 : decode yB 38 = .ok (.iinc 5 1, 3) := by decide +kernel
theorem d41 : decode yB 41 = .ok (.goto (-38), 3) := by decide +kernel
theorem d44 : decode yB 44 = .ok (.iload 4, 2) := by decide +kernel
theorem d46 : decode yB 46 = .ok (.ireturn, 1) := by decide +kernel
def site : List Cond := []
def tab : Cond := tabOf yN yB 7 (some .int) site
def P (b : Addr) (A : Cell) (d : Addr) (B : Cell) (o q len : Nat) (args : Array Value) (s : State) : Prop := args = #[.ref b, .int (Int32.ofNat o), .ref d, .int (Int32.ofNat q), .int (Int32.ofNat len)] ∧ Ch b A s ∧ Arr .byte d B s ∧ b ≠ d ∧ o + len ≤ A.slots.size ∧ q + len ≤ B.slots.size ∧ ∀ i, i < len → ¬ 255 < cv A (o + i)
def E (b : Addr) (A : Cell) (d : Addr) (B : Cell) (o q len : Nat) (r : Option Value) (s u : State) : Prop := r = some (.int (Int32.ofNat len)) ∧ ∃ B', Put d B' s u ∧ Laid B B' q (q + len) (fun j => Value.int (lo8 (cv A (o + (j - q)))))
/-- no char of the range above 255: len; the places written hold each char's low byte -/
theorem law (l : Launch) (b : Addr) (A : Cell) (d : Addr) (B : Cell) (o q len : Nat) : Law l yN 5 5 0 0 yB 7 (some .int) site (P b A d B o q len) (E b A d B o q len) (copyLocs d q len) 0 0 := by
  refine Law.of_walk (plainFor_of_name (by decide +kernel)) (by decide +kernel) (by decide +kernel) (by decide) (fun _ _ h => by rw [h.1]; rfl) (fun _ U U' hal hh h => ⟨h.1, h.2.1.mv hal hh, h.2.2.1.mv hal hh, h.2.2.2⟩) (fun r U U' V V' h1 hal h2 h => ⟨h.1, h.2.elim fun B' q => ⟨B', q.1.mv h1 h2, q.2⟩⟩) ?_
  intro p e s m args below meth c s₁ X0 hexec hbytes hml hret hlk hnm hown hh0 W hP
  obtain ⟨rfl, hA, hB, hne, l1, l2, hp⟩ := hP
  have c1 : Steps p.tables e below (s₁.setTop (entryFrame m #[.ref b, .int (Int32.ofNat o), .ref d, .int (Int32.ofNat q), .int (Int32.ofNat len)] 7)) (s₁.setTop (mkF m 0 #[.val (.ref b), .val (.int (Int32.ofNat o)), .val (.ref d), .val (.int (Int32.ofNat q)), .val (.int (Int32.ofNat len)), .unset, .unset] [])) := entry rfl
  have hA0 := hA.1.mv X0.warmed.alike hh0
  have hB0 := hB.mv X0.warmed.alike hh0
  have a31 := hA.1.2.2.2
  have c2 : Steps p.tables e below (s₁.setTop (entryFrame m #[.ref b, .int (Int32.ofNat o), .ref d, .int (Int32.ofNat q), .int (Int32.ofNat len)] 7)) (s₁.setTop (mkF m 3 #[.val (.ref b), .val (.int (Int32.ofNat o)), .val (.ref d), .val (.int (Int32.ofNat q)), .val (.int (Int32.ofNat len)), .val (.int 0), .unset] [])) := c1.trans (by
    refine iconstV X0.here hexec rfl 0 (hb hbytes d0) (by decide) ?_
    refine XS.istore X0.here hexec rfl (hb hbytes d1) rfl rfl ?_
    exact Steps.refl _)
  have loop : ∀ (r i : Nat), i + r = len → ∀ (z : Slot), (z = .unset ∨ ∃ w, z = .val w ∧ w.category = 1) → ∀ (Tl : State) (Bk : Cell), Stand p l e { frames := 0, locals := 0, cells := 0, slots := 0 } s m #[.ref b, .int (Int32.ofNat o), .ref d, .int (Int32.ofNat q), .int (Int32.ofNat len)] below meth c Tl ([] ++ copyLocs d q i) 0 0 → Put d Bk s₁ Tl → Laid B Bk q (q + i) (fun j => Value.int (lo8 (cv A (o + (j - q))))) →
      Steps p.tables e below (s₁.setTop (entryFrame m #[.ref b, .int (Int32.ofNat o), .ref d, .int (Int32.ofNat q), .int (Int32.ofNat len)] 7)) (Tl.setTop (mkF m 3 #[.val (.ref b), .val (.int (Int32.ofNat (o + i))), .val (.ref d), .val (.int (Int32.ofNat (q + i))), .val (.int (Int32.ofNat len)), .val (.int (Int32.ofNat i)), z] [])) → ∃ (T' : State) (B' : Cell) (z' : Slot), Stand p l e { frames := 0, locals := 0, cells := 0, slots := 0 } s m #[.ref b, .int (Int32.ofNat o), .ref d, .int (Int32.ofNat q), .int (Int32.ofNat len)] below meth c T' ([] ++ copyLocs d q len) 0 0 ∧ Put d B' s₁ T' ∧ Laid B B' q (q + len) (fun j => Value.int (lo8 (cv A (o + (j - q))))) ∧
      Steps p.tables e below (s₁.setTop (entryFrame m #[.ref b, .int (Int32.ofNat o), .ref d, .int (Int32.ofNat q), .int (Int32.ofNat len)] 7)) (T'.setTop (mkF m 3 #[.val (.ref b), .val (.int (Int32.ofNat (o + len))), .val (.ref d), .val (.int (Int32.ofNat (q + len))), .val (.int (Int32.ofNat len)), .val (.int (Int32.ofNat len)), z'] [])) := by
    intro r
    induction r with
    | zero =>
      intro i hi z hz Tl Bk Xl pl fl cl
      have hil : i = len := by omega
      rw [hil] at Xl fl cl
      exact ⟨Tl, Bk, z, Xl, pl, fl, cl⟩
    | succ r ih =>
      intro i hi z hz Tl Bk Xl pl fl cl
      have all := X0.warmed.alike.symm.trans Xl.warmed.alike
      have hAl := hA0.keep all (pl.other hne hA0.1)
      have hBk := hB0.like all pl.1 fl.1 fl.2.1 fl.2.2.1
      have hlt : q + i < Bk.slots.size := by rw [fl.2.2.1]; omega
      have c3 : Steps p.tables e below (s₁.setTop (entryFrame m #[.ref b, .int (Int32.ofNat o), .ref d, .int (Int32.ofNat q), .int (Int32.ofNat len)] 7)) (Tl.setTop (mkF m 12 #[.val (.ref b), .val (.int (Int32.ofNat (o + i))), .val (.ref d), .val (.int (Int32.ofNat (q + i))), .val (.int (Int32.ofNat len)), .val (.int (Int32.ofNat i)), z] [.int (Int32.ofNat (o + i)), .ref b])) := cl.trans (by
        refine XS.iload Xl.here hexec rfl (hb hbytes d3) rfl ?_
        refine XS.iload Xl.here hexec rfl (hb hbytes d5) rfl ?_
        refine XS.icmpNo Xl.here hexec rfl (hb hbytes d7) rfl (ii_ge_f (lt32 (by omega) (by omega))) ?_
        refine XS.aloadN Xl.here hexec rfl (hb hbytes d10) rfl rfl ?_
        refine XS.iloadN Xl.here hexec rfl (hb hbytes d11) rfl ?_
        exact Steps.refl _)
      have c4 : Steps p.tables e below (s₁.setTop (entryFrame m #[.ref b, .int (Int32.ofNat o), .ref d, .int (Int32.ofNat q), .int (Int32.ofNat len)] 7)) (Tl.setTop (mkF m 13 #[.val (.ref b), .val (.int (Int32.ofNat (o + i))), .val (.ref d), .val (.int (Int32.ofNat (q + i))), .val (.int (Int32.ofNat len)), .val (.int (Int32.ofNat i)), z] [.int (cv A (o + i))])) := c3.trans (by
        refine Xl.aget hexec hAl rfl (hA.get (i := o + i) (by omega)) rfl rfl (hb hbytes d12) ?_
        exact Steps.refl _)
      have c5 : Steps p.tables e below (s₁.setTop (entryFrame m #[.ref b, .int (Int32.ofNat o), .ref d, .int (Int32.ofNat q), .int (Int32.ofNat len)] 7)) (Tl.setTop (mkF m 15 #[.val (.ref b), .val (.int (Int32.ofNat (o + i))), .val (.ref d), .val (.int (Int32.ofNat (q + i))), .val (.int (Int32.ofNat len)), .val (.int (Int32.ofNat i)), .val (.int (cv A (o + i)))] [])) := c4.trans (by
        refine XS.istoreS Xl.here hexec rfl (hb hbytes d13) rfl rfl hz ?_
        exact Steps.refl _)
      have c6 : Steps p.tables e below (s₁.setTop (entryFrame m #[.ref b, .int (Int32.ofNat o), .ref d, .int (Int32.ofNat q), .int (Int32.ofNat len)] 7)) (Tl.setTop (mkF m 31 #[.val (.ref b), .val (.int (Int32.ofNat (o + i))), .val (.ref d), .val (.int (Int32.ofNat (q + i))), .val (.int (Int32.ofNat len)), .val (.int (Int32.ofNat i)), .val (.int (cv A (o + i)))] [.int (lo8 (cv A (o + i))), .int (Int32.ofNat (q + i)), .ref d])) := c5.trans (by
        refine XS.iload Xl.here hexec rfl (hb hbytes d15) rfl ?_
        refine sipushV Xl.here hexec rfl 255 (hb hbytes d17) (by decide) ?_
        refine XS.icmpYes Xl.here hexec rfl (pc0 := 20) rfl (hb hbytes d20) rfl (ii_le_t (hp i (by omega))) (by decide) rfl ?_
        refine XS.aloadN Xl.here hexec rfl (hb hbytes d26) rfl rfl ?_
        refine XS.iloadN Xl.here hexec rfl (hb hbytes d27) rfl ?_
        refine XS.iload Xl.here hexec rfl (hb hbytes d28) rfl ?_
        refine i2b Xl.here hexec rfl (hb hbytes d30) rfl ?_
        exact Steps.refl _)
      obtain ⟨T7, X7, p7, st7⟩ := Xl.aput hexec hBk rfl hlt rfl (fits_lo8 (cv A (o + i))) (g := (mkF m 31 #[.val (.ref b), .val (.int (Int32.ofNat (o + i))), .val (.ref d), .val (.int (Int32.ofNat (q + i))), .val (.int (Int32.ofNat len)), .val (.int (Int32.ofNat i)), .val (.int (cv A (o + i)))] [.int (lo8 (cv A (o + i))), .int (Int32.ofNat (q + i)), .ref d])) rfl (rest := []) rfl (hb hbytes d31)
      have c8 : Steps p.tables e below (s₁.setTop (entryFrame m #[.ref b, .int (Int32.ofNat o), .ref d, .int (Int32.ofNat q), .int (Int32.ofNat len)] 7)) (T7.setTop (mkF m 32 #[.val (.ref b), .val (.int (Int32.ofNat (o + i))), .val (.ref d), .val (.int (Int32.ofNat (q + i))), .val (.int (Int32.ofNat len)), .val (.int (Int32.ofNat i)), .val (.int (cv A (o + i)))] [])) := c6.trans (st7 _ (Steps.refl _))
      have c9 : Steps p.tables e below (s₁.setTop (entryFrame m #[.ref b, .int (Int32.ofNat o), .ref d, .int (Int32.ofNat q), .int (Int32.ofNat len)] 7)) (T7.setTop (mkF m 3 #[.val (.ref b), .val (.int (Int32.ofNat (o + i) + 1)), .val (.ref d), .val (.int (Int32.ofNat (q + i) + 1)), .val (.int (Int32.ofNat len)), .val (.int (Int32.ofNat i + 1)), .val (.int (cv A (o + i)))] [])) := c8.trans (by
        refine iincV X7.here hexec rfl 1 (hb hbytes d32) (by decide) rfl rfl ?_
        refine iincV X7.here hexec rfl 1 (hb hbytes d35) (by decide) rfl rfl ?_
        refine iincV X7.here hexec rfl 1 (hb hbytes d38) (by decide) rfl rfl ?_
        refine XS.goto X7.here hexec rfl (pc0 := 41) rfl (hb hbytes d41) (by decide) rfl ?_
        exact Steps.refl _)
      have c10 : Steps p.tables e below (s₁.setTop (entryFrame m #[.ref b, .int (Int32.ofNat o), .ref d, .int (Int32.ofNat q), .int (Int32.ofNat len)] 7)) (T7.setTop (mkF m 3 #[.val (.ref b), .val (.int (Int32.ofNat (o + (i + 1)))), .val (.ref d), .val (.int (Int32.ofNat (q + (i + 1)))), .val (.int (Int32.ofNat len)), .val (.int (Int32.ofNat (i + 1))), .val (.int (cv A (o + i)))] [])) := by
        have := c9
        rw [succ32, succ32, succ32] at this
        exact this
      exact ih (i + 1) (by omega) _ (Or.inr ⟨_, rfl, rfl⟩) T7 _ (by rw [copyLocs_step, ← List.append_assoc]; exact X7) (pl.trans p7) (fl.step (by omega) hlt (by simp)) c10
  obtain ⟨T9, B9, z9, X9, p9, f9, g9⟩ := loop len 0 (by omega) .unset (Or.inl rfl) s₁ B (by simpa [copyLocs] using X0) ⟨hB0.1, fun _ _ => rfl, rfl⟩ (Laid.zero _ _ _) c2
  have c11 : Steps p.tables e below (s₁.setTop (entryFrame m #[.ref b, .int (Int32.ofNat o), .ref d, .int (Int32.ofNat q), .int (Int32.ofNat len)] 7)) (T9.setTop (mkF m 46 #[.val (.ref b), .val (.int (Int32.ofNat (o + len))), .val (.ref d), .val (.int (Int32.ofNat (q + len))), .val (.int (Int32.ofNat len)), .val (.int (Int32.ofNat len)), z9] [.int (Int32.ofNat len)])) := g9.trans (by
    refine XS.iload X9.here hexec rfl (hb hbytes d3) rfl ?_
    refine XS.iload X9.here hexec rfl (hb hbytes d5) rfl ?_
    refine XS.icmpYes X9.here hexec rfl (pc0 := 7) rfl (hb hbytes d7) rfl (ii_ge_t (nlt32 (by omega) (Nat.le_refl _))) (by decide) rfl ?_
    refine XS.iload X9.here hexec rfl (hb hbytes d44) rfl ?_
    exact Steps.refl _)
  exact ⟨T9, some (.int (Int32.ofNat len)), _, _, _, X9, by simp, rfl, rfl, (fun h => by cases h), ⟨rfl, B9, p9.from hh0, f9⟩, fun fs hl => c11.trans (X9.ireturnOut hexec hret rfl (Or.inl rfl) (hb hbytes d46) hl)⟩
end Cmp5
namespace Cmp3
def yN : MethodName := ⟨"java/lang/StringUTF16", "compress", "([CII)[B"⟩
abbrev yB : ByteArray := jdk_52_method_16_code
theorem d0 : decode yB 0 = .ok (.iload_n 2, 1) := by decide +kernel
theorem d1 : decode yB 1 = .ok (.newarray .byte, 2) := by decide +kernel
theorem d3 : decode yB 3 = .ok (.astore_n 3, 1) := by decide +kernel
theorem d4 : decode yB 4 = .ok (.aload_n 0, 1) := by decide +kernel
theorem d5 : decode yB 5 = .ok (.iload_n 1, 1) := by decide +kernel
theorem d6 : decode yB 6 = .ok (.aload_n 3, 1) := by decide +kernel
theorem d7 : decode yB 7 = .ok (.iconst 0, 1) := by decide +kernel
theorem d8 : decode yB 8 = .ok (.iload_n 2, 1) := by decide +kernel
theorem d9 : decode yB 9 = .ok (.invokestatic 115, 3) := by decide +kernel
theorem d12 : decode yB 12 = .ok (.istore 4, 2) := by decide +kernel
theorem d14 : decode yB 14 = .ok (.iload 4, 2) := by decide +kernel
theorem d16 : decode yB 16 = .ok (.iload_n 2, 1) := by decide +kernel
theorem d17 : decode yB 17 = .ok (.if_icmp (.eq) 40, 3) := by decide +kernel
theorem d57 : decode yB 57 = .ok (.aload_n 3, 1) := by decide +kernel
theorem d58 : decode yB 58 = .ok (.areturn, 1) := by decide +kernel
def site : List Cond := [.arrayClass .byte, Cmp5.tab] ++ staticW U16 115 Cmp5.yN
def tab : Cond := tabOf yN yB 6 (some (.array .byte)) site
def P (b : Addr) (A : Cell) (o len : Nat) (args : Array Value) (s : State) : Prop := args = #[.ref b, .int (Int32.ofNat o), .int (Int32.ofNat len)] ∧ Ch b A s ∧ o + len ≤ A.slots.size ∧ len ≤ 536870912 ∧ ∀ i, i < len → ¬ 255 < cv A (o + i)
def E (b : Addr) (A : Cell) (o len : Nat) (r : Option Value) (s u : State) : Prop := NewArr .byte "[B" len (fun j => .int (lo8 (cv A (o + j)))) r s u ∧ u.heap.size = s.heap.size + 1
/-- no char of the range above 255: a new byte[] of their low bytes -/
theorem law (l : Launch) (b : Addr) (A : Cell) (o len : Nat) : Law l yN 3 3 1 18 yB 6 (some (.array .byte)) site (P b A o len) (E b A o len) [] 1 len := by
  refine Law.of_walk (plainFor_of_name (by decide +kernel)) (by decide +kernel) (by decide +kernel) (by decide) (fun _ _ h => by rw [h.1]; rfl) (fun _ U U' hal hh h => ⟨h.1, h.2.1.mv hal hh, h.2.2⟩) (fun r U U' V V' h1 hal h2 h => ⟨NewArr.mv r U U' V V' h1 hal h2 h.1, by rw [h1, h2]; exact h.2⟩) ?_
  intro p e s m args below meth c s₁ X0 hexec hbytes hml hret hlk hnm hown hh0 W hP
  obtain ⟨rfl, hA, l1, l2, hp⟩ := hP
  have a31 := hA.1.2.2.2
  have c1 : Steps p.tables e below (s₁.setTop (entryFrame m #[.ref b, .int (Int32.ofNat o), .int (Int32.ofNat len)] 6)) (s₁.setTop (mkF m 0 #[.val (.ref b), .val (.int (Int32.ofNat o)), .val (.int (Int32.ofNat len)), .unset, .unset, .unset] [])) := entry rfl
  have c2 : Steps p.tables e below (s₁.setTop (entryFrame m #[.ref b, .int (Int32.ofNat o), .int (Int32.ofNat len)] 6)) (s₁.setTop (mkF m 1 #[.val (.ref b), .val (.int (Int32.ofNat o)), .val (.int (Int32.ofNat len)), .unset, .unset, .unset] [.int (Int32.ofNat len)])) := c1.trans (by
    refine XS.iloadN X0.here hexec rfl (hb hbytes d0) rfl ?_
    exact Steps.refl _)
  obtain ⟨T3, B3, X3, ba3, bs3, bv3, bh3, bf3, st3⟩ := X0.anew hexec (atype := .byte) (wk W (.arrayClass .byte)) rfl (by show len * 1 ≤ _; omega) (by omega) (g := (mkF m 1 #[.val (.ref b), .val (.int (Int32.ofNat o)), .val (.int (Int32.ofNat len)), .unset, .unset, .unset] [.int (Int32.ofNat len)])) rfl (hb hbytes d1) (rest := []) rfl (Nat.le_refl _) (by show 0 + len ≤ len; omega)
  rw [hh0] at ba3 st3
  have kp3 : XT.Kept s T3 := (XT.Kept.of_eq hh0).push bh3
  have hA3 := hA.keep X3.warmed.alike (kp3 _ _ hA.1.1)
  have hne : b ≠ s.heap.size := hA.1.ne
  have c4 : Steps p.tables e below (s₁.setTop (entryFrame m #[.ref b, .int (Int32.ofNat o), .int (Int32.ofNat len)] 6)) (T3.setTop (mkF m 3 #[.val (.ref b), .val (.int (Int32.ofNat o)), .val (.int (Int32.ofNat len)), .unset, .unset, .unset] [.ref s.heap.size])) := c2.trans (st3 _ (Steps.refl _))
  have c5 : Steps p.tables e below (s₁.setTop (entryFrame m #[.ref b, .int (Int32.ofNat o), .int (Int32.ofNat len)] 6)) (T3.setTop (mkF m 9 #[.val (.ref b), .val (.int (Int32.ofNat o)), .val (.int (Int32.ofNat len)), .val (.ref s.heap.size), .unset, .unset] [.int (Int32.ofNat len), .int 0, .ref s.heap.size, .int (Int32.ofNat o), .ref b])) := c4.trans (by
    refine XS.astoreN X3.here hexec rfl (hb hbytes d3) rfl rfl rfl ?_
    refine XS.aloadN X3.here hexec rfl (hb hbytes d4) rfl rfl ?_
    refine XS.iloadN X3.here hexec rfl (hb hbytes d5) rfl ?_
    refine XS.aloadN X3.here hexec rfl (hb hbytes d6) rfl rfl ?_
    refine iconstV X3.here hexec rfl 0 (hb hbytes d7) (by decide) ?_
    refine XS.iloadN X3.here hexec rfl (hb hbytes d8) rfl ?_
    exact Steps.refl _)
  obtain ⟨v6, T6, X6, E6, g6⟩ := X3.callS hexec (Cmp5.law l b A s.heap.size B3 o 0 len) hown (wks W (staticW U16 115 Cmp5.yN)) (wk W Cmp5.tab) (W := 0) (Nat.le_of_ble_eq_true rfl) (Nat.le_of_ble_eq_true rfl) (Nat.le_refl _) (by show 0 + len + 0 ≤ len; omega) (g := (mkF m 9 #[.val (.ref b), .val (.int (Int32.ofNat o)), .val (.int (Int32.ofNat len)), .val (.ref s.heap.size), .unset, .unset] [.int (Int32.ofNat len), .int (Int32.ofNat 0), .ref s.heap.size, .int (Int32.ofNat o), .ref b])) rfl (by rw [hml]; rfl) c5 (argsL := [.ref b, .int (Int32.ofNat o), .ref s.heap.size, .int (Int32.ofNat 0), .int (Int32.ofNat len)]) (rest := []) rfl rfl (by show 2 * 0 + 0 ≤ _; decide) (hb hbytes d9) (⟨rfl, hA3, ba3, hne, l1, by rw [bs3]; simp, hp⟩)
  obtain ⟨rfl, B6, p6, f6⟩ := E6
  have c7 : Steps p.tables e below (s₁.setTop (entryFrame m #[.ref b, .int (Int32.ofNat o), .int (Int32.ofNat len)] 6)) (T6.setTop (mkF m 12 #[.val (.ref b), .val (.int (Int32.ofNat o)), .val (.int (Int32.ofNat len)), .val (.ref s.heap.size), .unset, .unset] [.int (Int32.ofNat len)])) := g6
  have c8 : Steps p.tables e below (s₁.setTop (entryFrame m #[.ref b, .int (Int32.ofNat o), .int (Int32.ofNat len)] 6)) (T6.setTop (mkF m 58 #[.val (.ref b), .val (.int (Int32.ofNat o)), .val (.int (Int32.ofNat len)), .val (.ref s.heap.size), .val (.int (Int32.ofNat len)), .unset] [.ref s.heap.size])) := c7.trans (by
    refine XS.istore X6.here hexec rfl (hb hbytes d12) rfl rfl ?_
    refine XS.iload X6.here hexec rfl (hb hbytes d14) rfl ?_
    refine XS.iloadN X6.here hexec rfl (hb hbytes d16) rfl ?_
    refine XS.icmpYes X6.here hexec rfl (pc0 := 17) rfl (hb hbytes d17) rfl (ii_eq_t rfl) (by decide) rfl ?_
    refine XS.aloadN X6.here hexec rfl (hb hbytes d57) rfl rfl ?_
    exact Steps.refl _)
  have X8 := X6.wide (L' := []) (cells' := 1) (slots' := len) (fun x hx hlt => by
    simp only [List.nil_append, copyLocs, List.mem_map, List.mem_range] at hx
    obtain ⟨i, -, rfl⟩ := hx
    exact absurd hlt (Nat.lt_irrefl _)) (Nat.le_refl _) (by omega)
  exact ⟨T6, some (.ref s.heap.size), _, _, _, X8, rfl, rfl, rfl, (fun h => by cases h), ⟨⟨rfl, B6, ba3.like (X3.warmed.alike.symm.trans X6.warmed.alike) p6.1 f6.1 f6.2.1 f6.2.2.1, f6.2.1.trans bv3, by rw [X6.warmed.alike.findClass, f6.1]; exact bf3, by rw [f6.2.2.1, bs3]; simp, fun j hj => by rw [f6.2.2.2 j, if_pos (by omega)]; rfl, kp3.put p6 (Nat.le_refl _)⟩, by rw [p6.2.2, bh3, hh0]; simp⟩, fun fs hl => c8.trans (X8.areturnOut hexec rfl hret rfl (hb hbytes d58) hl)⟩
end Cmp3
namespace CodL
def yN : MethodName := ⟨"java/lang/StringUTF16", "coderFromArrayLen", "([BI)B"⟩
abbrev yB : ByteArray := jdk_52_method_15_code
theorem d0 : decode yB 0 = .ok (.iload_n 1, 1) := by decide +kernel
theorem d1 : decode yB 1 = .ok (.aload_n 0, 1) := by decide +kernel
theorem d2 : decode yB 2 = .ok (.arraylength, 1) := by decide +kernel
theorem d3 : decode yB 3 = .ok (.isub, 1) := by decide +kernel
theorem d4 : decode yB 4 = .ok (.bipush 31, 2) := by decide +kernel
theorem d6 : decode yB 6 = .ok (.iushr, 1) := by decide +kernel
theorem d7 : decode yB 7 = .ok (.i2b, 1) := by decide +kernel
theorem d8 : decode yB 8 = .ok (.ireturn, 1) := by decide +kernel
def site : List Cond := []
def tab : Cond := tabOf yN yB 2 (some .byte) site
def P (d : Addr) (B : Cell) (args : Array Value) (s : State) : Prop := args = #[.ref d, .int (Int32.ofNat B.slots.size)] ∧ Arr .byte d B s
def E (r : Option Value) (s u : State) : Prop := XT.PureE (some (.int 0)) r s u
/-- an array as long as the number of chars: LATIN1 -/
theorem law (l : Launch) (d : Addr) (B : Cell) : Law l yN 2 2 0 0 yB 2 (some .byte) site (P d B) E [] 0 0 := by
  refine Law.of_walk (plainFor_of_name (by decide +kernel)) (by decide +kernel) (by decide +kernel) (by decide) (fun _ _ h => by rw [h.1]; rfl) (fun _ U U' hal hh h => ⟨h.1, h.2.mv hal hh⟩) (fun r U U' V V' h1 hal h2 h => XT.PureE.mv r U U' V V' h1 hal h2 h) ?_
  intro p e s m args below meth c s₁ X0 hexec hbytes hml hret hlk hnm hown hh0 W hP
  obtain ⟨rfl, hB⟩ := hP
  have hB0 := hB.mv X0.warmed.alike hh0
  have c1 : Steps p.tables e below (s₁.setTop (entryFrame m #[.ref d, .int (Int32.ofNat B.slots.size)] 2)) (s₁.setTop (mkF m 0 #[.val (.ref d), .val (.int (Int32.ofNat B.slots.size))] [])) := entry rfl
  have c2 : Steps p.tables e below (s₁.setTop (entryFrame m #[.ref d, .int (Int32.ofNat B.slots.size)] 2)) (s₁.setTop (mkF m 2 #[.val (.ref d), .val (.int (Int32.ofNat B.slots.size))] [.ref d, .int (Int32.ofNat B.slots.size)])) := c1.trans (by
    refine XS.iloadN X0.here hexec rfl (hb hbytes d0) rfl ?_
    refine XS.aloadN X0.here hexec rfl (hb hbytes d1) rfl rfl ?_
    exact Steps.refl _)
  have c3 : Steps p.tables e below (s₁.setTop (entryFrame m #[.ref d, .int (Int32.ofNat B.slots.size)] 2)) (s₁.setTop (mkF m 8 #[.val (.ref d), .val (.int (Int32.ofNat B.slots.size))] [.int (lo8 (ushr (Int32.ofNat B.slots.size - Int32.ofNat B.slots.size) 31))])) := c2.trans (by
    refine X0.alen hexec hB0 rfl rfl (hb hbytes d2) ?_
    refine XS.isub X0.here hexec rfl (hb hbytes d3) rfl ?_
    refine bipushV X0.here hexec rfl 31 (hb hbytes d4) (by decide) ?_
    refine iushr X0.here hexec rfl (hb hbytes d6) rfl ?_
    refine i2b X0.here hexec rfl (hb hbytes d7) rfl ?_
    exact Steps.refl _)
  have e0 : lo8 (ushr (Int32.ofNat B.slots.size - Int32.ofNat B.slots.size) 31) = 0 := by rw [Int32.sub_self]; decide
  rw [e0] at c3
  exact ⟨s₁, some (.int 0), _, _, _, X0, rfl, rfl, rfl, (fun h => by cases h), ⟨rfl, hh0⟩, fun fs hl => c3.trans (X0.ireturnOut hexec hret rfl (Or.inr (Or.inr (Or.inl rfl))) (hb hbytes d8) hl)⟩
end CodL
/-- the String at a is Latin-1 over a new byte[] (the heap's one new cell): the low bytes of the len chars of A from o on; every cell but a is kept -/
def Got (a : Addr) (D : Cell) (fV fC : Field) (A : Cell) (o len : Nat) (r : Option Value) (s u : State) : Prop := r = none ∧ ∃ D' V : Cell, Blank "java/lang/String" a D' u ∧ Same D D' [fV.slot, fC.slot] ∧ D'.slots[fV.slot]? = some (.ref s.heap.size) ∧ D'.slots[fC.slot]? = some (.int 0) ∧ Arr .byte s.heap.size V u ∧ V.vm = .none ∧ u.vm.findClass "[B" = some V.cls ∧ V.slots.size = len ∧ (∀ j, j < len → V.slots[j]? = some (.int (lo8 (cv A (o + j))))) ∧ (∀ (y : Addr) (c : Cell), y ≠ a → s.heap[y]? = some c → u.heap[y]? = some c) ∧ u.heap.size = s.heap.size + 1
theorem Got.mv {a : Addr} {D A : Cell} {fV fC : Field} {o len : Nat} : ∀ r (U U' V V' : State), U'.heap = U.heap → V.vm.Alike V'.vm → V'.heap = V.heap → Got a D fV fC A o len r U V → Got a D fV fC A o len r U' V' :=
  fun r U U' V V' h1 hal h2 ⟨e0, D', X, a1, a2, a3, a4, a5, a6, a7, a8, a9, a10, a11⟩ => ⟨e0, D', X, a1.mv hal h2, a2, by rw [h1]; exact a3, a4, by rw [h1]; exact a5.mv hal h2, a6, by rw [hal.findClass]; exact a7, a8, a9, by rw [h1, h2]; exact a10, by rw [h1, h2]; exact a11⟩
namespace New4
def yN : MethodName := ⟨"java/lang/String", "<init>", "([CIILjava/lang/Void;)V"⟩
abbrev yB : ByteArray := jdk_42_method_149_code
theorem d0 : decode yB 0 = .ok (.aload_n 0, 1) := by decide +kernel
theorem d1 : decode yB 1 = .ok (.invokespecial 1, 3) := by decide +kernel
theorem d4 : decode yB 4 = .ok (.iload_n 3, 1) := by decide +kernel
theorem d5 : decode yB 5 = .ok (.ifCond (.ne) 22, 3) := by decide +kernel
theorem d27 : decode yB 27 = .ok (.getstatic 38, 3) := by decide +kernel
theorem d30 : decode yB 30 = .ok (.ifCond (.eq) 28, 3) := by decide +kernel
theorem d33 : decode yB 33 = .ok (.aload_n 1, 1) := by decide +kernel
theorem d34 : decode yB 34 = .ok (.iload_n 2, 1) := by decide +kernel
theorem d35 : decode yB 35 = .ok (.iload_n 3, 1) := by decide +kernel
theorem d36 : decode yB 36 = .ok (.invokestatic 177, 3) := by decide +kernel
theorem d39 : decode yB 39 = .ok (.astore 5, 2) := by decide +kernel
theorem d41 : decode yB 41 = .ok (.aload_n 0, 1) := by decide +kernel
theorem d42 : decode yB 42 = .ok (.aload 5, 2) := by decide +kernel
theorem d44 : decode yB 44 = .ok (.iload_n 3, 1) := by decide +kernel
theorem d45 : decode yB 45 = .ok (.invokestatic 47, 3) := by decide +kernel
theorem d48 : decode yB 48 = .ok (.putfield 15, 3) := by decide +kernel
theorem d51 : decode yB 51 = .ok (.aload_n 0, 1) := by decide +kernel
theorem d52 : decode yB 52 = .ok (.aload 5, 2) := by decide +kernel
theorem d54 : decode yB 54 = .ok (.putfield 9, 3) := by decide +kernel
theorem d57 : decode yB 57 = .ok (.return_, 1) := by decide +kernel
def site : List Cond := [.fieldLink "java/lang/String" 38 "java/lang/String" "COMPACT_STRINGS" "Z", Cmp3.tab, CodL.tab, .laysFinal "java/lang/String" "java/lang/String" "value" "[B", .fieldLink "java/lang/String" 9 "java/lang/String" "value" "[B", .laysFinal "java/lang/String" "java/lang/String" "coder" "B", .fieldLink "java/lang/String" 15 "java/lang/String" "coder" "B"] ++ objW "java/lang/String" 1 ++ staticW "java/lang/String" 177 Cmp3.yN ++ staticW "java/lang/String" 47 CodL.yN
def tab : Cond := tabOf yN yB 6 none site
def P (a : Addr) (D : Cell) (fV fC : Field) (b : Addr) (A : Cell) (z : Int32) (o len : Nat) (args : Array Value) (s : State) : Prop := args = #[.ref a, .ref b, .int (Int32.ofNat o), .int (Int32.ofNat len), .null] ∧ Blank "java/lang/String" a D s ∧ Found "java/lang/String" "value" "[B" fV s ∧ Found "java/lang/String" "coder" "B" fC s ∧ Ch b A s ∧ StaticIs s "java/lang/String" "COMPACT_STRINGS" "Z" (.int z) ∧ ¬ z = 0 ∧ 0 < len ∧ o + len ≤ A.slots.size ∧ len ≤ 536870912 ∧ ∀ i, i < len → ¬ 255 < cv A (o + i)
def E (a : Addr) (D : Cell) (fV fC : Field) (A : Cell) (o len : Nat) (r : Option Value) (s u : State) : Prop := Got a D fV fC A o len r s u
/-- len > 0, no char of the range above 255: a Latin-1 String of their low bytes -/
theorem law (l : Launch) (a : Addr) (D : Cell) (fV fC : Field) (b : Addr) (A : Cell) (z : Int32) (o len : Nat) : Law l yN 5 4 2 35 yB 6 none site (P a D fV fC b A z o len) (E a D fV fC A o len) [⟨a, fC.slot⟩, ⟨a, fV.slot⟩] 1 len := by
  refine Law.of_walk (plainFor_of_name (by decide +kernel)) (by decide +kernel) (by decide +kernel) (by decide) (fun _ _ h => by rw [h.1]; rfl) (fun _ U U' hal hh h => ⟨h.1, h.2.1.mv hal hh, h.2.2.1.al hal, h.2.2.2.1.al hal, h.2.2.2.2.1.mv hal hh, h.2.2.2.2.2.1.there hal hh, h.2.2.2.2.2.2⟩) (fun r U U' V V' h1 hal h2 h => Got.mv r U U' V V' h1 hal h2 h) ?_
  intro p e s m args below meth c s₁ X0 hexec hbytes hml hret hlk hnm hown hh0 W hP
  obtain ⟨rfl, hB, f1, f2, hA, s1, hz, l0, l1, l2, hp⟩ := hP
  have a31 := hA.1.2.2.2
  have c1 : Steps p.tables e below (s₁.setTop (entryFrame m #[.ref a, .ref b, .int (Int32.ofNat o), .int (Int32.ofNat len), .null] 6)) (s₁.setTop (mkF m 0 #[.val (.ref a), .val (.ref b), .val (.int (Int32.ofNat o)), .val (.int (Int32.ofNat len)), .val .null, .unset] [])) := entry rfl
  have c2 : Steps p.tables e below (s₁.setTop (entryFrame m #[.ref a, .ref b, .int (Int32.ofNat o), .int (Int32.ofNat len), .null] 6)) (s₁.setTop (mkF m 1 #[.val (.ref a), .val (.ref b), .val (.int (Int32.ofNat o)), .val (.int (Int32.ofNat len)), .val .null, .unset] [.ref a])) := c1.trans (by
    refine XS.aloadN X0.here hexec rfl (hb hbytes d0) rfl rfl ?_
    exact Steps.refl _)
  obtain ⟨T3, X3, q3, st3⟩ := X0.oinit hexec hown (wks W (objW "java/lang/String" 1)) (g := (mkF m 1 #[.val (.ref a), .val (.ref b), .val (.int (Int32.ofNat o)), .val (.int (Int32.ofNat len)), .val .null, .unset] [.ref a])) rfl (by rw [hml]; rfl) (rest := []) rfl (hb hbytes d1) (W := 0) (by show 2 * 0 + 0 ≤ _; decide) (Nat.le_of_ble_eq_true rfl) (Nat.le_of_ble_eq_true rfl)
  have hh3 := q3.trans hh0
  have c4 : Steps p.tables e below (s₁.setTop (entryFrame m #[.ref a, .ref b, .int (Int32.ofNat o), .int (Int32.ofNat len), .null] 6)) (T3.setTop (mkF m 27 #[.val (.ref a), .val (.ref b), .val (.int (Int32.ofNat o)), .val (.int (Int32.ofNat len)), .val .null, .unset] [])) := (c2.trans (st3 _ (Steps.refl _))).trans (by
    refine XS.iloadN X3.here hexec rfl (hb hbytes d4) rfl ?_
    refine XS.ifYes X3.here hexec rfl (pc0 := 5) rfl (hb hbytes d5) rfl (i0_ne_t (nz32 (by omega) l0)) (by decide) rfl ?_
    exact Steps.refl _)
  obtain ⟨T5, X5, q5, st5⟩ := X3.sget hexec hown (wk W (.fieldLink "java/lang/String" 38 "java/lang/String" "COMPACT_STRINGS" "Z")) s1 (fun _ _ h => by rw [hh3]; exact h) (g := (mkF m 27 #[.val (.ref a), .val (.ref b), .val (.int (Int32.ofNat o)), .val (.int (Int32.ofNat len)), .val .null, .unset] [])) rfl (hb hbytes d27)
  have hh5 := q5.trans hh3
  have c6 : Steps p.tables e below (s₁.setTop (entryFrame m #[.ref a, .ref b, .int (Int32.ofNat o), .int (Int32.ofNat len), .null] 6)) (T5.setTop (mkF m 30 #[.val (.ref a), .val (.ref b), .val (.int (Int32.ofNat o)), .val (.int (Int32.ofNat len)), .val .null, .unset] [.int z])) := c4.trans (st5 _ (Steps.refl _))
  have c7 : Steps p.tables e below (s₁.setTop (entryFrame m #[.ref a, .ref b, .int (Int32.ofNat o), .int (Int32.ofNat len), .null] 6)) (T5.setTop (mkF m 36 #[.val (.ref a), .val (.ref b), .val (.int (Int32.ofNat o)), .val (.int (Int32.ofNat len)), .val .null, .unset] [.int (Int32.ofNat len), .int (Int32.ofNat o), .ref b])) := c6.trans (by
    refine XS.ifNo X5.here hexec rfl (hb hbytes d30) rfl (i0_eq_f hz) ?_
    refine XS.aloadN X5.here hexec rfl (hb hbytes d33) rfl rfl ?_
    refine XS.iloadN X5.here hexec rfl (hb hbytes d34) rfl ?_
    refine XS.iloadN X5.here hexec rfl (hb hbytes d35) rfl ?_
    exact Steps.refl _)
  obtain ⟨v8, T8, X8, E8, g8⟩ := X5.callS hexec (Cmp3.law l b A o len) hown (wks W (staticW "java/lang/String" 177 Cmp3.yN)) (wk W Cmp3.tab) (W := 0) (Nat.le_of_ble_eq_true rfl) (Nat.le_of_ble_eq_true rfl) (Nat.le_refl _) (by show 0 + len ≤ len; omega) (g := (mkF m 36 #[.val (.ref a), .val (.ref b), .val (.int (Int32.ofNat o)), .val (.int (Int32.ofNat len)), .val .null, .unset] [.int (Int32.ofNat len), .int (Int32.ofNat o), .ref b])) rfl (by rw [hml]; rfl) c7 (argsL := [.ref b, .int (Int32.ofNat o), .int (Int32.ofNat len)]) (rest := []) rfl rfl (by show 2 * 0 + 0 ≤ _; decide) (hb hbytes d36) (⟨rfl, hA.mv X5.warmed.alike hh5, l1, l2, hp⟩)
  obtain ⟨e8, z8⟩ := E8
  obtain ⟨rfl, N, n1, n2, n3, n4, n5, n6⟩ := NewArr.mv _ T5 s _ _ hh5.symm (Vm.Alike.refl _) rfl e8
  rw [hh5] at z8
  have hB1 := hB.keep X8.warmed.alike (n6 _ _ hB.1)
  have hne : s.heap.size ≠ a := (Nat.ne_of_lt (Array.getElem?_eq_some_iff.mp hB.1).1).symm
  have c9 : Steps p.tables e below (s₁.setTop (entryFrame m #[.ref a, .ref b, .int (Int32.ofNat o), .int (Int32.ofNat len), .null] 6)) (T8.setTop (mkF m 39 #[.val (.ref a), .val (.ref b), .val (.int (Int32.ofNat o)), .val (.int (Int32.ofNat len)), .val .null, .unset] [.ref s.heap.size])) := g8
  have c10 : Steps p.tables e below (s₁.setTop (entryFrame m #[.ref a, .ref b, .int (Int32.ofNat o), .int (Int32.ofNat len), .null] 6)) (T8.setTop (mkF m 45 #[.val (.ref a), .val (.ref b), .val (.int (Int32.ofNat o)), .val (.int (Int32.ofNat len)), .val .null, .val (.ref s.heap.size)] [.int (Int32.ofNat N.slots.size), .ref s.heap.size, .ref a])) := by
    have hc : Steps p.tables e below (s₁.setTop (entryFrame m #[.ref a, .ref b, .int (Int32.ofNat o), .int (Int32.ofNat len), .null] 6)) (T8.setTop (mkF m 45 #[.val (.ref a), .val (.ref b), .val (.int (Int32.ofNat o)), .val (.int (Int32.ofNat len)), .val .null, .val (.ref s.heap.size)] [.int (Int32.ofNat len), .ref s.heap.size, .ref a])) := c9.trans (by
      refine XS.astore X8.here hexec rfl (hb hbytes d39) rfl rfl rfl ?_
      refine XS.aloadN X8.here hexec rfl (hb hbytes d41) rfl rfl ?_
      refine XS.aload X8.here hexec rfl (hb hbytes d42) rfl rfl ?_
      refine XS.iloadN X8.here hexec rfl (hb hbytes d44) rfl ?_
      exact Steps.refl _)
    rw [n4]; exact hc
  obtain ⟨v11, T11, X11, E11, g11⟩ := X8.callS hexec (CodL.law l s.heap.size N) hown (wks W (staticW "java/lang/String" 47 CodL.yN)) (wk W CodL.tab) (W := 1) (Nat.le_of_ble_eq_true rfl) (Nat.le_of_ble_eq_true rfl) (Nat.le_refl _) (by show 0 + len + 0 ≤ len; omega) (g := (mkF m 45 #[.val (.ref a), .val (.ref b), .val (.int (Int32.ofNat o)), .val (.int (Int32.ofNat len)), .val .null, .val (.ref s.heap.size)] [.int (Int32.ofNat N.slots.size), .ref s.heap.size, .ref a])) rfl (by rw [hml]; rfl) c10 (argsL := [.ref s.heap.size, .int (Int32.ofNat N.slots.size)]) (rest := [.ref a]) rfl rfl (by show 2 * 0 + (1 + 0) ≤ _; decide) (hb hbytes d45) (⟨rfl, n1⟩)
  obtain ⟨rfl, q11⟩ := E11
  have hB11 := hB1.mv (X8.warmed.alike.symm.trans X11.warmed.alike) q11
  have c12 : Steps p.tables e below (s₁.setTop (entryFrame m #[.ref a, .ref b, .int (Int32.ofNat o), .int (Int32.ofNat len), .null] 6)) (T11.setTop (mkF m 48 #[.val (.ref a), .val (.ref b), .val (.int (Int32.ofNat o)), .val (.int (Int32.ofNat len)), .val .null, .val (.ref s.heap.size)] [.int 0, .ref a])) := g11
  obtain ⟨T13, X13, p13, bl13, sl13, st13⟩ := X11.finit hexec hown (wk W (.fieldLink "java/lang/String" 15 "java/lang/String" "coder" "B")) (Or.inr ⟨_, (wk W (.laysFinal "java/lang/String" "java/lang/String" "coder" "B"))⟩) (Or.inl ⟨rfl, hnm⟩) f2 (Or.inl rfl) hB11 (t := .byte) (by decide +kernel) rfl (g := (mkF m 48 #[.val (.ref a), .val (.ref b), .val (.int (Int32.ofNat o)), .val (.int (Int32.ofNat len)), .val .null, .val (.ref s.heap.size)] [.int 0, .ref a])) rfl (rest := []) rfl (hb hbytes d48)
  have c14 : Steps p.tables e below (s₁.setTop (entryFrame m #[.ref a, .ref b, .int (Int32.ofNat o), .int (Int32.ofNat len), .null] 6)) (T13.setTop (mkF m 54 #[.val (.ref a), .val (.ref b), .val (.int (Int32.ofNat o)), .val (.int (Int32.ofNat len)), .val .null, .val (.ref s.heap.size)] [.ref s.heap.size, .ref a])) := (c12.trans (st13 _ (Steps.refl _))).trans (by
    refine XS.aloadN X13.here hexec rfl (hb hbytes d51) rfl rfl ?_
    refine XS.aload X13.here hexec rfl (hb hbytes d52) rfl rfl ?_
    exact Steps.refl _)
  obtain ⟨T15, X15, p15, bl15, sl15, st15⟩ := X13.finit hexec hown (wk W (.fieldLink "java/lang/String" 9 "java/lang/String" "value" "[B")) (Or.inr ⟨_, (wk W (.laysFinal "java/lang/String" "java/lang/String" "value" "[B"))⟩) (Or.inl ⟨rfl, hnm⟩) f1 (Or.inl rfl) bl13 (t := (.array .byte)) (by decide +kernel) rfl (g := (mkF m 54 #[.val (.ref a), .val (.ref b), .val (.int (Int32.ofNat o)), .val (.int (Int32.ofNat len)), .val .null, .val (.ref s.heap.size)] [.ref s.heap.size, .ref a])) rfl (rest := []) rfl (hb hbytes d54)
  have c16 : Steps p.tables e below (s₁.setTop (entryFrame m #[.ref a, .ref b, .int (Int32.ofNat o), .int (Int32.ofNat len), .null] 6)) (T15.setTop (mkF m 57 #[.val (.ref a), .val (.ref b), .val (.int (Int32.ofNat o)), .val (.int (Int32.ofNat len)), .val .null, .val (.ref s.heap.size)] [])) := c14.trans (st15 _ (Steps.refl _))
  have ap := apart (Or.inr ⟨_, (wk W (.laysFinal "java/lang/String" "java/lang/String" "value" "[B"))⟩) (Or.inr ⟨_, (wk W (.laysFinal "java/lang/String" "java/lang/String" "coder" "B"))⟩) f1 f2 (t₁ := .array .byte) (t₂ := .byte) (by decide +kernel) (by decide +kernel) (by decide)
  have al := X8.warmed.alike.symm.trans X15.warmed.alike
  have n7 : T11.heap[s.heap.size]? = some N := by rw [q11]; exact n1.1
  exact ⟨T15, none, _, _, _, X15, by simp, rfl, by omega, (fun _ => rfl), ⟨rfl, _, N, bl15, ((Same.refl D _).set _ (by simp)).set _ (by simp), sl15, (Cell.slots_setSlot_ne _ ap).trans sl13, n1.keep al (p15.other hne (p13.other hne n7)), n2, by rw [al.findClass]; exact n3, n4, n5, fun y c h1 h2 => p15.other h1 (p13.other h1 (by rw [q11]; exact n6 y c h2)), by rw [p15.2.2, p13.2.2, q11]; exact z8⟩, fun fs hl => c16.trans (X15.returnOut hexec hret (hb hbytes d57) hl)⟩
end New4
namespace New1
def yN : MethodName := ⟨"java/lang/String", "<init>", "([C)V"⟩
abbrev yB : ByteArray := jdk_42_method_3_code
theorem d0 : decode yB 0 = .ok (.aload_n 0, 1) := by decide +kernel
theorem d1 : decode yB 1 = .ok (.aload_n 1, 1) := by decide +kernel
theorem d2 : decode yB 2 = .ok (.iconst 0, 1) := by decide +kernel
theorem d3 : decode yB 3 = .ok (.aload_n 1, 1) := by decide +kernel
theorem d4 : decode yB 4 = .ok (.arraylength, 1) := by decide +kernel
theorem d5 : decode yB 5 = .ok (.aconst_null, 1) := by decide +kernel
theorem d6 : decode yB 6 = .ok (.invokespecial 27, 3) := by decide +kernel
theorem d9 : decode yB 9 = .ok (.return_, 1) := by decide +kernel
def site : List Cond := [New4.tab] ++ initW "java/lang/String" 27 New4.yN
def tab : Cond := tabOf yN yB 2 none site
def P (a : Addr) (D : Cell) (fV fC : Field) (b : Addr) (A : Cell) (z : Int32) (args : Array Value) (s : State) : Prop := args = #[.ref a, .ref b] ∧ Blank "java/lang/String" a D s ∧ Found "java/lang/String" "value" "[B" fV s ∧ Found "java/lang/String" "coder" "B" fC s ∧ Ch b A s ∧ StaticIs s "java/lang/String" "COMPACT_STRINGS" "Z" (.int z) ∧ ¬ z = 0 ∧ 0 < A.slots.size ∧ A.slots.size ≤ 536870912 ∧ ∀ i, i < A.slots.size → ¬ 255 < cv A i
def E (a : Addr) (D : Cell) (fV fC : Field) (A : Cell) (r : Option Value) (s u : State) : Prop := Got a D fV fC A 0 A.slots.size r s u
/-- new String(chars), not empty, no char above 255: a Latin-1 String of their low bytes -/
theorem law (l : Launch) (a : Addr) (D : Cell) (fV fC : Field) (b : Addr) (A : Cell) (z : Int32) : Law l yN 2 1 3 52 yB 2 none site (P a D fV fC b A z) (E a D fV fC A) [⟨a, fC.slot⟩, ⟨a, fV.slot⟩] 1 A.slots.size := by
  refine Law.of_walk (plainFor_of_name (by decide +kernel)) (by decide +kernel) (by decide +kernel) (by decide) (fun _ _ h => by rw [h.1]; rfl) (fun _ U U' hal hh h => ⟨h.1, h.2.1.mv hal hh, h.2.2.1.al hal, h.2.2.2.1.al hal, h.2.2.2.2.1.mv hal hh, h.2.2.2.2.2.1.there hal hh, h.2.2.2.2.2.2⟩) (fun r U U' V V' h1 hal h2 h => Got.mv r U U' V V' h1 hal h2 h) ?_
  intro p e s m args below meth c s₁ X0 hexec hbytes hml hret hlk hnm hown hh0 W hP
  obtain ⟨rfl, hB, f1, f2, hA, s1, hz, l0, l2, hp⟩ := hP
  have c1 : Steps p.tables e below (s₁.setTop (entryFrame m #[.ref a, .ref b] 2)) (s₁.setTop (mkF m 0 #[.val (.ref a), .val (.ref b)] [])) := entry rfl
  have c2 : Steps p.tables e below (s₁.setTop (entryFrame m #[.ref a, .ref b] 2)) (s₁.setTop (mkF m 6 #[.val (.ref a), .val (.ref b)] [.null, .int (Int32.ofNat A.slots.size), .int 0, .ref b, .ref a])) := c1.trans (by
    refine XS.aloadN X0.here hexec rfl (hb hbytes d0) rfl rfl ?_
    refine XS.aloadN X0.here hexec rfl (hb hbytes d1) rfl rfl ?_
    refine iconstV X0.here hexec rfl 0 (hb hbytes d2) (by decide) ?_
    refine XS.aloadN X0.here hexec rfl (hb hbytes d3) rfl rfl ?_
    refine X0.alen hexec (hA.1.mv X0.warmed.alike hh0) rfl rfl (hb hbytes d4) ?_
    refine XS.aconstNull X0.here hexec rfl (hb hbytes d5) ?_
    exact Steps.refl _)
  obtain ⟨v3, T3, X3, E3, g3⟩ := X0.callN hexec (New4.law l a D fV fC b A z 0 A.slots.size) rfl hown (wks W (initW "java/lang/String" 27 New4.yN)) (W New4.tab (by simp only [site, List.mem_cons, List.mem_append, true_or, or_true])) (W := 0) (Nat.le_of_ble_eq_true rfl) (Nat.le_of_ble_eq_true rfl) (Nat.le_refl _) (by show 0 + A.slots.size ≤ A.slots.size; omega) (g := (mkF m 6 #[.val (.ref a), .val (.ref b)] [.null, .int (Int32.ofNat A.slots.size), .int (Int32.ofNat 0), .ref b, .ref a])) rfl (by rw [hml]; rfl) c2 (argsL := [.ref b, .int (Int32.ofNat 0), .int (Int32.ofNat A.slots.size), .null]) (rest := []) rfl rfl (by show 2 * 0 + 0 ≤ _; decide) (hb hbytes d6) (⟨rfl, hB.mv X0.warmed.alike hh0, f1.al X0.warmed.alike, f2.al X0.warmed.alike, hA.mv X0.warmed.alike hh0, s1.there X0.warmed.alike hh0, hz, l0, by omega, l2, fun i hi => by rw [Nat.zero_add]; exact hp i hi⟩)
  have e0 := Got.mv _ s₁ s _ _ hh0.symm (Vm.Alike.refl _) rfl E3
  obtain rfl := e0.1
  have c4 : Steps p.tables e below (s₁.setTop (entryFrame m #[.ref a, .ref b] 2)) (T3.setTop (mkF m 9 #[.val (.ref a), .val (.ref b)] [])) := g3
  exact ⟨T3, none, _, _, _, X3, by simp, rfl, by omega, (fun _ => rfl), e0, fun fs hl => c4.trans (X3.returnOut hexec hret (hb hbytes d9) hl)⟩
theorem pays {l : Launch} {R : Room} {p : Program} {e : Env} {below : List Frame} {s : State} {sargs : Array Value} {len W : Nat} (a : Addr) (D : Cell) (fV fC : Field) (b : Addr) (A : Cell) (z : Int32) (htab : tab.before sargs s = true) (hfr : 4 ≤ R.frames) (hlo : W + 65 ≤ R.locals) :
    Back l R p e below s sargs yN len W (fun A₁ a₁ => A₁.cells + 1 ≤ R.cells ∧ A₁.slots + A.slots.size ≤ R.slots ∧ P a D fV fC b A z a₁ A₁.U) (fun A₁ _ v₁ B₁ => E a D fV fC A v₁ A₁.U B₁.U ∧ B₁.locs = A₁.locs ++ [⟨a, fC.slot⟩, ⟨a, fV.slot⟩] ∧ B₁.cells = A₁.cells + 1 ∧ B₁.slots = A₁.slots + A.slots.size) :=
  (law l a D fV fC b A z).pays htab hfr (by omega)
end New1
end StrChars
namespace StrChars.Road
open Jvm Sem ClassFile Op Lib Jvm.Stand Jvm.Free Jvm.Free.XT
open Jvm.Lib.Cold (StaticIs)
abbrev ST : String := "java/lang/String"
/-- every table word that New1's law asks, flat -/
abbrev words : List Jvm.Cond := [.code New1.yN New1.yB 2 none, .initialized ST, .methodLink ST 27 New4.yN, .instanceMethod New4.yN,
  .code New4.yN New4.yB 6 none, .fieldLink ST 38 ST "COMPACT_STRINGS" "Z", .laysFinal ST ST "value" "[B", .fieldLink ST 9 ST "value" "[B", .laysFinal ST ST "coder" "B", .fieldLink ST 15 ST "coder" "B",
  .methodLink ST 1 Lib.objectInit, .instanceMethod Lib.objectInit, .code Lib.objectInit ⟨#[0xb1]⟩ 1 none, .methodLink ST 177 Cmp3.yN, .static Cmp3.yN, .methodLink ST 47 CodL.yN, .static CodL.yN,
  .code Cmp3.yN Cmp3.yB 6 (some (.array .byte)), .initialized U16, .arrayClass .byte, .methodLink U16 115 Cmp5.yN, .static Cmp5.yN, .code Cmp5.yN Cmp5.yB 7 (some .int), .code CodL.yN CodL.yB 2 (some .byte)]
theorem tab_of {a : Array Value} {s : State} (h : ∀ w ∈ words, w.before a s = true) : New1.tab.before a s = true := by
  have h5 : Cmp5.tab.before a s = true := unparts (wk h (.code Cmp5.yN Cmp5.yB 7 (some .int))) (wks h (.initialized Cmp5.yN.cls :: Cmp5.site))
  have hc : CodL.tab.before a s = true := unparts (wk h (.code CodL.yN CodL.yB 2 (some .byte))) (wks h (.initialized CodL.yN.cls :: CodL.site))
  have q5 : ∀ w ∈ Cmp5.tab :: words, w.before a s = true := fun w hw => (List.mem_cons.mp hw).elim (fun e => e ▸ h5) (h w)
  have h3 : Cmp3.tab.before a s = true := unparts (wk q5 (.code Cmp3.yN Cmp3.yB 6 (some (.array .byte)))) (wks q5 (.initialized Cmp3.yN.cls :: Cmp3.site))
  have q3 : ∀ w ∈ Cmp3.tab :: CodL.tab :: words, w.before a s = true := fun w hw => (List.mem_cons.mp hw).elim (fun e => e ▸ h3) fun hw => (List.mem_cons.mp hw).elim (fun e => e ▸ hc) (h w)
  have h4 : New4.tab.before a s = true := unparts (wk q3 (.code New4.yN New4.yB 6 none)) (wks q3 (.initialized New4.yN.cls :: New4.site))
  have q4 : ∀ w ∈ New4.tab :: words, w.before a s = true := fun w hw => (List.mem_cons.mp hw).elim (fun e => e ▸ h4) (h w)
  exact unparts (wk q4 (.code New1.yN New1.yB 2 none)) (wks q4 (.initialized New1.yN.cls :: New1.site))
/-- the words ride from the start Z to the walk's own state -/
theorem moved {Z s : State} {a0 args : Array Value} (hZ : Z.Warmed39 s.vm) (hw : ∀ d ∈ words, d.before a0 Z = true) : ∀ d ∈ words, d.before args s = true := fun d hd => by
  have q := hw d hd
  have t : ∀ d ∈ words, d = .arrayClass .byte ∨ (d.onTables && d.keepsFace) = true := by decide +kernel
  rcases t d hd with rfl | t
  · exact RoadKit.mvA hZ q
  · exact RoadKit.mv hZ q t
/-- WHAT COMES BACK, over the tables of the start Z: h the heap at the call, h' behind it -/
def Q (Z : State) (x : Addr) (A : Cell) (h : Heap) (v : Option Value) (h' : Heap) (L : List Loc) : Prop := v = none ∧ (∀ y ∈ L, y.base = x) ∧ RoadKit.Keep h h' [x] ∧ h'.size = h.size + 1 ∧ RoadKit.Exa Z h' x ST ∧ RoadKit.Fld Z h' x ST "value" "[B" (.ref h.size) ∧ RoadKit.Fld Z h' x ST "coder" "B" (.int 0) ∧
  (∃ V : Cell, RoadKit.Arr Z h' h.size V .byte ∧ V.vm = .none ∧ Z.vm.findClass "[B" = some V.cls ∧ V.slots.size = A.slots.size ∧ ∀ j, j < A.slots.size → V.slots[j]? = some (.int (lo8 (cv A j)))) ∧
  ∀ (O n d : String) (w : Value), RoadKit.Fld Z h x O n d w → RoadKit.slotOf Z O n d ≠ RoadKit.slotOf Z ST "value" "[B" → RoadKit.slotOf Z O n d ≠ RoadKit.slotOf Z ST "coder" "B" → RoadKit.Fld Z h' x O n d w
/-- **new String(chars) AT A CALL, IN THE ROAD'S FORM**: for specialBack behind newO: x the fresh String, b the char[] with the cell A -/
theorem back {p : Program} {l : Launch} {e : Env} {R : Room} {s : State} {args : Array Value} {below : List Frame} {len W : Nat} {Z : State} {a0 : Array Value} {h : Heap} (hZ : Z.Warmed39 s.vm) (hw : ∀ d ∈ words, d.before a0 Z = true) {kI : Nat} (wi : (Jvm.Cond.instantiable ST kI).before a0 Z = true)
    {x b : Addr} {A : Cell} {z : Int32} {v0 c0 : Value} (E : RoadKit.Exa Z h x ST) (V : RoadKit.Fld Z h x ST "value" "[B" v0) (C : RoadKit.Fld Z h x ST "coder" "B" c0) (K : RoadKit.Arr Z h b A .char) (hty : Typed .char A) (S : RoadKit.Sta Z h ST "COMPACT_STRINGS" "Z" (.int z)) (hz : ¬ z = 0)
    (l0 : 0 < A.slots.size) (l2 : A.slots.size ≤ 536870912) (hp : ∀ i, i < A.slots.size → ¬ 255 < cv A i) (hfr : 4 ≤ R.frames) (hlo : W + 65 ≤ R.locals) :
    Back l R p e below s args New1.yN len W (fun P a => a = #[.ref x, .ref b] ∧ P.U.heap = h ∧ P.cells + 1 ≤ R.cells ∧ P.slots + A.slots.size ≤ R.slots)
      (fun P _ v B => ∃ L, Q Z x A h v B.U.heap L ∧ B.locs = P.locs ++ L ∧ B.cells = P.cells + 1 ∧ B.slots = P.slots + A.slots.size) := by
  intro m meth c P g ig mk a X hg hsize hdg hW hn hp'
  obtain ⟨rfl, rfl, r1, r2⟩ := hp'
  have al : Z.vm.Alike P.U.vm := hZ.alike.trans X.warmed.alike
  obtain ⟨D, cfV, kV, iV, fV, hD, gV, stV, knV, obV, asV, slV⟩ := id V
  obtain ⟨D', cfC, kC, iC, fC, hD', gC, stC, -, -, asC, slC⟩ := id C
  cases hD.symm.trans hD'
  obtain ⟨D2, kD, e1, e2, e3, e4, e5⟩ := id E
  cases hD.symm.trans e1
  obtain ⟨c2, k2, i1, i2, i3, -⟩ := Cond.instantiable_spec wi
  cases e2.symm.trans i1
  cases e3.symm.trans i2
  obtain ⟨kU, u1, u2⟩ := al.2.2 _ _ e3
  have hB : Blank ST x D P.U := ⟨hD, ⟨knV, fun q hq => by rw [hq] at obV; cases obV⟩, by rw [al.findClass]; exact e2, kU, u1, by rw [u2]; exact i3, by rw [u2]; exact e5 i3⟩
  have F1 : Found ST "value" "[B" fV P.U := ⟨SBG.found_only al ⟨cfV, kV, iV, gV⟩, stV⟩
  have F2 : Found ST "coder" "B" fC P.U := ⟨SBG.found_only al ⟨cfC, kC, iC, gC⟩, stC⟩
  have hA : Ch b A P.U := ⟨⟨K.1, State.isArrayOf_alike al K.2.1, K.2.2, by omega⟩, hty⟩
  have hS : StaticIs P.U ST "COMPACT_STRINGS" "Z" (.int z) := by
    obtain ⟨cfS, iS, kS, fS, st, cS, t1, t2, t3, t4, t5, t6, t7⟩ := S
    exact StaticIs.there (s := { Z with heap := P.U.heap }) ⟨cfS, iS, kS, fS, st, cS, t1, t2, t3, t4, t5, (fun q => by rw [q] at t6; cases t6), t7⟩ al rfl
  obtain ⟨v, B, X', ⟨⟨hv, E', V', q1, q2, q3, q4, q5, q6, q7, q8, q9, q10, q11⟩, hl, hc, hs⟩, st⟩ := New1.pays x D fV fC b A z (tab_of (moved hZ hw)) hfr hlo m meth c P g ig mk _ X hg hsize hdg hW hn ⟨r1, r2, rfl, hB, F1, F2, hA, hS, hz, l0, l2, hp⟩
  have al' : Z.vm.Alike B.U.vm := hZ.alike.trans X'.warmed.alike
  have hsz : E'.slots.size = D.slots.size := by
    obtain ⟨-, -, -, kB, w1, w2, w3⟩ := q1
    obtain ⟨kB', y1, y2⟩ := al'.2.2 _ _ e3
    rw [q2.2.1] at w1
    cases w1.symm.trans y1
    rw [w3, e5 i3, y2]
  refine ⟨v, B, X', ⟨_, ⟨hv, ?_, ⟨by omega, fun y cy hy hn' => q10 y cy (by simpa using hn') hy, fun y cy hy => ?_⟩, q11, ⟨E', _, q1.1, by rw [q2.2.1]; exact e2, by rw [q2.2.1]; exact e3, by rw [q2.1]; exact obV, fun _ => by rw [hsz]; exact e5 i3⟩,
    ⟨E', cfV, kV, iV, fV, q1.1, gV, stV, by rw [q2.1]; exact knV, by rw [q2.1]; exact obV, by rw [q2.2.1]; exact asV, q3⟩, ⟨E', cfC, kC, iC, fC, q1.1, gC, stC, by rw [q2.1]; exact knV, by rw [q2.1]; exact obV, by rw [q2.2.1]; exact asC, q4⟩,
    ⟨V', ⟨q5.1, State.isArrayOf_alike al'.symm q5.2.1, q5.2.2.1⟩, q6, by rw [← al'.findClass]; exact q7, q8, fun j hj => by have := q9 j hj; rwa [Nat.zero_add] at this⟩, fun O n d w F n1 n2 => ?_⟩, hl, hc, hs⟩, st⟩
  · intro y hy
    simp only [List.mem_cons, List.not_mem_nil, or_false] at hy
    rcases hy with rfl | rfl <;> rfl
  · by_cases q : y = x
    · subst q
      cases hD.symm.trans hy
      exact ⟨E', q1.1, q2.2.1, q2.1, hsz⟩
    · exact ⟨cy, q10 y cy q hy, rfl, rfl, rfl⟩
  · obtain ⟨D3, cf, k, i, f, g1, g2, g3, g4, g5, g6, g7⟩ := F
    cases hD.symm.trans g1
    simp only [RoadKit.slotOf, g2, gV, gC, Option.map_some, Option.getD_some] at n1 n2
    exact ⟨E', cf, k, i, f, q1.1, g2, g3, by rw [q2.1]; exact g4, by rw [q2.1]; exact g5, by rw [q2.2.1]; exact g6, by rw [q2.2.2 f.slot (by simp [n1, n2])]; exact g7⟩
end StrChars.Road
namespace StrChars.Road
open Jvm Sem ClassFile Op Lib Jvm.Stand Jvm.Free Jvm.Free.XT
/-- WHAT COMES BACK, the byte[] as a list of values -/
def QA (Z : State) (x : Addr) (zn : Int32) (cs : List Int32) (h : Heap) (v : Option Value) (h' : Heap) (L : List Loc) : Prop := v = none ∧ (∀ y ∈ L, y.base = x) ∧ RoadKit.Keep h h' [x] ∧ h'.size = h.size + 1 ∧ RoadKit.Exa Z h' x ST ∧ RoadKit.Fld Z h' x ST "value" "[B" (.ref h.size) ∧ RoadKit.Fld Z h' x ST "coder" "B" (.int 0) ∧
  (∃ kb, Z.vm.findClass "[B" = some kb ∧ RoadKit.Arv Z h' h.size kb .byte zn (cs.map fun c => .int (lo8 c)) (.int 0)) ∧
  ∀ (O n d : String) (w : Value), RoadKit.Fld Z h x O n d w → RoadKit.slotOf Z O n d ≠ RoadKit.slotOf Z ST "value" "[B" → RoadKit.slotOf Z O n d ≠ RoadKit.slotOf Z ST "coder" "B" → RoadKit.Fld Z h' x O n d w
/-- **new String(chars) AT A CALL, THE ARRAYS AS LISTS**: the char[] at b holds cs, not empty, no char above 255 -/
theorem backArv {p : Program} {l : Launch} {e : Env} {R : Room} {s : State} {args : Array Value} {below : List Frame} {len W : Nat} {Z : State} {a0 : Array Value} {h : Heap} (hZ : Z.Warmed39 s.vm) (hw : ∀ d ∈ words, d.before a0 Z = true) {kI : Nat} (wi : (Jvm.Cond.instantiable ST kI).before a0 Z = true)
    {x b : Addr} {k : ClassId} {zn z : Int32} {cs : List Int32} {dv v0 c0 : Value} (E : RoadKit.Exa Z h x ST) (V : RoadKit.Fld Z h x ST "value" "[B" v0) (C : RoadKit.Fld Z h x ST "coder" "B" c0) (K : RoadKit.Arv Z h b k .char zn (cs.map Value.int) dv) (S : RoadKit.Sta Z h ST "COMPACT_STRINGS" "Z" (.int z)) (hz : ¬ z = 0)
    (hlen : zn.toNatClampNeg = cs.length) (h0 : 0 < cs.length) (hbig : cs.length ≤ 536870912) (hall : ∀ c ∈ cs, ¬ 255 < c) (hfr : 4 ≤ R.frames) (hlo : W + 65 ≤ R.locals) :
    Back l R p e below s args New1.yN len W (fun P a => a = #[.ref x, .ref b] ∧ P.U.heap = h ∧ P.cells + 1 ≤ R.cells ∧ P.slots + cs.length ≤ R.slots)
      (fun P _ v B => ∃ L, QA Z x zn cs h v B.U.heap L ∧ B.locs = P.locs ++ L ∧ B.cells = P.cells + 1 ∧ B.slots = P.slots + cs.length) := by
  obtain ⟨A, K1, K2, K3, K4, K5, K6⟩ := K
  have e : A.slots.size = cs.length := K3.trans hlen
  have hat : ∀ (i : Nat) (hi : i < cs.length), A.slots[i]? = some (.int cs[i]) := fun i hi => by rw [K5 i (by omega)]; simp [List.getD_eq_getElem?_getD, hi]
  have hcv : ∀ (i : Nat) (hi : i < cs.length), cv A i = cs[i] := fun i hi => by unfold cv; rw [hat i hi]
  have hty : Typed .char A := fun i v hv => by
    have hi : i < A.slots.size := (Array.getElem?_eq_some_iff.mp hv).1
    have q := K5 i hi
    rw [hv] at q
    rw [Option.some.inj q]
    exact K6 i hi
  refine Back.mono (back hZ hw wi E V C K1 hty S hz (by omega) (by omega) (fun i hi => by rw [hcv i (by omega)]; exact hall _ (List.getElem_mem _)) hfr hlo) (fun P a hp => ⟨hp.1, hp.2.1, hp.2.2.1, by rw [e]; exact hp.2.2.2⟩) (fun P a v B hp hq => ?_)
  obtain ⟨L, ⟨q1, q2, q3, q4, q5, q6, q7, ⟨V', v1, v2, v3, v4, v5⟩, q9⟩, hl, hc, hs⟩ := hq
  refine ⟨L, ⟨q1, q2, q3, q4, q5, q6, q7, ⟨V'.cls, v3, V', v1, rfl, by rw [v4, e, hlen], K4, fun i hi => ?_, fun i hi => ?_⟩, q9⟩, hl, hc, by rw [hs, e]⟩
  · have hi' : i < cs.length := by omega
    rw [v5 i (by omega), hcv i hi']; simp [List.getD_eq_getElem?_getD, hi']
  · have hi' : i < cs.length := by omega
    simp only [List.getD_eq_getElem?_getD, List.getElem?_map, List.getElem?_eq_getElem hi', Option.map_some, Option.getD_some]
    exact fits_lo8 _
end StrChars.Road
namespace StrChars.Road
open Jvm Sem ClassFile Op Lib Jvm.Stand Jvm.Free Jvm.Free.XT
/-- WHAT COMES BACK, in the writer's own shape -/
def QV (Z : State) (x : Addr) (N : Int32) (bs : List Int32) (h : Heap) (n0 : Nat) (v : Option Value) (h' : Heap) (L : List Loc) : Prop := v = none ∧ RoadKit.Fr n0 L ∧ RoadKit.Keep h h' [x] ∧ RoadKit.Exa Z h' x ST ∧ RoadKit.Fld Z h' x ST "coder" "B" (.int 0) ∧
  ∃ (t : Addr) (kb : ClassId), n0 ≤ t ∧ h.size ≤ t ∧ ¬ t = x ∧ RoadKit.Fld Z h' x ST "value" "[B" (.ref t) ∧ RoadKit.Arv Z h' t kb .byte N (bs.map Value.int) (.int 0)
/-- **new String(chars) AT A CALL, FOR THE WRITER**: a char[] of n known ints, each 0 to 255 -/
theorem backV {p : Program} {l : Launch} {e : Env} {R : Room} {s : State} {args : Array Value} {below : List Frame} {len W : Nat} {Z : State} {a0 : Array Value} {h : Heap} (hZ : Z.Warmed39 s.vm) (hw : ∀ d ∈ words, d.before a0 Z = true) {kI : Nat} (wi : (Jvm.Cond.instantiable ST kI).before a0 Z = true)
    {x b : Addr} {kC : ClassId} {cs bs : List Int32} {d v0 c0 : Value} {z N : Int32} {n n0 : Nat} (hx0 : n0 ≤ x) (hh0 : n0 ≤ h.size) (E : RoadKit.Exa Z h x ST) (V : RoadKit.Fld Z h x ST "value" "[B" v0) (C : RoadKit.Fld Z h x ST "coder" "B" c0) (K : RoadKit.Arv Z h b kC .char N (cs.map Value.int) d) (S : RoadKit.Sta Z h ST "COMPACT_STRINGS" "Z" (.int z)) (hz : ¬ z = 0)
    (hn : cs.length = n) (hN : N = Int32.ofNat n) (l0 : 0 < n) (l2 : n ≤ 4000) (hp : ∀ c ∈ cs, ¬ c < 0 ∧ ¬ (255 : Int32) < c) (hb : bs = cs.map (fun c => c.toInt8.toInt32)) (hfr : 4 ≤ R.frames) (hlo : W + 65 ≤ R.locals) :
    Back l R p e below s args (⟨"java/lang/String", "<init>", "([C)V"⟩ : MethodName) len W (fun P a => a = #[.ref x, .ref b] ∧ P.U.heap = h ∧ P.cells + 1 ≤ R.cells ∧ P.slots + n ≤ R.slots)
      (fun P _ v B => ∃ L, QV Z x N bs h n0 v B.U.heap L ∧ B.locs = P.locs ++ L ∧ B.cells = P.cells + 1 ∧ B.slots = P.slots + n) := by
  subst hn hN hb
  refine Back.mono (backArv hZ hw wi E V C K S hz (n32 (by omega)) l0 (by omega) (fun c hc => (hp c hc).2) hfr hlo) (fun P a hp => hp) (fun P a v B hp hq => ?_)
  obtain ⟨L, ⟨q1, q2, q3, q4, q5, q6, q7, ⟨kb, v1, v2⟩, q9⟩, hl, hc, hs⟩ := hq
  exact ⟨L, ⟨q1, fun y hy => by rw [q2 y hy]; exact hx0, q3, q5, q7, h.size, kb, hh0, Nat.le_refl _, Nat.ne_of_gt E.lt, q6, by rw [List.map_map]; exact v2⟩, hl, hc, hs⟩
end StrChars.Road
end Jvm.Pilot.@@N@@

namespace Jvm.Pilot.@@N@@
open Jvm Jvm.ClassFile Sem Op Lib Jvm.Free Jvm.Stand Jvm.LawKit Jvm.RoadKit Bundle Jvm.Pilot.@@N@@.Jvm.D
theorem own_opq {p : Program} {l : Launch} {e : Env} {R : Room} {s : State} {m : MethodId} {args : Array Value} {below : List Frame} {meth : Method} {c : Code} {T : State} {locs : List Loc} {cells slots n0 : Nat} (X : Stand p l e R s m args below meth c T locs cells slots) (N : Fr n0 locs) : ∃ G, Stand p l e R s m args below meth c T G cells slots ∧ Fr n0 G := ⟨_, X, N⟩
def own_ch (w : Int32) : Int32 := (((w &&& (255 : Int32)).toUInt32.toUInt16.toUInt32.toInt32).toUInt32.toUInt16.toUInt32.toInt32)
def own_cc (w : Int32) : Int32 := ((own_ch w).toUInt32.toUInt16.toUInt32.toInt32)
theorem own_ccv (c : Int32) (h0 : ¬ c < 0) (h1 : ¬ (255 : Int32) < c) : own_cc (c.toInt8.toInt32) = c := by
  have a := c_i2b c
  have b := c_mask (c.toInt8.toInt32) 255 8 (by decide) (by decide)
  have d := c_i2c ((c.toInt8.toInt32) &&& (255 : Int32))
  have e := c_i2c (((c.toInt8.toInt32) &&& (255 : Int32)).toUInt32.toUInt16.toUInt32.toInt32)
  have f := c_i2c ((((c.toInt8.toInt32) &&& (255 : Int32)).toUInt32.toUInt16.toUInt32.toInt32).toUInt32.toUInt16.toUInt32.toInt32)
  unfold own_cc own_ch
  simp only [Int32.lt_iff_toInt_lt, ← Int32.toInt_inj, Int32.reduceToInt, show ((2 ^ 8 : Nat) : Int) = 256 from rfl] at *
  omega
theorem own_shr0 (x : Int32) : x >>> ((0 : Int32) &&& 31) = x := by
  have a := c_ishr x 0 0 (by decide)
  rw [← Int32.toInt_inj, a]; simp
def own_d (m p : Int64) : Int32 := ((((48 : Int32) - (((m / p) % (10 : Int64)).toInt32)).toUInt32.toUInt16.toUInt32.toInt32).toUInt32.toUInt16.toUInt32.toInt32)
def own_e (m p : Int64) : Int32 := ((own_d m p).toUInt32.toUInt16.toUInt32.toInt32)
def own_c19 (m : Int64) : List Int32 := [own_e m (1000000000000000000 : Int64), own_e m (100000000000000000 : Int64), own_e m (10000000000000000 : Int64), own_e m (1000000000000000 : Int64), own_e m (100000000000000 : Int64), own_e m (10000000000000 : Int64), own_e m (1000000000000 : Int64), own_e m (100000000000 : Int64), own_e m (10000000000 : Int64), own_e m (1000000000 : Int64), own_e m (100000000 : Int64), own_e m (10000000 : Int64), own_e m (1000000 : Int64), own_e m (100000 : Int64), own_e m (10000 : Int64), own_e m (1000 : Int64), own_e m (100 : Int64), own_e m (10 : Int64), own_e m (1 : Int64)]
def own_c20 (s : Int32) (m : Int64) : List Int32 := s :: own_c19 m
theorem own_c19m (m : Int64) : (own_c19 m).map Value.int = [(.int ((own_d m (1000000000000000000 : Int64)).toUInt32.toUInt16.toUInt32.toInt32)), (.int ((own_d m (100000000000000000 : Int64)).toUInt32.toUInt16.toUInt32.toInt32)), (.int ((own_d m (10000000000000000 : Int64)).toUInt32.toUInt16.toUInt32.toInt32)), (.int ((own_d m (1000000000000000 : Int64)).toUInt32.toUInt16.toUInt32.toInt32)), (.int ((own_d m (100000000000000 : Int64)).toUInt32.toUInt16.toUInt32.toInt32)), (.int ((own_d m (10000000000000 : Int64)).toUInt32.toUInt16.toUInt32.toInt32)), (.int ((own_d m (1000000000000 : Int64)).toUInt32.toUInt16.toUInt32.toInt32)), (.int ((own_d m (100000000000 : Int64)).toUInt32.toUInt16.toUInt32.toInt32)), (.int ((own_d m (10000000000 : Int64)).toUInt32.toUInt16.toUInt32.toInt32)), (.int ((own_d m (1000000000 : Int64)).toUInt32.toUInt16.toUInt32.toInt32)), (.int ((own_d m (100000000 : Int64)).toUInt32.toUInt16.toUInt32.toInt32)), (.int ((own_d m (10000000 : Int64)).toUInt32.toUInt16.toUInt32.toInt32)), (.int ((own_d m (1000000 : Int64)).toUInt32.toUInt16.toUInt32.toInt32)), (.int ((own_d m (100000 : Int64)).toUInt32.toUInt16.toUInt32.toInt32)), (.int ((own_d m (10000 : Int64)).toUInt32.toUInt16.toUInt32.toInt32)), (.int ((own_d m (1000 : Int64)).toUInt32.toUInt16.toUInt32.toInt32)), (.int ((own_d m (100 : Int64)).toUInt32.toUInt16.toUInt32.toInt32)), (.int ((own_d m (10 : Int64)).toUInt32.toUInt16.toUInt32.toInt32)), (.int ((own_d m (1 : Int64)).toUInt32.toUInt16.toUInt32.toInt32))] := by simp only [own_c19, own_e, List.map]
theorem own_c20m (s : Int32) (m : Int64) : (own_c20 s m).map Value.int = (.int s) :: [(.int ((own_d m (1000000000000000000 : Int64)).toUInt32.toUInt16.toUInt32.toInt32)), (.int ((own_d m (100000000000000000 : Int64)).toUInt32.toUInt16.toUInt32.toInt32)), (.int ((own_d m (10000000000000000 : Int64)).toUInt32.toUInt16.toUInt32.toInt32)), (.int ((own_d m (1000000000000000 : Int64)).toUInt32.toUInt16.toUInt32.toInt32)), (.int ((own_d m (100000000000000 : Int64)).toUInt32.toUInt16.toUInt32.toInt32)), (.int ((own_d m (10000000000000 : Int64)).toUInt32.toUInt16.toUInt32.toInt32)), (.int ((own_d m (1000000000000 : Int64)).toUInt32.toUInt16.toUInt32.toInt32)), (.int ((own_d m (100000000000 : Int64)).toUInt32.toUInt16.toUInt32.toInt32)), (.int ((own_d m (10000000000 : Int64)).toUInt32.toUInt16.toUInt32.toInt32)), (.int ((own_d m (1000000000 : Int64)).toUInt32.toUInt16.toUInt32.toInt32)), (.int ((own_d m (100000000 : Int64)).toUInt32.toUInt16.toUInt32.toInt32)), (.int ((own_d m (10000000 : Int64)).toUInt32.toUInt16.toUInt32.toInt32)), (.int ((own_d m (1000000 : Int64)).toUInt32.toUInt16.toUInt32.toInt32)), (.int ((own_d m (100000 : Int64)).toUInt32.toUInt16.toUInt32.toInt32)), (.int ((own_d m (10000 : Int64)).toUInt32.toUInt16.toUInt32.toInt32)), (.int ((own_d m (1000 : Int64)).toUInt32.toUInt16.toUInt32.toInt32)), (.int ((own_d m (100 : Int64)).toUInt32.toUInt16.toUInt32.toInt32)), (.int ((own_d m (10 : Int64)).toUInt32.toUInt16.toUInt32.toInt32)), (.int ((own_d m (1 : Int64)).toUInt32.toUInt16.toUInt32.toInt32))] := by rw [← own_c19m]; rfl
theorem own_dv (m p : Int64) (P : Int) (hp : p.toInt = P) (h1 : 0 < P) (hn : p ≠ -1) (hm : m.toInt ≤ 0) : (own_e m p).toInt = 48 + ((-m.toInt) / P) % 10 ∧ (m / p).toInt = -((-m.toInt) / P) := by
  have a : (m / p).toInt = -((-m.toInt) / P) := by
    have q := c_ldiv m p P hp hn
    by_cases z : m.toInt < 0
    · exact q.2 z
    · have z' : m.toInt = 0 := by omega
      rw [q.1 (by omega), z']; simp
  have pos : 0 ≤ (-m.toInt) / P := Int.ediv_nonneg (by omega) (by omega)
  have b : ((m / p) % (10 : Int64)).toInt = -(((-m.toInt) / P) % 10) := by
    rw [Int64.toInt_mod, a, show (10 : Int64).toInt = 10 from rfl, Int.neg_tmod, Int.tmod_eq_emod_of_nonneg pos]
  have d := c_l2i ((m / p) % (10 : Int64))
  have r := rng32 (((m / p) % (10 : Int64)).toInt32)
  have e := c_isub 48 (((m / p) % (10 : Int64)).toInt32)
  have r' := rng32 ((48 : Int32) - (((m / p) % (10 : Int64)).toInt32))
  have f1 := c_i2c ((48 : Int32) - (((m / p) % (10 : Int64)).toInt32))
  have f2 := c_i2c (((48 : Int32) - (((m / p) % (10 : Int64)).toInt32)).toUInt32.toUInt16.toUInt32.toInt32)
  have f3 := c_i2c ((((48 : Int32) - (((m / p) % (10 : Int64)).toInt32)).toUInt32.toUInt16.toUInt32.toInt32).toUInt32.toUInt16.toUInt32.toInt32)
  refine ⟨?_, a⟩
  unfold own_e own_d
  simp only [Int32.reduceToInt] at e
  omega
theorem own_ev (m p : Int64) (P : Int) (hp : p.toInt = P) (h1 : 0 < P) (hn : p ≠ -1) (hm : m.toInt ≤ 0) : ¬ own_e m p < 0 ∧ ¬ (255 : Int32) < own_e m p := by
  have q := (own_dv m p P hp h1 hn hm).1
  simp only [Int32.lt_iff_toInt_lt, Int32.reduceToInt]
  omega
theorem own_hp19 (m : Int64) (hm : m.toInt ≤ 0) : ∀ c ∈ own_c19 m, ¬ c < 0 ∧ ¬ (255 : Int32) < c := by
  simp only [own_c19, List.forall_mem_cons]
  exact ⟨own_ev m (1000000000000000000 : Int64) 1000000000000000000 (by decide) (by decide) (by decide) hm, own_ev m (100000000000000000 : Int64) 100000000000000000 (by decide) (by decide) (by decide) hm, own_ev m (10000000000000000 : Int64) 10000000000000000 (by decide) (by decide) (by decide) hm, own_ev m (1000000000000000 : Int64) 1000000000000000 (by decide) (by decide) (by decide) hm, own_ev m (100000000000000 : Int64) 100000000000000 (by decide) (by decide) (by decide) hm, own_ev m (10000000000000 : Int64) 10000000000000 (by decide) (by decide) (by decide) hm, own_ev m (1000000000000 : Int64) 1000000000000 (by decide) (by decide) (by decide) hm, own_ev m (100000000000 : Int64) 100000000000 (by decide) (by decide) (by decide) hm, own_ev m (10000000000 : Int64) 10000000000 (by decide) (by decide) (by decide) hm, own_ev m (1000000000 : Int64) 1000000000 (by decide) (by decide) (by decide) hm, own_ev m (100000000 : Int64) 100000000 (by decide) (by decide) (by decide) hm, own_ev m (10000000 : Int64) 10000000 (by decide) (by decide) (by decide) hm, own_ev m (1000000 : Int64) 1000000 (by decide) (by decide) (by decide) hm, own_ev m (100000 : Int64) 100000 (by decide) (by decide) (by decide) hm, own_ev m (10000 : Int64) 10000 (by decide) (by decide) (by decide) hm, own_ev m (1000 : Int64) 1000 (by decide) (by decide) (by decide) hm, own_ev m (100 : Int64) 100 (by decide) (by decide) (by decide) hm, own_ev m (10 : Int64) 10 (by decide) (by decide) (by decide) hm, own_ev m (1 : Int64) 1 (by decide) (by decide) (by decide) hm, fun _ q => nomatch q⟩
theorem own_hp20 (s : Int32) (m : Int64) (hs : ¬ s < 0 ∧ ¬ (255 : Int32) < s) (hm : m.toInt ≤ 0) : ∀ c ∈ own_c20 s m, ¬ c < 0 ∧ ¬ (255 : Int32) < c := by
  intro c hc
  rcases List.mem_cons.mp hc with rfl | h
  · exact hs
  · exact own_hp19 m hm c h
/-! the parser's run -/
def own_run (tx : List Int32) : Nat → Int64 × Int32 × Int32
  | 0 => (0, 0, 0)
  | i + 1 => if i = 0 ∧ (tx.getD i 0 = 45 ∨ tx.getD i 0 = 43) then ((own_run tx i).1, (if tx.getD i 0 = 45 then 1 else 0), (own_run tx i).2.2) else (((own_run tx i).1 * (10 : Int64)) - ((tx.getD i 0) - (48 : Int32)).toInt64, (own_run tx i).2.1, (own_run tx i).2.2 + (1 : Int32))
def own_dg (c : Int32) (g : Int64) : Prop := ¬ c = (45 : Int32) ∧ ¬ c = (43 : Int32) ∧ ¬ (c - (48 : Int32)) < (0 : Int32) ∧ ¬ (9 : Int32) < (c - (48 : Int32)) ∧ ¬ g < (((-9223372036854775808 : Int64) + (c - (48 : Int32)).toInt64) / (10 : Int64))
def own_ok (tx : List Int32) (i : Nat) : Prop := (i = 0 ∧ (tx.getD i 0 = 45 ∨ tx.getD i 0 = 43)) ∨ own_dg (tx.getD i 0) (own_run tx i).1
theorem own_runD (tx : List Int32) (i : Nat) (c : Int32) (g : Int64) (n d : Int32) (h : own_run tx i = (g, n, d)) (hc : tx.getD i 0 = c) (k : own_dg c g) : own_run tx (i + 1) = ((g * (10 : Int64)) - (c - (48 : Int32)).toInt64, n, d + (1 : Int32)) ∧ own_ok tx i := by
  constructor
  · unfold own_run
    rw [hc, h, if_neg]
    rintro ⟨-, q | q⟩
    · exact k.1 q
    · exact k.2.1 q
  · right; rw [hc, h]; exact k
theorem own_run1 (tx : List Int32) (i : Nat) (k : own_dg (tx.getD i 0) (own_run tx i).1) : own_run tx (i + 1) = (((own_run tx i).1 * (10 : Int64)) - ((tx.getD i 0) - (48 : Int32)).toInt64, (own_run tx i).2.1, (own_run tx i).2.2 + (1 : Int32)) := (own_runD tx i _ _ _ _ rfl rfl k).1
theorem own_step (m p pp : Int64) (P : Int) (g : Int64) (hp : p.toInt = P) (h1 : 0 < P) (hn : p ≠ -1) (hm : m.toInt ≤ 0) (hg : g.toInt = -((-m.toInt) / P / 10)) : ((g * (10 : Int64)) - ((own_e m p) - (48 : Int32)).toInt64) = m / p ∧ own_dg (own_e m p) g := by
  obtain ⟨q1, q2⟩ := own_dv m p P hp h1 hn hm
  have pos : 0 ≤ (-m.toInt) / P := Int.ediv_nonneg (by omega) (by omega)
  have up : (-m.toInt) / P ≤ -m.toInt := Int.ediv_le_self _ (by omega)
  have rm := rng64 m
  generalize (-m.toInt) / P = x at *
  have a := c_isub (own_e m p) 48
  have r := rng32 ((own_e m p) - (48 : Int32))
  simp only [Int32.reduceToInt] at a
  have b : (((own_e m p) - (48 : Int32)).toInt64).toInt = x % 10 := by rw [c_i2l]; omega
  have m1 := c_lmul g 10
  have r1 := rng64 (g * (10 : Int64))
  have s1 := c_lsub (g * (10 : Int64)) (((own_e m p) - (48 : Int32)).toInt64)
  have r2 := rng64 ((g * (10 : Int64)) - ((own_e m p) - (48 : Int32)).toInt64)
  simp only [Int64.reduceToInt] at m1
  have d1 := c_ladd (-9223372036854775808 : Int64) (((own_e m p) - (48 : Int32)).toInt64)
  have r3 := rng64 ((-9223372036854775808 : Int64) + (((own_e m p) - (48 : Int32)).toInt64))
  simp only [Int64.reduceToInt] at d1
  have d2 := (c_ldiv ((-9223372036854775808 : Int64) + (((own_e m p) - (48 : Int32)).toInt64)) 10 10 rfl (by decide)).2
  refine ⟨?_, ?_, ?_, ?_, ?_, ?_⟩
  · rw [← Int64.toInt_inj, q2]; omega
  · rw [← Int32.toInt_inj]; simp only [Int32.reduceToInt]; omega
  · rw [← Int32.toInt_inj]; simp only [Int32.reduceToInt]; omega
  · simp only [Int32.lt_iff_toInt_lt, Int32.reduceToInt]; omega
  · simp only [Int32.lt_iff_toInt_lt, Int32.reduceToInt]; omega
  · rw [Int64.lt_iff_toInt_lt, d2 (by omega)]; omega
theorem own_quo (x : Int) (P Q : Int) (h : Q = P * 10) (hp : 0 < P) (hx : 0 ≤ x) : x / P / 10 = x / Q := by
  rw [h, Int.ediv_ediv_of_nonneg (by omega)]
theorem own_i (i : Nat) (h : i < 2048) : (Int32.ofNat i).toInt = i := len_toInt (by omega)
theorem own_clamp (i : Nat) (h : i < 2048) : (Int32.ofNat i).toNatClampNeg = i := by
  simp only [Int32.toNatClampNeg, own_i i h]; rfl
theorem own_lt (i j : Nat) (hi : i < 2048) (hj : j < 2048) : (Int32.ofNat i < Int32.ofNat j) = (i < j) := by
  rw [Int32.lt_iff_toInt_lt, own_i i hi, own_i j hj]; exact propext (by omega)
theorem own_in (i n : Nat) (h : i < n) (hn : n ≤ 20) : ¬ Int32.ofNat i < 0 ∧ Int32.ofNat i < Int32.ofNat n := by
  simp only [Int32.lt_iff_toInt_lt, own_i i (by omega), own_i n (by omega), Int32.reduceToInt]; omega
theorem own_up (i : Nat) (h : i < 512) : (Int32.ofNat i) + (1 : Int32) = Int32.ofNat (i + 1) := by
  have e := own_i i (by omega)
  have e' := own_i (i + 1) (by omega)
  have a := c_iadd (Int32.ofNat i) 1
  have b := rng32 (Int32.ofNat i + 1)
  rw [← Int32.toInt_inj, e']
  simp only [Int32.reduceToInt] at a
  omega
theorem own_bat (tx : List Int32) (i : Nat) (h : i < tx.length) (hn : tx.length ≤ 20) (d : Value) : ((tx.map (fun c => c.toInt8.toInt32)).map Value.int).getD (Int32.ofNat i).toNatClampNeg d = .int ((tx.getD i 0).toInt8.toInt32) := by
  rw [own_clamp i (by omega), List.getD_eq_getElem?_getD, List.getD_eq_getElem?_getD]
  simp [h]
theorem own_mem (tx : List Int32) (i : Nat) (h : i < tx.length) : tx.getD i 0 ∈ tx := by
  rw [List.getD_eq_getElem?_getD, List.getElem?_eq_getElem h]; exact List.getElem_mem h
def own_val (g : Int64) (n : Int32) : Int64 := if n = (0 : Int32) then -g else g
theorem own_r0 (m : Int64) (hm : m.toInt ≤ 0) : own_run (own_c19 m) 1 = (m / (1000000000000000000 : Int64), 0, Int32.ofNat 1) ∧ own_ok (own_c19 m) 0 := by
  obtain ⟨k1, k2⟩ := own_step m (1000000000000000000 : Int64) 0 1000000000000000000 (0 : Int64) (by decide) (by decide) (by decide) hm (by rw [show (0 : Int64).toInt = 0 from rfl]; have := rng64 m; omega)
  obtain ⟨a, b⟩ := own_runD (own_c19 m) 0 (own_e m (1000000000000000000 : Int64)) (0 : Int64) 0 (Int32.ofNat 0) rfl rfl k2
  rw [k1] at a
  exact ⟨a, b⟩
theorem own_r1 (m : Int64) (hm : m.toInt ≤ 0) : own_run (own_c19 m) 2 = (m / (100000000000000000 : Int64), 0, Int32.ofNat 2) ∧ own_ok (own_c19 m) 1 := by
  obtain ⟨k1, k2⟩ := own_step m (100000000000000000 : Int64) 0 100000000000000000 (m / (1000000000000000000 : Int64)) (by decide) (by decide) (by decide) hm (by rw [(own_dv m (1000000000000000000 : Int64) 1000000000000000000 (by decide) (by decide) (by decide) hm).2, own_quo (-m.toInt) 100000000000000000 1000000000000000000 (by decide) (by decide) (by omega)])
  obtain ⟨a, b⟩ := own_runD (own_c19 m) 1 (own_e m (100000000000000000 : Int64)) (m / (1000000000000000000 : Int64)) 0 (Int32.ofNat 1) (own_r0 m hm).1 rfl k2
  rw [k1] at a
  exact ⟨a, b⟩
theorem own_r2 (m : Int64) (hm : m.toInt ≤ 0) : own_run (own_c19 m) 3 = (m / (10000000000000000 : Int64), 0, Int32.ofNat 3) ∧ own_ok (own_c19 m) 2 := by
  obtain ⟨k1, k2⟩ := own_step m (10000000000000000 : Int64) 0 10000000000000000 (m / (100000000000000000 : Int64)) (by decide) (by decide) (by decide) hm (by rw [(own_dv m (100000000000000000 : Int64) 100000000000000000 (by decide) (by decide) (by decide) hm).2, own_quo (-m.toInt) 10000000000000000 100000000000000000 (by decide) (by decide) (by omega)])
  obtain ⟨a, b⟩ := own_runD (own_c19 m) 2 (own_e m (10000000000000000 : Int64)) (m / (100000000000000000 : Int64)) 0 (Int32.ofNat 2) (own_r1 m hm).1 rfl k2
  rw [k1] at a
  exact ⟨a, b⟩
theorem own_r3 (m : Int64) (hm : m.toInt ≤ 0) : own_run (own_c19 m) 4 = (m / (1000000000000000 : Int64), 0, Int32.ofNat 4) ∧ own_ok (own_c19 m) 3 := by
  obtain ⟨k1, k2⟩ := own_step m (1000000000000000 : Int64) 0 1000000000000000 (m / (10000000000000000 : Int64)) (by decide) (by decide) (by decide) hm (by rw [(own_dv m (10000000000000000 : Int64) 10000000000000000 (by decide) (by decide) (by decide) hm).2, own_quo (-m.toInt) 1000000000000000 10000000000000000 (by decide) (by decide) (by omega)])
  obtain ⟨a, b⟩ := own_runD (own_c19 m) 3 (own_e m (1000000000000000 : Int64)) (m / (10000000000000000 : Int64)) 0 (Int32.ofNat 3) (own_r2 m hm).1 rfl k2
  rw [k1] at a
  exact ⟨a, b⟩
theorem own_r4 (m : Int64) (hm : m.toInt ≤ 0) : own_run (own_c19 m) 5 = (m / (100000000000000 : Int64), 0, Int32.ofNat 5) ∧ own_ok (own_c19 m) 4 := by
  obtain ⟨k1, k2⟩ := own_step m (100000000000000 : Int64) 0 100000000000000 (m / (1000000000000000 : Int64)) (by decide) (by decide) (by decide) hm (by rw [(own_dv m (1000000000000000 : Int64) 1000000000000000 (by decide) (by decide) (by decide) hm).2, own_quo (-m.toInt) 100000000000000 1000000000000000 (by decide) (by decide) (by omega)])
  obtain ⟨a, b⟩ := own_runD (own_c19 m) 4 (own_e m (100000000000000 : Int64)) (m / (1000000000000000 : Int64)) 0 (Int32.ofNat 4) (own_r3 m hm).1 rfl k2
  rw [k1] at a
  exact ⟨a, b⟩
theorem own_r5 (m : Int64) (hm : m.toInt ≤ 0) : own_run (own_c19 m) 6 = (m / (10000000000000 : Int64), 0, Int32.ofNat 6) ∧ own_ok (own_c19 m) 5 := by
  obtain ⟨k1, k2⟩ := own_step m (10000000000000 : Int64) 0 10000000000000 (m / (100000000000000 : Int64)) (by decide) (by decide) (by decide) hm (by rw [(own_dv m (100000000000000 : Int64) 100000000000000 (by decide) (by decide) (by decide) hm).2, own_quo (-m.toInt) 10000000000000 100000000000000 (by decide) (by decide) (by omega)])
  obtain ⟨a, b⟩ := own_runD (own_c19 m) 5 (own_e m (10000000000000 : Int64)) (m / (100000000000000 : Int64)) 0 (Int32.ofNat 5) (own_r4 m hm).1 rfl k2
  rw [k1] at a
  exact ⟨a, b⟩
theorem own_r6 (m : Int64) (hm : m.toInt ≤ 0) : own_run (own_c19 m) 7 = (m / (1000000000000 : Int64), 0, Int32.ofNat 7) ∧ own_ok (own_c19 m) 6 := by
  obtain ⟨k1, k2⟩ := own_step m (1000000000000 : Int64) 0 1000000000000 (m / (10000000000000 : Int64)) (by decide) (by decide) (by decide) hm (by rw [(own_dv m (10000000000000 : Int64) 10000000000000 (by decide) (by decide) (by decide) hm).2, own_quo (-m.toInt) 1000000000000 10000000000000 (by decide) (by decide) (by omega)])
  obtain ⟨a, b⟩ := own_runD (own_c19 m) 6 (own_e m (1000000000000 : Int64)) (m / (10000000000000 : Int64)) 0 (Int32.ofNat 6) (own_r5 m hm).1 rfl k2
  rw [k1] at a
  exact ⟨a, b⟩
theorem own_r7 (m : Int64) (hm : m.toInt ≤ 0) : own_run (own_c19 m) 8 = (m / (100000000000 : Int64), 0, Int32.ofNat 8) ∧ own_ok (own_c19 m) 7 := by
  obtain ⟨k1, k2⟩ := own_step m (100000000000 : Int64) 0 100000000000 (m / (1000000000000 : Int64)) (by decide) (by decide) (by decide) hm (by rw [(own_dv m (1000000000000 : Int64) 1000000000000 (by decide) (by decide) (by decide) hm).2, own_quo (-m.toInt) 100000000000 1000000000000 (by decide) (by decide) (by omega)])
  obtain ⟨a, b⟩ := own_runD (own_c19 m) 7 (own_e m (100000000000 : Int64)) (m / (1000000000000 : Int64)) 0 (Int32.ofNat 7) (own_r6 m hm).1 rfl k2
  rw [k1] at a
  exact ⟨a, b⟩
theorem own_r8 (m : Int64) (hm : m.toInt ≤ 0) : own_run (own_c19 m) 9 = (m / (10000000000 : Int64), 0, Int32.ofNat 9) ∧ own_ok (own_c19 m) 8 := by
  obtain ⟨k1, k2⟩ := own_step m (10000000000 : Int64) 0 10000000000 (m / (100000000000 : Int64)) (by decide) (by decide) (by decide) hm (by rw [(own_dv m (100000000000 : Int64) 100000000000 (by decide) (by decide) (by decide) hm).2, own_quo (-m.toInt) 10000000000 100000000000 (by decide) (by decide) (by omega)])
  obtain ⟨a, b⟩ := own_runD (own_c19 m) 8 (own_e m (10000000000 : Int64)) (m / (100000000000 : Int64)) 0 (Int32.ofNat 8) (own_r7 m hm).1 rfl k2
  rw [k1] at a
  exact ⟨a, b⟩
theorem own_r9 (m : Int64) (hm : m.toInt ≤ 0) : own_run (own_c19 m) 10 = (m / (1000000000 : Int64), 0, Int32.ofNat 10) ∧ own_ok (own_c19 m) 9 := by
  obtain ⟨k1, k2⟩ := own_step m (1000000000 : Int64) 0 1000000000 (m / (10000000000 : Int64)) (by decide) (by decide) (by decide) hm (by rw [(own_dv m (10000000000 : Int64) 10000000000 (by decide) (by decide) (by decide) hm).2, own_quo (-m.toInt) 1000000000 10000000000 (by decide) (by decide) (by omega)])
  obtain ⟨a, b⟩ := own_runD (own_c19 m) 9 (own_e m (1000000000 : Int64)) (m / (10000000000 : Int64)) 0 (Int32.ofNat 9) (own_r8 m hm).1 rfl k2
  rw [k1] at a
  exact ⟨a, b⟩
theorem own_r10 (m : Int64) (hm : m.toInt ≤ 0) : own_run (own_c19 m) 11 = (m / (100000000 : Int64), 0, Int32.ofNat 11) ∧ own_ok (own_c19 m) 10 := by
  obtain ⟨k1, k2⟩ := own_step m (100000000 : Int64) 0 100000000 (m / (1000000000 : Int64)) (by decide) (by decide) (by decide) hm (by rw [(own_dv m (1000000000 : Int64) 1000000000 (by decide) (by decide) (by decide) hm).2, own_quo (-m.toInt) 100000000 1000000000 (by decide) (by decide) (by omega)])
  obtain ⟨a, b⟩ := own_runD (own_c19 m) 10 (own_e m (100000000 : Int64)) (m / (1000000000 : Int64)) 0 (Int32.ofNat 10) (own_r9 m hm).1 rfl k2
  rw [k1] at a
  exact ⟨a, b⟩
theorem own_r11 (m : Int64) (hm : m.toInt ≤ 0) : own_run (own_c19 m) 12 = (m / (10000000 : Int64), 0, Int32.ofNat 12) ∧ own_ok (own_c19 m) 11 := by
  obtain ⟨k1, k2⟩ := own_step m (10000000 : Int64) 0 10000000 (m / (100000000 : Int64)) (by decide) (by decide) (by decide) hm (by rw [(own_dv m (100000000 : Int64) 100000000 (by decide) (by decide) (by decide) hm).2, own_quo (-m.toInt) 10000000 100000000 (by decide) (by decide) (by omega)])
  obtain ⟨a, b⟩ := own_runD (own_c19 m) 11 (own_e m (10000000 : Int64)) (m / (100000000 : Int64)) 0 (Int32.ofNat 11) (own_r10 m hm).1 rfl k2
  rw [k1] at a
  exact ⟨a, b⟩
theorem own_r12 (m : Int64) (hm : m.toInt ≤ 0) : own_run (own_c19 m) 13 = (m / (1000000 : Int64), 0, Int32.ofNat 13) ∧ own_ok (own_c19 m) 12 := by
  obtain ⟨k1, k2⟩ := own_step m (1000000 : Int64) 0 1000000 (m / (10000000 : Int64)) (by decide) (by decide) (by decide) hm (by rw [(own_dv m (10000000 : Int64) 10000000 (by decide) (by decide) (by decide) hm).2, own_quo (-m.toInt) 1000000 10000000 (by decide) (by decide) (by omega)])
  obtain ⟨a, b⟩ := own_runD (own_c19 m) 12 (own_e m (1000000 : Int64)) (m / (10000000 : Int64)) 0 (Int32.ofNat 12) (own_r11 m hm).1 rfl k2
  rw [k1] at a
  exact ⟨a, b⟩
theorem own_r13 (m : Int64) (hm : m.toInt ≤ 0) : own_run (own_c19 m) 14 = (m / (100000 : Int64), 0, Int32.ofNat 14) ∧ own_ok (own_c19 m) 13 := by
  obtain ⟨k1, k2⟩ := own_step m (100000 : Int64) 0 100000 (m / (1000000 : Int64)) (by decide) (by decide) (by decide) hm (by rw [(own_dv m (1000000 : Int64) 1000000 (by decide) (by decide) (by decide) hm).2, own_quo (-m.toInt) 100000 1000000 (by decide) (by decide) (by omega)])
  obtain ⟨a, b⟩ := own_runD (own_c19 m) 13 (own_e m (100000 : Int64)) (m / (1000000 : Int64)) 0 (Int32.ofNat 13) (own_r12 m hm).1 rfl k2
  rw [k1] at a
  exact ⟨a, b⟩
theorem own_r14 (m : Int64) (hm : m.toInt ≤ 0) : own_run (own_c19 m) 15 = (m / (10000 : Int64), 0, Int32.ofNat 15) ∧ own_ok (own_c19 m) 14 := by
  obtain ⟨k1, k2⟩ := own_step m (10000 : Int64) 0 10000 (m / (100000 : Int64)) (by decide) (by decide) (by decide) hm (by rw [(own_dv m (100000 : Int64) 100000 (by decide) (by decide) (by decide) hm).2, own_quo (-m.toInt) 10000 100000 (by decide) (by decide) (by omega)])
  obtain ⟨a, b⟩ := own_runD (own_c19 m) 14 (own_e m (10000 : Int64)) (m / (100000 : Int64)) 0 (Int32.ofNat 14) (own_r13 m hm).1 rfl k2
  rw [k1] at a
  exact ⟨a, b⟩
theorem own_r15 (m : Int64) (hm : m.toInt ≤ 0) : own_run (own_c19 m) 16 = (m / (1000 : Int64), 0, Int32.ofNat 16) ∧ own_ok (own_c19 m) 15 := by
  obtain ⟨k1, k2⟩ := own_step m (1000 : Int64) 0 1000 (m / (10000 : Int64)) (by decide) (by decide) (by decide) hm (by rw [(own_dv m (10000 : Int64) 10000 (by decide) (by decide) (by decide) hm).2, own_quo (-m.toInt) 1000 10000 (by decide) (by decide) (by omega)])
  obtain ⟨a, b⟩ := own_runD (own_c19 m) 15 (own_e m (1000 : Int64)) (m / (10000 : Int64)) 0 (Int32.ofNat 15) (own_r14 m hm).1 rfl k2
  rw [k1] at a
  exact ⟨a, b⟩
theorem own_r16 (m : Int64) (hm : m.toInt ≤ 0) : own_run (own_c19 m) 17 = (m / (100 : Int64), 0, Int32.ofNat 17) ∧ own_ok (own_c19 m) 16 := by
  obtain ⟨k1, k2⟩ := own_step m (100 : Int64) 0 100 (m / (1000 : Int64)) (by decide) (by decide) (by decide) hm (by rw [(own_dv m (1000 : Int64) 1000 (by decide) (by decide) (by decide) hm).2, own_quo (-m.toInt) 100 1000 (by decide) (by decide) (by omega)])
  obtain ⟨a, b⟩ := own_runD (own_c19 m) 16 (own_e m (100 : Int64)) (m / (1000 : Int64)) 0 (Int32.ofNat 16) (own_r15 m hm).1 rfl k2
  rw [k1] at a
  exact ⟨a, b⟩
theorem own_r17 (m : Int64) (hm : m.toInt ≤ 0) : own_run (own_c19 m) 18 = (m / (10 : Int64), 0, Int32.ofNat 18) ∧ own_ok (own_c19 m) 17 := by
  obtain ⟨k1, k2⟩ := own_step m (10 : Int64) 0 10 (m / (100 : Int64)) (by decide) (by decide) (by decide) hm (by rw [(own_dv m (100 : Int64) 100 (by decide) (by decide) (by decide) hm).2, own_quo (-m.toInt) 10 100 (by decide) (by decide) (by omega)])
  obtain ⟨a, b⟩ := own_runD (own_c19 m) 17 (own_e m (10 : Int64)) (m / (100 : Int64)) 0 (Int32.ofNat 17) (own_r16 m hm).1 rfl k2
  rw [k1] at a
  exact ⟨a, b⟩
theorem own_r18 (m : Int64) (hm : m.toInt ≤ 0) : own_run (own_c19 m) 19 = (m / (1 : Int64), 0, Int32.ofNat 19) ∧ own_ok (own_c19 m) 18 := by
  obtain ⟨k1, k2⟩ := own_step m (1 : Int64) 0 1 (m / (10 : Int64)) (by decide) (by decide) (by decide) hm (by rw [(own_dv m (10 : Int64) 10 (by decide) (by decide) (by decide) hm).2, own_quo (-m.toInt) 1 10 (by decide) (by decide) (by omega)])
  obtain ⟨a, b⟩ := own_runD (own_c19 m) 18 (own_e m (1 : Int64)) (m / (10 : Int64)) 0 (Int32.ofNat 18) (own_r17 m hm).1 rfl k2
  rw [k1] at a
  exact ⟨a, b⟩
theorem own_s0a (s : Int32) (m : Int64) (hs : s = 45 ∨ s = 43) : own_run (own_c20 s m) 1 = ((0 : Int64), (if s = 45 then 1 else 0), Int32.ofNat 0) := by
  unfold own_run; rw [if_pos ⟨rfl, hs⟩]; rfl
theorem own_s0 (s : Int32) (m : Int64) (hs : s = 45 ∨ s = 43) (hm : m.toInt ≤ 0) : own_run (own_c20 s m) 2 = (m / (1000000000000000000 : Int64), (if s = 45 then 1 else 0), Int32.ofNat 1) ∧ own_ok (own_c20 s m) 1 := by
  obtain ⟨k1, k2⟩ := own_step m (1000000000000000000 : Int64) 0 1000000000000000000 (0 : Int64) (by decide) (by decide) (by decide) hm (by rw [show (0 : Int64).toInt = 0 from rfl]; have := rng64 m; omega)
  obtain ⟨a, b⟩ := own_runD (own_c20 s m) 1 (own_e m (1000000000000000000 : Int64)) (0 : Int64) (if s = 45 then 1 else 0) (Int32.ofNat 0) (own_s0a s m hs) rfl k2
  rw [k1] at a
  exact ⟨a, b⟩
theorem own_s1 (s : Int32) (m : Int64) (hs : s = 45 ∨ s = 43) (hm : m.toInt ≤ 0) : own_run (own_c20 s m) 3 = (m / (100000000000000000 : Int64), (if s = 45 then 1 else 0), Int32.ofNat 2) ∧ own_ok (own_c20 s m) 2 := by
  obtain ⟨k1, k2⟩ := own_step m (100000000000000000 : Int64) 0 100000000000000000 (m / (1000000000000000000 : Int64)) (by decide) (by decide) (by decide) hm (by rw [(own_dv m (1000000000000000000 : Int64) 1000000000000000000 (by decide) (by decide) (by decide) hm).2, own_quo (-m.toInt) 100000000000000000 1000000000000000000 (by decide) (by decide) (by omega)])
  obtain ⟨a, b⟩ := own_runD (own_c20 s m) 2 (own_e m (100000000000000000 : Int64)) (m / (1000000000000000000 : Int64)) (if s = 45 then 1 else 0) (Int32.ofNat 1) (own_s0 s m hs hm).1 rfl k2
  rw [k1] at a
  exact ⟨a, b⟩
theorem own_s2 (s : Int32) (m : Int64) (hs : s = 45 ∨ s = 43) (hm : m.toInt ≤ 0) : own_run (own_c20 s m) 4 = (m / (10000000000000000 : Int64), (if s = 45 then 1 else 0), Int32.ofNat 3) ∧ own_ok (own_c20 s m) 3 := by
  obtain ⟨k1, k2⟩ := own_step m (10000000000000000 : Int64) 0 10000000000000000 (m / (100000000000000000 : Int64)) (by decide) (by decide) (by decide) hm (by rw [(own_dv m (100000000000000000 : Int64) 100000000000000000 (by decide) (by decide) (by decide) hm).2, own_quo (-m.toInt) 10000000000000000 100000000000000000 (by decide) (by decide) (by omega)])
  obtain ⟨a, b⟩ := own_runD (own_c20 s m) 3 (own_e m (10000000000000000 : Int64)) (m / (100000000000000000 : Int64)) (if s = 45 then 1 else 0) (Int32.ofNat 2) (own_s1 s m hs hm).1 rfl k2
  rw [k1] at a
  exact ⟨a, b⟩
theorem own_s3 (s : Int32) (m : Int64) (hs : s = 45 ∨ s = 43) (hm : m.toInt ≤ 0) : own_run (own_c20 s m) 5 = (m / (1000000000000000 : Int64), (if s = 45 then 1 else 0), Int32.ofNat 4) ∧ own_ok (own_c20 s m) 4 := by
  obtain ⟨k1, k2⟩ := own_step m (1000000000000000 : Int64) 0 1000000000000000 (m / (10000000000000000 : Int64)) (by decide) (by decide) (by decide) hm (by rw [(own_dv m (10000000000000000 : Int64) 10000000000000000 (by decide) (by decide) (by decide) hm).2, own_quo (-m.toInt) 1000000000000000 10000000000000000 (by decide) (by decide) (by omega)])
  obtain ⟨a, b⟩ := own_runD (own_c20 s m) 4 (own_e m (1000000000000000 : Int64)) (m / (10000000000000000 : Int64)) (if s = 45 then 1 else 0) (Int32.ofNat 3) (own_s2 s m hs hm).1 rfl k2
  rw [k1] at a
  exact ⟨a, b⟩
theorem own_s4 (s : Int32) (m : Int64) (hs : s = 45 ∨ s = 43) (hm : m.toInt ≤ 0) : own_run (own_c20 s m) 6 = (m / (100000000000000 : Int64), (if s = 45 then 1 else 0), Int32.ofNat 5) ∧ own_ok (own_c20 s m) 5 := by
  obtain ⟨k1, k2⟩ := own_step m (100000000000000 : Int64) 0 100000000000000 (m / (1000000000000000 : Int64)) (by decide) (by decide) (by decide) hm (by rw [(own_dv m (1000000000000000 : Int64) 1000000000000000 (by decide) (by decide) (by decide) hm).2, own_quo (-m.toInt) 100000000000000 1000000000000000 (by decide) (by decide) (by omega)])
  obtain ⟨a, b⟩ := own_runD (own_c20 s m) 5 (own_e m (100000000000000 : Int64)) (m / (1000000000000000 : Int64)) (if s = 45 then 1 else 0) (Int32.ofNat 4) (own_s3 s m hs hm).1 rfl k2
  rw [k1] at a
  exact ⟨a, b⟩
theorem own_s5 (s : Int32) (m : Int64) (hs : s = 45 ∨ s = 43) (hm : m.toInt ≤ 0) : own_run (own_c20 s m) 7 = (m / (10000000000000 : Int64), (if s = 45 then 1 else 0), Int32.ofNat 6) ∧ own_ok (own_c20 s m) 6 := by
  obtain ⟨k1, k2⟩ := own_step m (10000000000000 : Int64) 0 10000000000000 (m / (100000000000000 : Int64)) (by decide) (by decide) (by decide) hm (by rw [(own_dv m (100000000000000 : Int64) 100000000000000 (by decide) (by decide) (by decide) hm).2, own_quo (-m.toInt) 10000000000000 100000000000000 (by decide) (by decide) (by omega)])
  obtain ⟨a, b⟩ := own_runD (own_c20 s m) 6 (own_e m (10000000000000 : Int64)) (m / (100000000000000 : Int64)) (if s = 45 then 1 else 0) (Int32.ofNat 5) (own_s4 s m hs hm).1 rfl k2
  rw [k1] at a
  exact ⟨a, b⟩
theorem own_s6 (s : Int32) (m : Int64) (hs : s = 45 ∨ s = 43) (hm : m.toInt ≤ 0) : own_run (own_c20 s m) 8 = (m / (1000000000000 : Int64), (if s = 45 then 1 else 0), Int32.ofNat 7) ∧ own_ok (own_c20 s m) 7 := by
  obtain ⟨k1, k2⟩ := own_step m (1000000000000 : Int64) 0 1000000000000 (m / (10000000000000 : Int64)) (by decide) (by decide) (by decide) hm (by rw [(own_dv m (10000000000000 : Int64) 10000000000000 (by decide) (by decide) (by decide) hm).2, own_quo (-m.toInt) 1000000000000 10000000000000 (by decide) (by decide) (by omega)])
  obtain ⟨a, b⟩ := own_runD (own_c20 s m) 7 (own_e m (1000000000000 : Int64)) (m / (10000000000000 : Int64)) (if s = 45 then 1 else 0) (Int32.ofNat 6) (own_s5 s m hs hm).1 rfl k2
  rw [k1] at a
  exact ⟨a, b⟩
theorem own_s7 (s : Int32) (m : Int64) (hs : s = 45 ∨ s = 43) (hm : m.toInt ≤ 0) : own_run (own_c20 s m) 9 = (m / (100000000000 : Int64), (if s = 45 then 1 else 0), Int32.ofNat 8) ∧ own_ok (own_c20 s m) 8 := by
  obtain ⟨k1, k2⟩ := own_step m (100000000000 : Int64) 0 100000000000 (m / (1000000000000 : Int64)) (by decide) (by decide) (by decide) hm (by rw [(own_dv m (1000000000000 : Int64) 1000000000000 (by decide) (by decide) (by decide) hm).2, own_quo (-m.toInt) 100000000000 1000000000000 (by decide) (by decide) (by omega)])
  obtain ⟨a, b⟩ := own_runD (own_c20 s m) 8 (own_e m (100000000000 : Int64)) (m / (1000000000000 : Int64)) (if s = 45 then 1 else 0) (Int32.ofNat 7) (own_s6 s m hs hm).1 rfl k2
  rw [k1] at a
  exact ⟨a, b⟩
theorem own_s8 (s : Int32) (m : Int64) (hs : s = 45 ∨ s = 43) (hm : m.toInt ≤ 0) : own_run (own_c20 s m) 10 = (m / (10000000000 : Int64), (if s = 45 then 1 else 0), Int32.ofNat 9) ∧ own_ok (own_c20 s m) 9 := by
  obtain ⟨k1, k2⟩ := own_step m (10000000000 : Int64) 0 10000000000 (m / (100000000000 : Int64)) (by decide) (by decide) (by decide) hm (by rw [(own_dv m (100000000000 : Int64) 100000000000 (by decide) (by decide) (by decide) hm).2, own_quo (-m.toInt) 10000000000 100000000000 (by decide) (by decide) (by omega)])
  obtain ⟨a, b⟩ := own_runD (own_c20 s m) 9 (own_e m (10000000000 : Int64)) (m / (100000000000 : Int64)) (if s = 45 then 1 else 0) (Int32.ofNat 8) (own_s7 s m hs hm).1 rfl k2
  rw [k1] at a
  exact ⟨a, b⟩
theorem own_s9 (s : Int32) (m : Int64) (hs : s = 45 ∨ s = 43) (hm : m.toInt ≤ 0) : own_run (own_c20 s m) 11 = (m / (1000000000 : Int64), (if s = 45 then 1 else 0), Int32.ofNat 10) ∧ own_ok (own_c20 s m) 10 := by
  obtain ⟨k1, k2⟩ := own_step m (1000000000 : Int64) 0 1000000000 (m / (10000000000 : Int64)) (by decide) (by decide) (by decide) hm (by rw [(own_dv m (10000000000 : Int64) 10000000000 (by decide) (by decide) (by decide) hm).2, own_quo (-m.toInt) 1000000000 10000000000 (by decide) (by decide) (by omega)])
  obtain ⟨a, b⟩ := own_runD (own_c20 s m) 10 (own_e m (1000000000 : Int64)) (m / (10000000000 : Int64)) (if s = 45 then 1 else 0) (Int32.ofNat 9) (own_s8 s m hs hm).1 rfl k2
  rw [k1] at a
  exact ⟨a, b⟩
theorem own_s10 (s : Int32) (m : Int64) (hs : s = 45 ∨ s = 43) (hm : m.toInt ≤ 0) : own_run (own_c20 s m) 12 = (m / (100000000 : Int64), (if s = 45 then 1 else 0), Int32.ofNat 11) ∧ own_ok (own_c20 s m) 11 := by
  obtain ⟨k1, k2⟩ := own_step m (100000000 : Int64) 0 100000000 (m / (1000000000 : Int64)) (by decide) (by decide) (by decide) hm (by rw [(own_dv m (1000000000 : Int64) 1000000000 (by decide) (by decide) (by decide) hm).2, own_quo (-m.toInt) 100000000 1000000000 (by decide) (by decide) (by omega)])
  obtain ⟨a, b⟩ := own_runD (own_c20 s m) 11 (own_e m (100000000 : Int64)) (m / (1000000000 : Int64)) (if s = 45 then 1 else 0) (Int32.ofNat 10) (own_s9 s m hs hm).1 rfl k2
  rw [k1] at a
  exact ⟨a, b⟩
theorem own_s11 (s : Int32) (m : Int64) (hs : s = 45 ∨ s = 43) (hm : m.toInt ≤ 0) : own_run (own_c20 s m) 13 = (m / (10000000 : Int64), (if s = 45 then 1 else 0), Int32.ofNat 12) ∧ own_ok (own_c20 s m) 12 := by
  obtain ⟨k1, k2⟩ := own_step m (10000000 : Int64) 0 10000000 (m / (100000000 : Int64)) (by decide) (by decide) (by decide) hm (by rw [(own_dv m (100000000 : Int64) 100000000 (by decide) (by decide) (by decide) hm).2, own_quo (-m.toInt) 10000000 100000000 (by decide) (by decide) (by omega)])
  obtain ⟨a, b⟩ := own_runD (own_c20 s m) 12 (own_e m (10000000 : Int64)) (m / (100000000 : Int64)) (if s = 45 then 1 else 0) (Int32.ofNat 11) (own_s10 s m hs hm).1 rfl k2
  rw [k1] at a
  exact ⟨a, b⟩
theorem own_s12 (s : Int32) (m : Int64) (hs : s = 45 ∨ s = 43) (hm : m.toInt ≤ 0) : own_run (own_c20 s m) 14 = (m / (1000000 : Int64), (if s = 45 then 1 else 0), Int32.ofNat 13) ∧ own_ok (own_c20 s m) 13 := by
  obtain ⟨k1, k2⟩ := own_step m (1000000 : Int64) 0 1000000 (m / (10000000 : Int64)) (by decide) (by decide) (by decide) hm (by rw [(own_dv m (10000000 : Int64) 10000000 (by decide) (by decide) (by decide) hm).2, own_quo (-m.toInt) 1000000 10000000 (by decide) (by decide) (by omega)])
  obtain ⟨a, b⟩ := own_runD (own_c20 s m) 13 (own_e m (1000000 : Int64)) (m / (10000000 : Int64)) (if s = 45 then 1 else 0) (Int32.ofNat 12) (own_s11 s m hs hm).1 rfl k2
  rw [k1] at a
  exact ⟨a, b⟩
theorem own_s13 (s : Int32) (m : Int64) (hs : s = 45 ∨ s = 43) (hm : m.toInt ≤ 0) : own_run (own_c20 s m) 15 = (m / (100000 : Int64), (if s = 45 then 1 else 0), Int32.ofNat 14) ∧ own_ok (own_c20 s m) 14 := by
  obtain ⟨k1, k2⟩ := own_step m (100000 : Int64) 0 100000 (m / (1000000 : Int64)) (by decide) (by decide) (by decide) hm (by rw [(own_dv m (1000000 : Int64) 1000000 (by decide) (by decide) (by decide) hm).2, own_quo (-m.toInt) 100000 1000000 (by decide) (by decide) (by omega)])
  obtain ⟨a, b⟩ := own_runD (own_c20 s m) 14 (own_e m (100000 : Int64)) (m / (1000000 : Int64)) (if s = 45 then 1 else 0) (Int32.ofNat 13) (own_s12 s m hs hm).1 rfl k2
  rw [k1] at a
  exact ⟨a, b⟩
theorem own_s14 (s : Int32) (m : Int64) (hs : s = 45 ∨ s = 43) (hm : m.toInt ≤ 0) : own_run (own_c20 s m) 16 = (m / (10000 : Int64), (if s = 45 then 1 else 0), Int32.ofNat 15) ∧ own_ok (own_c20 s m) 15 := by
  obtain ⟨k1, k2⟩ := own_step m (10000 : Int64) 0 10000 (m / (100000 : Int64)) (by decide) (by decide) (by decide) hm (by rw [(own_dv m (100000 : Int64) 100000 (by decide) (by decide) (by decide) hm).2, own_quo (-m.toInt) 10000 100000 (by decide) (by decide) (by omega)])
  obtain ⟨a, b⟩ := own_runD (own_c20 s m) 15 (own_e m (10000 : Int64)) (m / (100000 : Int64)) (if s = 45 then 1 else 0) (Int32.ofNat 14) (own_s13 s m hs hm).1 rfl k2
  rw [k1] at a
  exact ⟨a, b⟩
theorem own_s15 (s : Int32) (m : Int64) (hs : s = 45 ∨ s = 43) (hm : m.toInt ≤ 0) : own_run (own_c20 s m) 17 = (m / (1000 : Int64), (if s = 45 then 1 else 0), Int32.ofNat 16) ∧ own_ok (own_c20 s m) 16 := by
  obtain ⟨k1, k2⟩ := own_step m (1000 : Int64) 0 1000 (m / (10000 : Int64)) (by decide) (by decide) (by decide) hm (by rw [(own_dv m (10000 : Int64) 10000 (by decide) (by decide) (by decide) hm).2, own_quo (-m.toInt) 1000 10000 (by decide) (by decide) (by omega)])
  obtain ⟨a, b⟩ := own_runD (own_c20 s m) 16 (own_e m (1000 : Int64)) (m / (10000 : Int64)) (if s = 45 then 1 else 0) (Int32.ofNat 15) (own_s14 s m hs hm).1 rfl k2
  rw [k1] at a
  exact ⟨a, b⟩
theorem own_s16 (s : Int32) (m : Int64) (hs : s = 45 ∨ s = 43) (hm : m.toInt ≤ 0) : own_run (own_c20 s m) 18 = (m / (100 : Int64), (if s = 45 then 1 else 0), Int32.ofNat 17) ∧ own_ok (own_c20 s m) 17 := by
  obtain ⟨k1, k2⟩ := own_step m (100 : Int64) 0 100 (m / (1000 : Int64)) (by decide) (by decide) (by decide) hm (by rw [(own_dv m (1000 : Int64) 1000 (by decide) (by decide) (by decide) hm).2, own_quo (-m.toInt) 100 1000 (by decide) (by decide) (by omega)])
  obtain ⟨a, b⟩ := own_runD (own_c20 s m) 17 (own_e m (100 : Int64)) (m / (1000 : Int64)) (if s = 45 then 1 else 0) (Int32.ofNat 16) (own_s15 s m hs hm).1 rfl k2
  rw [k1] at a
  exact ⟨a, b⟩
theorem own_s17 (s : Int32) (m : Int64) (hs : s = 45 ∨ s = 43) (hm : m.toInt ≤ 0) : own_run (own_c20 s m) 19 = (m / (10 : Int64), (if s = 45 then 1 else 0), Int32.ofNat 18) ∧ own_ok (own_c20 s m) 18 := by
  obtain ⟨k1, k2⟩ := own_step m (10 : Int64) 0 10 (m / (100 : Int64)) (by decide) (by decide) (by decide) hm (by rw [(own_dv m (100 : Int64) 100 (by decide) (by decide) (by decide) hm).2, own_quo (-m.toInt) 10 100 (by decide) (by decide) (by omega)])
  obtain ⟨a, b⟩ := own_runD (own_c20 s m) 18 (own_e m (10 : Int64)) (m / (100 : Int64)) (if s = 45 then 1 else 0) (Int32.ofNat 17) (own_s16 s m hs hm).1 rfl k2
  rw [k1] at a
  exact ⟨a, b⟩
theorem own_s18 (s : Int32) (m : Int64) (hs : s = 45 ∨ s = 43) (hm : m.toInt ≤ 0) : own_run (own_c20 s m) 20 = (m / (1 : Int64), (if s = 45 then 1 else 0), Int32.ofNat 19) ∧ own_ok (own_c20 s m) 19 := by
  obtain ⟨k1, k2⟩ := own_step m (1 : Int64) 0 1 (m / (10 : Int64)) (by decide) (by decide) (by decide) hm (by rw [(own_dv m (10 : Int64) 10 (by decide) (by decide) (by decide) hm).2, own_quo (-m.toInt) 1 10 (by decide) (by decide) (by omega)])
  obtain ⟨a, b⟩ := own_runD (own_c20 s m) 19 (own_e m (1 : Int64)) (m / (10 : Int64)) (if s = 45 then 1 else 0) (Int32.ofNat 18) (own_s17 s m hs hm).1 rfl k2
  rw [k1] at a
  exact ⟨a, b⟩
theorem own_all19 (m : Int64) (hm : m.toInt ≤ 0) : ∀ i, i < 19 → own_ok (own_c19 m) i := by
  intro i h
  match i, h with
  | 0, _ => exact (own_r0 m hm).2
  | 1, _ => exact (own_r1 m hm).2
  | 2, _ => exact (own_r2 m hm).2
  | 3, _ => exact (own_r3 m hm).2
  | 4, _ => exact (own_r4 m hm).2
  | 5, _ => exact (own_r5 m hm).2
  | 6, _ => exact (own_r6 m hm).2
  | 7, _ => exact (own_r7 m hm).2
  | 8, _ => exact (own_r8 m hm).2
  | 9, _ => exact (own_r9 m hm).2
  | 10, _ => exact (own_r10 m hm).2
  | 11, _ => exact (own_r11 m hm).2
  | 12, _ => exact (own_r12 m hm).2
  | 13, _ => exact (own_r13 m hm).2
  | 14, _ => exact (own_r14 m hm).2
  | 15, _ => exact (own_r15 m hm).2
  | 16, _ => exact (own_r16 m hm).2
  | 17, _ => exact (own_r17 m hm).2
  | 18, _ => exact (own_r18 m hm).2
  | n + 19, h => exact absurd h (by omega)
theorem own_all20 (s : Int32) (m : Int64) (hs : s = 45 ∨ s = 43) (hm : m.toInt ≤ 0) : ∀ i, i < 20 → own_ok (own_c20 s m) i := by
  intro i h
  match i, h with
  | 0, _ => exact Or.inl ⟨rfl, hs⟩
  | 1, _ => exact (own_s0 s m hs hm).2
  | 2, _ => exact (own_s1 s m hs hm).2
  | 3, _ => exact (own_s2 s m hs hm).2
  | 4, _ => exact (own_s3 s m hs hm).2
  | 5, _ => exact (own_s4 s m hs hm).2
  | 6, _ => exact (own_s5 s m hs hm).2
  | 7, _ => exact (own_s6 s m hs hm).2
  | 8, _ => exact (own_s7 s m hs hm).2
  | 9, _ => exact (own_s8 s m hs hm).2
  | 10, _ => exact (own_s9 s m hs hm).2
  | 11, _ => exact (own_s10 s m hs hm).2
  | 12, _ => exact (own_s11 s m hs hm).2
  | 13, _ => exact (own_s12 s m hs hm).2
  | 14, _ => exact (own_s13 s m hs hm).2
  | 15, _ => exact (own_s14 s m hs hm).2
  | 16, _ => exact (own_s15 s m hs hm).2
  | 17, _ => exact (own_s16 s m hs hm).2
  | 18, _ => exact (own_s17 s m hs hm).2
  | 19, _ => exact (own_s18 s m hs hm).2
  | n + 20, h => exact absurd h (by omega)
theorem own_nz : ¬ Int32.ofNat 19 = (0 : Int32) := by decide
theorem own_n45 : ¬ (if ((45 : Int32).toUInt32.toUInt16.toUInt32.toInt32) = 45 then (1 : Int32) else 0) = 0 := by decide
theorem own_v45 (m : Int64) : own_val m (if ((45 : Int32).toUInt32.toUInt16.toUInt32.toInt32) = 45 then 1 else 0) = m := by unfold own_val; rw [if_neg own_n45]
theorem own_v43 (m : Int64) : own_val m (if ((43 : Int32).toUInt32.toUInt16.toUInt32.toInt32) = 45 then 1 else 0) = -m := by unfold own_val; rw [if_pos (by decide)]
theorem own_v0 (m : Int64) : own_val m 0 = -m := by unfold own_val; rw [if_pos (by decide)]
theorem own_one (m : Int64) : m / (1 : Int64) = m := by rw [← Int64.toInt_inj]; have a := c_ldiv m 1 1 rfl (by decide); by_cases z : m.toInt < 0; rw [a.2 z]; omega; rw [a.1 (by omega)]; omega
theorem own_e19 (m : Int64) (hm : m.toInt ≤ 0) : own_run (own_c19 m) 19 = (m, 0, Int32.ofNat 19) := by rw [(own_r18 m hm).1, own_one]
theorem own_e20 (s : Int32) (m : Int64) (hs : s = 45 ∨ s = 43) (hm : m.toInt ≤ 0) : own_run (own_c20 s m) 20 = (m, (if s = 45 then 1 else 0), Int32.ofNat 19) := by rw [(own_s18 s m hs hm).1, own_one]
theorem own_neg (n : Int64) (h : ¬ n < 0) : (-n).toInt ≤ 0 := by
  have a := c_lneg n
  have b := rng64 n
  have d := rng64 (-n)
  rw [Int64.lt_iff_toInt_lt, show (0 : Int64).toInt = 0 from rfl] at h
  omega
theorem own_neg' (n : Int64) (h : n < 0) : n.toInt ≤ 0 := by rw [Int64.lt_iff_toInt_lt, show (0 : Int64).toInt = 0 from rfl] at h; omega
theorem pd_0 : parseMethodDescriptor "(IILjava/util/function/BiFunction;)I" = some ⟨[.int, .int, (.object "java/util/function/BiFunction")], some .int⟩ := by decide +kernel
theorem pd_1 : parseMethodDescriptor "(II)V" = some ⟨[.int, .int], none⟩ := by decide +kernel
theorem pd_2 : parseMethodDescriptor "()Z" = some ⟨[], some .boolean⟩ := by decide +kernel
theorem pd_3 : parseMethodDescriptor "([BI)C" = some ⟨[(.array .byte), .int], some .char⟩ := by decide +kernel
theorem pd_4 : parseMethodDescriptor "()B" = some ⟨[], some .byte⟩ := by decide +kernel
theorem pd_5 : parseMethodDescriptor "()I" = some ⟨[], some .int⟩ := by decide +kernel
theorem pd_6 : parseMethodDescriptor "(I)C" = some ⟨[.int], some .char⟩ := by decide +kernel
theorem pd_7 : parseMethodDescriptor "(I)V" = some ⟨[.int], none⟩ := by decide +kernel
theorem pd_8 : parseMethodDescriptor "()V" = some ⟨[], none⟩ := by decide +kernel
theorem pd_9 : parseMethodDescriptor "()J" = some ⟨[], some .long⟩ := by decide +kernel
theorem pd_10 : parseMethodDescriptor "(JJ)C" = some ⟨[.long, .long], some .char⟩ := by decide +kernel
theorem pd_11 : parseMethodDescriptor "([CIJ)V" = some ⟨[(.array .char), .int, .long], none⟩ := by decide +kernel
theorem pd_12 : parseMethodDescriptor "([C)V" = some ⟨[(.array .char)], none⟩ := by decide +kernel
theorem pd_13 : parseMethodDescriptor "(Ljava/lang/String;)J" = some ⟨[(.object "java/lang/String")], some .long⟩ := by decide +kernel
theorem d10_0 : decode prog_17_method_1_code 0 = .ok (.aload_n 0, 1) := by decide +kernel
theorem d10_1 : decode prog_17_method_1_code 1 = .ok (.invokespecial 1, 3) := by decide +kernel
theorem d10_4 : decode prog_17_method_1_code 4 = .ok (.aload_n 0, 1) := by decide +kernel
theorem d10_5 : decode prog_17_method_1_code 5 = .ok (.iconst 1, 1) := by decide +kernel
theorem d10_6 : decode prog_17_method_1_code 6 = .ok (.putfield 7, 3) := by decide +kernel
theorem d10_9 : decode prog_17_method_1_code 9 = .ok (.aload_n 0, 1) := by decide +kernel
theorem d10_10 : decode prog_17_method_1_code 10 = .ok (.iconst 1, 1) := by decide +kernel
theorem d10_11 : decode prog_17_method_1_code 11 = .ok (.putfield 13, 3) := by decide +kernel
theorem d10_14 : decode prog_17_method_1_code 14 = .ok (.return_, 1) := by decide +kernel
theorem pn_10 : plainName "com/example/sequence_set/sequenceset/cli/DecimalParser" = true := by first | (simp [plainName, overriddenIn]; done) | decide +kernel
theorem ef_10 (m : MethodId) (x0 : Addr) : entryFrame m #[(.ref x0)] 1 = mkF m 0 #[.val (.ref x0)] [] := by first | (simp [entryFrame, mkF, argsToLocals, Value.category]; done) | rfl
def Q10 (Z : State) (r0 : Addr) (h0 : Heap) (n0 : Nat) (v : Option Value) (h : Heap) (L : List Loc) : Prop := v = none ∧ Fr n0 L ∧ Keep h0 h [r0] ∧ Exa Z h r0 "com/example/sequence_set/sequenceset/cli/DecimalParser" ∧ Fld Z h r0 "com/example/sequence_set/sequenceset/cli/DecimalParser" "negated" "J" (.long (0 : Int64)) ∧ Fld Z h r0 "com/example/sequence_set/sequenceset/cli/DecimalParser" "negative" "Z" (.int (0 : Int32)) ∧ Fld Z h r0 "com/example/sequence_set/sequenceset/cli/DecimalParser" "characters" "I" (.int (0 : Int32)) ∧ Fld Z h r0 "com/example/sequence_set/sequenceset/cli/DecimalParser" "digits" "I" (.int (0 : Int32)) ∧ Fld Z h r0 "com/example/sequence_set/sequenceset/cli/DecimalParser" "wellFormed" "Z" (.int (1 : Int32)) ∧ Fld Z h r0 "com/example/sequence_set/sequenceset/cli/DecimalParser" "inRange" "Z" (.int (1 : Int32))
set_option maxRecDepth 65536 in
set_option maxHeartbeats 40000000 in
theorem rm10 (l : Launch) (Z : State) (a0 : Array Value) (hw : ∀ d ∈ tables_1, d.before a0 Z = true) (ws : List Jvm.Cond) (r0 : Addr)  (h0 : Heap) (n0 : Nat) (Z0 : n0 ≤ h0.size) (F_ng : Fld Z h0 r0 "com/example/sequence_set/sequenceset/cli/DecimalParser" "negated" "J" (.long (0 : Int64))) (F_ne : Fld Z h0 r0 "com/example/sequence_set/sequenceset/cli/DecimalParser" "negative" "Z" (.int (0 : Int32))) (F_ch : Fld Z h0 r0 "com/example/sequence_set/sequenceset/cli/DecimalParser" "characters" "I" (.int (0 : Int32))) (F_dg : Fld Z h0 r0 "com/example/sequence_set/sequenceset/cli/DecimalParser" "digits" "I" (.int (0 : Int32))) (F_wf : Fld Z h0 r0 "com/example/sequence_set/sequenceset/cli/DecimalParser" "wellFormed" "Z" (.int (0 : Int32))) (F_ir : Fld Z h0 r0 "com/example/sequence_set/sequenceset/cli/DecimalParser" "inRange" "Z" (.int (0 : Int32))) (E_r0 : Exa Z h0 r0 "com/example/sequence_set/sequenceset/cli/DecimalParser") (g_r0 : n0 ≤ r0) :
    MetFree l (⟨"com/example/sequence_set/sequenceset/cli/DecimalParser", "<init>", "()V"⟩ : MethodName) (head1 (Jvm.Cond.code (⟨"com/example/sequence_set/sequenceset/cli/DecimalParser", "<init>", "()V"⟩ : MethodName) prog_17_method_1_code 1 none :: ws) ({ frames := 1, cells := 0, slots := 0, locals := 12 } : Room)) (fun a U => a = #[(.ref r0)] ∧ Z.Warmed39 U.vm ∧ U.heap = h0) (fun _ _ _ _ _ => True) (fun _ U o U' => ∃ v L, o = .returned v ∧ Q10 Z r0 h0 n0 v U'.heap L ∧ FrameEnd U o U' L ({ frames := 1, cells := 0, slots := 0, locals := 12 } : Room).cells ({ frames := 1, cells := 0, slots := 0, locals := 12 } : Room).slots) := by
  refine MetFree.of_bodySF (plainFor_of_name pn_10) hisR ?_
  intro p e s m args below meth c s₁ Bd hml0 hP hK
  obtain ⟨rfl, hZ, hh⟩ := hP
  have hx := Bd.exec
  have hby := Bd.bytes
  have hml : c.maxLocals = 1 := hml0
  have hown : s.vm.findClass "com/example/sequence_set/sequenceset/cli/DecimalParser" = some m.cls := findClass_of_methodNamed Bd.named
  have hnm := (name_of_methodNamed Bd.named Bd.method).1
  have X0 : Stand p l e ({ frames := 1, cells := 0, slots := 0, locals := 12 } : Room) s m #[(.ref r0)] below meth c s₁ [] 0 0 := Stand.of_body Bd
  have e0 : s₁.heap = h0 := by rw [← hh, Bd.state]; rfl
  have N0 := Fr.nil n0
  have pre0 : ∀ t, Steps p.tables e below (s₁.setTop (mkF m 0 #[.val (.ref r0)] [])) t → Steps p.tables e below (s₁.setTop (entryFrame m #[(.ref r0)] 1)) t := fun t k => castTop (ef_10 m r0) k
  have c2 : ∀ t, Steps p.tables e below (s₁.setTop (mkF m 1 #[.val (.ref r0)] [(.ref r0)])) t → Steps p.tables e below (s₁.setTop (mkF m 0 #[.val (.ref r0)] [])) t := by
    intro t kt
    show Steps p.tables e below (s₁.setTop (mkF m 0 #[.val (.ref r0)] [])) _
    refine XS.aloadN X0.here hx rfl (hb hby d10_0) rfl rfl ?_
    exact kt
  obtain ⟨T1, X1, e1, st1⟩ := initO X0 hx hZ hown (hw _ (List.mem_of_getElem? (i := 64) rfl)) (hw _ (List.mem_of_getElem? (i := 37) rfl)) (hw _ (List.mem_of_getElem? (i := 38) rfl)) e0 (g := (mkF m 1 #[.val (.ref r0)] [(.ref r0)])) rfl (by rw [hml]; rfl) rfl (hb hby d10_1) (by decide) (W := 0) (by show 2 * 0 + _ ≤ _; exact Nat.le_of_eq rfl) (by decide)
  have c4 : ∀ t, Steps p.tables e below (T1.setTop (mkF m 6 #[.val (.ref r0)] [(.int (1 : Int32)), (.ref r0)])) t → Steps p.tables e below (T1.setTop (mkF m 4 #[.val (.ref r0)] [])) t := by
    intro t kt
    show Steps p.tables e below (T1.setTop (mkF m 4 #[.val (.ref r0)] [])) _
    refine XS.aloadN X1.here hx rfl (hb hby d10_4) rfl rfl ?_
    show Steps p.tables e below (T1.setTop (mkF m 5 #[.val (.ref r0)] [(.ref r0)])) _
    refine XS.iconst X1.here hx rfl (hb hby d10_5) ?_
    exact kt
  obtain ⟨T3, h3, X3, e3, W3, st3⟩ := putFN X1 hx hZ hown (hw _ (List.mem_of_getElem? (i := 65) rfl)) Via.refl e1 F_wf E_r0 (Or.inl (hw _ (List.mem_of_getElem? (i := 66) rfl))) (hw _ (List.mem_of_getElem? (i := 60) rfl)) (ty := .boolean) (v' := (.int (1 : Int32))) (by decide) rfl rfl (g := (mkF m 6 #[.val (.ref r0)] [(.int (1 : Int32)), (.ref r0)])) rfl rfl (hb hby d10_6)
  have Fw3 := F_wf.same W3
  have N3 := Fr.snoc X3 N0 g_r0
  have f5 := (F_ir.other W3 (Or.inr (slot_ne (a0 := a0) (Or.inl (hw _ (List.mem_of_getElem? (i := 68) rfl))) (Or.inl (hw _ (List.mem_of_getElem? (i := 66) rfl))) (by decide) (t := .boolean) (t' := .boolean) (by decide) (by decide))))
  have f6 := (E_r0.wr W3)
  have c8 : ∀ t, Steps p.tables e below (T3.setTop (mkF m 11 #[.val (.ref r0)] [(.int (1 : Int32)), (.ref r0)])) t → Steps p.tables e below (T3.setTop (mkF m 9 #[.val (.ref r0)] [])) t := by
    intro t kt
    show Steps p.tables e below (T3.setTop (mkF m 9 #[.val (.ref r0)] [])) _
    refine XS.aloadN X3.here hx rfl (hb hby d10_9) rfl rfl ?_
    show Steps p.tables e below (T3.setTop (mkF m 10 #[.val (.ref r0)] [(.ref r0)])) _
    refine XS.iconst X3.here hx rfl (hb hby d10_10) ?_
    exact kt
  obtain ⟨T7, h7, X7, e7, W7, st7⟩ := putFN X3 hx hZ hown (hw _ (List.mem_of_getElem? (i := 67) rfl)) Via.refl e3 f5 f6 (Or.inl (hw _ (List.mem_of_getElem? (i := 68) rfl))) (hw _ (List.mem_of_getElem? (i := 60) rfl)) (ty := .boolean) (v' := (.int (1 : Int32))) (by decide) rfl rfl (g := (mkF m 11 #[.val (.ref r0)] [(.int (1 : Int32)), (.ref r0)])) rfl rfl (hb hby d10_11)
  have Fw7 := f5.same W7
  have N7 := Fr.snoc X7 N3 g_r0
  obtain ⟨fs, hr, hrun, hended, hW, hsame⟩ := X7.leave (v := none) (fun _ => rfl)
  have f10 := (((Keep.refl h0 [r0]).wr W3 (Or.inl (List.mem_of_getElem? (i := 0) rfl))).wr W7 (Or.inl (List.mem_of_getElem? (i := 0) rfl)))
  have f11 := (f6.wr W7)
  have f12 := ((F_ng.other W3 (Or.inr (slot_ne (a0 := a0) (Or.inl (hw _ (List.mem_of_getElem? (i := 113) rfl))) (Or.inl (hw _ (List.mem_of_getElem? (i := 66) rfl))) (by decide) (t := .long) (t' := .boolean) (by decide) (by decide)))).other W7 (Or.inr (slot_ne (a0 := a0) (Or.inl (hw _ (List.mem_of_getElem? (i := 113) rfl))) (Or.inl (hw _ (List.mem_of_getElem? (i := 68) rfl))) (by decide) (t := .long) (t' := .boolean) (by decide) (by decide))))
  have f13 := ((F_ne.other W3 (Or.inr (slot_ne (a0 := a0) (Or.inl (hw _ (List.mem_of_getElem? (i := 109) rfl))) (Or.inl (hw _ (List.mem_of_getElem? (i := 66) rfl))) (by decide) (t := .boolean) (t' := .boolean) (by decide) (by decide)))).other W7 (Or.inr (slot_ne (a0 := a0) (Or.inl (hw _ (List.mem_of_getElem? (i := 109) rfl))) (Or.inl (hw _ (List.mem_of_getElem? (i := 68) rfl))) (by decide) (t := .boolean) (t' := .boolean) (by decide) (by decide))))
  have f14 := ((F_ch.other W3 (Or.inr (slot_ne (a0 := a0) (Or.inl (hw _ (List.mem_of_getElem? (i := 107) rfl))) (Or.inl (hw _ (List.mem_of_getElem? (i := 66) rfl))) (by decide) (t := .int) (t' := .boolean) (by decide) (by decide)))).other W7 (Or.inr (slot_ne (a0 := a0) (Or.inl (hw _ (List.mem_of_getElem? (i := 107) rfl))) (Or.inl (hw _ (List.mem_of_getElem? (i := 68) rfl))) (by decide) (t := .int) (t' := .boolean) (by decide) (by decide))))
  have f15 := ((F_dg.other W3 (Or.inr (slot_ne (a0 := a0) (Or.inl (hw _ (List.mem_of_getElem? (i := 111) rfl))) (Or.inl (hw _ (List.mem_of_getElem? (i := 66) rfl))) (by decide) (t := .int) (t' := .boolean) (by decide) (by decide)))).other W7 (Or.inr (slot_ne (a0 := a0) (Or.inl (hw _ (List.mem_of_getElem? (i := 111) rfl))) (Or.inl (hw _ (List.mem_of_getElem? (i := 68) rfl))) (by decide) (t := .int) (t' := .boolean) (by decide) (by decide))))
  have f16 := (Fw3.other W7 (Or.inr (slot_ne (a0 := a0) (Or.inl (hw _ (List.mem_of_getElem? (i := 66) rfl))) (Or.inl (hw _ (List.mem_of_getElem? (i := 68) rfl))) (by decide) (t := .boolean) (t' := .boolean) (by decide) (by decide))))
  refine ⟨_, _, pre0 _ (c2 _ (st1 _ (c4 _ (st3 _ (c8 _ (st7 _ (?_))))))), hrun, hended, _, _, rfl, ?_, ⟨_, rfl⟩, hW, hsame.mono (by decide) (by decide)⟩
  · show Steps p.tables e below (T7.setTop (mkF m 14 #[.val (.ref r0)] [])) _
    exact X7.returnOut hx Bd.returns (hb hby d10_14) hr
  · show Q10 Z r0 h0 n0 _ T7.heap _
    rw [e7]
    exact ⟨rfl, N7, f10, f11, f12, f13, f14, f15, f16, Fw7⟩
theorem d18_0 : decode prog_17_method_5_code 0 = .ok (.aload_n 0, 1) := by decide +kernel
theorem d18_1 : decode prog_17_method_5_code 1 = .ok (.dup, 1) := by decide +kernel
theorem d18_2 : decode prog_17_method_5_code 2 = .ok (.getfield 62, 3) := by decide +kernel
theorem d18_5 : decode prog_17_method_5_code 5 = .ok (.dup_x1, 1) := by decide +kernel
theorem d18_6 : decode prog_17_method_5_code 6 = .ok (.iconst 1, 1) := by decide +kernel
theorem d18_7 : decode prog_17_method_5_code 7 = .ok (.iadd, 1) := by decide +kernel
theorem d18_8 : decode prog_17_method_5_code 8 = .ok (.putfield 62, 3) := by decide +kernel
theorem d18_11 : decode prog_17_method_5_code 11 = .ok (.ifCond .ne 31, 3) := by decide +kernel
theorem d18_14 : decode prog_17_method_5_code 14 = .ok (.iload_n 1, 1) := by decide +kernel
theorem d18_15 : decode prog_17_method_5_code 15 = .ok (.bipush 45, 2) := by decide +kernel
theorem d18_17 : decode prog_17_method_5_code 17 = .ok (.if_icmp .eq 9, 3) := by decide +kernel
theorem d18_20 : decode prog_17_method_5_code 20 = .ok (.iload_n 1, 1) := by decide +kernel
theorem d18_21 : decode prog_17_method_5_code 21 = .ok (.bipush 43, 2) := by decide +kernel
theorem d18_23 : decode prog_17_method_5_code 23 = .ok (.if_icmp .ne 19, 3) := by decide +kernel
theorem d18_42 : decode prog_17_method_5_code 42 = .ok (.iload_n 1, 1) := by decide +kernel
theorem d18_43 : decode prog_17_method_5_code 43 = .ok (.bipush 48, 2) := by decide +kernel
theorem d18_45 : decode prog_17_method_5_code 45 = .ok (.isub, 1) := by decide +kernel
theorem d18_46 : decode prog_17_method_5_code 46 = .ok (.istore_n 2, 1) := by decide +kernel
theorem d18_47 : decode prog_17_method_5_code 47 = .ok (.iload_n 2, 1) := by decide +kernel
theorem d18_48 : decode prog_17_method_5_code 48 = .ok (.ifCond .lt 9, 3) := by decide +kernel
theorem d18_51 : decode prog_17_method_5_code 51 = .ok (.iload_n 2, 1) := by decide +kernel
theorem d18_52 : decode prog_17_method_5_code 52 = .ok (.bipush 9, 2) := by decide +kernel
theorem d18_54 : decode prog_17_method_5_code 54 = .ok (.if_icmp .le 9, 3) := by decide +kernel
theorem d18_63 : decode prog_17_method_5_code 63 = .ok (.aload_n 0, 1) := by decide +kernel
theorem d18_64 : decode prog_17_method_5_code 64 = .ok (.dup, 1) := by decide +kernel
theorem d18_65 : decode prog_17_method_5_code 65 = .ok (.getfield 66, 3) := by decide +kernel
theorem d18_68 : decode prog_17_method_5_code 68 = .ok (.iconst 1, 1) := by decide +kernel
theorem d18_69 : decode prog_17_method_5_code 69 = .ok (.iadd, 1) := by decide +kernel
theorem d18_70 : decode prog_17_method_5_code 70 = .ok (.putfield 66, 3) := by decide +kernel
theorem d18_73 : decode prog_17_method_5_code 73 = .ok (.aload_n 0, 1) := by decide +kernel
theorem d18_74 : decode prog_17_method_5_code 74 = .ok (.getfield 13, 3) := by decide +kernel
theorem d18_77 : decode prog_17_method_5_code 77 = .ok (.ifCond .eq 21, 3) := by decide +kernel
theorem d18_80 : decode prog_17_method_5_code 80 = .ok (.aload_n 0, 1) := by decide +kernel
theorem d18_81 : decode prog_17_method_5_code 81 = .ok (.getfield 55, 3) := by decide +kernel
theorem d18_84 : decode prog_17_method_5_code 84 = .ok (.ldc2_w 71, 3) := by decide +kernel
theorem d18_87 : decode prog_17_method_5_code 87 = .ok (.iload_n 2, 1) := by decide +kernel
theorem d18_88 : decode prog_17_method_5_code 88 = .ok (.i2l, 1) := by decide +kernel
theorem d18_89 : decode prog_17_method_5_code 89 = .ok (.ladd, 1) := by decide +kernel
theorem d18_90 : decode prog_17_method_5_code 90 = .ok (.ldc2_w 73, 3) := by decide +kernel
theorem d18_93 : decode prog_17_method_5_code 93 = .ok (.ldiv, 1) := by decide +kernel
theorem d18_94 : decode prog_17_method_5_code 94 = .ok (.lcmp, 1) := by decide +kernel
theorem d18_95 : decode prog_17_method_5_code 95 = .ok (.ifCond .ge 11, 3) := by decide +kernel
theorem d18_106 : decode prog_17_method_5_code 106 = .ok (.aload_n 0, 1) := by decide +kernel
theorem d18_107 : decode prog_17_method_5_code 107 = .ok (.aload_n 0, 1) := by decide +kernel
theorem d18_108 : decode prog_17_method_5_code 108 = .ok (.getfield 55, 3) := by decide +kernel
theorem d18_111 : decode prog_17_method_5_code 111 = .ok (.ldc2_w 73, 3) := by decide +kernel
theorem d18_114 : decode prog_17_method_5_code 114 = .ok (.lmul, 1) := by decide +kernel
theorem d18_115 : decode prog_17_method_5_code 115 = .ok (.iload_n 2, 1) := by decide +kernel
theorem d18_116 : decode prog_17_method_5_code 116 = .ok (.i2l, 1) := by decide +kernel
theorem d18_117 : decode prog_17_method_5_code 117 = .ok (.lsub, 1) := by decide +kernel
theorem d18_118 : decode prog_17_method_5_code 118 = .ok (.putfield 55, 3) := by decide +kernel
theorem d18_121 : decode prog_17_method_5_code 121 = .ok (.return_, 1) := by decide +kernel
theorem pn_18 : plainName "com/example/sequence_set/sequenceset/cli/DecimalParser" = true := by first | (simp [plainName, overriddenIn]; done) | decide +kernel
theorem ef_18 (m : MethodId) (x0 : Addr) (x1 : Int32) : entryFrame m #[(.ref x0), (.int x1)] 3 = mkF m 0 #[.val (.ref x0), .val (.int x1), .unset] [] := by first | (simp [entryFrame, mkF, argsToLocals, Value.category]; done) | rfl
def QAd (Z : State) (r0 : Addr) (p1 : Int32) (ng : Int64) (ne : Int32) (ch : Int32) (dg : Int32) (h0 : Heap) (n0 : Nat) (v : Option Value) (h : Heap) (L : List Loc) : Prop := v = none ∧ Fr n0 L ∧ Keep h0 h [r0] ∧ Exa Z h r0 "com/example/sequence_set/sequenceset/cli/DecimalParser" ∧ Fld Z h r0 "com/example/sequence_set/sequenceset/cli/DecimalParser" "negated" "J" (.long ((ng * (10 : Int64)) - (p1 - (48 : Int32)).toInt64)) ∧ Fld Z h r0 "com/example/sequence_set/sequenceset/cli/DecimalParser" "negative" "Z" (.int ne) ∧ Fld Z h r0 "com/example/sequence_set/sequenceset/cli/DecimalParser" "characters" "I" (.int (ch + (1 : Int32))) ∧ Fld Z h r0 "com/example/sequence_set/sequenceset/cli/DecimalParser" "digits" "I" (.int (dg + (1 : Int32))) ∧ Fld Z h r0 "com/example/sequence_set/sequenceset/cli/DecimalParser" "wellFormed" "Z" (.int (1 : Int32)) ∧ Fld Z h r0 "com/example/sequence_set/sequenceset/cli/DecimalParser" "inRange" "Z" (.int (1 : Int32))
set_option maxRecDepth 65536 in
set_option maxHeartbeats 40000000 in
theorem rmAd (l : Launch) (Z : State) (a0 : Array Value) (hw : ∀ d ∈ tables_1, d.before a0 Z = true) (ws : List Jvm.Cond) (r0 : Addr) (p1 : Int32) (ng : Int64) (ne : Int32) (ch : Int32) (dg : Int32) (h0 : Heap) (n0 : Nat) (Z0 : n0 ≤ h0.size) (F_ng : Fld Z h0 r0 "com/example/sequence_set/sequenceset/cli/DecimalParser" "negated" "J" (.long ng)) (F_ne : Fld Z h0 r0 "com/example/sequence_set/sequenceset/cli/DecimalParser" "negative" "Z" (.int ne)) (F_ch : Fld Z h0 r0 "com/example/sequence_set/sequenceset/cli/DecimalParser" "characters" "I" (.int ch)) (F_dg : Fld Z h0 r0 "com/example/sequence_set/sequenceset/cli/DecimalParser" "digits" "I" (.int dg)) (F_wf : Fld Z h0 r0 "com/example/sequence_set/sequenceset/cli/DecimalParser" "wellFormed" "Z" (.int (1 : Int32))) (F_ir : Fld Z h0 r0 "com/example/sequence_set/sequenceset/cli/DecimalParser" "inRange" "Z" (.int (1 : Int32))) (E_r0 : Exa Z h0 r0 "com/example/sequence_set/sequenceset/cli/DecimalParser") (g_r0 : n0 ≤ r0) (hk : own_dg p1 ng) :
    MetFree l (⟨"com/example/sequence_set/sequenceset/cli/DecimalParser", "accept", "(I)V"⟩ : MethodName) (head1 (Jvm.Cond.code (⟨"com/example/sequence_set/sequenceset/cli/DecimalParser", "accept", "(I)V"⟩ : MethodName) prog_17_method_5_code 3 none :: ws) ({ frames := 0, cells := 0, slots := 0, locals := 0 } : Room)) (fun a U => a = #[(.ref r0), (.int p1)] ∧ Z.Warmed39 U.vm ∧ U.heap = h0) (fun _ _ _ _ _ => True) (fun _ U o U' => ∃ v L, o = .returned v ∧ QAd Z r0 p1 ng ne ch dg h0 n0 v U'.heap L ∧ FrameEnd U o U' L ({ frames := 0, cells := 0, slots := 0, locals := 0 } : Room).cells ({ frames := 0, cells := 0, slots := 0, locals := 0 } : Room).slots) := by
  refine MetFree.of_bodySF (plainFor_of_name pn_18) hisR ?_
  intro p e s m args below meth c s₁ Bd hml0 hP hK
  obtain ⟨rfl, hZ, hh⟩ := hP
  have hx := Bd.exec
  have hby := Bd.bytes
  have hml : c.maxLocals = 3 := hml0
  have hown : s.vm.findClass "com/example/sequence_set/sequenceset/cli/DecimalParser" = some m.cls := findClass_of_methodNamed Bd.named
  have hnm := (name_of_methodNamed Bd.named Bd.method).1
  have X0 : Stand p l e ({ frames := 0, cells := 0, slots := 0, locals := 0 } : Room) s m #[(.ref r0), (.int p1)] below meth c s₁ [] 0 0 := Stand.of_body Bd
  have e0 : s₁.heap = h0 := by rw [← hh, Bd.state]; rfl
  have N0 := Fr.nil n0
  have pre0 : ∀ t, Steps p.tables e below (s₁.setTop (mkF m 0 #[.val (.ref r0), .val (.int p1), .unset] [])) t → Steps p.tables e below (s₁.setTop (entryFrame m #[(.ref r0), (.int p1)] 3)) t := fun t k => castTop (ef_18 m r0 p1) k
  have c2 : ∀ t, Steps p.tables e below (s₁.setTop (mkF m 2 #[.val (.ref r0), .val (.int p1), .unset] [(.ref r0), (.ref r0)])) t → Steps p.tables e below (s₁.setTop (mkF m 0 #[.val (.ref r0), .val (.int p1), .unset] [])) t := by
    intro t kt
    show Steps p.tables e below (s₁.setTop (mkF m 0 #[.val (.ref r0), .val (.int p1), .unset] [])) _
    refine XS.aloadN X0.here hx rfl (hb hby d18_0) rfl rfl ?_
    show Steps p.tables e below (s₁.setTop (mkF m 1 #[.val (.ref r0), .val (.int p1), .unset] [(.ref r0)])) _
    refine XS.dup X0.here hx rfl (hb hby d18_1) rfl rfl ?_
    exact kt
  obtain ⟨T1, X1, e1, st1⟩ := getF X0 hx hZ hown (host := "") (Or.inl (hw _ (List.mem_of_getElem? (i := 106) rfl))) Via.refl e0 F_ch (g := (mkF m 2 #[.val (.ref r0), .val (.int p1), .unset] [(.ref r0), (.ref r0)])) rfl rfl (hb hby d18_2)
  have c4 : ∀ t, Steps p.tables e below (T1.setTop (mkF m 8 #[.val (.ref r0), .val (.int p1), .unset] [(.int (ch + (1 : Int32))), (.ref r0), (.int ch)])) t → Steps p.tables e below (T1.setTop (mkF m 5 #[.val (.ref r0), .val (.int p1), .unset] [(.int ch), (.ref r0)])) t := by
    intro t kt
    show Steps p.tables e below (T1.setTop (mkF m 5 #[.val (.ref r0), .val (.int p1), .unset] [(.int ch), (.ref r0)])) _
    refine XS.dupX1 X1.here hx rfl (hb hby d18_5) rfl rfl rfl ?_
    show Steps p.tables e below (T1.setTop (mkF m 6 #[.val (.ref r0), .val (.int p1), .unset] [(.int ch), (.ref r0), (.int ch)])) _
    refine XS.iconst X1.here hx rfl (hb hby d18_6) ?_
    show Steps p.tables e below (T1.setTop (mkF m 7 #[.val (.ref r0), .val (.int p1), .unset] [(.int (1 : Int32)), (.int ch), (.ref r0), (.int ch)])) _
    refine XS.iadd X1.here hx rfl (hb hby d18_7) rfl ?_
    exact kt
  obtain ⟨T3, h3, X3, e3, W3, st3⟩ := putF X1 hx hZ hown (host := "") (Or.inl (hw _ (List.mem_of_getElem? (i := 106) rfl))) Via.refl e1 F_ch E_r0 (Or.inl (hw _ (List.mem_of_getElem? (i := 107) rfl))) (hw _ (List.mem_of_getElem? (i := 60) rfl)) (ty := .int) (by decide) rfl rfl (g := (mkF m 8 #[.val (.ref r0), .val (.int p1), .unset] [(.int (ch + (1 : Int32))), (.ref r0), (.int ch)])) rfl rfl (hb hby d18_8)
  have Fw3 := F_ch.same W3
  have N3 := Fr.snoc X3 N0 g_r0
  by_cases hc11 : ch = (0 : Int32)
  · -- it is
    have c6 : ∀ t, Steps p.tables e below (T3.setTop (mkF m 17 #[.val (.ref r0), .val (.int p1), .unset] [(.int (45 : Int32)), (.int p1)])) t → Steps p.tables e below (T3.setTop (mkF m 11 #[.val (.ref r0), .val (.int p1), .unset] [(.int ch)])) t := by
      intro t kt
      show Steps p.tables e below (T3.setTop (mkF m 11 #[.val (.ref r0), .val (.int p1), .unset] [(.int ch)])) _
      refine XS.ifNo X3.here hx rfl (hb hby d18_11) rfl ((if0 _ _).trans (teq hc11).2) ?_
      show Steps p.tables e below (T3.setTop (mkF m 14 #[.val (.ref r0), .val (.int p1), .unset] [])) _
      refine XS.iloadN X3.here hx rfl (hb hby d18_14) rfl ?_
      show Steps p.tables e below (T3.setTop (mkF m 15 #[.val (.ref r0), .val (.int p1), .unset] [(.int p1)])) _
      refine XS.bipush X3.here hx rfl (hb hby d18_15) ?_
      exact kt
    have hd5 : ¬ (p1 = (45 : Int32)) := hk.1
    have c8 : ∀ t, Steps p.tables e below (T3.setTop (mkF m 23 #[.val (.ref r0), .val (.int p1), .unset] [(.int (43 : Int32)), (.int p1)])) t → Steps p.tables e below (T3.setTop (mkF m 17 #[.val (.ref r0), .val (.int p1), .unset] [(.int (45 : Int32)), (.int p1)])) t := by
      intro t kt
      show Steps p.tables e below (T3.setTop (mkF m 17 #[.val (.ref r0), .val (.int p1), .unset] [(.int (45 : Int32)), (.int p1)])) _
      refine XS.icmpNo X3.here hx rfl (hb hby d18_17) rfl (feq hd5).1 ?_
      show Steps p.tables e below (T3.setTop (mkF m 20 #[.val (.ref r0), .val (.int p1), .unset] [])) _
      refine XS.iloadN X3.here hx rfl (hb hby d18_20) rfl ?_
      show Steps p.tables e below (T3.setTop (mkF m 21 #[.val (.ref r0), .val (.int p1), .unset] [(.int p1)])) _
      refine XS.bipush X3.here hx rfl (hb hby d18_21) ?_
      exact kt
    have hd7 : ¬ (p1 = (43 : Int32)) := hk.2.1
    have c10 : ∀ t, Steps p.tables e below (T3.setTop (mkF m 48 #[.val (.ref r0), .val (.int p1), .val (.int (p1 - (48 : Int32)))] [(.int (p1 - (48 : Int32)))])) t → Steps p.tables e below (T3.setTop (mkF m 23 #[.val (.ref r0), .val (.int p1), .unset] [(.int (43 : Int32)), (.int p1)])) t := by
      intro t kt
      show Steps p.tables e below (T3.setTop (mkF m 23 #[.val (.ref r0), .val (.int p1), .unset] [(.int (43 : Int32)), (.int p1)])) _
      refine XS.icmpYes X3.here hx rfl (pc0 := 23) (pc' := 42) rfl (hb hby d18_23) rfl (feq hd7).2 (by decide) (by decide) ?_
      show Steps p.tables e below (T3.setTop (mkF m 42 #[.val (.ref r0), .val (.int p1), .unset] [])) _
      refine XS.iloadN X3.here hx rfl (hb hby d18_42) rfl ?_
      show Steps p.tables e below (T3.setTop (mkF m 43 #[.val (.ref r0), .val (.int p1), .unset] [(.int p1)])) _
      refine XS.bipush X3.here hx rfl (hb hby d18_43) ?_
      show Steps p.tables e below (T3.setTop (mkF m 45 #[.val (.ref r0), .val (.int p1), .unset] [(.int (48 : Int32)), (.int p1)])) _
      refine XS.isub X3.here hx rfl (hb hby d18_45) rfl ?_
      show Steps p.tables e below (T3.setTop (mkF m 46 #[.val (.ref r0), .val (.int p1), .unset] [(.int (p1 - (48 : Int32)))])) _
      refine XS.istoreN X3.here hx rfl (hb hby d18_46) rfl (l' := #[.val (.ref r0), .val (.int p1), .val (.int (p1 - (48 : Int32)))]) rfl ?_
      show Steps p.tables e below (T3.setTop (mkF m 47 #[.val (.ref r0), .val (.int p1), .val (.int (p1 - (48 : Int32)))] [])) _
      refine XS.iloadN X3.here hx rfl (hb hby d18_47) rfl ?_
      exact kt
    have hd9 : ¬ ((p1 - (48 : Int32)) < (0 : Int32)) := hk.2.2.1
    have c12 : ∀ t, Steps p.tables e below (T3.setTop (mkF m 54 #[.val (.ref r0), .val (.int p1), .val (.int (p1 - (48 : Int32)))] [(.int (9 : Int32)), (.int (p1 - (48 : Int32)))])) t → Steps p.tables e below (T3.setTop (mkF m 48 #[.val (.ref r0), .val (.int p1), .val (.int (p1 - (48 : Int32)))] [(.int (p1 - (48 : Int32)))])) t := by
      intro t kt
      show Steps p.tables e below (T3.setTop (mkF m 48 #[.val (.ref r0), .val (.int p1), .val (.int (p1 - (48 : Int32)))] [(.int (p1 - (48 : Int32)))])) _
      refine XS.ifNo X3.here hx rfl (hb hby d18_48) rfl ((if0 _ _).trans (flt hd9).1) ?_
      show Steps p.tables e below (T3.setTop (mkF m 51 #[.val (.ref r0), .val (.int p1), .val (.int (p1 - (48 : Int32)))] [])) _
      refine XS.iloadN X3.here hx rfl (hb hby d18_51) rfl ?_
      show Steps p.tables e below (T3.setTop (mkF m 52 #[.val (.ref r0), .val (.int p1), .val (.int (p1 - (48 : Int32)))] [(.int (p1 - (48 : Int32)))])) _
      refine XS.bipush X3.here hx rfl (hb hby d18_52) ?_
      exact kt
    have hd11 : ¬ ((9 : Int32) < (p1 - (48 : Int32))) := hk.2.2.2.1
    have f13 := (F_dg.other W3 (Or.inr (slot_ne (a0 := a0) (Or.inl (hw _ (List.mem_of_getElem? (i := 111) rfl))) (Or.inl (hw _ (List.mem_of_getElem? (i := 107) rfl))) (by decide) (t := .int) (t' := .int) (by decide) (by decide))))
    have c15 : ∀ t, Steps p.tables e below (T3.setTop (mkF m 65 #[.val (.ref r0), .val (.int p1), .val (.int (p1 - (48 : Int32)))] [(.ref r0), (.ref r0)])) t → Steps p.tables e below (T3.setTop (mkF m 54 #[.val (.ref r0), .val (.int p1), .val (.int (p1 - (48 : Int32)))] [(.int (9 : Int32)), (.int (p1 - (48 : Int32)))])) t := by
      intro t kt
      show Steps p.tables e below (T3.setTop (mkF m 54 #[.val (.ref r0), .val (.int p1), .val (.int (p1 - (48 : Int32)))] [(.int (9 : Int32)), (.int (p1 - (48 : Int32)))])) _
      refine XS.icmpYes X3.here hx rfl (pc0 := 54) (pc' := 63) rfl (hb hby d18_54) rfl (flt hd11).2.2.2 (by decide) (by decide) ?_
      show Steps p.tables e below (T3.setTop (mkF m 63 #[.val (.ref r0), .val (.int p1), .val (.int (p1 - (48 : Int32)))] [])) _
      refine XS.aloadN X3.here hx rfl (hb hby d18_63) rfl rfl ?_
      show Steps p.tables e below (T3.setTop (mkF m 64 #[.val (.ref r0), .val (.int p1), .val (.int (p1 - (48 : Int32)))] [(.ref r0)])) _
      refine XS.dup X3.here hx rfl (hb hby d18_64) rfl rfl ?_
      exact kt
    obtain ⟨T14, X14, e14, st14⟩ := getF X3 hx hZ hown (host := "") (Or.inl (hw _ (List.mem_of_getElem? (i := 110) rfl))) Via.refl e3 f13 (g := (mkF m 65 #[.val (.ref r0), .val (.int p1), .val (.int (p1 - (48 : Int32)))] [(.ref r0), (.ref r0)])) rfl rfl (hb hby d18_65)
    have f16 := (E_r0.wr W3)
    have c18 : ∀ t, Steps p.tables e below (T14.setTop (mkF m 70 #[.val (.ref r0), .val (.int p1), .val (.int (p1 - (48 : Int32)))] [(.int (dg + (1 : Int32))), (.ref r0)])) t → Steps p.tables e below (T14.setTop (mkF m 68 #[.val (.ref r0), .val (.int p1), .val (.int (p1 - (48 : Int32)))] [(.int dg), (.ref r0)])) t := by
      intro t kt
      show Steps p.tables e below (T14.setTop (mkF m 68 #[.val (.ref r0), .val (.int p1), .val (.int (p1 - (48 : Int32)))] [(.int dg), (.ref r0)])) _
      refine XS.iconst X14.here hx rfl (hb hby d18_68) ?_
      show Steps p.tables e below (T14.setTop (mkF m 69 #[.val (.ref r0), .val (.int p1), .val (.int (p1 - (48 : Int32)))] [(.int (1 : Int32)), (.int dg), (.ref r0)])) _
      refine XS.iadd X14.here hx rfl (hb hby d18_69) rfl ?_
      exact kt
    obtain ⟨T17, h17, X17, e17, W17, st17⟩ := putF X14 hx hZ hown (host := "") (Or.inl (hw _ (List.mem_of_getElem? (i := 110) rfl))) Via.refl e14 f13 f16 (Or.inl (hw _ (List.mem_of_getElem? (i := 111) rfl))) (hw _ (List.mem_of_getElem? (i := 60) rfl)) (ty := .int) (by decide) rfl rfl (g := (mkF m 70 #[.val (.ref r0), .val (.int p1), .val (.int (p1 - (48 : Int32)))] [(.int (dg + (1 : Int32))), (.ref r0)])) rfl rfl (hb hby d18_70)
    have Fw17 := f13.same W17
    have N17 := Fr.snoc X17 N3 g_r0
    have f19 := ((F_ir.other W3 (Or.inr (slot_ne (a0 := a0) (Or.inl (hw _ (List.mem_of_getElem? (i := 68) rfl))) (Or.inl (hw _ (List.mem_of_getElem? (i := 107) rfl))) (by decide) (t := .boolean) (t' := .int) (by decide) (by decide)))).other W17 (Or.inr (slot_ne (a0 := a0) (Or.inl (hw _ (List.mem_of_getElem? (i := 68) rfl))) (Or.inl (hw _ (List.mem_of_getElem? (i := 111) rfl))) (by decide) (t := .boolean) (t' := .int) (by decide) (by decide))))
    have c21 : ∀ t, Steps p.tables e below (T17.setTop (mkF m 74 #[.val (.ref r0), .val (.int p1), .val (.int (p1 - (48 : Int32)))] [(.ref r0)])) t → Steps p.tables e below (T17.setTop (mkF m 73 #[.val (.ref r0), .val (.int p1), .val (.int (p1 - (48 : Int32)))] [])) t := by
      intro t kt
      show Steps p.tables e below (T17.setTop (mkF m 73 #[.val (.ref r0), .val (.int p1), .val (.int (p1 - (48 : Int32)))] [])) _
      refine XS.aloadN X17.here hx rfl (hb hby d18_73) rfl rfl ?_
      exact kt
    obtain ⟨T20, X20, e20, st20⟩ := getF X17 hx hZ hown (host := "") (Or.inl (hw _ (List.mem_of_getElem? (i := 67) rfl))) Via.refl e17 f19 (g := (mkF m 74 #[.val (.ref r0), .val (.int p1), .val (.int (p1 - (48 : Int32)))] [(.ref r0)])) rfl rfl (hb hby d18_74)
    have f22 := ((F_ng.other W3 (Or.inr (slot_ne (a0 := a0) (Or.inl (hw _ (List.mem_of_getElem? (i := 113) rfl))) (Or.inl (hw _ (List.mem_of_getElem? (i := 107) rfl))) (by decide) (t := .long) (t' := .int) (by decide) (by decide)))).other W17 (Or.inr (slot_ne (a0 := a0) (Or.inl (hw _ (List.mem_of_getElem? (i := 113) rfl))) (Or.inl (hw _ (List.mem_of_getElem? (i := 111) rfl))) (by decide) (t := .long) (t' := .int) (by decide) (by decide))))
    have c24 : ∀ t, Steps p.tables e below (T20.setTop (mkF m 81 #[.val (.ref r0), .val (.int p1), .val (.int (p1 - (48 : Int32)))] [(.ref r0)])) t → Steps p.tables e below (T20.setTop (mkF m 77 #[.val (.ref r0), .val (.int p1), .val (.int (p1 - (48 : Int32)))] [(.int (1 : Int32))])) t := by
      intro t kt
      show Steps p.tables e below (T20.setTop (mkF m 77 #[.val (.ref r0), .val (.int p1), .val (.int (p1 - (48 : Int32)))] [(.int (1 : Int32))])) _
      refine XS.ifNo X20.here hx rfl (hb hby d18_77) rfl ((if0 _ _).trans (feq (by decide : ¬ ((1 : Int32) = (0 : Int32)))).1) ?_
      show Steps p.tables e below (T20.setTop (mkF m 80 #[.val (.ref r0), .val (.int p1), .val (.int (p1 - (48 : Int32)))] [])) _
      refine XS.aloadN X20.here hx rfl (hb hby d18_80) rfl rfl ?_
      exact kt
    obtain ⟨T23, X23, e23, st23⟩ := getF X20 hx hZ hown (host := "") (Or.inl (hw _ (List.mem_of_getElem? (i := 112) rfl))) Via.refl e20 f22 (g := (mkF m 81 #[.val (.ref r0), .val (.int p1), .val (.int (p1 - (48 : Int32)))] [(.ref r0)])) rfl rfl (hb hby d18_81)
    have c26 : ∀ t, Steps p.tables e below (T23.setTop (mkF m 95 #[.val (.ref r0), .val (.int p1), .val (.int (p1 - (48 : Int32)))] [(.int (lcmpW ng (((-9223372036854775808 : Int64) + ((p1 - (48 : Int32)).toInt64)) / (10 : Int64))))])) t → Steps p.tables e below (T23.setTop (mkF m 84 #[.val (.ref r0), .val (.int p1), .val (.int (p1 - (48 : Int32)))] [(.long ng)])) t := by
      intro t kt
      show Steps p.tables e below (T23.setTop (mkF m 84 #[.val (.ref r0), .val (.int p1), .val (.int (p1 - (48 : Int32)))] [(.long ng)])) _
      refine X23.ldc2Long hx hown (mvT hZ (hw _ (List.mem_of_getElem? (i := 114) rfl))) (g := (mkF m 84 #[.val (.ref r0), .val (.int p1), .val (.int (p1 - (48 : Int32)))] [(.long ng)])) rfl (hb hby d18_84) _ ?_
      show Steps p.tables e below (T23.setTop (mkF m 87 #[.val (.ref r0), .val (.int p1), .val (.int (p1 - (48 : Int32)))] [(.long (-9223372036854775808 : Int64)), (.long ng)])) _
      refine XS.iloadN X23.here hx rfl (hb hby d18_87) rfl ?_
      show Steps p.tables e below (T23.setTop (mkF m 88 #[.val (.ref r0), .val (.int p1), .val (.int (p1 - (48 : Int32)))] [(.int (p1 - (48 : Int32))), (.long (-9223372036854775808 : Int64)), (.long ng)])) _
      refine XS.i2l X23.here hx rfl (hb hby d18_88) rfl ?_
      show Steps p.tables e below (T23.setTop (mkF m 89 #[.val (.ref r0), .val (.int p1), .val (.int (p1 - (48 : Int32)))] [(.long ((p1 - (48 : Int32)).toInt64)), (.long (-9223372036854775808 : Int64)), (.long ng)])) _
      refine XS.ladd X23.here hx rfl (hb hby d18_89) rfl ?_
      show Steps p.tables e below (T23.setTop (mkF m 90 #[.val (.ref r0), .val (.int p1), .val (.int (p1 - (48 : Int32)))] [(.long ((-9223372036854775808 : Int64) + ((p1 - (48 : Int32)).toInt64))), (.long ng)])) _
      refine X23.ldc2Long hx hown (mvT hZ (hw _ (List.mem_of_getElem? (i := 115) rfl))) (g := (mkF m 90 #[.val (.ref r0), .val (.int p1), .val (.int (p1 - (48 : Int32)))] [(.long ((-9223372036854775808 : Int64) + ((p1 - (48 : Int32)).toInt64))), (.long ng)])) rfl (hb hby d18_90) _ ?_
      show Steps p.tables e below (T23.setTop (mkF m 93 #[.val (.ref r0), .val (.int p1), .val (.int (p1 - (48 : Int32)))] [(.long (10 : Int64)), (.long ((-9223372036854775808 : Int64) + ((p1 - (48 : Int32)).toInt64))), (.long ng)])) _
      refine XS.ldiv X23.here hx rfl (hb hby d18_93) rfl (by decide) ?_
      show Steps p.tables e below (T23.setTop (mkF m 94 #[.val (.ref r0), .val (.int p1), .val (.int (p1 - (48 : Int32)))] [(.long (((-9223372036854775808 : Int64) + ((p1 - (48 : Int32)).toInt64)) / (10 : Int64))), (.long ng)])) _
      refine XS.lcmp X23.here hx rfl (hb hby d18_94) rfl ?_
      exact kt
    have hd25 : ¬ (ng < (((-9223372036854775808 : Int64) + ((p1 - (48 : Int32)).toInt64)) / (10 : Int64))) := hk.2.2.2.2
    have c28 : ∀ t, Steps p.tables e below (T23.setTop (mkF m 108 #[.val (.ref r0), .val (.int p1), .val (.int (p1 - (48 : Int32)))] [(.ref r0), (.ref r0)])) t → Steps p.tables e below (T23.setTop (mkF m 95 #[.val (.ref r0), .val (.int p1), .val (.int (p1 - (48 : Int32)))] [(.int (lcmpW ng (((-9223372036854775808 : Int64) + ((p1 - (48 : Int32)).toInt64)) / (10 : Int64))))])) t := by
      intro t kt
      show Steps p.tables e below (T23.setTop (mkF m 95 #[.val (.ref r0), .val (.int p1), .val (.int (p1 - (48 : Int32)))] [(.int (lcmpW ng (((-9223372036854775808 : Int64) + ((p1 - (48 : Int32)).toInt64)) / (10 : Int64))))])) _
      refine XS.ifYes X23.here hx rfl (pc0 := 95) (pc' := 106) rfl (hb hby d18_95) rfl ((if0 _ _).trans (flt (fun q => hd25 ((lw_lt _ _).mp q))).2.1) (by decide) (by decide) ?_
      show Steps p.tables e below (T23.setTop (mkF m 106 #[.val (.ref r0), .val (.int p1), .val (.int (p1 - (48 : Int32)))] [])) _
      refine XS.aloadN X23.here hx rfl (hb hby d18_106) rfl rfl ?_
      show Steps p.tables e below (T23.setTop (mkF m 107 #[.val (.ref r0), .val (.int p1), .val (.int (p1 - (48 : Int32)))] [(.ref r0)])) _
      refine XS.aloadN X23.here hx rfl (hb hby d18_107) rfl rfl ?_
      exact kt
    obtain ⟨T27, X27, e27, st27⟩ := getF X23 hx hZ hown (host := "") (Or.inl (hw _ (List.mem_of_getElem? (i := 112) rfl))) Via.refl e23 f22 (g := (mkF m 108 #[.val (.ref r0), .val (.int p1), .val (.int (p1 - (48 : Int32)))] [(.ref r0), (.ref r0)])) rfl rfl (hb hby d18_108)
    have f29 := (f16.wr W17)
    have c31 : ∀ t, Steps p.tables e below (T27.setTop (mkF m 118 #[.val (.ref r0), .val (.int p1), .val (.int (p1 - (48 : Int32)))] [(.long ((ng * (10 : Int64)) - ((p1 - (48 : Int32)).toInt64))), (.ref r0)])) t → Steps p.tables e below (T27.setTop (mkF m 111 #[.val (.ref r0), .val (.int p1), .val (.int (p1 - (48 : Int32)))] [(.long ng), (.ref r0)])) t := by
      intro t kt
      show Steps p.tables e below (T27.setTop (mkF m 111 #[.val (.ref r0), .val (.int p1), .val (.int (p1 - (48 : Int32)))] [(.long ng), (.ref r0)])) _
      refine X27.ldc2Long hx hown (mvT hZ (hw _ (List.mem_of_getElem? (i := 115) rfl))) (g := (mkF m 111 #[.val (.ref r0), .val (.int p1), .val (.int (p1 - (48 : Int32)))] [(.long ng), (.ref r0)])) rfl (hb hby d18_111) _ ?_
      show Steps p.tables e below (T27.setTop (mkF m 114 #[.val (.ref r0), .val (.int p1), .val (.int (p1 - (48 : Int32)))] [(.long (10 : Int64)), (.long ng), (.ref r0)])) _
      refine XS.lmul X27.here hx rfl (hb hby d18_114) rfl ?_
      show Steps p.tables e below (T27.setTop (mkF m 115 #[.val (.ref r0), .val (.int p1), .val (.int (p1 - (48 : Int32)))] [(.long (ng * (10 : Int64))), (.ref r0)])) _
      refine XS.iloadN X27.here hx rfl (hb hby d18_115) rfl ?_
      show Steps p.tables e below (T27.setTop (mkF m 116 #[.val (.ref r0), .val (.int p1), .val (.int (p1 - (48 : Int32)))] [(.int (p1 - (48 : Int32))), (.long (ng * (10 : Int64))), (.ref r0)])) _
      refine XS.i2l X27.here hx rfl (hb hby d18_116) rfl ?_
      show Steps p.tables e below (T27.setTop (mkF m 117 #[.val (.ref r0), .val (.int p1), .val (.int (p1 - (48 : Int32)))] [(.long ((p1 - (48 : Int32)).toInt64)), (.long (ng * (10 : Int64))), (.ref r0)])) _
      refine XS.lsub X27.here hx rfl (hb hby d18_117) rfl ?_
      exact kt
    obtain ⟨T30, h30, X30, e30, W30, st30⟩ := putF X27 hx hZ hown (host := "") (Or.inl (hw _ (List.mem_of_getElem? (i := 112) rfl))) Via.refl e27 f22 f29 (Or.inl (hw _ (List.mem_of_getElem? (i := 113) rfl))) (hw _ (List.mem_of_getElem? (i := 60) rfl)) (ty := .long) (by decide) rfl rfl (g := (mkF m 118 #[.val (.ref r0), .val (.int p1), .val (.int (p1 - (48 : Int32)))] [(.long ((ng * (10 : Int64)) - ((p1 - (48 : Int32)).toInt64))), (.ref r0)])) rfl rfl (hb hby d18_118)
    have Fw30 := f22.same W30
    have N30 := Fr.snoc X30 N17 g_r0
    obtain ⟨fs, hr, hrun, hended, hW, hsame⟩ := X30.leave (v := none) (fun _ => rfl)
    have f33 := ((((Keep.refl h0 [r0]).wr W3 (Or.inl (List.mem_of_getElem? (i := 0) rfl))).wr W17 (Or.inl (List.mem_of_getElem? (i := 0) rfl))).wr W30 (Or.inl (List.mem_of_getElem? (i := 0) rfl)))
    have f34 := (f29.wr W30)
    have f35 := (((F_ne.other W3 (Or.inr (slot_ne (a0 := a0) (Or.inl (hw _ (List.mem_of_getElem? (i := 109) rfl))) (Or.inl (hw _ (List.mem_of_getElem? (i := 107) rfl))) (by decide) (t := .boolean) (t' := .int) (by decide) (by decide)))).other W17 (Or.inr (slot_ne (a0 := a0) (Or.inl (hw _ (List.mem_of_getElem? (i := 109) rfl))) (Or.inl (hw _ (List.mem_of_getElem? (i := 111) rfl))) (by decide) (t := .boolean) (t' := .int) (by decide) (by decide)))).other W30 (Or.inr (slot_ne (a0 := a0) (Or.inl (hw _ (List.mem_of_getElem? (i := 109) rfl))) (Or.inl (hw _ (List.mem_of_getElem? (i := 113) rfl))) (by decide) (t := .boolean) (t' := .long) (by decide) (by decide))))
    have f36 := ((Fw3.other W17 (Or.inr (slot_ne (a0 := a0) (Or.inl (hw _ (List.mem_of_getElem? (i := 107) rfl))) (Or.inl (hw _ (List.mem_of_getElem? (i := 111) rfl))) (by decide) (t := .int) (t' := .int) (by decide) (by decide)))).other W30 (Or.inr (slot_ne (a0 := a0) (Or.inl (hw _ (List.mem_of_getElem? (i := 107) rfl))) (Or.inl (hw _ (List.mem_of_getElem? (i := 113) rfl))) (by decide) (t := .int) (t' := .long) (by decide) (by decide))))
    have f37 := (Fw17.other W30 (Or.inr (slot_ne (a0 := a0) (Or.inl (hw _ (List.mem_of_getElem? (i := 111) rfl))) (Or.inl (hw _ (List.mem_of_getElem? (i := 113) rfl))) (by decide) (t := .int) (t' := .long) (by decide) (by decide))))
    have f38 := (((F_wf.other W3 (Or.inr (slot_ne (a0 := a0) (Or.inl (hw _ (List.mem_of_getElem? (i := 66) rfl))) (Or.inl (hw _ (List.mem_of_getElem? (i := 107) rfl))) (by decide) (t := .boolean) (t' := .int) (by decide) (by decide)))).other W17 (Or.inr (slot_ne (a0 := a0) (Or.inl (hw _ (List.mem_of_getElem? (i := 66) rfl))) (Or.inl (hw _ (List.mem_of_getElem? (i := 111) rfl))) (by decide) (t := .boolean) (t' := .int) (by decide) (by decide)))).other W30 (Or.inr (slot_ne (a0 := a0) (Or.inl (hw _ (List.mem_of_getElem? (i := 66) rfl))) (Or.inl (hw _ (List.mem_of_getElem? (i := 113) rfl))) (by decide) (t := .boolean) (t' := .long) (by decide) (by decide))))
    have f39 := (f19.other W30 (Or.inr (slot_ne (a0 := a0) (Or.inl (hw _ (List.mem_of_getElem? (i := 68) rfl))) (Or.inl (hw _ (List.mem_of_getElem? (i := 113) rfl))) (by decide) (t := .boolean) (t' := .long) (by decide) (by decide))))
    refine ⟨_, _, pre0 _ (c2 _ (st1 _ (c4 _ (st3 _ (c6 _ (c8 _ (c10 _ (c12 _ (c15 _ (st14 _ (c18 _ (st17 _ (c21 _ (st20 _ (c24 _ (st23 _ (c26 _ (c28 _ (st27 _ (c31 _ (st30 _ (?_)))))))))))))))))))))), hrun, hended, _, _, rfl, ?_, ⟨_, rfl⟩, hW, hsame.mono (by decide) (by decide)⟩
    · show Steps p.tables e below (T30.setTop (mkF m 121 #[.val (.ref r0), .val (.int p1), .val (.int (p1 - (48 : Int32)))] [])) _
      exact X30.returnOut hx Bd.returns (hb hby d18_121) hr
    · show QAd Z r0 p1 ng ne ch dg h0 n0 _ T30.heap _
      rw [e30]
      exact ⟨rfl, N30, f33, f34, Fw30, f35, f36, f37, f38, f39⟩
  · -- it isn't
    have c41 : ∀ t, Steps p.tables e below (T3.setTop (mkF m 48 #[.val (.ref r0), .val (.int p1), .val (.int (p1 - (48 : Int32)))] [(.int (p1 - (48 : Int32)))])) t → Steps p.tables e below (T3.setTop (mkF m 11 #[.val (.ref r0), .val (.int p1), .unset] [(.int ch)])) t := by
      intro t kt
      show Steps p.tables e below (T3.setTop (mkF m 11 #[.val (.ref r0), .val (.int p1), .unset] [(.int ch)])) _
      refine XS.ifYes X3.here hx rfl (pc0 := 11) (pc' := 42) rfl (hb hby d18_11) rfl ((if0 _ _).trans (feq hc11).2) (by decide) (by decide) ?_
      show Steps p.tables e below (T3.setTop (mkF m 42 #[.val (.ref r0), .val (.int p1), .unset] [])) _
      refine XS.iloadN X3.here hx rfl (hb hby d18_42) rfl ?_
      show Steps p.tables e below (T3.setTop (mkF m 43 #[.val (.ref r0), .val (.int p1), .unset] [(.int p1)])) _
      refine XS.bipush X3.here hx rfl (hb hby d18_43) ?_
      show Steps p.tables e below (T3.setTop (mkF m 45 #[.val (.ref r0), .val (.int p1), .unset] [(.int (48 : Int32)), (.int p1)])) _
      refine XS.isub X3.here hx rfl (hb hby d18_45) rfl ?_
      show Steps p.tables e below (T3.setTop (mkF m 46 #[.val (.ref r0), .val (.int p1), .unset] [(.int (p1 - (48 : Int32)))])) _
      refine XS.istoreN X3.here hx rfl (hb hby d18_46) rfl (l' := #[.val (.ref r0), .val (.int p1), .val (.int (p1 - (48 : Int32)))]) rfl ?_
      show Steps p.tables e below (T3.setTop (mkF m 47 #[.val (.ref r0), .val (.int p1), .val (.int (p1 - (48 : Int32)))] [])) _
      refine XS.iloadN X3.here hx rfl (hb hby d18_47) rfl ?_
      exact kt
    have hd40 : ¬ ((p1 - (48 : Int32)) < (0 : Int32)) := hk.2.2.1
    have c43 : ∀ t, Steps p.tables e below (T3.setTop (mkF m 54 #[.val (.ref r0), .val (.int p1), .val (.int (p1 - (48 : Int32)))] [(.int (9 : Int32)), (.int (p1 - (48 : Int32)))])) t → Steps p.tables e below (T3.setTop (mkF m 48 #[.val (.ref r0), .val (.int p1), .val (.int (p1 - (48 : Int32)))] [(.int (p1 - (48 : Int32)))])) t := by
      intro t kt
      show Steps p.tables e below (T3.setTop (mkF m 48 #[.val (.ref r0), .val (.int p1), .val (.int (p1 - (48 : Int32)))] [(.int (p1 - (48 : Int32)))])) _
      refine XS.ifNo X3.here hx rfl (hb hby d18_48) rfl ((if0 _ _).trans (flt hd40).1) ?_
      show Steps p.tables e below (T3.setTop (mkF m 51 #[.val (.ref r0), .val (.int p1), .val (.int (p1 - (48 : Int32)))] [])) _
      refine XS.iloadN X3.here hx rfl (hb hby d18_51) rfl ?_
      show Steps p.tables e below (T3.setTop (mkF m 52 #[.val (.ref r0), .val (.int p1), .val (.int (p1 - (48 : Int32)))] [(.int (p1 - (48 : Int32)))])) _
      refine XS.bipush X3.here hx rfl (hb hby d18_52) ?_
      exact kt
    have hd42 : ¬ ((9 : Int32) < (p1 - (48 : Int32))) := hk.2.2.2.1
    have f44 := (F_dg.other W3 (Or.inr (slot_ne (a0 := a0) (Or.inl (hw _ (List.mem_of_getElem? (i := 111) rfl))) (Or.inl (hw _ (List.mem_of_getElem? (i := 107) rfl))) (by decide) (t := .int) (t' := .int) (by decide) (by decide))))
    have c46 : ∀ t, Steps p.tables e below (T3.setTop (mkF m 65 #[.val (.ref r0), .val (.int p1), .val (.int (p1 - (48 : Int32)))] [(.ref r0), (.ref r0)])) t → Steps p.tables e below (T3.setTop (mkF m 54 #[.val (.ref r0), .val (.int p1), .val (.int (p1 - (48 : Int32)))] [(.int (9 : Int32)), (.int (p1 - (48 : Int32)))])) t := by
      intro t kt
      show Steps p.tables e below (T3.setTop (mkF m 54 #[.val (.ref r0), .val (.int p1), .val (.int (p1 - (48 : Int32)))] [(.int (9 : Int32)), (.int (p1 - (48 : Int32)))])) _
      refine XS.icmpYes X3.here hx rfl (pc0 := 54) (pc' := 63) rfl (hb hby d18_54) rfl (flt hd42).2.2.2 (by decide) (by decide) ?_
      show Steps p.tables e below (T3.setTop (mkF m 63 #[.val (.ref r0), .val (.int p1), .val (.int (p1 - (48 : Int32)))] [])) _
      refine XS.aloadN X3.here hx rfl (hb hby d18_63) rfl rfl ?_
      show Steps p.tables e below (T3.setTop (mkF m 64 #[.val (.ref r0), .val (.int p1), .val (.int (p1 - (48 : Int32)))] [(.ref r0)])) _
      refine XS.dup X3.here hx rfl (hb hby d18_64) rfl rfl ?_
      exact kt
    obtain ⟨T45, X45, e45, st45⟩ := getF X3 hx hZ hown (host := "") (Or.inl (hw _ (List.mem_of_getElem? (i := 110) rfl))) Via.refl e3 f44 (g := (mkF m 65 #[.val (.ref r0), .val (.int p1), .val (.int (p1 - (48 : Int32)))] [(.ref r0), (.ref r0)])) rfl rfl (hb hby d18_65)
    have f47 := (E_r0.wr W3)
    have c49 : ∀ t, Steps p.tables e below (T45.setTop (mkF m 70 #[.val (.ref r0), .val (.int p1), .val (.int (p1 - (48 : Int32)))] [(.int (dg + (1 : Int32))), (.ref r0)])) t → Steps p.tables e below (T45.setTop (mkF m 68 #[.val (.ref r0), .val (.int p1), .val (.int (p1 - (48 : Int32)))] [(.int dg), (.ref r0)])) t := by
      intro t kt
      show Steps p.tables e below (T45.setTop (mkF m 68 #[.val (.ref r0), .val (.int p1), .val (.int (p1 - (48 : Int32)))] [(.int dg), (.ref r0)])) _
      refine XS.iconst X45.here hx rfl (hb hby d18_68) ?_
      show Steps p.tables e below (T45.setTop (mkF m 69 #[.val (.ref r0), .val (.int p1), .val (.int (p1 - (48 : Int32)))] [(.int (1 : Int32)), (.int dg), (.ref r0)])) _
      refine XS.iadd X45.here hx rfl (hb hby d18_69) rfl ?_
      exact kt
    obtain ⟨T48, h48, X48, e48, W48, st48⟩ := putF X45 hx hZ hown (host := "") (Or.inl (hw _ (List.mem_of_getElem? (i := 110) rfl))) Via.refl e45 f44 f47 (Or.inl (hw _ (List.mem_of_getElem? (i := 111) rfl))) (hw _ (List.mem_of_getElem? (i := 60) rfl)) (ty := .int) (by decide) rfl rfl (g := (mkF m 70 #[.val (.ref r0), .val (.int p1), .val (.int (p1 - (48 : Int32)))] [(.int (dg + (1 : Int32))), (.ref r0)])) rfl rfl (hb hby d18_70)
    have Fw48 := f44.same W48
    have N48 := Fr.snoc X48 N3 g_r0
    have f50 := ((F_ir.other W3 (Or.inr (slot_ne (a0 := a0) (Or.inl (hw _ (List.mem_of_getElem? (i := 68) rfl))) (Or.inl (hw _ (List.mem_of_getElem? (i := 107) rfl))) (by decide) (t := .boolean) (t' := .int) (by decide) (by decide)))).other W48 (Or.inr (slot_ne (a0 := a0) (Or.inl (hw _ (List.mem_of_getElem? (i := 68) rfl))) (Or.inl (hw _ (List.mem_of_getElem? (i := 111) rfl))) (by decide) (t := .boolean) (t' := .int) (by decide) (by decide))))
    have c52 : ∀ t, Steps p.tables e below (T48.setTop (mkF m 74 #[.val (.ref r0), .val (.int p1), .val (.int (p1 - (48 : Int32)))] [(.ref r0)])) t → Steps p.tables e below (T48.setTop (mkF m 73 #[.val (.ref r0), .val (.int p1), .val (.int (p1 - (48 : Int32)))] [])) t := by
      intro t kt
      show Steps p.tables e below (T48.setTop (mkF m 73 #[.val (.ref r0), .val (.int p1), .val (.int (p1 - (48 : Int32)))] [])) _
      refine XS.aloadN X48.here hx rfl (hb hby d18_73) rfl rfl ?_
      exact kt
    obtain ⟨T51, X51, e51, st51⟩ := getF X48 hx hZ hown (host := "") (Or.inl (hw _ (List.mem_of_getElem? (i := 67) rfl))) Via.refl e48 f50 (g := (mkF m 74 #[.val (.ref r0), .val (.int p1), .val (.int (p1 - (48 : Int32)))] [(.ref r0)])) rfl rfl (hb hby d18_74)
    have f53 := ((F_ng.other W3 (Or.inr (slot_ne (a0 := a0) (Or.inl (hw _ (List.mem_of_getElem? (i := 113) rfl))) (Or.inl (hw _ (List.mem_of_getElem? (i := 107) rfl))) (by decide) (t := .long) (t' := .int) (by decide) (by decide)))).other W48 (Or.inr (slot_ne (a0 := a0) (Or.inl (hw _ (List.mem_of_getElem? (i := 113) rfl))) (Or.inl (hw _ (List.mem_of_getElem? (i := 111) rfl))) (by decide) (t := .long) (t' := .int) (by decide) (by decide))))
    have c55 : ∀ t, Steps p.tables e below (T51.setTop (mkF m 81 #[.val (.ref r0), .val (.int p1), .val (.int (p1 - (48 : Int32)))] [(.ref r0)])) t → Steps p.tables e below (T51.setTop (mkF m 77 #[.val (.ref r0), .val (.int p1), .val (.int (p1 - (48 : Int32)))] [(.int (1 : Int32))])) t := by
      intro t kt
      show Steps p.tables e below (T51.setTop (mkF m 77 #[.val (.ref r0), .val (.int p1), .val (.int (p1 - (48 : Int32)))] [(.int (1 : Int32))])) _
      refine XS.ifNo X51.here hx rfl (hb hby d18_77) rfl ((if0 _ _).trans (feq (by decide : ¬ ((1 : Int32) = (0 : Int32)))).1) ?_
      show Steps p.tables e below (T51.setTop (mkF m 80 #[.val (.ref r0), .val (.int p1), .val (.int (p1 - (48 : Int32)))] [])) _
      refine XS.aloadN X51.here hx rfl (hb hby d18_80) rfl rfl ?_
      exact kt
    obtain ⟨T54, X54, e54, st54⟩ := getF X51 hx hZ hown (host := "") (Or.inl (hw _ (List.mem_of_getElem? (i := 112) rfl))) Via.refl e51 f53 (g := (mkF m 81 #[.val (.ref r0), .val (.int p1), .val (.int (p1 - (48 : Int32)))] [(.ref r0)])) rfl rfl (hb hby d18_81)
    have c57 : ∀ t, Steps p.tables e below (T54.setTop (mkF m 95 #[.val (.ref r0), .val (.int p1), .val (.int (p1 - (48 : Int32)))] [(.int (lcmpW ng (((-9223372036854775808 : Int64) + ((p1 - (48 : Int32)).toInt64)) / (10 : Int64))))])) t → Steps p.tables e below (T54.setTop (mkF m 84 #[.val (.ref r0), .val (.int p1), .val (.int (p1 - (48 : Int32)))] [(.long ng)])) t := by
      intro t kt
      show Steps p.tables e below (T54.setTop (mkF m 84 #[.val (.ref r0), .val (.int p1), .val (.int (p1 - (48 : Int32)))] [(.long ng)])) _
      refine X54.ldc2Long hx hown (mvT hZ (hw _ (List.mem_of_getElem? (i := 114) rfl))) (g := (mkF m 84 #[.val (.ref r0), .val (.int p1), .val (.int (p1 - (48 : Int32)))] [(.long ng)])) rfl (hb hby d18_84) _ ?_
      show Steps p.tables e below (T54.setTop (mkF m 87 #[.val (.ref r0), .val (.int p1), .val (.int (p1 - (48 : Int32)))] [(.long (-9223372036854775808 : Int64)), (.long ng)])) _
      refine XS.iloadN X54.here hx rfl (hb hby d18_87) rfl ?_
      show Steps p.tables e below (T54.setTop (mkF m 88 #[.val (.ref r0), .val (.int p1), .val (.int (p1 - (48 : Int32)))] [(.int (p1 - (48 : Int32))), (.long (-9223372036854775808 : Int64)), (.long ng)])) _
      refine XS.i2l X54.here hx rfl (hb hby d18_88) rfl ?_
      show Steps p.tables e below (T54.setTop (mkF m 89 #[.val (.ref r0), .val (.int p1), .val (.int (p1 - (48 : Int32)))] [(.long ((p1 - (48 : Int32)).toInt64)), (.long (-9223372036854775808 : Int64)), (.long ng)])) _
      refine XS.ladd X54.here hx rfl (hb hby d18_89) rfl ?_
      show Steps p.tables e below (T54.setTop (mkF m 90 #[.val (.ref r0), .val (.int p1), .val (.int (p1 - (48 : Int32)))] [(.long ((-9223372036854775808 : Int64) + ((p1 - (48 : Int32)).toInt64))), (.long ng)])) _
      refine X54.ldc2Long hx hown (mvT hZ (hw _ (List.mem_of_getElem? (i := 115) rfl))) (g := (mkF m 90 #[.val (.ref r0), .val (.int p1), .val (.int (p1 - (48 : Int32)))] [(.long ((-9223372036854775808 : Int64) + ((p1 - (48 : Int32)).toInt64))), (.long ng)])) rfl (hb hby d18_90) _ ?_
      show Steps p.tables e below (T54.setTop (mkF m 93 #[.val (.ref r0), .val (.int p1), .val (.int (p1 - (48 : Int32)))] [(.long (10 : Int64)), (.long ((-9223372036854775808 : Int64) + ((p1 - (48 : Int32)).toInt64))), (.long ng)])) _
      refine XS.ldiv X54.here hx rfl (hb hby d18_93) rfl (by decide) ?_
      show Steps p.tables e below (T54.setTop (mkF m 94 #[.val (.ref r0), .val (.int p1), .val (.int (p1 - (48 : Int32)))] [(.long (((-9223372036854775808 : Int64) + ((p1 - (48 : Int32)).toInt64)) / (10 : Int64))), (.long ng)])) _
      refine XS.lcmp X54.here hx rfl (hb hby d18_94) rfl ?_
      exact kt
    have hd56 : ¬ (ng < (((-9223372036854775808 : Int64) + ((p1 - (48 : Int32)).toInt64)) / (10 : Int64))) := hk.2.2.2.2
    have c59 : ∀ t, Steps p.tables e below (T54.setTop (mkF m 108 #[.val (.ref r0), .val (.int p1), .val (.int (p1 - (48 : Int32)))] [(.ref r0), (.ref r0)])) t → Steps p.tables e below (T54.setTop (mkF m 95 #[.val (.ref r0), .val (.int p1), .val (.int (p1 - (48 : Int32)))] [(.int (lcmpW ng (((-9223372036854775808 : Int64) + ((p1 - (48 : Int32)).toInt64)) / (10 : Int64))))])) t := by
      intro t kt
      show Steps p.tables e below (T54.setTop (mkF m 95 #[.val (.ref r0), .val (.int p1), .val (.int (p1 - (48 : Int32)))] [(.int (lcmpW ng (((-9223372036854775808 : Int64) + ((p1 - (48 : Int32)).toInt64)) / (10 : Int64))))])) _
      refine XS.ifYes X54.here hx rfl (pc0 := 95) (pc' := 106) rfl (hb hby d18_95) rfl ((if0 _ _).trans (flt (fun q => hd56 ((lw_lt _ _).mp q))).2.1) (by decide) (by decide) ?_
      show Steps p.tables e below (T54.setTop (mkF m 106 #[.val (.ref r0), .val (.int p1), .val (.int (p1 - (48 : Int32)))] [])) _
      refine XS.aloadN X54.here hx rfl (hb hby d18_106) rfl rfl ?_
      show Steps p.tables e below (T54.setTop (mkF m 107 #[.val (.ref r0), .val (.int p1), .val (.int (p1 - (48 : Int32)))] [(.ref r0)])) _
      refine XS.aloadN X54.here hx rfl (hb hby d18_107) rfl rfl ?_
      exact kt
    obtain ⟨T58, X58, e58, st58⟩ := getF X54 hx hZ hown (host := "") (Or.inl (hw _ (List.mem_of_getElem? (i := 112) rfl))) Via.refl e54 f53 (g := (mkF m 108 #[.val (.ref r0), .val (.int p1), .val (.int (p1 - (48 : Int32)))] [(.ref r0), (.ref r0)])) rfl rfl (hb hby d18_108)
    have f60 := (f47.wr W48)
    have c62 : ∀ t, Steps p.tables e below (T58.setTop (mkF m 118 #[.val (.ref r0), .val (.int p1), .val (.int (p1 - (48 : Int32)))] [(.long ((ng * (10 : Int64)) - ((p1 - (48 : Int32)).toInt64))), (.ref r0)])) t → Steps p.tables e below (T58.setTop (mkF m 111 #[.val (.ref r0), .val (.int p1), .val (.int (p1 - (48 : Int32)))] [(.long ng), (.ref r0)])) t := by
      intro t kt
      show Steps p.tables e below (T58.setTop (mkF m 111 #[.val (.ref r0), .val (.int p1), .val (.int (p1 - (48 : Int32)))] [(.long ng), (.ref r0)])) _
      refine X58.ldc2Long hx hown (mvT hZ (hw _ (List.mem_of_getElem? (i := 115) rfl))) (g := (mkF m 111 #[.val (.ref r0), .val (.int p1), .val (.int (p1 - (48 : Int32)))] [(.long ng), (.ref r0)])) rfl (hb hby d18_111) _ ?_
      show Steps p.tables e below (T58.setTop (mkF m 114 #[.val (.ref r0), .val (.int p1), .val (.int (p1 - (48 : Int32)))] [(.long (10 : Int64)), (.long ng), (.ref r0)])) _
      refine XS.lmul X58.here hx rfl (hb hby d18_114) rfl ?_
      show Steps p.tables e below (T58.setTop (mkF m 115 #[.val (.ref r0), .val (.int p1), .val (.int (p1 - (48 : Int32)))] [(.long (ng * (10 : Int64))), (.ref r0)])) _
      refine XS.iloadN X58.here hx rfl (hb hby d18_115) rfl ?_
      show Steps p.tables e below (T58.setTop (mkF m 116 #[.val (.ref r0), .val (.int p1), .val (.int (p1 - (48 : Int32)))] [(.int (p1 - (48 : Int32))), (.long (ng * (10 : Int64))), (.ref r0)])) _
      refine XS.i2l X58.here hx rfl (hb hby d18_116) rfl ?_
      show Steps p.tables e below (T58.setTop (mkF m 117 #[.val (.ref r0), .val (.int p1), .val (.int (p1 - (48 : Int32)))] [(.long ((p1 - (48 : Int32)).toInt64)), (.long (ng * (10 : Int64))), (.ref r0)])) _
      refine XS.lsub X58.here hx rfl (hb hby d18_117) rfl ?_
      exact kt
    obtain ⟨T61, h61, X61, e61, W61, st61⟩ := putF X58 hx hZ hown (host := "") (Or.inl (hw _ (List.mem_of_getElem? (i := 112) rfl))) Via.refl e58 f53 f60 (Or.inl (hw _ (List.mem_of_getElem? (i := 113) rfl))) (hw _ (List.mem_of_getElem? (i := 60) rfl)) (ty := .long) (by decide) rfl rfl (g := (mkF m 118 #[.val (.ref r0), .val (.int p1), .val (.int (p1 - (48 : Int32)))] [(.long ((ng * (10 : Int64)) - ((p1 - (48 : Int32)).toInt64))), (.ref r0)])) rfl rfl (hb hby d18_118)
    have Fw61 := f53.same W61
    have N61 := Fr.snoc X61 N48 g_r0
    obtain ⟨fs, hr, hrun, hended, hW, hsame⟩ := X61.leave (v := none) (fun _ => rfl)
    have f64 := ((((Keep.refl h0 [r0]).wr W3 (Or.inl (List.mem_of_getElem? (i := 0) rfl))).wr W48 (Or.inl (List.mem_of_getElem? (i := 0) rfl))).wr W61 (Or.inl (List.mem_of_getElem? (i := 0) rfl)))
    have f65 := (f60.wr W61)
    have f66 := (((F_ne.other W3 (Or.inr (slot_ne (a0 := a0) (Or.inl (hw _ (List.mem_of_getElem? (i := 109) rfl))) (Or.inl (hw _ (List.mem_of_getElem? (i := 107) rfl))) (by decide) (t := .boolean) (t' := .int) (by decide) (by decide)))).other W48 (Or.inr (slot_ne (a0 := a0) (Or.inl (hw _ (List.mem_of_getElem? (i := 109) rfl))) (Or.inl (hw _ (List.mem_of_getElem? (i := 111) rfl))) (by decide) (t := .boolean) (t' := .int) (by decide) (by decide)))).other W61 (Or.inr (slot_ne (a0 := a0) (Or.inl (hw _ (List.mem_of_getElem? (i := 109) rfl))) (Or.inl (hw _ (List.mem_of_getElem? (i := 113) rfl))) (by decide) (t := .boolean) (t' := .long) (by decide) (by decide))))
    have f67 := ((Fw3.other W48 (Or.inr (slot_ne (a0 := a0) (Or.inl (hw _ (List.mem_of_getElem? (i := 107) rfl))) (Or.inl (hw _ (List.mem_of_getElem? (i := 111) rfl))) (by decide) (t := .int) (t' := .int) (by decide) (by decide)))).other W61 (Or.inr (slot_ne (a0 := a0) (Or.inl (hw _ (List.mem_of_getElem? (i := 107) rfl))) (Or.inl (hw _ (List.mem_of_getElem? (i := 113) rfl))) (by decide) (t := .int) (t' := .long) (by decide) (by decide))))
    have f68 := (Fw48.other W61 (Or.inr (slot_ne (a0 := a0) (Or.inl (hw _ (List.mem_of_getElem? (i := 111) rfl))) (Or.inl (hw _ (List.mem_of_getElem? (i := 113) rfl))) (by decide) (t := .int) (t' := .long) (by decide) (by decide))))
    have f69 := (((F_wf.other W3 (Or.inr (slot_ne (a0 := a0) (Or.inl (hw _ (List.mem_of_getElem? (i := 66) rfl))) (Or.inl (hw _ (List.mem_of_getElem? (i := 107) rfl))) (by decide) (t := .boolean) (t' := .int) (by decide) (by decide)))).other W48 (Or.inr (slot_ne (a0 := a0) (Or.inl (hw _ (List.mem_of_getElem? (i := 66) rfl))) (Or.inl (hw _ (List.mem_of_getElem? (i := 111) rfl))) (by decide) (t := .boolean) (t' := .int) (by decide) (by decide)))).other W61 (Or.inr (slot_ne (a0 := a0) (Or.inl (hw _ (List.mem_of_getElem? (i := 66) rfl))) (Or.inl (hw _ (List.mem_of_getElem? (i := 113) rfl))) (by decide) (t := .boolean) (t' := .long) (by decide) (by decide))))
    have f70 := (f50.other W61 (Or.inr (slot_ne (a0 := a0) (Or.inl (hw _ (List.mem_of_getElem? (i := 68) rfl))) (Or.inl (hw _ (List.mem_of_getElem? (i := 113) rfl))) (by decide) (t := .boolean) (t' := .long) (by decide) (by decide))))
    refine ⟨_, _, pre0 _ (c2 _ (st1 _ (c4 _ (st3 _ (c41 _ (c43 _ (c46 _ (st45 _ (c49 _ (st48 _ (c52 _ (st51 _ (c55 _ (st54 _ (c57 _ (c59 _ (st58 _ (c62 _ (st61 _ (?_)))))))))))))))))))), hrun, hended, _, _, rfl, ?_, ⟨_, rfl⟩, hW, hsame.mono (by decide) (by decide)⟩
    · show Steps p.tables e below (T61.setTop (mkF m 121 #[.val (.ref r0), .val (.int p1), .val (.int (p1 - (48 : Int32)))] [])) _
      exact X61.returnOut hx Bd.returns (hb hby d18_121) hr
    · show QAd Z r0 p1 ng ne ch dg h0 n0 _ T61.heap _
      rw [e61]
      exact ⟨rfl, N61, f64, f65, Fw61, f66, f67, f68, f69, f70⟩
theorem d18_26 : decode prog_17_method_5_code 26 = .ok (.aload_n 0, 1) := by decide +kernel
theorem d18_27 : decode prog_17_method_5_code 27 = .ok (.iload_n 1, 1) := by decide +kernel
theorem d18_28 : decode prog_17_method_5_code 28 = .ok (.bipush 45, 2) := by decide +kernel
theorem d18_30 : decode prog_17_method_5_code 30 = .ok (.if_icmp .ne 7, 3) := by decide +kernel
theorem d18_33 : decode prog_17_method_5_code 33 = .ok (.iconst 1, 1) := by decide +kernel
theorem d18_34 : decode prog_17_method_5_code 34 = .ok (.goto 4, 3) := by decide +kernel
theorem d18_37 : decode prog_17_method_5_code 37 = .ok (.iconst 0, 1) := by decide +kernel
theorem d18_38 : decode prog_17_method_5_code 38 = .ok (.putfield 59, 3) := by decide +kernel
theorem d18_41 : decode prog_17_method_5_code 41 = .ok (.return_, 1) := by decide +kernel
def QAs (Z : State) (r0 : Addr) (p1 : Int32) (h0 : Heap) (n0 : Nat) (v : Option Value) (h : Heap) (L : List Loc) : Prop := v = none ∧ Fr n0 L ∧ Keep h0 h [r0] ∧ Exa Z h r0 "com/example/sequence_set/sequenceset/cli/DecimalParser" ∧ Fld Z h r0 "com/example/sequence_set/sequenceset/cli/DecimalParser" "negated" "J" (.long (0 : Int64)) ∧ Fld Z h r0 "com/example/sequence_set/sequenceset/cli/DecimalParser" "negative" "Z" (.int (if p1 = (45 : Int32) then 1 else 0)) ∧ Fld Z h r0 "com/example/sequence_set/sequenceset/cli/DecimalParser" "characters" "I" (.int ((0 : Int32) + (1 : Int32))) ∧ Fld Z h r0 "com/example/sequence_set/sequenceset/cli/DecimalParser" "digits" "I" (.int (0 : Int32)) ∧ Fld Z h r0 "com/example/sequence_set/sequenceset/cli/DecimalParser" "wellFormed" "Z" (.int (1 : Int32)) ∧ Fld Z h r0 "com/example/sequence_set/sequenceset/cli/DecimalParser" "inRange" "Z" (.int (1 : Int32))
set_option maxRecDepth 65536 in
set_option maxHeartbeats 40000000 in
theorem rmAs (l : Launch) (Z : State) (a0 : Array Value) (hw : ∀ d ∈ tables_1, d.before a0 Z = true) (ws : List Jvm.Cond) (r0 : Addr) (p1 : Int32)  (h0 : Heap) (n0 : Nat) (Z0 : n0 ≤ h0.size) (F_ng : Fld Z h0 r0 "com/example/sequence_set/sequenceset/cli/DecimalParser" "negated" "J" (.long (0 : Int64))) (F_ne : Fld Z h0 r0 "com/example/sequence_set/sequenceset/cli/DecimalParser" "negative" "Z" (.int (0 : Int32))) (F_ch : Fld Z h0 r0 "com/example/sequence_set/sequenceset/cli/DecimalParser" "characters" "I" (.int (0 : Int32))) (F_dg : Fld Z h0 r0 "com/example/sequence_set/sequenceset/cli/DecimalParser" "digits" "I" (.int (0 : Int32))) (F_wf : Fld Z h0 r0 "com/example/sequence_set/sequenceset/cli/DecimalParser" "wellFormed" "Z" (.int (1 : Int32))) (F_ir : Fld Z h0 r0 "com/example/sequence_set/sequenceset/cli/DecimalParser" "inRange" "Z" (.int (1 : Int32))) (E_r0 : Exa Z h0 r0 "com/example/sequence_set/sequenceset/cli/DecimalParser") (g_r0 : n0 ≤ r0) (hsg : p1 = 45 ∨ p1 = 43) :
    MetFree l (⟨"com/example/sequence_set/sequenceset/cli/DecimalParser", "accept", "(I)V"⟩ : MethodName) (head1 (Jvm.Cond.code (⟨"com/example/sequence_set/sequenceset/cli/DecimalParser", "accept", "(I)V"⟩ : MethodName) prog_17_method_5_code 3 none :: ws) ({ frames := 0, cells := 0, slots := 0, locals := 0 } : Room)) (fun a U => a = #[(.ref r0), (.int p1)] ∧ Z.Warmed39 U.vm ∧ U.heap = h0) (fun _ _ _ _ _ => True) (fun _ U o U' => ∃ v L, o = .returned v ∧ QAs Z r0 p1 h0 n0 v U'.heap L ∧ FrameEnd U o U' L ({ frames := 0, cells := 0, slots := 0, locals := 0 } : Room).cells ({ frames := 0, cells := 0, slots := 0, locals := 0 } : Room).slots) := by
  refine MetFree.of_bodySF (plainFor_of_name pn_18) hisR ?_
  intro p e s m args below meth c s₁ Bd hml0 hP hK
  obtain ⟨rfl, hZ, hh⟩ := hP
  have hx := Bd.exec
  have hby := Bd.bytes
  have hml : c.maxLocals = 3 := hml0
  have hown : s.vm.findClass "com/example/sequence_set/sequenceset/cli/DecimalParser" = some m.cls := findClass_of_methodNamed Bd.named
  have hnm := (name_of_methodNamed Bd.named Bd.method).1
  have X0 : Stand p l e ({ frames := 0, cells := 0, slots := 0, locals := 0 } : Room) s m #[(.ref r0), (.int p1)] below meth c s₁ [] 0 0 := Stand.of_body Bd
  have e0 : s₁.heap = h0 := by rw [← hh, Bd.state]; rfl
  have N0 := Fr.nil n0
  have pre0 : ∀ t, Steps p.tables e below (s₁.setTop (mkF m 0 #[.val (.ref r0), .val (.int p1), .unset] [])) t → Steps p.tables e below (s₁.setTop (entryFrame m #[(.ref r0), (.int p1)] 3)) t := fun t k => castTop (ef_18 m r0 p1) k
  have c2 : ∀ t, Steps p.tables e below (s₁.setTop (mkF m 2 #[.val (.ref r0), .val (.int p1), .unset] [(.ref r0), (.ref r0)])) t → Steps p.tables e below (s₁.setTop (mkF m 0 #[.val (.ref r0), .val (.int p1), .unset] [])) t := by
    intro t kt
    show Steps p.tables e below (s₁.setTop (mkF m 0 #[.val (.ref r0), .val (.int p1), .unset] [])) _
    refine XS.aloadN X0.here hx rfl (hb hby d18_0) rfl rfl ?_
    show Steps p.tables e below (s₁.setTop (mkF m 1 #[.val (.ref r0), .val (.int p1), .unset] [(.ref r0)])) _
    refine XS.dup X0.here hx rfl (hb hby d18_1) rfl rfl ?_
    exact kt
  obtain ⟨T1, X1, e1, st1⟩ := getF X0 hx hZ hown (host := "") (Or.inl (hw _ (List.mem_of_getElem? (i := 106) rfl))) Via.refl e0 F_ch (g := (mkF m 2 #[.val (.ref r0), .val (.int p1), .unset] [(.ref r0), (.ref r0)])) rfl rfl (hb hby d18_2)
  have c4 : ∀ t, Steps p.tables e below (T1.setTop (mkF m 8 #[.val (.ref r0), .val (.int p1), .unset] [(.int ((0 : Int32) + (1 : Int32))), (.ref r0), (.int (0 : Int32))])) t → Steps p.tables e below (T1.setTop (mkF m 5 #[.val (.ref r0), .val (.int p1), .unset] [(.int (0 : Int32)), (.ref r0)])) t := by
    intro t kt
    show Steps p.tables e below (T1.setTop (mkF m 5 #[.val (.ref r0), .val (.int p1), .unset] [(.int (0 : Int32)), (.ref r0)])) _
    refine XS.dupX1 X1.here hx rfl (hb hby d18_5) rfl rfl rfl ?_
    show Steps p.tables e below (T1.setTop (mkF m 6 #[.val (.ref r0), .val (.int p1), .unset] [(.int (0 : Int32)), (.ref r0), (.int (0 : Int32))])) _
    refine XS.iconst X1.here hx rfl (hb hby d18_6) ?_
    show Steps p.tables e below (T1.setTop (mkF m 7 #[.val (.ref r0), .val (.int p1), .unset] [(.int (1 : Int32)), (.int (0 : Int32)), (.ref r0), (.int (0 : Int32))])) _
    refine XS.iadd X1.here hx rfl (hb hby d18_7) rfl ?_
    exact kt
  obtain ⟨T3, h3, X3, e3, W3, st3⟩ := putF X1 hx hZ hown (host := "") (Or.inl (hw _ (List.mem_of_getElem? (i := 106) rfl))) Via.refl e1 F_ch E_r0 (Or.inl (hw _ (List.mem_of_getElem? (i := 107) rfl))) (hw _ (List.mem_of_getElem? (i := 60) rfl)) (ty := .int) (by decide) rfl rfl (g := (mkF m 8 #[.val (.ref r0), .val (.int p1), .unset] [(.int ((0 : Int32) + (1 : Int32))), (.ref r0), (.int (0 : Int32))])) rfl rfl (hb hby d18_8)
  have Fw3 := F_ch.same W3
  have N3 := Fr.snoc X3 N0 g_r0
  have c5 : ∀ t, Steps p.tables e below (T3.setTop (mkF m 17 #[.val (.ref r0), .val (.int p1), .unset] [(.int (45 : Int32)), (.int p1)])) t → Steps p.tables e below (T3.setTop (mkF m 11 #[.val (.ref r0), .val (.int p1), .unset] [(.int (0 : Int32))])) t := by
    intro t kt
    show Steps p.tables e below (T3.setTop (mkF m 11 #[.val (.ref r0), .val (.int p1), .unset] [(.int (0 : Int32))])) _
    refine XS.ifNo X3.here hx rfl (hb hby d18_11) rfl ((if0 _ _).trans (teq (by decide : (0 : Int32) = (0 : Int32))).2) ?_
    show Steps p.tables e below (T3.setTop (mkF m 14 #[.val (.ref r0), .val (.int p1), .unset] [])) _
    refine XS.iloadN X3.here hx rfl (hb hby d18_14) rfl ?_
    show Steps p.tables e below (T3.setTop (mkF m 15 #[.val (.ref r0), .val (.int p1), .unset] [(.int p1)])) _
    refine XS.bipush X3.here hx rfl (hb hby d18_15) ?_
    exact kt
  by_cases hc17 : p1 = (45 : Int32)
  · -- it is
    have f6 := (F_ne.other W3 (Or.inr (slot_ne (a0 := a0) (Or.inl (hw _ (List.mem_of_getElem? (i := 109) rfl))) (Or.inl (hw _ (List.mem_of_getElem? (i := 107) rfl))) (by decide) (t := .boolean) (t' := .int) (by decide) (by decide))))
    have f7 := (E_r0.wr W3)
    have c9 : ∀ t, Steps p.tables e below (T3.setTop (mkF m 38 #[.val (.ref r0), .val (.int p1), .unset] [(.int (1 : Int32)), (.ref r0)])) t → Steps p.tables e below (T3.setTop (mkF m 17 #[.val (.ref r0), .val (.int p1), .unset] [(.int (45 : Int32)), (.int p1)])) t := by
      intro t kt
      show Steps p.tables e below (T3.setTop (mkF m 17 #[.val (.ref r0), .val (.int p1), .unset] [(.int (45 : Int32)), (.int p1)])) _
      refine XS.icmpYes X3.here hx rfl (pc0 := 17) (pc' := 26) rfl (hb hby d18_17) rfl (teq hc17).1 (by decide) (by decide) ?_
      show Steps p.tables e below (T3.setTop (mkF m 26 #[.val (.ref r0), .val (.int p1), .unset] [])) _
      refine XS.aloadN X3.here hx rfl (hb hby d18_26) rfl rfl ?_
      show Steps p.tables e below (T3.setTop (mkF m 27 #[.val (.ref r0), .val (.int p1), .unset] [(.ref r0)])) _
      refine XS.iloadN X3.here hx rfl (hb hby d18_27) rfl ?_
      show Steps p.tables e below (T3.setTop (mkF m 28 #[.val (.ref r0), .val (.int p1), .unset] [(.int p1), (.ref r0)])) _
      refine XS.bipush X3.here hx rfl (hb hby d18_28) ?_
      show Steps p.tables e below (T3.setTop (mkF m 30 #[.val (.ref r0), .val (.int p1), .unset] [(.int (45 : Int32)), (.int p1), (.ref r0)])) _
      refine XS.icmpNo X3.here hx rfl (hb hby d18_30) rfl (teq hc17).2 ?_
      show Steps p.tables e below (T3.setTop (mkF m 33 #[.val (.ref r0), .val (.int p1), .unset] [(.ref r0)])) _
      refine XS.iconst X3.here hx rfl (hb hby d18_33) ?_
      show Steps p.tables e below (T3.setTop (mkF m 34 #[.val (.ref r0), .val (.int p1), .unset] [(.int (1 : Int32)), (.ref r0)])) _
      refine XS.goto X3.here hx rfl (pc0 := 34) (pc' := 38) rfl (hb hby d18_34) (by decide) (by decide) ?_
      exact kt
    obtain ⟨T8, h8, X8, e8, W8, st8⟩ := putFN X3 hx hZ hown (hw _ (List.mem_of_getElem? (i := 108) rfl)) Via.refl e3 f6 f7 (Or.inl (hw _ (List.mem_of_getElem? (i := 109) rfl))) (hw _ (List.mem_of_getElem? (i := 60) rfl)) (ty := .boolean) (v' := (.int (1 : Int32))) (by decide) rfl rfl (g := (mkF m 38 #[.val (.ref r0), .val (.int p1), .unset] [(.int (1 : Int32)), (.ref r0)])) rfl rfl (hb hby d18_38)
    have Fw8 := f6.same W8
    have N8 := Fr.snoc X8 N3 g_r0
    obtain ⟨fs, hr, hrun, hended, hW, hsame⟩ := X8.leave (v := none) (fun _ => rfl)
    have f11 := (((Keep.refl h0 [r0]).wr W3 (Or.inl (List.mem_of_getElem? (i := 0) rfl))).wr W8 (Or.inl (List.mem_of_getElem? (i := 0) rfl)))
    have f12 := (f7.wr W8)
    have f13 := ((F_ng.other W3 (Or.inr (slot_ne (a0 := a0) (Or.inl (hw _ (List.mem_of_getElem? (i := 113) rfl))) (Or.inl (hw _ (List.mem_of_getElem? (i := 107) rfl))) (by decide) (t := .long) (t' := .int) (by decide) (by decide)))).other W8 (Or.inr (slot_ne (a0 := a0) (Or.inl (hw _ (List.mem_of_getElem? (i := 113) rfl))) (Or.inl (hw _ (List.mem_of_getElem? (i := 109) rfl))) (by decide) (t := .long) (t' := .boolean) (by decide) (by decide))))
    have f14 := (Fw3.other W8 (Or.inr (slot_ne (a0 := a0) (Or.inl (hw _ (List.mem_of_getElem? (i := 107) rfl))) (Or.inl (hw _ (List.mem_of_getElem? (i := 109) rfl))) (by decide) (t := .int) (t' := .boolean) (by decide) (by decide))))
    have f15 := ((F_dg.other W3 (Or.inr (slot_ne (a0 := a0) (Or.inl (hw _ (List.mem_of_getElem? (i := 111) rfl))) (Or.inl (hw _ (List.mem_of_getElem? (i := 107) rfl))) (by decide) (t := .int) (t' := .int) (by decide) (by decide)))).other W8 (Or.inr (slot_ne (a0 := a0) (Or.inl (hw _ (List.mem_of_getElem? (i := 111) rfl))) (Or.inl (hw _ (List.mem_of_getElem? (i := 109) rfl))) (by decide) (t := .int) (t' := .boolean) (by decide) (by decide))))
    have f16 := ((F_wf.other W3 (Or.inr (slot_ne (a0 := a0) (Or.inl (hw _ (List.mem_of_getElem? (i := 66) rfl))) (Or.inl (hw _ (List.mem_of_getElem? (i := 107) rfl))) (by decide) (t := .boolean) (t' := .int) (by decide) (by decide)))).other W8 (Or.inr (slot_ne (a0 := a0) (Or.inl (hw _ (List.mem_of_getElem? (i := 66) rfl))) (Or.inl (hw _ (List.mem_of_getElem? (i := 109) rfl))) (by decide) (t := .boolean) (t' := .boolean) (by decide) (by decide))))
    have f17 := ((F_ir.other W3 (Or.inr (slot_ne (a0 := a0) (Or.inl (hw _ (List.mem_of_getElem? (i := 68) rfl))) (Or.inl (hw _ (List.mem_of_getElem? (i := 107) rfl))) (by decide) (t := .boolean) (t' := .int) (by decide) (by decide)))).other W8 (Or.inr (slot_ne (a0 := a0) (Or.inl (hw _ (List.mem_of_getElem? (i := 68) rfl))) (Or.inl (hw _ (List.mem_of_getElem? (i := 109) rfl))) (by decide) (t := .boolean) (t' := .boolean) (by decide) (by decide))))
    refine ⟨_, _, pre0 _ (c2 _ (st1 _ (c4 _ (st3 _ (c5 _ (c9 _ (st8 _ (?_)))))))), hrun, hended, _, _, rfl, ?_, ⟨_, rfl⟩, hW, hsame.mono (by decide) (by decide)⟩
    · show Steps p.tables e below (T8.setTop (mkF m 41 #[.val (.ref r0), .val (.int p1), .unset] [])) _
      exact X8.returnOut hx Bd.returns (hb hby d18_41) hr
    · show QAs Z r0 p1 h0 n0 _ T8.heap _
      rw [e8]
      exact ⟨rfl, N8, f11, f12, f13, (by rw [if_pos hc17]; exact Fw8), f14, f15, f16, f17⟩
  · -- it isn't
    have c18 : ∀ t, Steps p.tables e below (T3.setTop (mkF m 23 #[.val (.ref r0), .val (.int p1), .unset] [(.int (43 : Int32)), (.int p1)])) t → Steps p.tables e below (T3.setTop (mkF m 17 #[.val (.ref r0), .val (.int p1), .unset] [(.int (45 : Int32)), (.int p1)])) t := by
      intro t kt
      show Steps p.tables e below (T3.setTop (mkF m 17 #[.val (.ref r0), .val (.int p1), .unset] [(.int (45 : Int32)), (.int p1)])) _
      refine XS.icmpNo X3.here hx rfl (hb hby d18_17) rfl (feq hc17).1 ?_
      show Steps p.tables e below (T3.setTop (mkF m 20 #[.val (.ref r0), .val (.int p1), .unset] [])) _
      refine XS.iloadN X3.here hx rfl (hb hby d18_20) rfl ?_
      show Steps p.tables e below (T3.setTop (mkF m 21 #[.val (.ref r0), .val (.int p1), .unset] [(.int p1)])) _
      refine XS.bipush X3.here hx rfl (hb hby d18_21) ?_
      exact kt
    by_cases hc23 : p1 = (43 : Int32)
    · -- it is
      have f19 := (F_ne.other W3 (Or.inr (slot_ne (a0 := a0) (Or.inl (hw _ (List.mem_of_getElem? (i := 109) rfl))) (Or.inl (hw _ (List.mem_of_getElem? (i := 107) rfl))) (by decide) (t := .boolean) (t' := .int) (by decide) (by decide))))
      have f20 := (E_r0.wr W3)
      have c22 : ∀ t, Steps p.tables e below (T3.setTop (mkF m 38 #[.val (.ref r0), .val (.int p1), .unset] [(.int (0 : Int32)), (.ref r0)])) t → Steps p.tables e below (T3.setTop (mkF m 23 #[.val (.ref r0), .val (.int p1), .unset] [(.int (43 : Int32)), (.int p1)])) t := by
        intro t kt
        show Steps p.tables e below (T3.setTop (mkF m 23 #[.val (.ref r0), .val (.int p1), .unset] [(.int (43 : Int32)), (.int p1)])) _
        refine XS.icmpNo X3.here hx rfl (hb hby d18_23) rfl (teq hc23).2 ?_
        show Steps p.tables e below (T3.setTop (mkF m 26 #[.val (.ref r0), .val (.int p1), .unset] [])) _
        refine XS.aloadN X3.here hx rfl (hb hby d18_26) rfl rfl ?_
        show Steps p.tables e below (T3.setTop (mkF m 27 #[.val (.ref r0), .val (.int p1), .unset] [(.ref r0)])) _
        refine XS.iloadN X3.here hx rfl (hb hby d18_27) rfl ?_
        show Steps p.tables e below (T3.setTop (mkF m 28 #[.val (.ref r0), .val (.int p1), .unset] [(.int p1), (.ref r0)])) _
        refine XS.bipush X3.here hx rfl (hb hby d18_28) ?_
        show Steps p.tables e below (T3.setTop (mkF m 30 #[.val (.ref r0), .val (.int p1), .unset] [(.int (45 : Int32)), (.int p1), (.ref r0)])) _
        refine XS.icmpYes X3.here hx rfl (pc0 := 30) (pc' := 37) rfl (hb hby d18_30) rfl (feq hc17).2 (by decide) (by decide) ?_
        show Steps p.tables e below (T3.setTop (mkF m 37 #[.val (.ref r0), .val (.int p1), .unset] [(.ref r0)])) _
        refine XS.iconst X3.here hx rfl (hb hby d18_37) ?_
        exact kt
      obtain ⟨T21, h21, X21, e21, W21, st21⟩ := putFN X3 hx hZ hown (hw _ (List.mem_of_getElem? (i := 108) rfl)) Via.refl e3 f19 f20 (Or.inl (hw _ (List.mem_of_getElem? (i := 109) rfl))) (hw _ (List.mem_of_getElem? (i := 60) rfl)) (ty := .boolean) (v' := (.int (0 : Int32))) (by decide) rfl rfl (g := (mkF m 38 #[.val (.ref r0), .val (.int p1), .unset] [(.int (0 : Int32)), (.ref r0)])) rfl rfl (hb hby d18_38)
      have Fw21 := f19.same W21
      have N21 := Fr.snoc X21 N3 g_r0
      obtain ⟨fs, hr, hrun, hended, hW, hsame⟩ := X21.leave (v := none) (fun _ => rfl)
      have f24 := (((Keep.refl h0 [r0]).wr W3 (Or.inl (List.mem_of_getElem? (i := 0) rfl))).wr W21 (Or.inl (List.mem_of_getElem? (i := 0) rfl)))
      have f25 := (f20.wr W21)
      have f26 := ((F_ng.other W3 (Or.inr (slot_ne (a0 := a0) (Or.inl (hw _ (List.mem_of_getElem? (i := 113) rfl))) (Or.inl (hw _ (List.mem_of_getElem? (i := 107) rfl))) (by decide) (t := .long) (t' := .int) (by decide) (by decide)))).other W21 (Or.inr (slot_ne (a0 := a0) (Or.inl (hw _ (List.mem_of_getElem? (i := 113) rfl))) (Or.inl (hw _ (List.mem_of_getElem? (i := 109) rfl))) (by decide) (t := .long) (t' := .boolean) (by decide) (by decide))))
      have f27 := (Fw3.other W21 (Or.inr (slot_ne (a0 := a0) (Or.inl (hw _ (List.mem_of_getElem? (i := 107) rfl))) (Or.inl (hw _ (List.mem_of_getElem? (i := 109) rfl))) (by decide) (t := .int) (t' := .boolean) (by decide) (by decide))))
      have f28 := ((F_dg.other W3 (Or.inr (slot_ne (a0 := a0) (Or.inl (hw _ (List.mem_of_getElem? (i := 111) rfl))) (Or.inl (hw _ (List.mem_of_getElem? (i := 107) rfl))) (by decide) (t := .int) (t' := .int) (by decide) (by decide)))).other W21 (Or.inr (slot_ne (a0 := a0) (Or.inl (hw _ (List.mem_of_getElem? (i := 111) rfl))) (Or.inl (hw _ (List.mem_of_getElem? (i := 109) rfl))) (by decide) (t := .int) (t' := .boolean) (by decide) (by decide))))
      have f29 := ((F_wf.other W3 (Or.inr (slot_ne (a0 := a0) (Or.inl (hw _ (List.mem_of_getElem? (i := 66) rfl))) (Or.inl (hw _ (List.mem_of_getElem? (i := 107) rfl))) (by decide) (t := .boolean) (t' := .int) (by decide) (by decide)))).other W21 (Or.inr (slot_ne (a0 := a0) (Or.inl (hw _ (List.mem_of_getElem? (i := 66) rfl))) (Or.inl (hw _ (List.mem_of_getElem? (i := 109) rfl))) (by decide) (t := .boolean) (t' := .boolean) (by decide) (by decide))))
      have f30 := ((F_ir.other W3 (Or.inr (slot_ne (a0 := a0) (Or.inl (hw _ (List.mem_of_getElem? (i := 68) rfl))) (Or.inl (hw _ (List.mem_of_getElem? (i := 107) rfl))) (by decide) (t := .boolean) (t' := .int) (by decide) (by decide)))).other W21 (Or.inr (slot_ne (a0 := a0) (Or.inl (hw _ (List.mem_of_getElem? (i := 68) rfl))) (Or.inl (hw _ (List.mem_of_getElem? (i := 109) rfl))) (by decide) (t := .boolean) (t' := .boolean) (by decide) (by decide))))
      refine ⟨_, _, pre0 _ (c2 _ (st1 _ (c4 _ (st3 _ (c5 _ (c18 _ (c22 _ (st21 _ (?_))))))))), hrun, hended, _, _, rfl, ?_, ⟨_, rfl⟩, hW, hsame.mono (by decide) (by decide)⟩
      · show Steps p.tables e below (T21.setTop (mkF m 41 #[.val (.ref r0), .val (.int p1), .unset] [])) _
        exact X21.returnOut hx Bd.returns (hb hby d18_41) hr
      · show QAs Z r0 p1 h0 n0 _ T21.heap _
        rw [e21]
        exact ⟨rfl, N21, f24, f25, f26, (by rw [if_neg hc17]; exact Fw21), f27, f28, f29, f30⟩
    · -- it isn't
      exact absurd hsg (fun k => k.elim hc17 hc23)
theorem d19_0 : decode prog_17_method_6_code 0 = .ok (.aload_n 0, 1) := by decide +kernel
theorem d19_1 : decode prog_17_method_6_code 1 = .ok (.getfield 7, 3) := by decide +kernel
theorem d19_4 : decode prog_17_method_6_code 4 = .ok (.ifCond .eq 10, 3) := by decide +kernel
theorem d19_7 : decode prog_17_method_6_code 7 = .ok (.aload_n 0, 1) := by decide +kernel
theorem d19_8 : decode prog_17_method_6_code 8 = .ok (.getfield 66, 3) := by decide +kernel
theorem d19_11 : decode prog_17_method_6_code 11 = .ok (.ifCond .ne 13, 3) := by decide +kernel
theorem d19_24 : decode prog_17_method_6_code 24 = .ok (.aload_n 0, 1) := by decide +kernel
theorem d19_25 : decode prog_17_method_6_code 25 = .ok (.getfield 13, 3) := by decide +kernel
theorem d19_28 : decode prog_17_method_6_code 28 = .ok (.ifCond .eq 21, 3) := by decide +kernel
theorem d19_31 : decode prog_17_method_6_code 31 = .ok (.aload_n 0, 1) := by decide +kernel
theorem d19_32 : decode prog_17_method_6_code 32 = .ok (.getfield 59, 3) := by decide +kernel
theorem d19_35 : decode prog_17_method_6_code 35 = .ok (.ifCond .ne 24, 3) := by decide +kernel
theorem d19_38 : decode prog_17_method_6_code 38 = .ok (.aload_n 0, 1) := by decide +kernel
theorem d19_39 : decode prog_17_method_6_code 39 = .ok (.getfield 55, 3) := by decide +kernel
theorem d19_42 : decode prog_17_method_6_code 42 = .ok (.ldc2_w 71, 3) := by decide +kernel
theorem d19_45 : decode prog_17_method_6_code 45 = .ok (.lcmp, 1) := by decide +kernel
theorem d19_46 : decode prog_17_method_6_code 46 = .ok (.ifCond .ne 13, 3) := by decide +kernel
theorem d19_59 : decode prog_17_method_6_code 59 = .ok (.aload_n 0, 1) := by decide +kernel
theorem d19_60 : decode prog_17_method_6_code 60 = .ok (.getfield 59, 3) := by decide +kernel
theorem d19_63 : decode prog_17_method_6_code 63 = .ok (.ifCond .eq 10, 3) := by decide +kernel
theorem d19_66 : decode prog_17_method_6_code 66 = .ok (.aload_n 0, 1) := by decide +kernel
theorem d19_67 : decode prog_17_method_6_code 67 = .ok (.getfield 55, 3) := by decide +kernel
theorem d19_70 : decode prog_17_method_6_code 70 = .ok (.goto 8, 3) := by decide +kernel
theorem d19_73 : decode prog_17_method_6_code 73 = .ok (.aload_n 0, 1) := by decide +kernel
theorem d19_74 : decode prog_17_method_6_code 74 = .ok (.getfield 55, 3) := by decide +kernel
theorem d19_77 : decode prog_17_method_6_code 77 = .ok (.lneg, 1) := by decide +kernel
theorem d19_78 : decode prog_17_method_6_code 78 = .ok (.lreturn, 1) := by decide +kernel
theorem pn_19 : plainName "com/example/sequence_set/sequenceset/cli/DecimalParser" = true := by first | (simp [plainName, overriddenIn]; done) | decide +kernel
theorem ef_19 (m : MethodId) (x0 : Addr) : entryFrame m #[(.ref x0)] 1 = mkF m 0 #[.val (.ref x0)] [] := by first | (simp [entryFrame, mkF, argsToLocals, Value.category]; done) | rfl
def Q19 (Z : State) (r0 : Addr) (ng : Int64) (ne : Int32) (ch : Int32) (dg : Int32) (h0 : Heap) (n0 : Nat) (v : Option Value) (h : Heap) (L : List Loc) : Prop := v = some (.long (own_val ng ne)) ∧ Fr n0 L ∧ h = h0
set_option maxRecDepth 65536 in
set_option maxHeartbeats 40000000 in
theorem rm19 (l : Launch) (Z : State) (a0 : Array Value) (hw : ∀ d ∈ tables_1, d.before a0 Z = true) (ws : List Jvm.Cond) (r0 : Addr) (ng : Int64) (ne : Int32) (ch : Int32) (dg : Int32) (h0 : Heap) (n0 : Nat) (Z0 : n0 ≤ h0.size) (F_ng : Fld Z h0 r0 "com/example/sequence_set/sequenceset/cli/DecimalParser" "negated" "J" (.long ng)) (F_ne : Fld Z h0 r0 "com/example/sequence_set/sequenceset/cli/DecimalParser" "negative" "Z" (.int ne)) (F_ch : Fld Z h0 r0 "com/example/sequence_set/sequenceset/cli/DecimalParser" "characters" "I" (.int ch)) (F_dg : Fld Z h0 r0 "com/example/sequence_set/sequenceset/cli/DecimalParser" "digits" "I" (.int dg)) (F_wf : Fld Z h0 r0 "com/example/sequence_set/sequenceset/cli/DecimalParser" "wellFormed" "Z" (.int (1 : Int32))) (F_ir : Fld Z h0 r0 "com/example/sequence_set/sequenceset/cli/DecimalParser" "inRange" "Z" (.int (1 : Int32))) (E_r0 : Exa Z h0 r0 "com/example/sequence_set/sequenceset/cli/DecimalParser") (g_r0 : n0 ≤ r0) (hdg : ¬ dg = (0 : Int32)) (hng : ne = (0 : Int32) → ¬ ng = (-9223372036854775808 : Int64)) :
    MetFree l (⟨"com/example/sequence_set/sequenceset/cli/DecimalParser", "value", "()J"⟩ : MethodName) (head1 (Jvm.Cond.code (⟨"com/example/sequence_set/sequenceset/cli/DecimalParser", "value", "()J"⟩ : MethodName) prog_17_method_6_code 1 (some .long) :: ws) ({ frames := 0, cells := 0, slots := 0, locals := 0 } : Room)) (fun a U => a = #[(.ref r0)] ∧ Z.Warmed39 U.vm ∧ U.heap = h0) (fun _ _ _ _ _ => True) (fun _ U o U' => ∃ v L, o = .returned v ∧ Q19 Z r0 ng ne ch dg h0 n0 v U'.heap L ∧ FrameEnd U o U' L ({ frames := 0, cells := 0, slots := 0, locals := 0 } : Room).cells ({ frames := 0, cells := 0, slots := 0, locals := 0 } : Room).slots) := by
  refine MetFree.of_bodySF (plainFor_of_name pn_19) hisR ?_
  intro p e s m args below meth c s₁ Bd hml0 hP hK
  obtain ⟨rfl, hZ, hh⟩ := hP
  have hx := Bd.exec
  have hby := Bd.bytes
  have hml : c.maxLocals = 1 := hml0
  have hown : s.vm.findClass "com/example/sequence_set/sequenceset/cli/DecimalParser" = some m.cls := findClass_of_methodNamed Bd.named
  have hnm := (name_of_methodNamed Bd.named Bd.method).1
  have X0 : Stand p l e ({ frames := 0, cells := 0, slots := 0, locals := 0 } : Room) s m #[(.ref r0)] below meth c s₁ [] 0 0 := Stand.of_body Bd
  have e0 : s₁.heap = h0 := by rw [← hh, Bd.state]; rfl
  have N0 := Fr.nil n0
  have pre0 : ∀ t, Steps p.tables e below (s₁.setTop (mkF m 0 #[.val (.ref r0)] [])) t → Steps p.tables e below (s₁.setTop (entryFrame m #[(.ref r0)] 1)) t := fun t k => castTop (ef_19 m r0) k
  have c2 : ∀ t, Steps p.tables e below (s₁.setTop (mkF m 1 #[.val (.ref r0)] [(.ref r0)])) t → Steps p.tables e below (s₁.setTop (mkF m 0 #[.val (.ref r0)] [])) t := by
    intro t kt
    show Steps p.tables e below (s₁.setTop (mkF m 0 #[.val (.ref r0)] [])) _
    refine XS.aloadN X0.here hx rfl (hb hby d19_0) rfl rfl ?_
    exact kt
  obtain ⟨T1, X1, e1, st1⟩ := getF X0 hx hZ hown (host := "") (Or.inl (hw _ (List.mem_of_getElem? (i := 65) rfl))) Via.refl e0 F_wf (g := (mkF m 1 #[.val (.ref r0)] [(.ref r0)])) rfl rfl (hb hby d19_1)
  have c4 : ∀ t, Steps p.tables e below (T1.setTop (mkF m 8 #[.val (.ref r0)] [(.ref r0)])) t → Steps p.tables e below (T1.setTop (mkF m 4 #[.val (.ref r0)] [(.int (1 : Int32))])) t := by
    intro t kt
    show Steps p.tables e below (T1.setTop (mkF m 4 #[.val (.ref r0)] [(.int (1 : Int32))])) _
    refine XS.ifNo X1.here hx rfl (hb hby d19_4) rfl ((if0 _ _).trans (feq (by decide : ¬ ((1 : Int32) = (0 : Int32)))).1) ?_
    show Steps p.tables e below (T1.setTop (mkF m 7 #[.val (.ref r0)] [])) _
    refine XS.aloadN X1.here hx rfl (hb hby d19_7) rfl rfl ?_
    exact kt
  obtain ⟨T3, X3, e3, st3⟩ := getF X1 hx hZ hown (host := "") (Or.inl (hw _ (List.mem_of_getElem? (i := 110) rfl))) Via.refl e1 F_dg (g := (mkF m 8 #[.val (.ref r0)] [(.ref r0)])) rfl rfl (hb hby d19_8)
  have hd5 : ¬ (dg = (0 : Int32)) := hdg
  have c7 : ∀ t, Steps p.tables e below (T3.setTop (mkF m 25 #[.val (.ref r0)] [(.ref r0)])) t → Steps p.tables e below (T3.setTop (mkF m 11 #[.val (.ref r0)] [(.int dg)])) t := by
    intro t kt
    show Steps p.tables e below (T3.setTop (mkF m 11 #[.val (.ref r0)] [(.int dg)])) _
    refine XS.ifYes X3.here hx rfl (pc0 := 11) (pc' := 24) rfl (hb hby d19_11) rfl ((if0 _ _).trans (feq hd5).2) (by decide) (by decide) ?_
    show Steps p.tables e below (T3.setTop (mkF m 24 #[.val (.ref r0)] [])) _
    refine XS.aloadN X3.here hx rfl (hb hby d19_24) rfl rfl ?_
    exact kt
  obtain ⟨T6, X6, e6, st6⟩ := getF X3 hx hZ hown (host := "") (Or.inl (hw _ (List.mem_of_getElem? (i := 67) rfl))) Via.refl e3 F_ir (g := (mkF m 25 #[.val (.ref r0)] [(.ref r0)])) rfl rfl (hb hby d19_25)
  have c9 : ∀ t, Steps p.tables e below (T6.setTop (mkF m 32 #[.val (.ref r0)] [(.ref r0)])) t → Steps p.tables e below (T6.setTop (mkF m 28 #[.val (.ref r0)] [(.int (1 : Int32))])) t := by
    intro t kt
    show Steps p.tables e below (T6.setTop (mkF m 28 #[.val (.ref r0)] [(.int (1 : Int32))])) _
    refine XS.ifNo X6.here hx rfl (hb hby d19_28) rfl ((if0 _ _).trans (feq (by decide : ¬ ((1 : Int32) = (0 : Int32)))).1) ?_
    show Steps p.tables e below (T6.setTop (mkF m 31 #[.val (.ref r0)] [])) _
    refine XS.aloadN X6.here hx rfl (hb hby d19_31) rfl rfl ?_
    exact kt
  obtain ⟨T8, X8, e8, st8⟩ := getF X6 hx hZ hown (host := "") (Or.inl (hw _ (List.mem_of_getElem? (i := 108) rfl))) Via.refl e6 F_ne (g := (mkF m 32 #[.val (.ref r0)] [(.ref r0)])) rfl rfl (hb hby d19_32)
  by_cases hc35 : ne = (0 : Int32)
  · -- it is
    have c11 : ∀ t, Steps p.tables e below (T8.setTop (mkF m 39 #[.val (.ref r0)] [(.ref r0)])) t → Steps p.tables e below (T8.setTop (mkF m 35 #[.val (.ref r0)] [(.int ne)])) t := by
      intro t kt
      show Steps p.tables e below (T8.setTop (mkF m 35 #[.val (.ref r0)] [(.int ne)])) _
      refine XS.ifNo X8.here hx rfl (hb hby d19_35) rfl ((if0 _ _).trans (teq hc35).2) ?_
      show Steps p.tables e below (T8.setTop (mkF m 38 #[.val (.ref r0)] [])) _
      refine XS.aloadN X8.here hx rfl (hb hby d19_38) rfl rfl ?_
      exact kt
    obtain ⟨T10, X10, e10, st10⟩ := getF X8 hx hZ hown (host := "") (Or.inl (hw _ (List.mem_of_getElem? (i := 112) rfl))) Via.refl e8 F_ng (g := (mkF m 39 #[.val (.ref r0)] [(.ref r0)])) rfl rfl (hb hby d19_39)
    have c13 : ∀ t, Steps p.tables e below (T10.setTop (mkF m 46 #[.val (.ref r0)] [(.int (lcmpW ng (-9223372036854775808 : Int64)))])) t → Steps p.tables e below (T10.setTop (mkF m 42 #[.val (.ref r0)] [(.long ng)])) t := by
      intro t kt
      show Steps p.tables e below (T10.setTop (mkF m 42 #[.val (.ref r0)] [(.long ng)])) _
      refine X10.ldc2Long hx hown (mvT hZ (hw _ (List.mem_of_getElem? (i := 114) rfl))) (g := (mkF m 42 #[.val (.ref r0)] [(.long ng)])) rfl (hb hby d19_42) _ ?_
      show Steps p.tables e below (T10.setTop (mkF m 45 #[.val (.ref r0)] [(.long (-9223372036854775808 : Int64)), (.long ng)])) _
      refine XS.lcmp X10.here hx rfl (hb hby d19_45) rfl ?_
      exact kt
    have hd12 : ¬ (ng = (-9223372036854775808 : Int64)) := hng hc35
    have c15 : ∀ t, Steps p.tables e below (T10.setTop (mkF m 60 #[.val (.ref r0)] [(.ref r0)])) t → Steps p.tables e below (T10.setTop (mkF m 46 #[.val (.ref r0)] [(.int (lcmpW ng (-9223372036854775808 : Int64)))])) t := by
      intro t kt
      show Steps p.tables e below (T10.setTop (mkF m 46 #[.val (.ref r0)] [(.int (lcmpW ng (-9223372036854775808 : Int64)))])) _
      refine XS.ifYes X10.here hx rfl (pc0 := 46) (pc' := 59) rfl (hb hby d19_46) rfl ((if0 _ _).trans (feq (fun q => hd12 ((lw_eq _ _).mp q))).2) (by decide) (by decide) ?_
      show Steps p.tables e below (T10.setTop (mkF m 59 #[.val (.ref r0)] [])) _
      refine XS.aloadN X10.here hx rfl (hb hby d19_59) rfl rfl ?_
      exact kt
    obtain ⟨T14, X14, e14, st14⟩ := getF X10 hx hZ hown (host := "") (Or.inl (hw _ (List.mem_of_getElem? (i := 108) rfl))) Via.refl e10 F_ne (g := (mkF m 60 #[.val (.ref r0)] [(.ref r0)])) rfl rfl (hb hby d19_60)
    have c17 : ∀ t, Steps p.tables e below (T14.setTop (mkF m 74 #[.val (.ref r0)] [(.ref r0)])) t → Steps p.tables e below (T14.setTop (mkF m 63 #[.val (.ref r0)] [(.int ne)])) t := by
      intro t kt
      show Steps p.tables e below (T14.setTop (mkF m 63 #[.val (.ref r0)] [(.int ne)])) _
      refine XS.ifYes X14.here hx rfl (pc0 := 63) (pc' := 73) rfl (hb hby d19_63) rfl ((if0 _ _).trans (teq hc35).1) (by decide) (by decide) ?_
      show Steps p.tables e below (T14.setTop (mkF m 73 #[.val (.ref r0)] [])) _
      refine XS.aloadN X14.here hx rfl (hb hby d19_73) rfl rfl ?_
      exact kt
    obtain ⟨T16, X16, e16, st16⟩ := getF X14 hx hZ hown (host := "") (Or.inl (hw _ (List.mem_of_getElem? (i := 112) rfl))) Via.refl e14 F_ng (g := (mkF m 74 #[.val (.ref r0)] [(.ref r0)])) rfl rfl (hb hby d19_74)
    have c18 : ∀ t, Steps p.tables e below (T16.setTop (mkF m 78 #[.val (.ref r0)] [(.long (-ng))])) t → Steps p.tables e below (T16.setTop (mkF m 77 #[.val (.ref r0)] [(.long ng)])) t := by
      intro t kt
      show Steps p.tables e below (T16.setTop (mkF m 77 #[.val (.ref r0)] [(.long ng)])) _
      refine XS.lneg X16.here hx rfl (hb hby d19_77) rfl ?_
      exact kt
    obtain ⟨fs, hr, hrun, hended, hW, hsame⟩ := X16.leave (v := some (.long (-ng))) (fun h => by rw [Bd.returns] at h; cases h)
    refine ⟨_, _, pre0 _ (c2 _ (st1 _ (c4 _ (st3 _ (c7 _ (st6 _ (c9 _ (st8 _ (c11 _ (st10 _ (c13 _ (c15 _ (st14 _ (c17 _ (st16 _ (c18 _ (?_))))))))))))))))), hrun, hended, _, _, rfl, ?_, ⟨_, rfl⟩, hW, hsame.mono (by decide) (by decide)⟩
    · show Steps p.tables e below (T16.setTop (mkF m 78 #[.val (.ref r0)] [(.long (-ng))])) _
      jvm_step X16.here [X16.here.top, hx, (hb hby d19_78), X16.method', Bd.returns, narrow]
      first | (intro acts; rw [hr _ acts rfl rfl rfl]) | rw [hr _ _ rfl rfl rfl]
      exact Steps.refl _
    · show Q19 Z r0 ng ne ch dg h0 n0 _ T16.heap _
      rw [e16]
      exact ⟨congrArg (fun z => some (Value.long z)) (show (-ng) = (own_val ng ne) from by unfold own_val; rw [if_pos hc35]), N0, rfl⟩
  · -- it isn't
    have c21 : ∀ t, Steps p.tables e below (T8.setTop (mkF m 60 #[.val (.ref r0)] [(.ref r0)])) t → Steps p.tables e below (T8.setTop (mkF m 35 #[.val (.ref r0)] [(.int ne)])) t := by
      intro t kt
      show Steps p.tables e below (T8.setTop (mkF m 35 #[.val (.ref r0)] [(.int ne)])) _
      refine XS.ifYes X8.here hx rfl (pc0 := 35) (pc' := 59) rfl (hb hby d19_35) rfl ((if0 _ _).trans (feq hc35).2) (by decide) (by decide) ?_
      show Steps p.tables e below (T8.setTop (mkF m 59 #[.val (.ref r0)] [])) _
      refine XS.aloadN X8.here hx rfl (hb hby d19_59) rfl rfl ?_
      exact kt
    obtain ⟨T20, X20, e20, st20⟩ := getF X8 hx hZ hown (host := "") (Or.inl (hw _ (List.mem_of_getElem? (i := 108) rfl))) Via.refl e8 F_ne (g := (mkF m 60 #[.val (.ref r0)] [(.ref r0)])) rfl rfl (hb hby d19_60)
    have c23 : ∀ t, Steps p.tables e below (T20.setTop (mkF m 67 #[.val (.ref r0)] [(.ref r0)])) t → Steps p.tables e below (T20.setTop (mkF m 63 #[.val (.ref r0)] [(.int ne)])) t := by
      intro t kt
      show Steps p.tables e below (T20.setTop (mkF m 63 #[.val (.ref r0)] [(.int ne)])) _
      refine XS.ifNo X20.here hx rfl (hb hby d19_63) rfl ((if0 _ _).trans (feq hc35).1) ?_
      show Steps p.tables e below (T20.setTop (mkF m 66 #[.val (.ref r0)] [])) _
      refine XS.aloadN X20.here hx rfl (hb hby d19_66) rfl rfl ?_
      exact kt
    obtain ⟨T22, X22, e22, st22⟩ := getF X20 hx hZ hown (host := "") (Or.inl (hw _ (List.mem_of_getElem? (i := 112) rfl))) Via.refl e20 F_ng (g := (mkF m 67 #[.val (.ref r0)] [(.ref r0)])) rfl rfl (hb hby d19_67)
    have c24 : ∀ t, Steps p.tables e below (T22.setTop (mkF m 78 #[.val (.ref r0)] [(.long ng)])) t → Steps p.tables e below (T22.setTop (mkF m 70 #[.val (.ref r0)] [(.long ng)])) t := by
      intro t kt
      show Steps p.tables e below (T22.setTop (mkF m 70 #[.val (.ref r0)] [(.long ng)])) _
      refine XS.goto X22.here hx rfl (pc0 := 70) (pc' := 78) rfl (hb hby d19_70) (by decide) (by decide) ?_
      exact kt
    obtain ⟨fs, hr, hrun, hended, hW, hsame⟩ := X22.leave (v := some (.long ng)) (fun h => by rw [Bd.returns] at h; cases h)
    refine ⟨_, _, pre0 _ (c2 _ (st1 _ (c4 _ (st3 _ (c7 _ (st6 _ (c9 _ (st8 _ (c21 _ (st20 _ (c23 _ (st22 _ (c24 _ (?_)))))))))))))), hrun, hended, _, _, rfl, ?_, ⟨_, rfl⟩, hW, hsame.mono (by decide) (by decide)⟩
    · show Steps p.tables e below (T22.setTop (mkF m 78 #[.val (.ref r0)] [(.long ng)])) _
      jvm_step X22.here [X22.here.top, hx, (hb hby d19_78), X22.method', Bd.returns, narrow]
      first | (intro acts; rw [hr _ acts rfl rfl rfl]) | rw [hr _ _ rfl rfl rfl]
      exact Steps.refl _
    · show Q19 Z r0 ng ne ch dg h0 n0 _ T22.heap _
      rw [e22]
      exact ⟨congrArg (fun z => some (Value.long z)) (show ng = (own_val ng ne) from by unfold own_val; rw [if_neg hc35]), N0, rfl⟩
theorem d17_0 : decode jdk_41_method_11_code 0 = .ok (.iload_n 0, 1) := by decide +kernel
theorem d17_1 : decode jdk_41_method_11_code 1 = .ok (.ifCond .lt 8, 3) := by decide +kernel
theorem d17_4 : decode jdk_41_method_11_code 4 = .ok (.iload_n 0, 1) := by decide +kernel
theorem d17_5 : decode jdk_41_method_11_code 5 = .ok (.iload_n 1, 1) := by decide +kernel
theorem d17_6 : decode jdk_41_method_11_code 6 = .ok (.if_icmp .lt 10, 3) := by decide +kernel
theorem d17_16 : decode jdk_41_method_11_code 16 = .ok (.iload_n 0, 1) := by decide +kernel
theorem d17_17 : decode jdk_41_method_11_code 17 = .ok (.ireturn, 1) := by decide +kernel
theorem pn_17 : plainName "jdk/internal/util/Preconditions" = true := by first | (simp [plainName, overriddenIn]; done) | decide +kernel
theorem ef_17n (m : MethodId) (x0 : Int32) (x1 : Int32) : entryFrame m #[(.int x0), (.int x1), .null] 3 = mkF m 0 #[.val (.int x0), .val (.int x1), .val .null] [] := by first | (simp [entryFrame, mkF, argsToLocals, Value.category]; done) | rfl
def Q17n (Z : State) (p0 : Int32) (p1 : Int32) (h0 : Heap) (n0 : Nat) (v : Option Value) (h : Heap) (L : List Loc) : Prop := v = some (.int p0) ∧ Fr n0 L ∧ h = h0
set_option maxRecDepth 65536 in
set_option maxHeartbeats 40000000 in
theorem rm17n (l : Launch) (Z : State) (a0 : Array Value) (hw : ∀ d ∈ tables_1, d.before a0 Z = true) (ws : List Jvm.Cond) (p0 : Int32) (p1 : Int32)  (h0 : Heap) (n0 : Nat) (Z0 : n0 ≤ h0.size) (hp0 : ¬ p0 < (0 : Int32)) (hp1 : p0 < p1) :
    MetFree l (⟨"jdk/internal/util/Preconditions", "checkIndex", "(IILjava/util/function/BiFunction;)I"⟩ : MethodName) (head1 (Jvm.Cond.code (⟨"jdk/internal/util/Preconditions", "checkIndex", "(IILjava/util/function/BiFunction;)I"⟩ : MethodName) jdk_41_method_11_code 3 (some .int) :: ws) ({ frames := 0, cells := 0, slots := 0, locals := 0 } : Room)) (fun a U => a = #[(.int p0), (.int p1), .null] ∧ Z.Warmed39 U.vm ∧ U.heap = h0) (fun _ _ _ _ _ => True) (fun _ U o U' => ∃ v L, o = .returned v ∧ Q17n Z p0 p1 h0 n0 v U'.heap L ∧ FrameEnd U o U' L ({ frames := 0, cells := 0, slots := 0, locals := 0 } : Room).cells ({ frames := 0, cells := 0, slots := 0, locals := 0 } : Room).slots) := by
  refine MetFree.of_bodySF (plainFor_of_name pn_17) hisR ?_
  intro p e s m args below meth c s₁ Bd hml0 hP hK
  obtain ⟨rfl, hZ, hh⟩ := hP
  have hx := Bd.exec
  have hby := Bd.bytes
  have hml : c.maxLocals = 3 := hml0
  have hown : s.vm.findClass "jdk/internal/util/Preconditions" = some m.cls := findClass_of_methodNamed Bd.named
  have hnm := (name_of_methodNamed Bd.named Bd.method).1
  have X0 : Stand p l e ({ frames := 0, cells := 0, slots := 0, locals := 0 } : Room) s m #[(.int p0), (.int p1), .null] below meth c s₁ [] 0 0 := Stand.of_body Bd
  have e0 : s₁.heap = h0 := by rw [← hh, Bd.state]; rfl
  have N0 := Fr.nil n0
  have pre0 : ∀ t, Steps p.tables e below (s₁.setTop (mkF m 0 #[.val (.int p0), .val (.int p1), .val .null] [])) t → Steps p.tables e below (s₁.setTop (entryFrame m #[(.int p0), (.int p1), .null] 3)) t := fun t k => castTop (ef_17n m p0 p1) k
  have c2 : ∀ t, Steps p.tables e below (s₁.setTop (mkF m 1 #[.val (.int p0), .val (.int p1), .val .null] [(.int p0)])) t → Steps p.tables e below (s₁.setTop (mkF m 0 #[.val (.int p0), .val (.int p1), .val .null] [])) t := by
    intro t kt
    show Steps p.tables e below (s₁.setTop (mkF m 0 #[.val (.int p0), .val (.int p1), .val .null] [])) _
    refine XS.iloadN X0.here hx rfl (hb hby d17_0) rfl ?_
    exact kt
  have hd1 : ¬ (p0 < (0 : Int32)) := hp0
  have c4 : ∀ t, Steps p.tables e below (s₁.setTop (mkF m 6 #[.val (.int p0), .val (.int p1), .val .null] [(.int p1), (.int p0)])) t → Steps p.tables e below (s₁.setTop (mkF m 1 #[.val (.int p0), .val (.int p1), .val .null] [(.int p0)])) t := by
    intro t kt
    show Steps p.tables e below (s₁.setTop (mkF m 1 #[.val (.int p0), .val (.int p1), .val .null] [(.int p0)])) _
    refine XS.ifNo X0.here hx rfl (hb hby d17_1) rfl ((if0 _ _).trans (flt hd1).1) ?_
    show Steps p.tables e below (s₁.setTop (mkF m 4 #[.val (.int p0), .val (.int p1), .val .null] [])) _
    refine XS.iloadN X0.here hx rfl (hb hby d17_4) rfl ?_
    show Steps p.tables e below (s₁.setTop (mkF m 5 #[.val (.int p0), .val (.int p1), .val .null] [(.int p0)])) _
    refine XS.iloadN X0.here hx rfl (hb hby d17_5) rfl ?_
    exact kt
  have hd3 : p0 < p1 := hp1
  have c5 : ∀ t, Steps p.tables e below (s₁.setTop (mkF m 17 #[.val (.int p0), .val (.int p1), .val .null] [(.int p0)])) t → Steps p.tables e below (s₁.setTop (mkF m 6 #[.val (.int p0), .val (.int p1), .val .null] [(.int p1), (.int p0)])) t := by
    intro t kt
    show Steps p.tables e below (s₁.setTop (mkF m 6 #[.val (.int p0), .val (.int p1), .val .null] [(.int p1), (.int p0)])) _
    refine XS.icmpYes X0.here hx rfl (pc0 := 6) (pc' := 16) rfl (hb hby d17_6) rfl (tlt hd3).1 (by decide) (by decide) ?_
    show Steps p.tables e below (s₁.setTop (mkF m 16 #[.val (.int p0), .val (.int p1), .val .null] [])) _
    refine XS.iloadN X0.here hx rfl (hb hby d17_16) rfl ?_
    exact kt
  obtain ⟨fs, hr, hrun, hended, hW, hsame⟩ := X0.leave (v := some (.int p0)) (fun h => by rw [Bd.returns] at h; cases h)
  refine ⟨_, _, pre0 _ (c2 _ (c4 _ (c5 _ (?_)))), hrun, hended, _, _, rfl, ?_, ⟨_, rfl⟩, hW, hsame.mono (by decide) (by decide)⟩
  · show Steps p.tables e below (s₁.setTop (mkF m 17 #[.val (.int p0), .val (.int p1), .val .null] [(.int p0)])) _
    exact retI X0 hx Bd.returns (hb hby d17_17) hr
  · show Q17n Z p0 p1 h0 n0 _ s₁.heap _
    rw [e0]
    exact ⟨congrArg (fun z => some (Value.int z)) (show p0 = p0 from by rfl), N0, rfl⟩
theorem ef_17 (m : MethodId) (x0 : Int32) (x1 : Int32) (x2 : Addr) : entryFrame m #[(.int x0), (.int x1), (.ref x2)] 3 = mkF m 0 #[.val (.int x0), .val (.int x1), .val (.ref x2)] [] := by first | (simp [entryFrame, mkF, argsToLocals, Value.category]; done) | rfl
def Q17r (Z : State) (p0 : Int32) (p1 : Int32) (r2 : Addr) (h0 : Heap) (n0 : Nat) (v : Option Value) (h : Heap) (L : List Loc) : Prop := v = some (.int p0) ∧ Fr n0 L ∧ h = h0
set_option maxRecDepth 65536 in
set_option maxHeartbeats 40000000 in
theorem rm17r (l : Launch) (Z : State) (a0 : Array Value) (hw : ∀ d ∈ tables_1, d.before a0 Z = true) (ws : List Jvm.Cond) (p0 : Int32) (p1 : Int32) (r2 : Addr)  (h0 : Heap) (n0 : Nat) (Z0 : n0 ≤ h0.size) (hp0 : ¬ p0 < (0 : Int32)) (hp1 : p0 < p1) :
    MetFree l (⟨"jdk/internal/util/Preconditions", "checkIndex", "(IILjava/util/function/BiFunction;)I"⟩ : MethodName) (head1 (Jvm.Cond.code (⟨"jdk/internal/util/Preconditions", "checkIndex", "(IILjava/util/function/BiFunction;)I"⟩ : MethodName) jdk_41_method_11_code 3 (some .int) :: ws) ({ frames := 0, cells := 0, slots := 0, locals := 0 } : Room)) (fun a U => a = #[(.int p0), (.int p1), (.ref r2)] ∧ Z.Warmed39 U.vm ∧ U.heap = h0) (fun _ _ _ _ _ => True) (fun _ U o U' => ∃ v L, o = .returned v ∧ Q17r Z p0 p1 r2 h0 n0 v U'.heap L ∧ FrameEnd U o U' L ({ frames := 0, cells := 0, slots := 0, locals := 0 } : Room).cells ({ frames := 0, cells := 0, slots := 0, locals := 0 } : Room).slots) := by
  refine MetFree.of_bodySF (plainFor_of_name pn_17) hisR ?_
  intro p e s m args below meth c s₁ Bd hml0 hP hK
  obtain ⟨rfl, hZ, hh⟩ := hP
  have hx := Bd.exec
  have hby := Bd.bytes
  have hml : c.maxLocals = 3 := hml0
  have hown : s.vm.findClass "jdk/internal/util/Preconditions" = some m.cls := findClass_of_methodNamed Bd.named
  have hnm := (name_of_methodNamed Bd.named Bd.method).1
  have X0 : Stand p l e ({ frames := 0, cells := 0, slots := 0, locals := 0 } : Room) s m #[(.int p0), (.int p1), (.ref r2)] below meth c s₁ [] 0 0 := Stand.of_body Bd
  have e0 : s₁.heap = h0 := by rw [← hh, Bd.state]; rfl
  have N0 := Fr.nil n0
  have pre0 : ∀ t, Steps p.tables e below (s₁.setTop (mkF m 0 #[.val (.int p0), .val (.int p1), .val (.ref r2)] [])) t → Steps p.tables e below (s₁.setTop (entryFrame m #[(.int p0), (.int p1), (.ref r2)] 3)) t := fun t k => castTop (ef_17 m p0 p1 r2) k
  have c2 : ∀ t, Steps p.tables e below (s₁.setTop (mkF m 1 #[.val (.int p0), .val (.int p1), .val (.ref r2)] [(.int p0)])) t → Steps p.tables e below (s₁.setTop (mkF m 0 #[.val (.int p0), .val (.int p1), .val (.ref r2)] [])) t := by
    intro t kt
    show Steps p.tables e below (s₁.setTop (mkF m 0 #[.val (.int p0), .val (.int p1), .val (.ref r2)] [])) _
    refine XS.iloadN X0.here hx rfl (hb hby d17_0) rfl ?_
    exact kt
  have hd1 : ¬ (p0 < (0 : Int32)) := hp0
  have c4 : ∀ t, Steps p.tables e below (s₁.setTop (mkF m 6 #[.val (.int p0), .val (.int p1), .val (.ref r2)] [(.int p1), (.int p0)])) t → Steps p.tables e below (s₁.setTop (mkF m 1 #[.val (.int p0), .val (.int p1), .val (.ref r2)] [(.int p0)])) t := by
    intro t kt
    show Steps p.tables e below (s₁.setTop (mkF m 1 #[.val (.int p0), .val (.int p1), .val (.ref r2)] [(.int p0)])) _
    refine XS.ifNo X0.here hx rfl (hb hby d17_1) rfl ((if0 _ _).trans (flt hd1).1) ?_
    show Steps p.tables e below (s₁.setTop (mkF m 4 #[.val (.int p0), .val (.int p1), .val (.ref r2)] [])) _
    refine XS.iloadN X0.here hx rfl (hb hby d17_4) rfl ?_
    show Steps p.tables e below (s₁.setTop (mkF m 5 #[.val (.int p0), .val (.int p1), .val (.ref r2)] [(.int p0)])) _
    refine XS.iloadN X0.here hx rfl (hb hby d17_5) rfl ?_
    exact kt
  have hd3 : p0 < p1 := hp1
  have c5 : ∀ t, Steps p.tables e below (s₁.setTop (mkF m 17 #[.val (.int p0), .val (.int p1), .val (.ref r2)] [(.int p0)])) t → Steps p.tables e below (s₁.setTop (mkF m 6 #[.val (.int p0), .val (.int p1), .val (.ref r2)] [(.int p1), (.int p0)])) t := by
    intro t kt
    show Steps p.tables e below (s₁.setTop (mkF m 6 #[.val (.int p0), .val (.int p1), .val (.ref r2)] [(.int p1), (.int p0)])) _
    refine XS.icmpYes X0.here hx rfl (pc0 := 6) (pc' := 16) rfl (hb hby d17_6) rfl (tlt hd3).1 (by decide) (by decide) ?_
    show Steps p.tables e below (s₁.setTop (mkF m 16 #[.val (.int p0), .val (.int p1), .val (.ref r2)] [])) _
    refine XS.iloadN X0.here hx rfl (hb hby d17_16) rfl ?_
    exact kt
  obtain ⟨fs, hr, hrun, hended, hW, hsame⟩ := X0.leave (v := some (.int p0)) (fun h => by rw [Bd.returns] at h; cases h)
  refine ⟨_, _, pre0 _ (c2 _ (c4 _ (c5 _ (?_)))), hrun, hended, _, _, rfl, ?_, ⟨_, rfl⟩, hW, hsame.mono (by decide) (by decide)⟩
  · show Steps p.tables e below (s₁.setTop (mkF m 17 #[.val (.int p0), .val (.int p1), .val (.ref r2)] [(.int p0)])) _
    exact retI X0 hx Bd.returns (hb hby d17_17) hr
  · show Q17r Z p0 p1 r2 h0 n0 _ s₁.heap _
    rw [e0]
    exact ⟨congrArg (fun z => some (Value.int z)) (show p0 = p0 from by rfl), N0, rfl⟩
theorem d16_0 : decode jdk_42_method_155_code 0 = .ok (.iload_n 0, 1) := by decide +kernel
theorem d16_1 : decode jdk_42_method_155_code 1 = .ok (.iload_n 1, 1) := by decide +kernel
theorem d16_2 : decode jdk_42_method_155_code 2 = .ok (.getstatic 1053, 3) := by decide +kernel
theorem d16_5 : decode jdk_42_method_155_code 5 = .ok (.invokestatic 1059, 3) := by decide +kernel
theorem d16_8 : decode jdk_42_method_155_code 8 = .ok (.pop, 1) := by decide +kernel
theorem d16_9 : decode jdk_42_method_155_code 9 = .ok (.return_, 1) := by decide +kernel
theorem pn_16 : plainName "java/lang/String" = true := by first | (simp [plainName, overriddenIn]; done) | decide +kernel
theorem ef_16 (m : MethodId) (x0 : Int32) (x1 : Int32) : entryFrame m #[(.int x0), (.int x1)] 2 = mkF m 0 #[.val (.int x0), .val (.int x1)] [] := by first | (simp [entryFrame, mkF, argsToLocals, Value.category]; done) | rfl
def Q16 (Z : State) (p0 : Int32) (p1 : Int32) (fm : Value) (h0 : Heap) (n0 : Nat) (v : Option Value) (h : Heap) (L : List Loc) : Prop := v = none ∧ Fr n0 L ∧ h = h0
set_option maxRecDepth 65536 in
set_option maxHeartbeats 40000000 in
theorem rm16 (l : Launch) (Z : State) (a0 : Array Value) (hw : ∀ d ∈ tables_1, d.before a0 Z = true) (ws : List Jvm.Cond) (p0 : Int32) (p1 : Int32) (fm : Value) (h0 : Heap) (n0 : Nat) (Z0 : n0 ≤ h0.size) (hp0 : ¬ p0 < (0 : Int32)) (hp1 : p0 < p1) (SF : Sta Z h0 "jdk/internal/util/Preconditions" "SIOOBE_FORMATTER" "Ljava/util/function/BiFunction;" fm) (hfm : fm.isRef = true) :
    MetFree l (⟨"java/lang/String", "checkIndex", "(II)V"⟩ : MethodName) (head1 (Jvm.Cond.code (⟨"java/lang/String", "checkIndex", "(II)V"⟩ : MethodName) jdk_42_method_155_code 2 none :: ws) ({ frames := 1, cells := 0, slots := 0, locals := 14 } : Room)) (fun a U => a = #[(.int p0), (.int p1)] ∧ Z.Warmed39 U.vm ∧ U.heap = h0) (fun _ _ _ _ _ => True) (fun _ U o U' => ∃ v L, o = .returned v ∧ Q16 Z p0 p1 fm h0 n0 v U'.heap L ∧ FrameEnd U o U' L ({ frames := 1, cells := 0, slots := 0, locals := 14 } : Room).cells ({ frames := 1, cells := 0, slots := 0, locals := 14 } : Room).slots) := by
  refine MetFree.of_bodySF (plainFor_of_name pn_16) hisR ?_
  intro p e s m args below meth c s₁ Bd hml0 hP hK
  obtain ⟨rfl, hZ, hh⟩ := hP
  have hx := Bd.exec
  have hby := Bd.bytes
  have hml : c.maxLocals = 2 := hml0
  have hown : s.vm.findClass "java/lang/String" = some m.cls := findClass_of_methodNamed Bd.named
  have hnm := (name_of_methodNamed Bd.named Bd.method).1
  have X0 : Stand p l e ({ frames := 1, cells := 0, slots := 0, locals := 14 } : Room) s m #[(.int p0), (.int p1)] below meth c s₁ [] 0 0 := Stand.of_body Bd
  have e0 : s₁.heap = h0 := by rw [← hh, Bd.state]; rfl
  have N0 := Fr.nil n0
  have pre0 : ∀ t, Steps p.tables e below (s₁.setTop (mkF m 0 #[.val (.int p0), .val (.int p1)] [])) t → Steps p.tables e below (s₁.setTop (entryFrame m #[(.int p0), (.int p1)] 2)) t := fun t k => castTop (ef_16 m p0 p1) k
  rcases ref_cases hfm with rfl | ⟨fa, rfl⟩
  · skip
    have c2 : ∀ t, Steps p.tables e below (s₁.setTop (mkF m 2 #[.val (.int p0), .val (.int p1)] [(.int p1), (.int p0)])) t → Steps p.tables e below (s₁.setTop (mkF m 0 #[.val (.int p0), .val (.int p1)] [])) t := by
      intro t kt
      show Steps p.tables e below (s₁.setTop (mkF m 0 #[.val (.int p0), .val (.int p1)] [])) _
      refine XS.iloadN X0.here hx rfl (hb hby d16_0) rfl ?_
      show Steps p.tables e below (s₁.setTop (mkF m 1 #[.val (.int p0), .val (.int p1)] [(.int p0)])) _
      refine XS.iloadN X0.here hx rfl (hb hby d16_1) rfl ?_
      exact kt
    obtain ⟨T1, X1, e1, st1⟩ := getS2 X0 hx hZ hown (host := "") (Or.inl (hw _ (List.mem_of_getElem? (i := 96) rfl))) Via.refl e0 SF (g := (mkF m 2 #[.val (.int p0), .val (.int p1)] [(.int p1), (.int p0)])) rfl (hb hby d16_2)
    obtain ⟨_, _, ⟨T3, L3, k3, n3⟩, -, X3, ⟨Lc3, hQ3, l3, y3, z3⟩, st3⟩ := Jvm.LawKit.callS X1 hx (y := (⟨"jdk/internal/util/Preconditions", "checkIndex", "(IILjava/util/function/BiFunction;)I"⟩ : MethodName)) hown (mvT hZ (hw _ (List.mem_of_getElem? (i := 98) rfl))) (mvT hZ (hw _ (List.mem_of_getElem? (i := 99) rfl))) (mvT hZ (hw _ (List.mem_of_getElem? (i := 97) rfl))) (mvT hZ (hw _ (List.mem_of_getElem? (i := 100) rfl))) (by decide) (backOf (W := 0) (rm17n l Z a0 hw [] p0 p1  h0 n0 Z0 hp0 hp1) hZ (hw _ (List.mem_of_getElem? (i := 100) rfl)) (hw _ (List.mem_of_getElem? (i := 97) rfl)) (by decide) (by decide)) (g := (mkF m 5 #[.val (.int p0), .val (.int p1)] [.null, (.int p1), (.int p0)])) rfl (by rw [hml]; rfl) (argsL := [(.int p0), (.int p1), .null]) (rest := []) (lenOf pd_0 rfl) rfl (by show 2 * 0 + _ ≤ _; exact Nat.le_of_eq rfl) (hb hby d16_5) (fun _ _ => ⟨rfl, e1, (by decide : 0 + 0 ≤ _), (by decide : 0 + 0 ≤ _)⟩)
    dsimp only [Pt.U, Pt.locs, Pt.cells, Pt.slots] at X3 l3 y3 z3 st3 hQ3
    subst l3 y3 z3
    obtain ⟨rfl, N3q, e3⟩ := hQ3
    have N3 := Fr.app N0 N3q
    have c4 : ∀ t, Steps p.tables e below (T3.setTop (mkF m 9 #[.val (.int p0), .val (.int p1)] [])) t → Steps p.tables e below (T3.setTop (mkF m 8 #[.val (.int p0), .val (.int p1)] [(.int p0)])) t := by
      intro t kt
      show Steps p.tables e below (T3.setTop (mkF m 8 #[.val (.int p0), .val (.int p1)] [(.int p0)])) _
      refine XS.pop X3.here hx rfl (hb hby d16_8) rfl rfl ?_
      exact kt
    obtain ⟨fs, hr, hrun, hended, hW, hsame⟩ := X3.leave (v := none) (fun _ => rfl)
    refine ⟨_, _, pre0 _ (c2 _ (st1 _ (st3 _ (c4 _ (?_))))), hrun, hended, _, _, rfl, ?_, ⟨_, rfl⟩, hW, hsame.mono (by decide) (by decide)⟩
    · show Steps p.tables e below (T3.setTop (mkF m 9 #[.val (.int p0), .val (.int p1)] [])) _
      exact X3.returnOut hx Bd.returns (hb hby d16_9) hr
    · show Q16 Z p0 p1 _ h0 n0 _ T3.heap _
      rw [e3]
      exact ⟨rfl, N3, rfl⟩
  · skip
    have c7 : ∀ t, Steps p.tables e below (s₁.setTop (mkF m 2 #[.val (.int p0), .val (.int p1)] [(.int p1), (.int p0)])) t → Steps p.tables e below (s₁.setTop (mkF m 0 #[.val (.int p0), .val (.int p1)] [])) t := by
      intro t kt
      show Steps p.tables e below (s₁.setTop (mkF m 0 #[.val (.int p0), .val (.int p1)] [])) _
      refine XS.iloadN X0.here hx rfl (hb hby d16_0) rfl ?_
      show Steps p.tables e below (s₁.setTop (mkF m 1 #[.val (.int p0), .val (.int p1)] [(.int p0)])) _
      refine XS.iloadN X0.here hx rfl (hb hby d16_1) rfl ?_
      exact kt
    obtain ⟨T6, X6, e6, st6⟩ := getS2 X0 hx hZ hown (host := "") (Or.inl (hw _ (List.mem_of_getElem? (i := 96) rfl))) Via.refl e0 SF (g := (mkF m 2 #[.val (.int p0), .val (.int p1)] [(.int p1), (.int p0)])) rfl (hb hby d16_2)
    obtain ⟨_, _, ⟨T8, L8, k8, n8⟩, -, X8, ⟨Lc8, hQ8, l8, y8, z8⟩, st8⟩ := Jvm.LawKit.callS X6 hx (y := (⟨"jdk/internal/util/Preconditions", "checkIndex", "(IILjava/util/function/BiFunction;)I"⟩ : MethodName)) hown (mvT hZ (hw _ (List.mem_of_getElem? (i := 98) rfl))) (mvT hZ (hw _ (List.mem_of_getElem? (i := 99) rfl))) (mvT hZ (hw _ (List.mem_of_getElem? (i := 97) rfl))) (mvT hZ (hw _ (List.mem_of_getElem? (i := 100) rfl))) (by decide) (backOf (W := 0) (rm17r l Z a0 hw [] p0 p1 fa  h0 n0 Z0 hp0 hp1) hZ (hw _ (List.mem_of_getElem? (i := 100) rfl)) (hw _ (List.mem_of_getElem? (i := 97) rfl)) (by decide) (by decide)) (g := (mkF m 5 #[.val (.int p0), .val (.int p1)] [(.ref fa), (.int p1), (.int p0)])) rfl (by rw [hml]; rfl) (argsL := [(.int p0), (.int p1), (.ref fa)]) (rest := []) (lenOf pd_0 rfl) rfl (by show 2 * 0 + _ ≤ _; exact Nat.le_of_eq rfl) (hb hby d16_5) (fun _ _ => ⟨rfl, e6, (by decide : 0 + 0 ≤ _), (by decide : 0 + 0 ≤ _)⟩)
    dsimp only [Pt.U, Pt.locs, Pt.cells, Pt.slots] at X8 l8 y8 z8 st8 hQ8
    subst l8 y8 z8
    obtain ⟨rfl, N8q, e8⟩ := hQ8
    have N8 := Fr.app N0 N8q
    have c9 : ∀ t, Steps p.tables e below (T8.setTop (mkF m 9 #[.val (.int p0), .val (.int p1)] [])) t → Steps p.tables e below (T8.setTop (mkF m 8 #[.val (.int p0), .val (.int p1)] [(.int p0)])) t := by
      intro t kt
      show Steps p.tables e below (T8.setTop (mkF m 8 #[.val (.int p0), .val (.int p1)] [(.int p0)])) _
      refine XS.pop X8.here hx rfl (hb hby d16_8) rfl rfl ?_
      exact kt
    obtain ⟨fs, hr, hrun, hended, hW, hsame⟩ := X8.leave (v := none) (fun _ => rfl)
    refine ⟨_, _, pre0 _ (c7 _ (st6 _ (st8 _ (c9 _ (?_))))), hrun, hended, _, _, rfl, ?_, ⟨_, rfl⟩, hW, hsame.mono (by decide) (by decide)⟩
    · show Steps p.tables e below (T8.setTop (mkF m 9 #[.val (.int p0), .val (.int p1)] [])) _
      exact X8.returnOut hx Bd.returns (hb hby d16_9) hr
    · show Q16 Z p0 p1 _ h0 n0 _ T8.heap _
      rw [e8]
      exact ⟨rfl, N8, rfl⟩
theorem d15_0 : decode jdk_43_method_2_code 0 = .ok (.iload_n 1, 1) := by decide +kernel
theorem d15_1 : decode jdk_43_method_2_code 1 = .ok (.aload_n 0, 1) := by decide +kernel
theorem d15_2 : decode jdk_43_method_2_code 2 = .ok (.arraylength, 1) := by decide +kernel
theorem d15_3 : decode jdk_43_method_2_code 3 = .ok (.invokestatic 9, 3) := by decide +kernel
theorem d15_6 : decode jdk_43_method_2_code 6 = .ok (.aload_n 0, 1) := by decide +kernel
theorem d15_7 : decode jdk_43_method_2_code 7 = .ok (.iload_n 1, 1) := by decide +kernel
theorem d15_8 : decode jdk_43_method_2_code 8 = .ok (.baload, 1) := by decide +kernel
theorem d15_9 : decode jdk_43_method_2_code 9 = .ok (.sipush 255, 3) := by decide +kernel
theorem d15_12 : decode jdk_43_method_2_code 12 = .ok (.iand, 1) := by decide +kernel
theorem d15_13 : decode jdk_43_method_2_code 13 = .ok (.i2c, 1) := by decide +kernel
theorem d15_14 : decode jdk_43_method_2_code 14 = .ok (.ireturn, 1) := by decide +kernel
theorem pn_15 : plainName "java/lang/StringLatin1" = true := by first | (simp [plainName, overriddenIn]; done) | decide +kernel
theorem ef_15 (m : MethodId) (x0 : Addr) (x1 : Int32) : entryFrame m #[(.ref x0), (.int x1)] 2 = mkF m 0 #[.val (.ref x0), .val (.int x1)] [] := by first | (simp [entryFrame, mkF, argsToLocals, Value.category]; done) | rfl
def Q15 (Z : State) (r0 : Addr) (p1 : Int32) (kk : ClassId) (zz : Int32) (vs : List Value) (dv : Value) (w0 : Int32) (fm : Value) (h0 : Heap) (n0 : Nat) (v : Option Value) (h : Heap) (L : List Loc) : Prop := v = some (.int (own_ch w0)) ∧ Fr n0 L ∧ h = h0
set_option maxRecDepth 65536 in
set_option maxHeartbeats 40000000 in
theorem rm15 (l : Launch) (Z : State) (a0 : Array Value) (hw : ∀ d ∈ tables_1, d.before a0 Z = true) (ws : List Jvm.Cond) (r0 : Addr) (p1 : Int32) (kk : ClassId) (zz : Int32) (vs : List Value) (dv : Value) (w0 : Int32) (fm : Value) (h0 : Heap) (n0 : Nat) (Z0 : n0 ≤ h0.size) (V : Arv Z h0 r0 kk .byte zz vs dv) (hi0 : ¬ p1 < 0 ∧ p1 < zz) (ha0 : vs.getD p1.toNatClampNeg dv = .int w0) (SF : Sta Z h0 "jdk/internal/util/Preconditions" "SIOOBE_FORMATTER" "Ljava/util/function/BiFunction;" fm) (hfm : fm.isRef = true) :
    MetFree l (⟨"java/lang/StringLatin1", "charAt", "([BI)C"⟩ : MethodName) (head1 (Jvm.Cond.code (⟨"java/lang/StringLatin1", "charAt", "([BI)C"⟩ : MethodName) jdk_43_method_2_code 2 (some .char) :: ws) ({ frames := 2, cells := 0, slots := 0, locals := 27 } : Room)) (fun a U => a = #[(.ref r0), (.int p1)] ∧ Z.Warmed39 U.vm ∧ U.heap = h0) (fun _ _ _ _ _ => True) (fun _ U o U' => ∃ v L, o = .returned v ∧ Q15 Z r0 p1 kk zz vs dv w0 fm h0 n0 v U'.heap L ∧ FrameEnd U o U' L ({ frames := 2, cells := 0, slots := 0, locals := 27 } : Room).cells ({ frames := 2, cells := 0, slots := 0, locals := 27 } : Room).slots) := by
  refine MetFree.of_bodySF (plainFor_of_name pn_15) hisR ?_
  intro p e s m args below meth c s₁ Bd hml0 hP hK
  obtain ⟨rfl, hZ, hh⟩ := hP
  have hx := Bd.exec
  have hby := Bd.bytes
  have hml : c.maxLocals = 2 := hml0
  have hown : s.vm.findClass "java/lang/StringLatin1" = some m.cls := findClass_of_methodNamed Bd.named
  have hnm := (name_of_methodNamed Bd.named Bd.method).1
  have X0 : Stand p l e ({ frames := 2, cells := 0, slots := 0, locals := 27 } : Room) s m #[(.ref r0), (.int p1)] below meth c s₁ [] 0 0 := Stand.of_body Bd
  have e0 : s₁.heap = h0 := by rw [← hh, Bd.state]; rfl
  have N0 := Fr.nil n0
  have pre0 : ∀ t, Steps p.tables e below (s₁.setTop (mkF m 0 #[.val (.ref r0), .val (.int p1)] [])) t → Steps p.tables e below (s₁.setTop (entryFrame m #[(.ref r0), (.int p1)] 2)) t := fun t k => castTop (ef_15 m r0 p1) k
  have Vc1 := V
  obtain ⟨cl1, Ar1, qk1, S1, M1, H1, G1⟩ := Vc1
  have c2 : ∀ t, Steps p.tables e below (s₁.setTop (mkF m 3 #[.val (.ref r0), .val (.int p1)] [(.int zz), (.int p1)])) t → Steps p.tables e below (s₁.setTop (mkF m 0 #[.val (.ref r0), .val (.int p1)] [])) t := by
    intro t kt
    show Steps p.tables e below (s₁.setTop (mkF m 0 #[.val (.ref r0), .val (.int p1)] [])) _
    refine XS.iloadN X0.here hx rfl (hb hby d15_0) rfl ?_
    show Steps p.tables e below (s₁.setTop (mkF m 1 #[.val (.ref r0), .val (.int p1)] [(.int p1)])) _
    refine XS.aloadN X0.here hx rfl (hb hby d15_1) rfl rfl ?_
    show Steps p.tables e below (s₁.setTop (mkF m 2 #[.val (.ref r0), .val (.int p1)] [(.ref r0), (.int p1)])) _
    refine X0.arraylength hx (by rw [e0]; exact Ar1.1) (State.isArrayOf_alike hZ.alike Ar1.2.1) (g := (mkF m 2 #[.val (.ref r0), .val (.int p1)] [(.ref r0), (.int p1)])) rfl rfl (hb hby d15_2) _ ?_
    rw [len_of S1 M1]
    exact kt
  obtain ⟨_, _, ⟨T3, L3, k3, n3⟩, -, X3, ⟨Lc3, hQ3, l3, y3, z3⟩, st3⟩ := Jvm.LawKit.callS X0 hx (y := (⟨"java/lang/String", "checkIndex", "(II)V"⟩ : MethodName)) hown (mvT hZ (hw _ (List.mem_of_getElem? (i := 93) rfl))) (mvT hZ (hw _ (List.mem_of_getElem? (i := 94) rfl))) (mvT hZ (hw _ (List.mem_of_getElem? (i := 28) rfl))) (mvT hZ (hw _ (List.mem_of_getElem? (i := 95) rfl))) (by decide) (backOf (W := 0) (rm16 l Z a0 hw [] p1 zz fm h0 n0 Z0 hi0.1 hi0.2 SF hfm) hZ (hw _ (List.mem_of_getElem? (i := 95) rfl)) (hw _ (List.mem_of_getElem? (i := 28) rfl)) (by decide) (by decide)) (g := (mkF m 3 #[.val (.ref r0), .val (.int p1)] [(.int zz), (.int p1)])) rfl (by rw [hml]; rfl) (argsL := [(.int p1), (.int zz)]) (rest := []) (lenOf pd_1 rfl) rfl (by show 2 * 0 + _ ≤ _; exact Nat.le_of_eq rfl) (hb hby d15_3) (fun _ _ => ⟨rfl, e0, (by decide : 0 + 0 ≤ _), (by decide : 0 + 0 ≤ _)⟩)
  dsimp only [Pt.U, Pt.locs, Pt.cells, Pt.slots] at X3 l3 y3 z3 st3 hQ3
  subst l3 y3 z3
  obtain ⟨rfl, N3q, e3⟩ := hQ3
  have N3 := Fr.app N0 N3q
  have Vc4 := V
  obtain ⟨cl4, Ar4, qk4, S4, M4, H4, G4⟩ := Vc4
  have hin4 : ¬ (p1 < 0 ∨ cl4.slots.size ≤ (p1).toNatClampNeg) := inb_of S4 hi0
  have hat4 : cl4.slots[(p1).toNatClampNeg]? = some (.int w0) := H4.at hin4 ha0
  have c5 : ∀ t, Steps p.tables e below (T3.setTop (mkF m 14 #[.val (.ref r0), .val (.int p1)] [(.int ((w0 &&& (255 : Int32)).toUInt32.toUInt16.toUInt32.toInt32))])) t → Steps p.tables e below (T3.setTop (mkF m 6 #[.val (.ref r0), .val (.int p1)] [])) t := by
    intro t kt
    show Steps p.tables e below (T3.setTop (mkF m 6 #[.val (.ref r0), .val (.int p1)] [])) _
    refine XS.aloadN X3.here hx rfl (hb hby d15_6) rfl rfl ?_
    show Steps p.tables e below (T3.setTop (mkF m 7 #[.val (.ref r0), .val (.int p1)] [(.ref r0)])) _
    refine XS.iloadN X3.here hx rfl (hb hby d15_7) rfl ?_
    show Steps p.tables e below (T3.setTop (mkF m 8 #[.val (.ref r0), .val (.int p1)] [(.int p1), (.ref r0)])) _
    refine X3.baloadBytes hx (j := p1) (v := (.int w0)) (by rw [e3]; exact Ar4.1) (State.isArrayOf_alike hZ.alike Ar4.2.1) Ar4.2.2 hin4 hat4 (g := (mkF m 8 #[.val (.ref r0), .val (.int p1)] [(.int p1), (.ref r0)])) rfl rfl (hb hby d15_8) _ ?_
    show Steps p.tables e below (T3.setTop (mkF m 9 #[.val (.ref r0), .val (.int p1)] [(.int w0)])) _
    refine XS.sipush X3.here hx rfl (hb hby d15_9) ?_
    show Steps p.tables e below (T3.setTop (mkF m 12 #[.val (.ref r0), .val (.int p1)] [(.int (255 : Int32)), (.int w0)])) _
    refine XS.iand X3.here hx rfl (hb hby d15_12) rfl ?_
    show Steps p.tables e below (T3.setTop (mkF m 13 #[.val (.ref r0), .val (.int p1)] [(.int (w0 &&& (255 : Int32)))])) _
    refine XS.i2c X3.here hx rfl (hb hby d15_13) rfl ?_
    exact kt
  obtain ⟨fs, hr, hrun, hended, hW, hsame⟩ := X3.leave (v := some (.int (((w0 &&& (255 : Int32)).toUInt32.toUInt16.toUInt32.toInt32).toUInt32.toUInt16.toUInt32.toInt32))) (fun h => by rw [Bd.returns] at h; cases h)
  refine ⟨_, _, pre0 _ (c2 _ (st3 _ (c5 _ (?_)))), hrun, hended, _, _, rfl, ?_, ⟨_, rfl⟩, hW, hsame.mono (by decide) (by decide)⟩
  · show Steps p.tables e below (T3.setTop (mkF m 14 #[.val (.ref r0), .val (.int p1)] [(.int ((w0 &&& (255 : Int32)).toUInt32.toUInt16.toUInt32.toInt32))])) _
    exact retN X3 hx (t := .char) Bd.returns (by simp) (hb hby d15_14) hr
  · show Q15 Z r0 p1 kk zz vs dv w0 fm h0 n0 _ T3.heap _
    rw [e3]
    exact ⟨congrArg (fun z => some (Value.int z)) (show (((w0 &&& (255 : Int32)).toUInt32.toUInt16.toUInt32.toInt32).toUInt32.toUInt16.toUInt32.toInt32) = (own_ch w0) from by rfl), N3, rfl⟩
theorem d14_0 : decode jdk_42_method_154_code 0 = .ok (.getstatic 38, 3) := by decide +kernel
theorem d14_3 : decode jdk_42_method_154_code 3 = .ok (.ifCond .eq 14, 3) := by decide +kernel
theorem d14_6 : decode jdk_42_method_154_code 6 = .ok (.aload_n 0, 1) := by decide +kernel
theorem d14_7 : decode jdk_42_method_154_code 7 = .ok (.getfield 15, 3) := by decide +kernel
theorem d14_10 : decode jdk_42_method_154_code 10 = .ok (.ifCond .ne 7, 3) := by decide +kernel
theorem d14_13 : decode jdk_42_method_154_code 13 = .ok (.iconst 1, 1) := by decide +kernel
theorem d14_14 : decode jdk_42_method_154_code 14 = .ok (.goto 4, 3) := by decide +kernel
theorem d14_18 : decode jdk_42_method_154_code 18 = .ok (.ireturn, 1) := by decide +kernel
theorem pn_14 : plainName "java/lang/String" = true := by first | (simp [plainName, overriddenIn]; done) | decide +kernel
theorem ef_14 (m : MethodId) (x0 : Addr) : entryFrame m #[(.ref x0)] 1 = mkF m 0 #[.val (.ref x0)] [] := by first | (simp [entryFrame, mkF, argsToLocals, Value.category]; done) | rfl
def Q14 (Z : State) (r0 : Addr) (cs : Int32) (h0 : Heap) (n0 : Nat) (v : Option Value) (h : Heap) (L : List Loc) : Prop := v = some (.int (1 : Int32)) ∧ Fr n0 L ∧ h = h0
set_option maxRecDepth 65536 in
set_option maxHeartbeats 40000000 in
theorem rm14 (l : Launch) (Z : State) (a0 : Array Value) (hw : ∀ d ∈ tables_1, d.before a0 Z = true) (ws : List Jvm.Cond) (r0 : Addr) (cs : Int32) (h0 : Heap) (n0 : Nat) (Z0 : n0 ≤ h0.size) (SC : Sta Z h0 "java/lang/String" "COMPACT_STRINGS" "Z" (.int cs)) (hcs : ¬ cs = (0 : Int32)) (C0 : Fld Z h0 r0 "java/lang/String" "coder" "B" (.int (0 : Int32))) :
    MetFree l (⟨"java/lang/String", "isLatin1", "()Z"⟩ : MethodName) (head1 (Jvm.Cond.code (⟨"java/lang/String", "isLatin1", "()Z"⟩ : MethodName) jdk_42_method_154_code 1 (some .boolean) :: ws) ({ frames := 0, cells := 0, slots := 0, locals := 0 } : Room)) (fun a U => a = #[(.ref r0)] ∧ Z.Warmed39 U.vm ∧ U.heap = h0) (fun _ _ _ _ _ => True) (fun _ U o U' => ∃ v L, o = .returned v ∧ Q14 Z r0 cs h0 n0 v U'.heap L ∧ FrameEnd U o U' L ({ frames := 0, cells := 0, slots := 0, locals := 0 } : Room).cells ({ frames := 0, cells := 0, slots := 0, locals := 0 } : Room).slots) := by
  refine MetFree.of_bodySF (plainFor_of_name pn_14) hisR ?_
  intro p e s m args below meth c s₁ Bd hml0 hP hK
  obtain ⟨rfl, hZ, hh⟩ := hP
  have hx := Bd.exec
  have hby := Bd.bytes
  have hml : c.maxLocals = 1 := hml0
  have hown : s.vm.findClass "java/lang/String" = some m.cls := findClass_of_methodNamed Bd.named
  have hnm := (name_of_methodNamed Bd.named Bd.method).1
  have X0 : Stand p l e ({ frames := 0, cells := 0, slots := 0, locals := 0 } : Room) s m #[(.ref r0)] below meth c s₁ [] 0 0 := Stand.of_body Bd
  have e0 : s₁.heap = h0 := by rw [← hh, Bd.state]; rfl
  have N0 := Fr.nil n0
  have pre0 : ∀ t, Steps p.tables e below (s₁.setTop (mkF m 0 #[.val (.ref r0)] [])) t → Steps p.tables e below (s₁.setTop (entryFrame m #[(.ref r0)] 1)) t := fun t k => castTop (ef_14 m r0) k
  obtain ⟨T1, X1, e1, st1⟩ := getS2 X0 hx hZ hown (host := "") (Or.inl (hw _ (List.mem_of_getElem? (i := 39) rfl))) Via.refl e0 SC (g := (mkF m 0 #[.val (.ref r0)] [])) rfl (hb hby d14_0)
  have hd2 : ¬ (cs = (0 : Int32)) := hcs
  have c4 : ∀ t, Steps p.tables e below (T1.setTop (mkF m 7 #[.val (.ref r0)] [(.ref r0)])) t → Steps p.tables e below (T1.setTop (mkF m 3 #[.val (.ref r0)] [(.int cs)])) t := by
    intro t kt
    show Steps p.tables e below (T1.setTop (mkF m 3 #[.val (.ref r0)] [(.int cs)])) _
    refine XS.ifNo X1.here hx rfl (hb hby d14_3) rfl ((if0 _ _).trans (feq hd2).1) ?_
    show Steps p.tables e below (T1.setTop (mkF m 6 #[.val (.ref r0)] [])) _
    refine XS.aloadN X1.here hx rfl (hb hby d14_6) rfl rfl ?_
    exact kt
  obtain ⟨T3, X3, e3, st3⟩ := getF X1 hx hZ hown (host := "") (Or.inl (hw _ (List.mem_of_getElem? (i := 51) rfl))) Via.refl e1 C0 (g := (mkF m 7 #[.val (.ref r0)] [(.ref r0)])) rfl rfl (hb hby d14_7)
  have c5 : ∀ t, Steps p.tables e below (T3.setTop (mkF m 18 #[.val (.ref r0)] [(.int (1 : Int32))])) t → Steps p.tables e below (T3.setTop (mkF m 10 #[.val (.ref r0)] [(.int (0 : Int32))])) t := by
    intro t kt
    show Steps p.tables e below (T3.setTop (mkF m 10 #[.val (.ref r0)] [(.int (0 : Int32))])) _
    refine XS.ifNo X3.here hx rfl (hb hby d14_10) rfl ((if0 _ _).trans (teq (by decide : (0 : Int32) = (0 : Int32))).2) ?_
    show Steps p.tables e below (T3.setTop (mkF m 13 #[.val (.ref r0)] [])) _
    refine XS.iconst X3.here hx rfl (hb hby d14_13) ?_
    show Steps p.tables e below (T3.setTop (mkF m 14 #[.val (.ref r0)] [(.int (1 : Int32))])) _
    refine XS.goto X3.here hx rfl (pc0 := 14) (pc' := 18) rfl (hb hby d14_14) (by decide) (by decide) ?_
    exact kt
  obtain ⟨fs, hr, hrun, hended, hW, hsame⟩ := X3.leave (v := some (.int (1 : Int32))) (fun h => by rw [Bd.returns] at h; cases h)
  refine ⟨_, _, pre0 _ (st1 _ (c4 _ (st3 _ (c5 _ (?_))))), hrun, hended, _, _, rfl, ?_, ⟨_, rfl⟩, hW, hsame.mono (by decide) (by decide)⟩
  · show Steps p.tables e below (T3.setTop (mkF m 18 #[.val (.ref r0)] [(.int (1 : Int32))])) _
    exact retN X3 hx (t := .boolean) Bd.returns (by simp) (hb hby d14_18) hr
  · show Q14 Z r0 cs h0 n0 _ T3.heap _
    rw [e3]
    exact ⟨congrArg (fun z => some (Value.int z)) (show (1 : Int32) = (1 : Int32) from by rfl), N0, rfl⟩
theorem d13_0 : decode jdk_42_method_56_code 0 = .ok (.aload_n 0, 1) := by decide +kernel
theorem d13_1 : decode jdk_42_method_56_code 1 = .ok (.invokevirtual 492, 3) := by decide +kernel
theorem d13_4 : decode jdk_42_method_56_code 4 = .ok (.ifCond .eq 12, 3) := by decide +kernel
theorem d13_7 : decode jdk_42_method_56_code 7 = .ok (.aload_n 0, 1) := by decide +kernel
theorem d13_8 : decode jdk_42_method_56_code 8 = .ok (.getfield 9, 3) := by decide +kernel
theorem d13_11 : decode jdk_42_method_56_code 11 = .ok (.iload_n 1, 1) := by decide +kernel
theorem d13_12 : decode jdk_42_method_56_code 12 = .ok (.invokestatic 495, 3) := by decide +kernel
theorem d13_15 : decode jdk_42_method_56_code 15 = .ok (.ireturn, 1) := by decide +kernel
theorem pn_13 : plainName "java/lang/String" = true := by first | (simp [plainName, overriddenIn]; done) | decide +kernel
theorem ef_13 (m : MethodId) (x0 : Addr) (x1 : Int32) : entryFrame m #[(.ref x0), (.int x1)] 2 = mkF m 0 #[.val (.ref x0), .val (.int x1)] [] := by first | (simp [entryFrame, mkF, argsToLocals, Value.category]; done) | rfl
def Q13 (Z : State) (r0 : Addr) (p1 : Int32) (rb : Addr) (kk : ClassId) (zz : Int32) (vs : List Value) (dv : Value) (w0 : Int32) (fm : Value) (cs : Int32) (h0 : Heap) (n0 : Nat) (v : Option Value) (h : Heap) (L : List Loc) : Prop := v = some (.int (own_cc w0)) ∧ Fr n0 L ∧ h = h0
set_option maxRecDepth 65536 in
set_option maxHeartbeats 40000000 in
theorem rm13 (l : Launch) (Z : State) (a0 : Array Value) (hw : ∀ d ∈ tables_1, d.before a0 Z = true) (ws : List Jvm.Cond) (r0 : Addr) (p1 : Int32) (rb : Addr) (kk : ClassId) (zz : Int32) (vs : List Value) (dv : Value) (w0 : Int32) (fm : Value) (cs : Int32) (h0 : Heap) (n0 : Nat) (Z0 : n0 ≤ h0.size) (E0 : Exa Z h0 r0 "java/lang/String") (F0 : Fld Z h0 r0 "java/lang/String" "value" "[B" (.ref rb)) (V : Arv Z h0 rb kk .byte zz vs dv) (hi0 : ¬ p1 < 0 ∧ p1 < zz) (ha0 : vs.getD p1.toNatClampNeg dv = .int w0) (SF : Sta Z h0 "jdk/internal/util/Preconditions" "SIOOBE_FORMATTER" "Ljava/util/function/BiFunction;" fm) (hfm : fm.isRef = true) (SC : Sta Z h0 "java/lang/String" "COMPACT_STRINGS" "Z" (.int cs)) (hcs : ¬ cs = (0 : Int32)) (C0 : Fld Z h0 r0 "java/lang/String" "coder" "B" (.int (0 : Int32))) :
    MetFree l (⟨"java/lang/String", "charAt", "(I)C"⟩ : MethodName) (head1 (Jvm.Cond.code (⟨"java/lang/String", "charAt", "(I)C"⟩ : MethodName) jdk_42_method_56_code 2 (some .char) :: ws) ({ frames := 3, cells := 0, slots := 0, locals := 40 } : Room)) (fun a U => a = #[(.ref r0), (.int p1)] ∧ Z.Warmed39 U.vm ∧ U.heap = h0) (fun _ _ _ _ _ => True) (fun _ U o U' => ∃ v L, o = .returned v ∧ Q13 Z r0 p1 rb kk zz vs dv w0 fm cs h0 n0 v U'.heap L ∧ FrameEnd U o U' L ({ frames := 3, cells := 0, slots := 0, locals := 40 } : Room).cells ({ frames := 3, cells := 0, slots := 0, locals := 40 } : Room).slots) := by
  refine MetFree.of_bodySF (plainFor_of_name pn_13) hisR ?_
  intro p e s m args below meth c s₁ Bd hml0 hP hK
  obtain ⟨rfl, hZ, hh⟩ := hP
  have hx := Bd.exec
  have hby := Bd.bytes
  have hml : c.maxLocals = 2 := hml0
  have hown : s.vm.findClass "java/lang/String" = some m.cls := findClass_of_methodNamed Bd.named
  have hnm := (name_of_methodNamed Bd.named Bd.method).1
  have X0 : Stand p l e ({ frames := 3, cells := 0, slots := 0, locals := 40 } : Room) s m #[(.ref r0), (.int p1)] below meth c s₁ [] 0 0 := Stand.of_body Bd
  have e0 : s₁.heap = h0 := by rw [← hh, Bd.state]; rfl
  have N0 := Fr.nil n0
  have pre0 : ∀ t, Steps p.tables e below (s₁.setTop (mkF m 0 #[.val (.ref r0), .val (.int p1)] [])) t → Steps p.tables e below (s₁.setTop (entryFrame m #[(.ref r0), (.int p1)] 2)) t := fun t k => castTop (ef_13 m r0 p1) k
  have c1 : ∀ t, Steps p.tables e below (s₁.setTop (mkF m 1 #[.val (.ref r0), .val (.int p1)] [(.ref r0)])) t → Steps p.tables e below (s₁.setTop (mkF m 0 #[.val (.ref r0), .val (.int p1)] [])) t := by
    intro t kt
    show Steps p.tables e below (s₁.setTop (mkF m 0 #[.val (.ref r0), .val (.int p1)] [])) _
    refine XS.aloadN X0.here hx rfl (hb hby d13_0) rfl rfl ?_
    exact kt
  obtain ⟨cq2, kq2, q2a, q2b, q2c⟩ := isOf hZ e0 E0
  obtain ⟨_, _, ⟨T3, L3, k3, n3⟩, -, X3, ⟨Lc3, hQ3, l3, y3, z3⟩, st3⟩ := X0.virtualBack hx (y := (⟨"java/lang/String", "isLatin1", "()Z"⟩ : MethodName)) (z := (⟨"java/lang/String", "isLatin1", "()Z"⟩ : MethodName)) hown (mvT hZ (hw _ (List.mem_of_getElem? (i := 84) rfl))) (mvT hZ (hw _ (List.mem_of_getElem? (i := 85) rfl))) (notFace_of_selects (args := #[]) (mvT hZ (hw _ (List.mem_of_getElem? (i := 87) rfl)))) (mvT hZ (hw _ (List.mem_of_getElem? (i := 87) rfl))) (mvT hZ (hw _ (List.mem_of_getElem? (i := 86) rfl))) (by decide) (backOf (W := 0) (rm14 l Z a0 hw [] r0 cs h0 n0 Z0 SC hcs C0) hZ (hw _ (List.mem_of_getElem? (i := 88) rfl)) (hw _ (List.mem_of_getElem? (i := 28) rfl)) (by decide) (by decide)) q2a q2c (g := (mkF m 1 #[.val (.ref r0), .val (.int p1)] [(.ref r0)])) rfl (by rw [hml]; rfl) (Steps.refl _) (argsL := []) (rest := []) (lenOf pd_2 rfl) rfl (by show 2 * 0 + _ ≤ _; exact Nat.le_of_eq rfl) (hb hby d13_1) (fun _ _ => ⟨rfl, e0, (by decide : 0 + 0 ≤ _), (by decide : 0 + 0 ≤ _)⟩)
  dsimp only [Pt.U, Pt.locs, Pt.cells, Pt.slots] at X3 l3 y3 z3 st3 hQ3
  subst l3 y3 z3
  obtain ⟨rfl, N3q, e3⟩ := hQ3
  have N3 := Fr.app N0 N3q
  have c5 : ∀ t, Steps p.tables e below (T3.setTop (mkF m 8 #[.val (.ref r0), .val (.int p1)] [(.ref r0)])) t → Steps p.tables e below (T3.setTop (mkF m 4 #[.val (.ref r0), .val (.int p1)] [(.int (1 : Int32))])) t := by
    intro t kt
    show Steps p.tables e below (T3.setTop (mkF m 4 #[.val (.ref r0), .val (.int p1)] [(.int (1 : Int32))])) _
    refine XS.ifNo X3.here hx rfl (hb hby d13_4) rfl ((if0 _ _).trans (feq (by decide : ¬ ((1 : Int32) = (0 : Int32)))).1) ?_
    show Steps p.tables e below (T3.setTop (mkF m 7 #[.val (.ref r0), .val (.int p1)] [])) _
    refine XS.aloadN X3.here hx rfl (hb hby d13_7) rfl rfl ?_
    exact kt
  obtain ⟨T4, X4, e4, st4⟩ := getF X3 hx hZ hown (host := "") (Or.inl (hw _ (List.mem_of_getElem? (i := 53) rfl))) Via.refl e3 F0 (g := (mkF m 8 #[.val (.ref r0), .val (.int p1)] [(.ref r0)])) rfl rfl (hb hby d13_8)
  have c6 : ∀ t, Steps p.tables e below (T4.setTop (mkF m 12 #[.val (.ref r0), .val (.int p1)] [(.int p1), (.ref rb)])) t → Steps p.tables e below (T4.setTop (mkF m 11 #[.val (.ref r0), .val (.int p1)] [(.ref rb)])) t := by
    intro t kt
    show Steps p.tables e below (T4.setTop (mkF m 11 #[.val (.ref r0), .val (.int p1)] [(.ref rb)])) _
    refine XS.iloadN X4.here hx rfl (hb hby d13_11) rfl ?_
    exact kt
  obtain ⟨_, _, ⟨T7, L7, k7, n7⟩, -, X7, ⟨Lc7, hQ7, l7, y7, z7⟩, st7⟩ := Jvm.LawKit.callS X4 hx (y := (⟨"java/lang/StringLatin1", "charAt", "([BI)C"⟩ : MethodName)) hown (mvT hZ (hw _ (List.mem_of_getElem? (i := 89) rfl))) (mvT hZ (hw _ (List.mem_of_getElem? (i := 90) rfl))) (mvT hZ (hw _ (List.mem_of_getElem? (i := 91) rfl))) (mvT hZ (hw _ (List.mem_of_getElem? (i := 92) rfl))) (by decide) (backOf (W := 0) (rm15 l Z a0 hw [] rb p1 kk zz vs dv w0 fm h0 n0 Z0 V hi0 ha0 SF hfm) hZ (hw _ (List.mem_of_getElem? (i := 92) rfl)) (hw _ (List.mem_of_getElem? (i := 91) rfl)) (by decide) (by decide)) (g := (mkF m 12 #[.val (.ref r0), .val (.int p1)] [(.int p1), (.ref rb)])) rfl (by rw [hml]; rfl) (argsL := [(.ref rb), (.int p1)]) (rest := []) (lenOf pd_3 rfl) rfl (by show 2 * 0 + _ ≤ _; exact Nat.le_of_eq rfl) (hb hby d13_12) (fun _ _ => ⟨rfl, e4, (by decide : 0 + 0 ≤ _), (by decide : 0 + 0 ≤ _)⟩)
  dsimp only [Pt.U, Pt.locs, Pt.cells, Pt.slots] at X7 l7 y7 z7 st7 hQ7
  subst l7 y7 z7
  obtain ⟨rfl, N7q, e7⟩ := hQ7
  have N7 := Fr.app N3 N7q
  obtain ⟨fs, hr, hrun, hended, hW, hsame⟩ := X7.leave (v := some (.int ((own_ch w0).toUInt32.toUInt16.toUInt32.toInt32))) (fun h => by rw [Bd.returns] at h; cases h)
  refine ⟨_, _, pre0 _ (c1 _ (st3.trans (c5 _ (st4 _ (c6 _ (st7 _ (?_))))))), hrun, hended, _, _, rfl, ?_, ⟨_, rfl⟩, hW, hsame.mono (by decide) (by decide)⟩
  · show Steps p.tables e below (T7.setTop (mkF m 15 #[.val (.ref r0), .val (.int p1)] [(.int (own_ch w0))])) _
    exact retN X7 hx (t := .char) Bd.returns (by simp) (hb hby d13_15) hr
  · show Q13 Z r0 p1 rb kk zz vs dv w0 fm cs h0 n0 _ T7.heap _
    rw [e7]
    exact ⟨congrArg (fun z => some (Value.int z)) (show ((own_ch w0).toUInt32.toUInt16.toUInt32.toInt32) = (own_cc w0) from by rfl), N7, rfl⟩
theorem d12_0 : decode jdk_42_method_152_code 0 = .ok (.getstatic 38, 3) := by decide +kernel
theorem d12_3 : decode jdk_42_method_152_code 3 = .ok (.ifCond .eq 10, 3) := by decide +kernel
theorem d12_6 : decode jdk_42_method_152_code 6 = .ok (.aload_n 0, 1) := by decide +kernel
theorem d12_7 : decode jdk_42_method_152_code 7 = .ok (.getfield 15, 3) := by decide +kernel
theorem d12_10 : decode jdk_42_method_152_code 10 = .ok (.goto 4, 3) := by decide +kernel
theorem d12_14 : decode jdk_42_method_152_code 14 = .ok (.ireturn, 1) := by decide +kernel
theorem pn_12 : plainName "java/lang/String" = true := by first | (simp [plainName, overriddenIn]; done) | decide +kernel
theorem ef_12 (m : MethodId) (x0 : Addr) : entryFrame m #[(.ref x0)] 1 = mkF m 0 #[.val (.ref x0)] [] := by first | (simp [entryFrame, mkF, argsToLocals, Value.category]; done) | rfl
def Q12 (Z : State) (r0 : Addr) (cs : Int32) (h0 : Heap) (n0 : Nat) (v : Option Value) (h : Heap) (L : List Loc) : Prop := v = some (.int (0 : Int32)) ∧ Fr n0 L ∧ h = h0
set_option maxRecDepth 65536 in
set_option maxHeartbeats 40000000 in
theorem rm12 (l : Launch) (Z : State) (a0 : Array Value) (hw : ∀ d ∈ tables_1, d.before a0 Z = true) (ws : List Jvm.Cond) (r0 : Addr) (cs : Int32) (h0 : Heap) (n0 : Nat) (Z0 : n0 ≤ h0.size) (SC : Sta Z h0 "java/lang/String" "COMPACT_STRINGS" "Z" (.int cs)) (hcs : ¬ cs = (0 : Int32)) (C0 : Fld Z h0 r0 "java/lang/String" "coder" "B" (.int (0 : Int32))) :
    MetFree l (⟨"java/lang/String", "coder", "()B"⟩ : MethodName) (head1 (Jvm.Cond.code (⟨"java/lang/String", "coder", "()B"⟩ : MethodName) jdk_42_method_152_code 1 (some .byte) :: ws) ({ frames := 0, cells := 0, slots := 0, locals := 0 } : Room)) (fun a U => a = #[(.ref r0)] ∧ Z.Warmed39 U.vm ∧ U.heap = h0) (fun _ _ _ _ _ => True) (fun _ U o U' => ∃ v L, o = .returned v ∧ Q12 Z r0 cs h0 n0 v U'.heap L ∧ FrameEnd U o U' L ({ frames := 0, cells := 0, slots := 0, locals := 0 } : Room).cells ({ frames := 0, cells := 0, slots := 0, locals := 0 } : Room).slots) := by
  refine MetFree.of_bodySF (plainFor_of_name pn_12) hisR ?_
  intro p e s m args below meth c s₁ Bd hml0 hP hK
  obtain ⟨rfl, hZ, hh⟩ := hP
  have hx := Bd.exec
  have hby := Bd.bytes
  have hml : c.maxLocals = 1 := hml0
  have hown : s.vm.findClass "java/lang/String" = some m.cls := findClass_of_methodNamed Bd.named
  have hnm := (name_of_methodNamed Bd.named Bd.method).1
  have X0 : Stand p l e ({ frames := 0, cells := 0, slots := 0, locals := 0 } : Room) s m #[(.ref r0)] below meth c s₁ [] 0 0 := Stand.of_body Bd
  have e0 : s₁.heap = h0 := by rw [← hh, Bd.state]; rfl
  have N0 := Fr.nil n0
  have pre0 : ∀ t, Steps p.tables e below (s₁.setTop (mkF m 0 #[.val (.ref r0)] [])) t → Steps p.tables e below (s₁.setTop (entryFrame m #[(.ref r0)] 1)) t := fun t k => castTop (ef_12 m r0) k
  obtain ⟨T1, X1, e1, st1⟩ := getS2 X0 hx hZ hown (host := "") (Or.inl (hw _ (List.mem_of_getElem? (i := 39) rfl))) Via.refl e0 SC (g := (mkF m 0 #[.val (.ref r0)] [])) rfl (hb hby d12_0)
  have hd2 : ¬ (cs = (0 : Int32)) := hcs
  have c4 : ∀ t, Steps p.tables e below (T1.setTop (mkF m 7 #[.val (.ref r0)] [(.ref r0)])) t → Steps p.tables e below (T1.setTop (mkF m 3 #[.val (.ref r0)] [(.int cs)])) t := by
    intro t kt
    show Steps p.tables e below (T1.setTop (mkF m 3 #[.val (.ref r0)] [(.int cs)])) _
    refine XS.ifNo X1.here hx rfl (hb hby d12_3) rfl ((if0 _ _).trans (feq hd2).1) ?_
    show Steps p.tables e below (T1.setTop (mkF m 6 #[.val (.ref r0)] [])) _
    refine XS.aloadN X1.here hx rfl (hb hby d12_6) rfl rfl ?_
    exact kt
  obtain ⟨T3, X3, e3, st3⟩ := getF X1 hx hZ hown (host := "") (Or.inl (hw _ (List.mem_of_getElem? (i := 51) rfl))) Via.refl e1 C0 (g := (mkF m 7 #[.val (.ref r0)] [(.ref r0)])) rfl rfl (hb hby d12_7)
  have c5 : ∀ t, Steps p.tables e below (T3.setTop (mkF m 14 #[.val (.ref r0)] [(.int (0 : Int32))])) t → Steps p.tables e below (T3.setTop (mkF m 10 #[.val (.ref r0)] [(.int (0 : Int32))])) t := by
    intro t kt
    show Steps p.tables e below (T3.setTop (mkF m 10 #[.val (.ref r0)] [(.int (0 : Int32))])) _
    refine XS.goto X3.here hx rfl (pc0 := 10) (pc' := 14) rfl (hb hby d12_10) (by decide) (by decide) ?_
    exact kt
  obtain ⟨fs, hr, hrun, hended, hW, hsame⟩ := X3.leave (v := some (.int (0 : Int32))) (fun h => by rw [Bd.returns] at h; cases h)
  refine ⟨_, _, pre0 _ (st1 _ (c4 _ (st3 _ (c5 _ (?_))))), hrun, hended, _, _, rfl, ?_, ⟨_, rfl⟩, hW, hsame.mono (by decide) (by decide)⟩
  · show Steps p.tables e below (T3.setTop (mkF m 14 #[.val (.ref r0)] [(.int (0 : Int32))])) _
    exact retN X3 hx (t := .byte) Bd.returns (by simp) (hb hby d12_14) hr
  · show Q12 Z r0 cs h0 n0 _ T3.heap _
    rw [e3]
    exact ⟨congrArg (fun z => some (Value.int z)) (show (0 : Int32) = (0 : Int32) from by rfl), N0, rfl⟩
theorem d11_0 : decode jdk_42_method_54_code 0 = .ok (.aload_n 0, 1) := by decide +kernel
theorem d11_1 : decode jdk_42_method_54_code 1 = .ok (.getfield 9, 3) := by decide +kernel
theorem d11_4 : decode jdk_42_method_54_code 4 = .ok (.arraylength, 1) := by decide +kernel
theorem d11_5 : decode jdk_42_method_54_code 5 = .ok (.aload_n 0, 1) := by decide +kernel
theorem d11_6 : decode jdk_42_method_54_code 6 = .ok (.invokevirtual 335, 3) := by decide +kernel
theorem d11_9 : decode jdk_42_method_54_code 9 = .ok (.ishr, 1) := by decide +kernel
theorem d11_10 : decode jdk_42_method_54_code 10 = .ok (.ireturn, 1) := by decide +kernel
theorem pn_11 : plainName "java/lang/String" = true := by first | (simp [plainName, overriddenIn]; done) | decide +kernel
theorem ef_11 (m : MethodId) (x0 : Addr) : entryFrame m #[(.ref x0)] 1 = mkF m 0 #[.val (.ref x0)] [] := by first | (simp [entryFrame, mkF, argsToLocals, Value.category]; done) | rfl
def Q11 (Z : State) (r0 : Addr) (rb : Addr) (kk : ClassId) (zz : Int32) (vs : List Value) (dv : Value) (cs : Int32) (h0 : Heap) (n0 : Nat) (v : Option Value) (h : Heap) (L : List Loc) : Prop := v = some (.int zz) ∧ Fr n0 L ∧ h = h0
set_option maxRecDepth 65536 in
set_option maxHeartbeats 40000000 in
theorem rm11 (l : Launch) (Z : State) (a0 : Array Value) (hw : ∀ d ∈ tables_1, d.before a0 Z = true) (ws : List Jvm.Cond) (r0 : Addr) (rb : Addr) (kk : ClassId) (zz : Int32) (vs : List Value) (dv : Value) (cs : Int32) (h0 : Heap) (n0 : Nat) (Z0 : n0 ≤ h0.size) (E0 : Exa Z h0 r0 "java/lang/String") (F0 : Fld Z h0 r0 "java/lang/String" "value" "[B" (.ref rb)) (V : Arv Z h0 rb kk .byte zz vs dv) (SC : Sta Z h0 "java/lang/String" "COMPACT_STRINGS" "Z" (.int cs)) (hcs : ¬ cs = (0 : Int32)) (C0 : Fld Z h0 r0 "java/lang/String" "coder" "B" (.int (0 : Int32))) :
    MetFree l (⟨"java/lang/String", "length", "()I"⟩ : MethodName) (head1 (Jvm.Cond.code (⟨"java/lang/String", "length", "()I"⟩ : MethodName) jdk_42_method_54_code 1 (some .int) :: ws) ({ frames := 1, cells := 0, slots := 0, locals := 13 } : Room)) (fun a U => a = #[(.ref r0)] ∧ Z.Warmed39 U.vm ∧ U.heap = h0) (fun _ _ _ _ _ => True) (fun _ U o U' => ∃ v L, o = .returned v ∧ Q11 Z r0 rb kk zz vs dv cs h0 n0 v U'.heap L ∧ FrameEnd U o U' L ({ frames := 1, cells := 0, slots := 0, locals := 13 } : Room).cells ({ frames := 1, cells := 0, slots := 0, locals := 13 } : Room).slots) := by
  refine MetFree.of_bodySF (plainFor_of_name pn_11) hisR ?_
  intro p e s m args below meth c s₁ Bd hml0 hP hK
  obtain ⟨rfl, hZ, hh⟩ := hP
  have hx := Bd.exec
  have hby := Bd.bytes
  have hml : c.maxLocals = 1 := hml0
  have hown : s.vm.findClass "java/lang/String" = some m.cls := findClass_of_methodNamed Bd.named
  have hnm := (name_of_methodNamed Bd.named Bd.method).1
  have X0 : Stand p l e ({ frames := 1, cells := 0, slots := 0, locals := 13 } : Room) s m #[(.ref r0)] below meth c s₁ [] 0 0 := Stand.of_body Bd
  have e0 : s₁.heap = h0 := by rw [← hh, Bd.state]; rfl
  have N0 := Fr.nil n0
  have pre0 : ∀ t, Steps p.tables e below (s₁.setTop (mkF m 0 #[.val (.ref r0)] [])) t → Steps p.tables e below (s₁.setTop (entryFrame m #[(.ref r0)] 1)) t := fun t k => castTop (ef_11 m r0) k
  have c2 : ∀ t, Steps p.tables e below (s₁.setTop (mkF m 1 #[.val (.ref r0)] [(.ref r0)])) t → Steps p.tables e below (s₁.setTop (mkF m 0 #[.val (.ref r0)] [])) t := by
    intro t kt
    show Steps p.tables e below (s₁.setTop (mkF m 0 #[.val (.ref r0)] [])) _
    refine XS.aloadN X0.here hx rfl (hb hby d11_0) rfl rfl ?_
    exact kt
  obtain ⟨T1, X1, e1, st1⟩ := getF X0 hx hZ hown (host := "") (Or.inl (hw _ (List.mem_of_getElem? (i := 53) rfl))) Via.refl e0 F0 (g := (mkF m 1 #[.val (.ref r0)] [(.ref r0)])) rfl rfl (hb hby d11_1)
  have Vc3 := V
  obtain ⟨cl3, Ar3, qk3, S3, M3, H3, G3⟩ := Vc3
  have c4 : ∀ t, Steps p.tables e below (T1.setTop (mkF m 6 #[.val (.ref r0)] [(.ref r0), (.int zz)])) t → Steps p.tables e below (T1.setTop (mkF m 4 #[.val (.ref r0)] [(.ref rb)])) t := by
    intro t kt
    show Steps p.tables e below (T1.setTop (mkF m 4 #[.val (.ref r0)] [(.ref rb)])) _
    refine X1.arraylength hx (by rw [e1]; exact Ar3.1) (State.isArrayOf_alike hZ.alike Ar3.2.1) (g := (mkF m 4 #[.val (.ref r0)] [(.ref rb)])) rfl rfl (hb hby d11_4) _ ?_
    rw [len_of S3 M3]
    show Steps p.tables e below (T1.setTop (mkF m 5 #[.val (.ref r0)] [(.int zz)])) _
    refine XS.aloadN X1.here hx rfl (hb hby d11_5) rfl rfl ?_
    exact kt
  obtain ⟨cq5, kq5, q5a, q5b, q5c⟩ := isOf hZ e1 E0
  obtain ⟨_, _, ⟨T6, L6, k6, n6⟩, -, X6, ⟨Lc6, hQ6, l6, y6, z6⟩, st6⟩ := X1.virtualBack hx (y := (⟨"java/lang/String", "coder", "()B"⟩ : MethodName)) (z := (⟨"java/lang/String", "coder", "()B"⟩ : MethodName)) hown (mvT hZ (hw _ (List.mem_of_getElem? (i := 74) rfl))) (mvT hZ (hw _ (List.mem_of_getElem? (i := 75) rfl))) (notFace_of_selects (args := #[]) (mvT hZ (hw _ (List.mem_of_getElem? (i := 77) rfl)))) (mvT hZ (hw _ (List.mem_of_getElem? (i := 77) rfl))) (mvT hZ (hw _ (List.mem_of_getElem? (i := 76) rfl))) (by decide) (backOf (W := 1) (rm12 l Z a0 hw [] r0 cs h0 n0 Z0 SC hcs C0) hZ (hw _ (List.mem_of_getElem? (i := 78) rfl)) (hw _ (List.mem_of_getElem? (i := 28) rfl)) (by decide) (by decide)) q5a q5c (g := (mkF m 6 #[.val (.ref r0)] [(.ref r0), (.int zz)])) rfl (by rw [hml]; rfl) (Steps.refl _) (argsL := []) (rest := [(.int zz)]) (lenOf pd_4 rfl) rfl (by show 2 * 0 + _ ≤ _; exact Nat.le_of_eq rfl) (hb hby d11_6) (fun _ _ => ⟨rfl, e1, (by decide : 0 + 0 ≤ _), (by decide : 0 + 0 ≤ _)⟩)
  dsimp only [Pt.U, Pt.locs, Pt.cells, Pt.slots] at X6 l6 y6 z6 st6 hQ6
  subst l6 y6 z6
  obtain ⟨rfl, N6q, e6⟩ := hQ6
  have N6 := Fr.app N0 N6q
  have c7 : ∀ t, Steps p.tables e below (T6.setTop (mkF m 10 #[.val (.ref r0)] [(.int (zz >>> ((0 : Int32) &&& 31)))])) t → Steps p.tables e below (T6.setTop (mkF m 9 #[.val (.ref r0)] [(.int (0 : Int32)), (.int zz)])) t := by
    intro t kt
    show Steps p.tables e below (T6.setTop (mkF m 9 #[.val (.ref r0)] [(.int (0 : Int32)), (.int zz)])) _
    refine XS.ishr X6.here hx rfl (hb hby d11_9) rfl ?_
    exact kt
  obtain ⟨fs, hr, hrun, hended, hW, hsame⟩ := X6.leave (v := some (.int (zz >>> ((0 : Int32) &&& 31)))) (fun h => by rw [Bd.returns] at h; cases h)
  refine ⟨_, _, pre0 _ (c2 _ (st1 _ (c4 _ (st6.trans (c7 _ (?_)))))), hrun, hended, _, _, rfl, ?_, ⟨_, rfl⟩, hW, hsame.mono (by decide) (by decide)⟩
  · show Steps p.tables e below (T6.setTop (mkF m 10 #[.val (.ref r0)] [(.int (zz >>> ((0 : Int32) &&& 31)))])) _
    exact retI X6 hx Bd.returns (hb hby d11_10) hr
  · show Q11 Z r0 rb kk zz vs dv cs h0 n0 _ T6.heap _
    rw [e6]
    exact ⟨congrArg (fun z => some (Value.int z)) (show (zz >>> ((0 : Int32) &&& 31)) = zz from by exact own_shr0 zz), N6, rfl⟩
theorem d9_10 : decode prog_17_method_2_code 10 = .ok (.iload_n 2, 1) := by decide +kernel
theorem d9_11 : decode prog_17_method_2_code 11 = .ok (.aload_n 0, 1) := by decide +kernel
theorem d9_12 : decode prog_17_method_2_code 12 = .ok (.invokevirtual 17, 3) := by decide +kernel
theorem d9_15 : decode prog_17_method_2_code 15 = .ok (.if_icmp .ge 18, 3) := by decide +kernel
theorem d9_18 : decode prog_17_method_2_code 18 = .ok (.aload_n 1, 1) := by decide +kernel
theorem d9_19 : decode prog_17_method_2_code 19 = .ok (.aload_n 0, 1) := by decide +kernel
theorem d9_20 : decode prog_17_method_2_code 20 = .ok (.iload_n 2, 1) := by decide +kernel
theorem d9_21 : decode prog_17_method_2_code 21 = .ok (.invokevirtual 23, 3) := by decide +kernel
theorem d9_24 : decode prog_17_method_2_code 24 = .ok (.invokevirtual 27, 3) := by decide +kernel
theorem d9_27 : decode prog_17_method_2_code 27 = .ok (.iinc 2 1, 3) := by decide +kernel
theorem d9_30 : decode prog_17_method_2_code 30 = .ok (.goto (-20), 3) := by decide +kernel
set_option maxRecDepth 65536 in
set_option maxHeartbeats 40000000 in
theorem tpd {p : Program} {l : Launch} {e : Env} {s : State} {m : MethodId} {args : Array Value} {below : List Frame} {meth : Method} {c : Code} {T0 : State} {locs : List Loc} {Z : State} {a0 : Array Value} {h0 : Heap} {n0 : Nat} (r0 pr rb : Addr) (kb : ClassId) (tx : List Int32) (i : Nat) (cs : Int32) (fm : Value) (ng : Int64) (ne : Int32) (dg : Int32)
    (X0 : Stand p l e ({ frames := 6, cells := 1, slots := 6, locals := 120 } : Room) s m args below meth c T0 locs 1 6) (hx : p.tables.exec = Jvm.exec) (hZ : Z.Warmed39 s.vm) (hw : ∀ d ∈ tables_1, d.before a0 Z = true) (hby : c.code = prog_17_method_2_code) (hml : c.maxLocals = 3) (hown : s.vm.findClass "com/example/sequence_set/sequenceset/cli/DecimalParser" = some m.cls) (e0 : T0.heap = h0) (N0 : Fr n0 locs) (Z0 : n0 ≤ h0.size) (E_t : Exa Z h0 r0 "java/lang/String") (F_v : Fld Z h0 r0 "java/lang/String" "value" "[B" (.ref rb)) (F_c : Fld Z h0 r0 "java/lang/String" "coder" "B" (.int (0 : Int32))) (V_t : Arv Z h0 rb kb .byte (Int32.ofNat tx.length) ((tx.map (fun c => c.toInt8.toInt32)).map Value.int) (.int 0)) (F_ng : Fld Z h0 pr "com/example/sequence_set/sequenceset/cli/DecimalParser" "negated" "J" (.long ng)) (F_ne : Fld Z h0 pr "com/example/sequence_set/sequenceset/cli/DecimalParser" "negative" "Z" (.int ne)) (F_ch : Fld Z h0 pr "com/example/sequence_set/sequenceset/cli/DecimalParser" "characters" "I" (.int (Int32.ofNat i))) (F_dg : Fld Z h0 pr "com/example/sequence_set/sequenceset/cli/DecimalParser" "digits" "I" (.int dg)) (F_wf : Fld Z h0 pr "com/example/sequence_set/sequenceset/cli/DecimalParser" "wellFormed" "Z" (.int (1 : Int32))) (F_ir : Fld Z h0 pr "com/example/sequence_set/sequenceset/cli/DecimalParser" "inRange" "Z" (.int (1 : Int32))) (E_pr : Exa Z h0 pr "com/example/sequence_set/sequenceset/cli/DecimalParser") (g_pr : n0 ≤ pr) (SF : Sta Z h0 "jdk/internal/util/Preconditions" "SIOOBE_FORMATTER" "Ljava/util/function/BiFunction;" fm) (hfm : fm.isRef = true) (SC : Sta Z h0 "java/lang/String" "COMPACT_STRINGS" "Z" (.int cs)) (hcs : ¬ cs = (0 : Int32)) (hne1 : r0 ≠ pr) (hne2 : rb ≠ pr) (hN : tx.length ≤ 20) (hp : ∀ c ∈ tx, ¬ c < 0 ∧ ¬ (255 : Int32) < c) (hi : i < tx.length) (hk : own_dg (tx.getD i 0) ng) :
    ∃ (T' : State) (locs' : List Loc) (h' : Heap), Stand p l e ({ frames := 6, cells := 1, slots := 6, locals := 120 } : Room) s m args below meth c T' locs' 1 6 ∧ T'.heap = h' ∧ Fr n0 locs' ∧ Keep h0 h' [pr] ∧ Exa Z h' pr "com/example/sequence_set/sequenceset/cli/DecimalParser" ∧ Fld Z h' pr "com/example/sequence_set/sequenceset/cli/DecimalParser" "negated" "J" (.long ((ng * (10 : Int64)) - ((tx.getD i 0) - (48 : Int32)).toInt64)) ∧ Fld Z h' pr "com/example/sequence_set/sequenceset/cli/DecimalParser" "negative" "Z" (.int ne) ∧ Fld Z h' pr "com/example/sequence_set/sequenceset/cli/DecimalParser" "characters" "I" (.int ((Int32.ofNat i) + (1 : Int32))) ∧ Fld Z h' pr "com/example/sequence_set/sequenceset/cli/DecimalParser" "digits" "I" (.int (dg + (1 : Int32))) ∧ Fld Z h' pr "com/example/sequence_set/sequenceset/cli/DecimalParser" "wellFormed" "Z" (.int (1 : Int32)) ∧ Fld Z h' pr "com/example/sequence_set/sequenceset/cli/DecimalParser" "inRange" "Z" (.int (1 : Int32)) ∧ ∀ t, Steps p.tables e below (T'.setTop (mkF m 10 #[.val (.ref r0), .val (.ref pr), .val (.int ((Int32.ofNat i) + (1 : Int32)))] [])) t → Steps p.tables e below (T0.setTop (mkF m 10 #[.val (.ref r0), .val (.ref pr), .val (.int (Int32.ofNat i))] [])) t := by
  have c1 : ∀ t, Steps p.tables e below (T0.setTop (mkF m 12 #[.val (.ref r0), .val (.ref pr), .val (.int (Int32.ofNat i))] [(.ref r0), (.int (Int32.ofNat i))])) t → Steps p.tables e below (T0.setTop (mkF m 10 #[.val (.ref r0), .val (.ref pr), .val (.int (Int32.ofNat i))] [])) t := by
    intro t kt
    show Steps p.tables e below (T0.setTop (mkF m 10 #[.val (.ref r0), .val (.ref pr), .val (.int (Int32.ofNat i))] [])) _
    refine XS.iloadN X0.here hx rfl (hb hby d9_10) rfl ?_
    show Steps p.tables e below (T0.setTop (mkF m 11 #[.val (.ref r0), .val (.ref pr), .val (.int (Int32.ofNat i))] [(.int (Int32.ofNat i))])) _
    refine XS.aloadN X0.here hx rfl (hb hby d9_11) rfl rfl ?_
    exact kt
  obtain ⟨cq2, kq2, q2a, q2b, q2c⟩ := isOf hZ e0 E_t
  obtain ⟨_, _, ⟨T3, L3, k3, n3⟩, -, X3, ⟨Lc3, hQ3, l3, y3, z3⟩, st3⟩ := X0.virtualBack hx (y := (⟨"java/lang/String", "length", "()I"⟩ : MethodName)) (z := (⟨"java/lang/String", "length", "()I"⟩ : MethodName)) hown (mvT hZ (hw _ (List.mem_of_getElem? (i := 69) rfl))) (mvT hZ (hw _ (List.mem_of_getElem? (i := 70) rfl))) (notFace_of_selects (args := #[]) (mvT hZ (hw _ (List.mem_of_getElem? (i := 72) rfl)))) (mvT hZ (hw _ (List.mem_of_getElem? (i := 72) rfl))) (mvT hZ (hw _ (List.mem_of_getElem? (i := 71) rfl))) (by decide) (backOf (W := 1) (rm11 l Z a0 hw [] r0 rb kb (Int32.ofNat tx.length) ((tx.map (fun c => c.toInt8.toInt32)).map Value.int) (.int 0) cs h0 n0 Z0 E_t F_v V_t SC hcs F_c) hZ (hw _ (List.mem_of_getElem? (i := 73) rfl)) (hw _ (List.mem_of_getElem? (i := 28) rfl)) (by decide) (by decide)) q2a q2c (g := (mkF m 12 #[.val (.ref r0), .val (.ref pr), .val (.int (Int32.ofNat i))] [(.ref r0), (.int (Int32.ofNat i))])) rfl (by rw [hml]; rfl) (Steps.refl _) (argsL := []) (rest := [(.int (Int32.ofNat i))]) (lenOf pd_5 rfl) rfl (by show 2 * 0 + _ ≤ _; exact Nat.le_of_eq rfl) (hb hby d9_12) (fun _ _ => ⟨rfl, e0, (by decide : 1 + 0 ≤ _), (by decide : 6 + 0 ≤ _)⟩)
  dsimp only [Pt.U, Pt.locs, Pt.cells, Pt.slots] at X3 l3 y3 z3 st3 hQ3
  subst l3 y3 z3
  obtain ⟨rfl, N3q, e3⟩ := hQ3
  have N3 := Fr.app N0 N3q
  have hd4 : (Int32.ofNat i) < (Int32.ofNat tx.length) := by rw [own_lt i tx.length (by omega) (by omega)]; exact hi
  have c5 : ∀ t, Steps p.tables e below (T3.setTop (mkF m 21 #[.val (.ref r0), .val (.ref pr), .val (.int (Int32.ofNat i))] [(.int (Int32.ofNat i)), (.ref r0), (.ref pr)])) t → Steps p.tables e below (T3.setTop (mkF m 15 #[.val (.ref r0), .val (.ref pr), .val (.int (Int32.ofNat i))] [(.int (Int32.ofNat tx.length)), (.int (Int32.ofNat i))])) t := by
    intro t kt
    show Steps p.tables e below (T3.setTop (mkF m 15 #[.val (.ref r0), .val (.ref pr), .val (.int (Int32.ofNat i))] [(.int (Int32.ofNat tx.length)), (.int (Int32.ofNat i))])) _
    refine XS.icmpNo X3.here hx rfl (hb hby d9_15) rfl (tlt hd4).2.1 ?_
    show Steps p.tables e below (T3.setTop (mkF m 18 #[.val (.ref r0), .val (.ref pr), .val (.int (Int32.ofNat i))] [])) _
    refine XS.aloadN X3.here hx rfl (hb hby d9_18) rfl rfl ?_
    show Steps p.tables e below (T3.setTop (mkF m 19 #[.val (.ref r0), .val (.ref pr), .val (.int (Int32.ofNat i))] [(.ref pr)])) _
    refine XS.aloadN X3.here hx rfl (hb hby d9_19) rfl rfl ?_
    show Steps p.tables e below (T3.setTop (mkF m 20 #[.val (.ref r0), .val (.ref pr), .val (.int (Int32.ofNat i))] [(.ref r0), (.ref pr)])) _
    refine XS.iloadN X3.here hx rfl (hb hby d9_20) rfl ?_
    exact kt
  obtain ⟨cq6, kq6, q6a, q6b, q6c⟩ := isOf hZ e3 E_t
  obtain ⟨_, _, ⟨T7, L7, k7, n7⟩, -, X7, ⟨Lc7, hQ7, l7, y7, z7⟩, st7⟩ := X3.virtualBack hx (y := (⟨"java/lang/String", "charAt", "(I)C"⟩ : MethodName)) (z := (⟨"java/lang/String", "charAt", "(I)C"⟩ : MethodName)) hown (mvT hZ (hw _ (List.mem_of_getElem? (i := 79) rfl))) (mvT hZ (hw _ (List.mem_of_getElem? (i := 80) rfl))) (notFace_of_selects (args := #[]) (mvT hZ (hw _ (List.mem_of_getElem? (i := 82) rfl)))) (mvT hZ (hw _ (List.mem_of_getElem? (i := 82) rfl))) (mvT hZ (hw _ (List.mem_of_getElem? (i := 81) rfl))) (by decide) (backOf (W := 1) (rm13 l Z a0 hw [] r0 (Int32.ofNat i) rb kb (Int32.ofNat tx.length) ((tx.map (fun c => c.toInt8.toInt32)).map Value.int) (.int 0) ((tx.getD i 0).toInt8.toInt32) fm cs h0 n0 Z0 E_t F_v V_t (own_in i tx.length hi hN) (own_bat tx i hi hN _) SF hfm SC hcs F_c) hZ (hw _ (List.mem_of_getElem? (i := 83) rfl)) (hw _ (List.mem_of_getElem? (i := 28) rfl)) (by decide) (by decide)) q6a q6c (g := (mkF m 21 #[.val (.ref r0), .val (.ref pr), .val (.int (Int32.ofNat i))] [(.int (Int32.ofNat i)), (.ref r0), (.ref pr)])) rfl (by rw [hml]; rfl) (Steps.refl _) (argsL := [(.int (Int32.ofNat i))]) (rest := [(.ref pr)]) (lenOf pd_6 rfl) rfl (by show 2 * 0 + _ ≤ _; exact Nat.le_of_eq rfl) (hb hby d9_21) (fun _ _ => ⟨rfl, e3, (by decide : 1 + 0 ≤ _), (by decide : 6 + 0 ≤ _)⟩)
  dsimp only [Pt.U, Pt.locs, Pt.cells, Pt.slots] at X7 l7 y7 z7 st7 hQ7
  subst l7 y7 z7
  obtain ⟨rfl, N7q, e7⟩ := hQ7
  have N7 := Fr.app N3 N7q
  have c8 : ∀ t, Steps p.tables e below (T7.setTop (mkF m 24 #[.val (.ref r0), .val (.ref pr), .val (.int (Int32.ofNat i))] [(.int (tx.getD i 0)), (.ref pr)])) t → Steps p.tables e below (T7.setTop (mkF m 24 #[.val (.ref r0), .val (.ref pr), .val (.int (Int32.ofNat i))] [(.int (own_cc ((tx.getD i 0).toInt8.toInt32))), (.ref pr)])) t := fun t kt => castTop (congrArg (fun zv => (mkF m 24 #[.val (.ref r0), .val (.ref pr), .val (.int (Int32.ofNat i))] [(.int zv), (.ref pr)])) (show (own_cc ((tx.getD i 0).toInt8.toInt32)) = (tx.getD i 0) from own_ccv _ (hp _ (own_mem tx i hi)).1 (hp _ (own_mem tx i hi)).2)) kt
  obtain ⟨cq9, kq9, q9a, q9b, q9c⟩ := isOf hZ e7 E_pr
  obtain ⟨_, _, ⟨T10, L10, k10, n10⟩, -, X10, ⟨Lc10, hQ10, l10, y10, z10⟩, st10⟩ := X7.virtualBack hx (y := (⟨"com/example/sequence_set/sequenceset/cli/DecimalParser", "accept", "(I)V"⟩ : MethodName)) (z := (⟨"com/example/sequence_set/sequenceset/cli/DecimalParser", "accept", "(I)V"⟩ : MethodName)) hown (mvT hZ (hw _ (List.mem_of_getElem? (i := 101) rfl))) (mvT hZ (hw _ (List.mem_of_getElem? (i := 102) rfl))) (notFace_of_selects (args := #[]) (mvT hZ (hw _ (List.mem_of_getElem? (i := 104) rfl)))) (mvT hZ (hw _ (List.mem_of_getElem? (i := 104) rfl))) (mvT hZ (hw _ (List.mem_of_getElem? (i := 103) rfl))) (by decide) (backOf (W := 0) (rmAd l Z a0 hw [] pr (tx.getD i 0) ng ne (Int32.ofNat i) dg h0 n0 Z0 F_ng F_ne F_ch F_dg F_wf F_ir E_pr g_pr hk) hZ (hw _ (List.mem_of_getElem? (i := 105) rfl)) (hw _ (List.mem_of_getElem? (i := 57) rfl)) (by decide) (by decide)) q9a q9c (g := (mkF m 24 #[.val (.ref r0), .val (.ref pr), .val (.int (Int32.ofNat i))] [(.int (tx.getD i 0)), (.ref pr)])) rfl (by rw [hml]; rfl) (Steps.refl _) (argsL := [(.int (tx.getD i 0))]) (rest := []) (lenOf pd_7 rfl) rfl (by show 2 * 0 + _ ≤ _; exact Nat.le_of_eq rfl) (hb hby d9_24) (fun _ _ => ⟨rfl, e7, (by decide : 1 + 0 ≤ _), (by decide : 6 + 0 ≤ _)⟩)
  dsimp only [Pt.U, Pt.locs, Pt.cells, Pt.slots] at X10 l10 y10 z10 st10 hQ10
  subst l10 y10 z10
  obtain ⟨rfl, N10q, Kq10, Eq10, Fq10_0, Fq10_1, Fq10_2, Fq10_3, Fq10_4, Fq10_5⟩ := hQ10
  have N10 := Fr.app N7 N10q
  have c11 : ∀ t, Steps p.tables e below (T10.setTop (mkF m 10 #[.val (.ref r0), .val (.ref pr), .val (.int ((Int32.ofNat i) + (1 : Int32)))] [])) t → Steps p.tables e below (T10.setTop (mkF m 27 #[.val (.ref r0), .val (.ref pr), .val (.int (Int32.ofNat i))] [])) t := by
    intro t kt
    show Steps p.tables e below (T10.setTop (mkF m 27 #[.val (.ref r0), .val (.ref pr), .val (.int (Int32.ofNat i))] [])) _
    refine XS.iinc X10.here hx rfl (hb hby d9_27) rfl (l' := #[.val (.ref r0), .val (.ref pr), .val (.int ((Int32.ofNat i) + (1 : Int32)))]) rfl ?_
    show Steps p.tables e below (T10.setTop (mkF m 30 #[.val (.ref r0), .val (.ref pr), .val (.int ((Int32.ofNat i) + (1 : Int32)))] [])) _
    refine XS.goto X10.here hx rfl (pc0 := 30) (pc' := 10) rfl (hb hby d9_30) (by decide) (by decide) ?_
    exact kt
  have f12 := ((Keep.refl h0 [pr]).trans Kq10 (allS (Or.inl (List.mem_of_getElem? (i := 0) rfl)) all0))
  exact ⟨T10, _, T10.heap, X10, rfl, N10, f12, Eq10, Fq10_0, Fq10_1, Fq10_2, Fq10_3, Fq10_4, Fq10_5, fun t kt => c1 _ (st3.trans (c5 _ (st7.trans (c8 _ (st10.trans (c11 _ (kt)))))))⟩
set_option maxRecDepth 65536 in
set_option maxHeartbeats 40000000 in
theorem tps {p : Program} {l : Launch} {e : Env} {s : State} {m : MethodId} {args : Array Value} {below : List Frame} {meth : Method} {c : Code} {T0 : State} {locs : List Loc} {Z : State} {a0 : Array Value} {h0 : Heap} {n0 : Nat} (r0 pr rb : Addr) (kb : ClassId) (tx : List Int32) (i : Nat) (cs : Int32) (fm : Value)
    (X0 : Stand p l e ({ frames := 6, cells := 1, slots := 6, locals := 120 } : Room) s m args below meth c T0 locs 1 6) (hx : p.tables.exec = Jvm.exec) (hZ : Z.Warmed39 s.vm) (hw : ∀ d ∈ tables_1, d.before a0 Z = true) (hby : c.code = prog_17_method_2_code) (hml : c.maxLocals = 3) (hown : s.vm.findClass "com/example/sequence_set/sequenceset/cli/DecimalParser" = some m.cls) (e0 : T0.heap = h0) (N0 : Fr n0 locs) (Z0 : n0 ≤ h0.size) (E_t : Exa Z h0 r0 "java/lang/String") (F_v : Fld Z h0 r0 "java/lang/String" "value" "[B" (.ref rb)) (F_c : Fld Z h0 r0 "java/lang/String" "coder" "B" (.int (0 : Int32))) (V_t : Arv Z h0 rb kb .byte (Int32.ofNat tx.length) ((tx.map (fun c => c.toInt8.toInt32)).map Value.int) (.int 0)) (F_ng : Fld Z h0 pr "com/example/sequence_set/sequenceset/cli/DecimalParser" "negated" "J" (.long (0 : Int64))) (F_ne : Fld Z h0 pr "com/example/sequence_set/sequenceset/cli/DecimalParser" "negative" "Z" (.int (0 : Int32))) (F_ch : Fld Z h0 pr "com/example/sequence_set/sequenceset/cli/DecimalParser" "characters" "I" (.int (0 : Int32))) (F_dg : Fld Z h0 pr "com/example/sequence_set/sequenceset/cli/DecimalParser" "digits" "I" (.int (0 : Int32))) (F_wf : Fld Z h0 pr "com/example/sequence_set/sequenceset/cli/DecimalParser" "wellFormed" "Z" (.int (1 : Int32))) (F_ir : Fld Z h0 pr "com/example/sequence_set/sequenceset/cli/DecimalParser" "inRange" "Z" (.int (1 : Int32))) (E_pr : Exa Z h0 pr "com/example/sequence_set/sequenceset/cli/DecimalParser") (g_pr : n0 ≤ pr) (SF : Sta Z h0 "jdk/internal/util/Preconditions" "SIOOBE_FORMATTER" "Ljava/util/function/BiFunction;" fm) (hfm : fm.isRef = true) (SC : Sta Z h0 "java/lang/String" "COMPACT_STRINGS" "Z" (.int cs)) (hcs : ¬ cs = (0 : Int32)) (hne1 : r0 ≠ pr) (hne2 : rb ≠ pr) (hN : tx.length ≤ 20) (hp : ∀ c ∈ tx, ¬ c < 0 ∧ ¬ (255 : Int32) < c) (hi : i < tx.length) (hsg : tx.getD i 0 = 45 ∨ tx.getD i 0 = 43) :
    ∃ (T' : State) (locs' : List Loc) (h' : Heap), Stand p l e ({ frames := 6, cells := 1, slots := 6, locals := 120 } : Room) s m args below meth c T' locs' 1 6 ∧ T'.heap = h' ∧ Fr n0 locs' ∧ Keep h0 h' [pr] ∧ Exa Z h' pr "com/example/sequence_set/sequenceset/cli/DecimalParser" ∧ Fld Z h' pr "com/example/sequence_set/sequenceset/cli/DecimalParser" "negated" "J" (.long (0 : Int64)) ∧ Fld Z h' pr "com/example/sequence_set/sequenceset/cli/DecimalParser" "negative" "Z" (.int (if tx.getD i 0 = (45 : Int32) then 1 else 0)) ∧ Fld Z h' pr "com/example/sequence_set/sequenceset/cli/DecimalParser" "characters" "I" (.int ((0 : Int32) + (1 : Int32))) ∧ Fld Z h' pr "com/example/sequence_set/sequenceset/cli/DecimalParser" "digits" "I" (.int (0 : Int32)) ∧ Fld Z h' pr "com/example/sequence_set/sequenceset/cli/DecimalParser" "wellFormed" "Z" (.int (1 : Int32)) ∧ Fld Z h' pr "com/example/sequence_set/sequenceset/cli/DecimalParser" "inRange" "Z" (.int (1 : Int32)) ∧ ∀ t, Steps p.tables e below (T'.setTop (mkF m 10 #[.val (.ref r0), .val (.ref pr), .val (.int ((Int32.ofNat i) + (1 : Int32)))] [])) t → Steps p.tables e below (T0.setTop (mkF m 10 #[.val (.ref r0), .val (.ref pr), .val (.int (Int32.ofNat i))] [])) t := by
  have c1 : ∀ t, Steps p.tables e below (T0.setTop (mkF m 12 #[.val (.ref r0), .val (.ref pr), .val (.int (Int32.ofNat i))] [(.ref r0), (.int (Int32.ofNat i))])) t → Steps p.tables e below (T0.setTop (mkF m 10 #[.val (.ref r0), .val (.ref pr), .val (.int (Int32.ofNat i))] [])) t := by
    intro t kt
    show Steps p.tables e below (T0.setTop (mkF m 10 #[.val (.ref r0), .val (.ref pr), .val (.int (Int32.ofNat i))] [])) _
    refine XS.iloadN X0.here hx rfl (hb hby d9_10) rfl ?_
    show Steps p.tables e below (T0.setTop (mkF m 11 #[.val (.ref r0), .val (.ref pr), .val (.int (Int32.ofNat i))] [(.int (Int32.ofNat i))])) _
    refine XS.aloadN X0.here hx rfl (hb hby d9_11) rfl rfl ?_
    exact kt
  obtain ⟨cq2, kq2, q2a, q2b, q2c⟩ := isOf hZ e0 E_t
  obtain ⟨_, _, ⟨T3, L3, k3, n3⟩, -, X3, ⟨Lc3, hQ3, l3, y3, z3⟩, st3⟩ := X0.virtualBack hx (y := (⟨"java/lang/String", "length", "()I"⟩ : MethodName)) (z := (⟨"java/lang/String", "length", "()I"⟩ : MethodName)) hown (mvT hZ (hw _ (List.mem_of_getElem? (i := 69) rfl))) (mvT hZ (hw _ (List.mem_of_getElem? (i := 70) rfl))) (notFace_of_selects (args := #[]) (mvT hZ (hw _ (List.mem_of_getElem? (i := 72) rfl)))) (mvT hZ (hw _ (List.mem_of_getElem? (i := 72) rfl))) (mvT hZ (hw _ (List.mem_of_getElem? (i := 71) rfl))) (by decide) (backOf (W := 1) (rm11 l Z a0 hw [] r0 rb kb (Int32.ofNat tx.length) ((tx.map (fun c => c.toInt8.toInt32)).map Value.int) (.int 0) cs h0 n0 Z0 E_t F_v V_t SC hcs F_c) hZ (hw _ (List.mem_of_getElem? (i := 73) rfl)) (hw _ (List.mem_of_getElem? (i := 28) rfl)) (by decide) (by decide)) q2a q2c (g := (mkF m 12 #[.val (.ref r0), .val (.ref pr), .val (.int (Int32.ofNat i))] [(.ref r0), (.int (Int32.ofNat i))])) rfl (by rw [hml]; rfl) (Steps.refl _) (argsL := []) (rest := [(.int (Int32.ofNat i))]) (lenOf pd_5 rfl) rfl (by show 2 * 0 + _ ≤ _; exact Nat.le_of_eq rfl) (hb hby d9_12) (fun _ _ => ⟨rfl, e0, (by decide : 1 + 0 ≤ _), (by decide : 6 + 0 ≤ _)⟩)
  dsimp only [Pt.U, Pt.locs, Pt.cells, Pt.slots] at X3 l3 y3 z3 st3 hQ3
  subst l3 y3 z3
  obtain ⟨rfl, N3q, e3⟩ := hQ3
  have N3 := Fr.app N0 N3q
  have hd4 : (Int32.ofNat i) < (Int32.ofNat tx.length) := by rw [own_lt i tx.length (by omega) (by omega)]; exact hi
  have c5 : ∀ t, Steps p.tables e below (T3.setTop (mkF m 21 #[.val (.ref r0), .val (.ref pr), .val (.int (Int32.ofNat i))] [(.int (Int32.ofNat i)), (.ref r0), (.ref pr)])) t → Steps p.tables e below (T3.setTop (mkF m 15 #[.val (.ref r0), .val (.ref pr), .val (.int (Int32.ofNat i))] [(.int (Int32.ofNat tx.length)), (.int (Int32.ofNat i))])) t := by
    intro t kt
    show Steps p.tables e below (T3.setTop (mkF m 15 #[.val (.ref r0), .val (.ref pr), .val (.int (Int32.ofNat i))] [(.int (Int32.ofNat tx.length)), (.int (Int32.ofNat i))])) _
    refine XS.icmpNo X3.here hx rfl (hb hby d9_15) rfl (tlt hd4).2.1 ?_
    show Steps p.tables e below (T3.setTop (mkF m 18 #[.val (.ref r0), .val (.ref pr), .val (.int (Int32.ofNat i))] [])) _
    refine XS.aloadN X3.here hx rfl (hb hby d9_18) rfl rfl ?_
    show Steps p.tables e below (T3.setTop (mkF m 19 #[.val (.ref r0), .val (.ref pr), .val (.int (Int32.ofNat i))] [(.ref pr)])) _
    refine XS.aloadN X3.here hx rfl (hb hby d9_19) rfl rfl ?_
    show Steps p.tables e below (T3.setTop (mkF m 20 #[.val (.ref r0), .val (.ref pr), .val (.int (Int32.ofNat i))] [(.ref r0), (.ref pr)])) _
    refine XS.iloadN X3.here hx rfl (hb hby d9_20) rfl ?_
    exact kt
  obtain ⟨cq6, kq6, q6a, q6b, q6c⟩ := isOf hZ e3 E_t
  obtain ⟨_, _, ⟨T7, L7, k7, n7⟩, -, X7, ⟨Lc7, hQ7, l7, y7, z7⟩, st7⟩ := X3.virtualBack hx (y := (⟨"java/lang/String", "charAt", "(I)C"⟩ : MethodName)) (z := (⟨"java/lang/String", "charAt", "(I)C"⟩ : MethodName)) hown (mvT hZ (hw _ (List.mem_of_getElem? (i := 79) rfl))) (mvT hZ (hw _ (List.mem_of_getElem? (i := 80) rfl))) (notFace_of_selects (args := #[]) (mvT hZ (hw _ (List.mem_of_getElem? (i := 82) rfl)))) (mvT hZ (hw _ (List.mem_of_getElem? (i := 82) rfl))) (mvT hZ (hw _ (List.mem_of_getElem? (i := 81) rfl))) (by decide) (backOf (W := 1) (rm13 l Z a0 hw [] r0 (Int32.ofNat i) rb kb (Int32.ofNat tx.length) ((tx.map (fun c => c.toInt8.toInt32)).map Value.int) (.int 0) ((tx.getD i 0).toInt8.toInt32) fm cs h0 n0 Z0 E_t F_v V_t (own_in i tx.length hi hN) (own_bat tx i hi hN _) SF hfm SC hcs F_c) hZ (hw _ (List.mem_of_getElem? (i := 83) rfl)) (hw _ (List.mem_of_getElem? (i := 28) rfl)) (by decide) (by decide)) q6a q6c (g := (mkF m 21 #[.val (.ref r0), .val (.ref pr), .val (.int (Int32.ofNat i))] [(.int (Int32.ofNat i)), (.ref r0), (.ref pr)])) rfl (by rw [hml]; rfl) (Steps.refl _) (argsL := [(.int (Int32.ofNat i))]) (rest := [(.ref pr)]) (lenOf pd_6 rfl) rfl (by show 2 * 0 + _ ≤ _; exact Nat.le_of_eq rfl) (hb hby d9_21) (fun _ _ => ⟨rfl, e3, (by decide : 1 + 0 ≤ _), (by decide : 6 + 0 ≤ _)⟩)
  dsimp only [Pt.U, Pt.locs, Pt.cells, Pt.slots] at X7 l7 y7 z7 st7 hQ7
  subst l7 y7 z7
  obtain ⟨rfl, N7q, e7⟩ := hQ7
  have N7 := Fr.app N3 N7q
  have c8 : ∀ t, Steps p.tables e below (T7.setTop (mkF m 24 #[.val (.ref r0), .val (.ref pr), .val (.int (Int32.ofNat i))] [(.int (tx.getD i 0)), (.ref pr)])) t → Steps p.tables e below (T7.setTop (mkF m 24 #[.val (.ref r0), .val (.ref pr), .val (.int (Int32.ofNat i))] [(.int (own_cc ((tx.getD i 0).toInt8.toInt32))), (.ref pr)])) t := fun t kt => castTop (congrArg (fun zv => (mkF m 24 #[.val (.ref r0), .val (.ref pr), .val (.int (Int32.ofNat i))] [(.int zv), (.ref pr)])) (show (own_cc ((tx.getD i 0).toInt8.toInt32)) = (tx.getD i 0) from own_ccv _ (hp _ (own_mem tx i hi)).1 (hp _ (own_mem tx i hi)).2)) kt
  obtain ⟨cq9, kq9, q9a, q9b, q9c⟩ := isOf hZ e7 E_pr
  obtain ⟨_, _, ⟨T10, L10, k10, n10⟩, -, X10, ⟨Lc10, hQ10, l10, y10, z10⟩, st10⟩ := X7.virtualBack hx (y := (⟨"com/example/sequence_set/sequenceset/cli/DecimalParser", "accept", "(I)V"⟩ : MethodName)) (z := (⟨"com/example/sequence_set/sequenceset/cli/DecimalParser", "accept", "(I)V"⟩ : MethodName)) hown (mvT hZ (hw _ (List.mem_of_getElem? (i := 101) rfl))) (mvT hZ (hw _ (List.mem_of_getElem? (i := 102) rfl))) (notFace_of_selects (args := #[]) (mvT hZ (hw _ (List.mem_of_getElem? (i := 104) rfl)))) (mvT hZ (hw _ (List.mem_of_getElem? (i := 104) rfl))) (mvT hZ (hw _ (List.mem_of_getElem? (i := 103) rfl))) (by decide) (backOf (W := 0) (rmAs l Z a0 hw [] pr (tx.getD i 0)  h0 n0 Z0 F_ng F_ne F_ch F_dg F_wf F_ir E_pr g_pr hsg) hZ (hw _ (List.mem_of_getElem? (i := 105) rfl)) (hw _ (List.mem_of_getElem? (i := 57) rfl)) (by decide) (by decide)) q9a q9c (g := (mkF m 24 #[.val (.ref r0), .val (.ref pr), .val (.int (Int32.ofNat i))] [(.int (tx.getD i 0)), (.ref pr)])) rfl (by rw [hml]; rfl) (Steps.refl _) (argsL := [(.int (tx.getD i 0))]) (rest := []) (lenOf pd_7 rfl) rfl (by show 2 * 0 + _ ≤ _; exact Nat.le_of_eq rfl) (hb hby d9_24) (fun _ _ => ⟨rfl, e7, (by decide : 1 + 0 ≤ _), (by decide : 6 + 0 ≤ _)⟩)
  dsimp only [Pt.U, Pt.locs, Pt.cells, Pt.slots] at X10 l10 y10 z10 st10 hQ10
  subst l10 y10 z10
  obtain ⟨rfl, N10q, Kq10, Eq10, Fq10_0, Fq10_1, Fq10_2, Fq10_3, Fq10_4, Fq10_5⟩ := hQ10
  have N10 := Fr.app N7 N10q
  have c11 : ∀ t, Steps p.tables e below (T10.setTop (mkF m 10 #[.val (.ref r0), .val (.ref pr), .val (.int ((Int32.ofNat i) + (1 : Int32)))] [])) t → Steps p.tables e below (T10.setTop (mkF m 27 #[.val (.ref r0), .val (.ref pr), .val (.int (Int32.ofNat i))] [])) t := by
    intro t kt
    show Steps p.tables e below (T10.setTop (mkF m 27 #[.val (.ref r0), .val (.ref pr), .val (.int (Int32.ofNat i))] [])) _
    refine XS.iinc X10.here hx rfl (hb hby d9_27) rfl (l' := #[.val (.ref r0), .val (.ref pr), .val (.int ((Int32.ofNat i) + (1 : Int32)))]) rfl ?_
    show Steps p.tables e below (T10.setTop (mkF m 30 #[.val (.ref r0), .val (.ref pr), .val (.int ((Int32.ofNat i) + (1 : Int32)))] [])) _
    refine XS.goto X10.here hx rfl (pc0 := 30) (pc' := 10) rfl (hb hby d9_30) (by decide) (by decide) ?_
    exact kt
  have f12 := ((Keep.refl h0 [pr]).trans Kq10 (allS (Or.inl (List.mem_of_getElem? (i := 0) rfl)) all0))
  exact ⟨T10, _, T10.heap, X10, rfl, N10, f12, Eq10, Fq10_0, Fq10_1, Fq10_2, Fq10_3, Fq10_4, Fq10_5, fun t kt => c1 _ (st3.trans (c5 _ (st7.trans (c8 _ (st10.trans (c11 _ (kt)))))))⟩
set_option maxRecDepth 65536 in
set_option maxHeartbeats 40000000 in
theorem tpe {p : Program} {l : Launch} {e : Env} {s : State} {m : MethodId} {args : Array Value} {below : List Frame} {meth : Method} {c : Code} {T0 : State} {locs : List Loc} {Z : State} {a0 : Array Value} {h0 : Heap} {n0 : Nat} (r0 pr rb : Addr) (kb : ClassId) (tx : List Int32) (i : Nat) (cs : Int32) (fm : Value)
    (X0 : Stand p l e ({ frames := 6, cells := 1, slots := 6, locals := 120 } : Room) s m args below meth c T0 locs 1 6) (hx : p.tables.exec = Jvm.exec) (hZ : Z.Warmed39 s.vm) (hw : ∀ d ∈ tables_1, d.before a0 Z = true) (hby : c.code = prog_17_method_2_code) (hml : c.maxLocals = 3) (hown : s.vm.findClass "com/example/sequence_set/sequenceset/cli/DecimalParser" = some m.cls) (e0 : T0.heap = h0) (N0 : Fr n0 locs) (Z0 : n0 ≤ h0.size) (E_t : Exa Z h0 r0 "java/lang/String") (F_v : Fld Z h0 r0 "java/lang/String" "value" "[B" (.ref rb)) (F_c : Fld Z h0 r0 "java/lang/String" "coder" "B" (.int (0 : Int32))) (V_t : Arv Z h0 rb kb .byte (Int32.ofNat tx.length) ((tx.map (fun c => c.toInt8.toInt32)).map Value.int) (.int 0)) (SF : Sta Z h0 "jdk/internal/util/Preconditions" "SIOOBE_FORMATTER" "Ljava/util/function/BiFunction;" fm) (hfm : fm.isRef = true) (SC : Sta Z h0 "java/lang/String" "COMPACT_STRINGS" "Z" (.int cs)) (hcs : ¬ cs = (0 : Int32)) (hN : tx.length ≤ 20) (hi : i = tx.length) :
    ∃ (T' : State) (locs' : List Loc) (h' : Heap), Stand p l e ({ frames := 6, cells := 1, slots := 6, locals := 120 } : Room) s m args below meth c T' locs' 1 6 ∧ T'.heap = h' ∧ Fr n0 locs' ∧ Keep h0 h' [pr] ∧ h' = h0 ∧ ∀ t, Steps p.tables e below (T'.setTop (mkF m 33 #[.val (.ref r0), .val (.ref pr), .val (.int (Int32.ofNat i))] [])) t → Steps p.tables e below (T0.setTop (mkF m 10 #[.val (.ref r0), .val (.ref pr), .val (.int (Int32.ofNat i))] [])) t := by
  have c1 : ∀ t, Steps p.tables e below (T0.setTop (mkF m 12 #[.val (.ref r0), .val (.ref pr), .val (.int (Int32.ofNat i))] [(.ref r0), (.int (Int32.ofNat i))])) t → Steps p.tables e below (T0.setTop (mkF m 10 #[.val (.ref r0), .val (.ref pr), .val (.int (Int32.ofNat i))] [])) t := by
    intro t kt
    show Steps p.tables e below (T0.setTop (mkF m 10 #[.val (.ref r0), .val (.ref pr), .val (.int (Int32.ofNat i))] [])) _
    refine XS.iloadN X0.here hx rfl (hb hby d9_10) rfl ?_
    show Steps p.tables e below (T0.setTop (mkF m 11 #[.val (.ref r0), .val (.ref pr), .val (.int (Int32.ofNat i))] [(.int (Int32.ofNat i))])) _
    refine XS.aloadN X0.here hx rfl (hb hby d9_11) rfl rfl ?_
    exact kt
  obtain ⟨cq2, kq2, q2a, q2b, q2c⟩ := isOf hZ e0 E_t
  obtain ⟨_, _, ⟨T3, L3, k3, n3⟩, -, X3, ⟨Lc3, hQ3, l3, y3, z3⟩, st3⟩ := X0.virtualBack hx (y := (⟨"java/lang/String", "length", "()I"⟩ : MethodName)) (z := (⟨"java/lang/String", "length", "()I"⟩ : MethodName)) hown (mvT hZ (hw _ (List.mem_of_getElem? (i := 69) rfl))) (mvT hZ (hw _ (List.mem_of_getElem? (i := 70) rfl))) (notFace_of_selects (args := #[]) (mvT hZ (hw _ (List.mem_of_getElem? (i := 72) rfl)))) (mvT hZ (hw _ (List.mem_of_getElem? (i := 72) rfl))) (mvT hZ (hw _ (List.mem_of_getElem? (i := 71) rfl))) (by decide) (backOf (W := 1) (rm11 l Z a0 hw [] r0 rb kb (Int32.ofNat tx.length) ((tx.map (fun c => c.toInt8.toInt32)).map Value.int) (.int 0) cs h0 n0 Z0 E_t F_v V_t SC hcs F_c) hZ (hw _ (List.mem_of_getElem? (i := 73) rfl)) (hw _ (List.mem_of_getElem? (i := 28) rfl)) (by decide) (by decide)) q2a q2c (g := (mkF m 12 #[.val (.ref r0), .val (.ref pr), .val (.int (Int32.ofNat i))] [(.ref r0), (.int (Int32.ofNat i))])) rfl (by rw [hml]; rfl) (Steps.refl _) (argsL := []) (rest := [(.int (Int32.ofNat i))]) (lenOf pd_5 rfl) rfl (by show 2 * 0 + _ ≤ _; exact Nat.le_of_eq rfl) (hb hby d9_12) (fun _ _ => ⟨rfl, e0, (by decide : 1 + 0 ≤ _), (by decide : 6 + 0 ≤ _)⟩)
  dsimp only [Pt.U, Pt.locs, Pt.cells, Pt.slots] at X3 l3 y3 z3 st3 hQ3
  subst l3 y3 z3
  obtain ⟨rfl, N3q, e3⟩ := hQ3
  have N3 := Fr.app N0 N3q
  have hd4 : ¬ ((Int32.ofNat i) < (Int32.ofNat tx.length)) := by rw [own_lt i tx.length (by omega) (by omega)]; omega
  have c5 : ∀ t, Steps p.tables e below (T3.setTop (mkF m 33 #[.val (.ref r0), .val (.ref pr), .val (.int (Int32.ofNat i))] [])) t → Steps p.tables e below (T3.setTop (mkF m 15 #[.val (.ref r0), .val (.ref pr), .val (.int (Int32.ofNat i))] [(.int (Int32.ofNat tx.length)), (.int (Int32.ofNat i))])) t := by
    intro t kt
    show Steps p.tables e below (T3.setTop (mkF m 15 #[.val (.ref r0), .val (.ref pr), .val (.int (Int32.ofNat i))] [(.int (Int32.ofNat tx.length)), (.int (Int32.ofNat i))])) _
    refine XS.icmpYes X3.here hx rfl (pc0 := 15) (pc' := 33) rfl (hb hby d9_15) rfl (flt hd4).2.1 (by decide) (by decide) ?_
    exact kt
  exact ⟨T3, _, h0, X3, e3, N3, (Keep.refl h0 [pr]), rfl, fun t kt => c1 _ (st3.trans (c5 _ (kt)))⟩
set_option maxRecDepth 65536 in
set_option maxHeartbeats 40000000 in
theorem lparse {p : Program} {l : Launch} {e : Env} {s : State} {m : MethodId} {args : Array Value} {below : List Frame} {meth : Method} {c : Code} {Z : State} {a0 : Array Value} {n0 : Nat} (r0 pr rb : Addr) (kb : ClassId) (tx : List Int32) (cs : Int32) (fm : Value) (hx : p.tables.exec = Jvm.exec) (hZ : Z.Warmed39 s.vm) (hw : ∀ d ∈ tables_1, d.before a0 Z = true) (hby : c.code = prog_17_method_2_code) (hml : c.maxLocals = 3) (hown : s.vm.findClass "com/example/sequence_set/sequenceset/cli/DecimalParser" = some m.cls) (hne1 : r0 ≠ pr) (hne2 : rb ≠ pr) (hN : tx.length ≤ 20) (hp : ∀ c ∈ tx, ¬ c < 0 ∧ ¬ (255 : Int32) < c) (g_pr : n0 ≤ pr) (hfm : fm.isRef = true) (hcs : ¬ cs = (0 : Int32)) (hok : ∀ i, i < tx.length → own_ok tx i)
    (SC : Sta Z Z.heap "java/lang/String" "COMPACT_STRINGS" "Z" (.int cs)) (SF : Sta Z Z.heap "jdk/internal/util/Preconditions" "SIOOBE_FORMATTER" "Ljava/util/function/BiFunction;" fm) :
    ∀ (k i : Nat), i + k = tx.length → ∀ (T0 : State) (locs : List Loc) (h0 : Heap), Stand p l e ({ frames := 6, cells := 1, slots := 6, locals := 120 } : Room) s m args below meth c T0 locs 1 6 → T0.heap = h0 → Fr n0 locs → n0 ≤ h0.size → Old Z n0 h0 → Exa Z h0 r0 "java/lang/String" → Fld Z h0 r0 "java/lang/String" "value" "[B" (.ref rb) → Fld Z h0 r0 "java/lang/String" "coder" "B" (.int (0 : Int32)) → Arv Z h0 rb kb .byte (Int32.ofNat tx.length) ((tx.map (fun c => c.toInt8.toInt32)).map Value.int) (.int 0) → Exa Z h0 pr "com/example/sequence_set/sequenceset/cli/DecimalParser" → Fld Z h0 pr "com/example/sequence_set/sequenceset/cli/DecimalParser" "negated" "J" (.long (own_run tx i).1) → Fld Z h0 pr "com/example/sequence_set/sequenceset/cli/DecimalParser" "negative" "Z" (.int (own_run tx i).2.1) → Fld Z h0 pr "com/example/sequence_set/sequenceset/cli/DecimalParser" "characters" "I" (.int (Int32.ofNat i)) → Fld Z h0 pr "com/example/sequence_set/sequenceset/cli/DecimalParser" "digits" "I" (.int (own_run tx i).2.2) → Fld Z h0 pr "com/example/sequence_set/sequenceset/cli/DecimalParser" "wellFormed" "Z" (.int (1 : Int32)) → Fld Z h0 pr "com/example/sequence_set/sequenceset/cli/DecimalParser" "inRange" "Z" (.int (1 : Int32)) →
      ∃ (T' : State) (locs' : List Loc) (h' : Heap), Stand p l e ({ frames := 6, cells := 1, slots := 6, locals := 120 } : Room) s m args below meth c T' locs' 1 6 ∧ T'.heap = h' ∧ Fr n0 locs' ∧ Keep h0 h' [pr] ∧ Exa Z h' pr "com/example/sequence_set/sequenceset/cli/DecimalParser" ∧ Fld Z h' pr "com/example/sequence_set/sequenceset/cli/DecimalParser" "negated" "J" (.long (own_run tx tx.length).1) ∧ Fld Z h' pr "com/example/sequence_set/sequenceset/cli/DecimalParser" "negative" "Z" (.int (own_run tx tx.length).2.1) ∧ Fld Z h' pr "com/example/sequence_set/sequenceset/cli/DecimalParser" "characters" "I" (.int (Int32.ofNat tx.length)) ∧ Fld Z h' pr "com/example/sequence_set/sequenceset/cli/DecimalParser" "digits" "I" (.int (own_run tx tx.length).2.2) ∧ Fld Z h' pr "com/example/sequence_set/sequenceset/cli/DecimalParser" "wellFormed" "Z" (.int (1 : Int32)) ∧ Fld Z h' pr "com/example/sequence_set/sequenceset/cli/DecimalParser" "inRange" "Z" (.int (1 : Int32)) ∧ ∀ t, Steps p.tables e below (T'.setTop (mkF m 33 #[.val (.ref r0), .val (.ref pr), .val (.int (Int32.ofNat tx.length))] [])) t → Steps p.tables e below (T0.setTop (mkF m 10 #[.val (.ref r0), .val (.ref pr), .val (.int (Int32.ofNat i))] [])) t := by
  intro k
  induction k with
  | zero =>
    intro i hk T0 locs h0 X e0 N Z0 O E_t F_v F_c V_t E_p F1 F2 F3 F4 F5 F6
    obtain rfl : i = tx.length := by omega
    obtain ⟨T1, l1, h1, X1, e1, N1, K1, q1, s1⟩ := tpe r0 pr rb kb tx tx.length cs fm X hx hZ hw hby hml hown e0 N Z0 E_t F_v F_c V_t (SF.ext O.2) hfm (SC.ext O.2) hcs hN rfl
    subst q1
    exact ⟨T1, l1, _, X1, e1, N1, Keep.refl _ _, E_p, F1, F2, F3, F4, F5, F6, s1⟩
  | succ k ih =>
    intro i hk T0 locs h0 X e0 N Z0 O E_t F_v F_c V_t E_p F1 F2 F3 F4 F5 F6
    have hi : i < tx.length := by omega
    rcases hok i hi with ⟨rfl, hsg⟩ | hk'
    · obtain ⟨T1, l1, h1, X1, e1, N1, K1, a1, a2, a3, a4, a5, a6, a7, s1⟩ := tps r0 pr rb kb tx 0 cs fm X hx hZ hw hby hml hown e0 N Z0 E_t F_v F_c V_t F1 F2 F3 F4 F5 F6 E_p g_pr (SF.ext O.2) hfm (SC.ext O.2) hcs hne1 hne2 hN hp hi hsg
      have er : own_run tx 1 = ((0 : Int64), (if tx.getD 0 0 = 45 then 1 else 0), (0 : Int32)) := by unfold own_run; rw [if_pos ⟨rfl, hsg⟩]; rfl
      obtain ⟨T2, l2, h2, X2, e2, N2, K2, r⟩ := ih 1 (by omega) T1 l1 h1 X1 e1 N1 (Nat.le_trans Z0 K1.1) (O.keep K1 (allS g_pr all0)) (E_t.keep K1) (F_v.keep K1 (ninS hne1 nin0)) (F_c.keep K1 (ninS hne1 nin0)) (V_t.keep K1 (ninS hne2 nin0)) a1 (by rw [er]; exact a2) (by rw [er]; exact a3) a4 (by rw [er]; exact a5) a6 a7
      obtain ⟨b1, b2, b3, b4, b5, b6, b7, s2⟩ := r
      exact ⟨T2, l2, h2, X2, e2, N2, K1.trans K2 (fun _ q => Or.inl q), b1, b2, b3, b4, b5, b6, b7, fun t kt => s1 t (s2 t kt)⟩
    · obtain ⟨T1, l1, h1, X1, e1, N1, K1, a1, a2, a3, a4, a5, a6, a7, s1⟩ := tpd r0 pr rb kb tx i cs fm (own_run tx i).1 (own_run tx i).2.1 (own_run tx i).2.2 X hx hZ hw hby hml hown e0 N Z0 E_t F_v F_c V_t F1 F2 F3 F4 F5 F6 E_p g_pr (SF.ext O.2) hfm (SC.ext O.2) hcs hne1 hne2 hN hp hi hk'
      have er := own_run1 tx i hk'
      obtain ⟨T2, l2, h2, X2, e2, N2, K2, r⟩ := ih (i + 1) (by omega) T1 l1 h1 X1 e1 N1 (Nat.le_trans Z0 K1.1) (O.keep K1 (allS g_pr all0)) (E_t.keep K1) (F_v.keep K1 (ninS hne1 nin0)) (F_c.keep K1 (ninS hne1 nin0)) (V_t.keep K1 (ninS hne2 nin0)) a1 (by rw [er]; exact a2) (by rw [er]; exact a3) (by rw [← own_up i (by omega)]; exact a4) (by rw [er]; exact a5) a6 a7
      obtain ⟨b1, b2, b3, b4, b5, b6, b7, s2⟩ := r
      refine ⟨T2, l2, h2, X2, e2, N2, K1.trans K2 (fun _ q => Or.inl q), b1, b2, b3, b4, b5, b6, b7, fun t kt => s1 t ?_⟩
      rw [own_up i (by omega)]
      exact s2 t kt
theorem d9_0 : decode prog_17_method_2_code 0 = .ok (.new 8, 3) := by decide +kernel
theorem d9_3 : decode prog_17_method_2_code 3 = .ok (.dup, 1) := by decide +kernel
theorem d9_4 : decode prog_17_method_2_code 4 = .ok (.invokespecial 16, 3) := by decide +kernel
theorem d9_7 : decode prog_17_method_2_code 7 = .ok (.astore_n 1, 1) := by decide +kernel
theorem d9_8 : decode prog_17_method_2_code 8 = .ok (.iconst 0, 1) := by decide +kernel
theorem d9_9 : decode prog_17_method_2_code 9 = .ok (.istore_n 2, 1) := by decide +kernel
theorem d9_33 : decode prog_17_method_2_code 33 = .ok (.aload_n 1, 1) := by decide +kernel
theorem d9_34 : decode prog_17_method_2_code 34 = .ok (.invokevirtual 31, 3) := by decide +kernel
theorem d9_37 : decode prog_17_method_2_code 37 = .ok (.lreturn, 1) := by decide +kernel
theorem pn_9 : plainName "com/example/sequence_set/sequenceset/cli/DecimalParser" = true := by first | (simp [plainName, overriddenIn]; done) | decide +kernel
theorem ef_9 (m : MethodId) (x0 : Addr) : entryFrame m #[(.ref x0)] 3 = mkF m 0 #[.val (.ref x0), .unset, .unset] [] := by first | (simp [entryFrame, mkF, argsToLocals, Value.category]; done) | rfl
def Q9 (Z : State) (r0 : Addr) (rb : Addr) (kb : ClassId) (tx : List Int32) (cs : Int32) (fm : Value) (wv : Int64) (h0 : Heap) (n0 : Nat) (v : Option Value) (h : Heap) (L : List Loc) : Prop := v = some (.long wv) ∧ Fr n0 L ∧ Keep h0 h []
set_option maxRecDepth 65536 in
set_option maxHeartbeats 40000000 in
theorem rm9 (l : Launch) (Z : State) (a0 : Array Value) (hw : ∀ d ∈ tables_1, d.before a0 Z = true) (ws : List Jvm.Cond) (r0 : Addr) (rb : Addr) (kb : ClassId) (tx : List Int32) (cs : Int32) (fm : Value) (wv : Int64) (h0 : Heap) (n0 : Nat) (Z0 : n0 ≤ h0.size) (O0 : Old Z n0 h0) (SC : Sta Z Z.heap "java/lang/String" "COMPACT_STRINGS" "Z" (.int cs)) (hcs : ¬ cs = (0 : Int32)) (SF : Sta Z Z.heap "jdk/internal/util/Preconditions" "SIOOBE_FORMATTER" "Ljava/util/function/BiFunction;" fm) (hfm : fm.isRef = true) (hwv : own_val (own_run tx tx.length).1 (own_run tx tx.length).2.1 = wv) (E_t : Exa Z h0 r0 "java/lang/String") (F_v : Fld Z h0 r0 "java/lang/String" "value" "[B" (.ref rb)) (F_c : Fld Z h0 r0 "java/lang/String" "coder" "B" (.int (0 : Int32))) (V_t : Arv Z h0 rb kb .byte (Int32.ofNat tx.length) ((tx.map (fun c => c.toInt8.toInt32)).map Value.int) (.int 0)) (hN : tx.length ≤ 20) (hp : ∀ c ∈ tx, ¬ c < 0 ∧ ¬ (255 : Int32) < c) (hok : ∀ i, i < tx.length → own_ok tx i) (hdg : ¬ (own_run tx tx.length).2.2 = (0 : Int32)) (hng : (own_run tx tx.length).2.1 = (0 : Int32) → ¬ (own_run tx tx.length).1 = (-9223372036854775808 : Int64)) :
    MetFree l (⟨"com/example/sequence_set/sequenceset/cli/DecimalParser", "parse", "(Ljava/lang/String;)J"⟩ : MethodName) (head1 (Jvm.Cond.code (⟨"com/example/sequence_set/sequenceset/cli/DecimalParser", "parse", "(Ljava/lang/String;)J"⟩ : MethodName) prog_17_method_2_code 3 (some .long) :: ws) ({ frames := 6, cells := 1, slots := 6, locals := 120 } : Room)) (fun a U => a = #[(.ref r0)] ∧ Z.Warmed39 U.vm ∧ U.heap = h0) (fun _ _ _ _ _ => True) (fun _ U o U' => ∃ v L, o = .returned v ∧ Q9 Z r0 rb kb tx cs fm wv h0 n0 v U'.heap L ∧ FrameEnd U o U' L ({ frames := 6, cells := 1, slots := 6, locals := 120 } : Room).cells ({ frames := 6, cells := 1, slots := 6, locals := 120 } : Room).slots) := by
  refine MetFree.of_bodySF (plainFor_of_name pn_9) hisR ?_
  intro p e s m args below meth c s₁ Bd hml0 hP hK
  obtain ⟨rfl, hZ, hh⟩ := hP
  have hx := Bd.exec
  have hby := Bd.bytes
  have hml : c.maxLocals = 3 := hml0
  have hown : s.vm.findClass "com/example/sequence_set/sequenceset/cli/DecimalParser" = some m.cls := findClass_of_methodNamed Bd.named
  have hnm := (name_of_methodNamed Bd.named Bd.method).1
  have X0 : Stand p l e ({ frames := 6, cells := 1, slots := 6, locals := 120 } : Room) s m #[(.ref r0)] below meth c s₁ [] 0 0 := Stand.of_body Bd
  have e0 : s₁.heap = h0 := by rw [← hh, Bd.state]; rfl
  have N0 := Fr.nil n0
  have pre0 : ∀ t, Steps p.tables e below (s₁.setTop (mkF m 0 #[.val (.ref r0), .unset, .unset] [])) t → Steps p.tables e below (s₁.setTop (entryFrame m #[(.ref r0)] 3)) t := fun t k => castTop (ef_9 m r0) k
  obtain ⟨T1, h1, X1, e1, E1, A1, D1, U1, st1⟩ := newO X0 hx hZ hown (hw _ (List.mem_of_getElem? (i := 59) rfl)) (hw _ (List.mem_of_getElem? (i := 60) rfl)) (hw _ (List.mem_of_getElem? (i := 57) rfl)) e0 (g := (mkF m 0 #[.val (.ref r0), .unset, .unset] [])) rfl (hb hby d9_0) (by decide) (by decide)
  obtain ⟨b1, g1⟩ : ∃ z, z = h0.size := ⟨_, rfl⟩
  rw [← g1] at A1 D1 U1 st1
  have g_b1 : n0 ≤ b1 := Nat.le_trans Z0 (Nat.le_of_eq g1.symm)
  have sz_b1 : h0.size ≤ b1 := Nat.le_trans (Keep.refl h0 []).1 (Nat.le_of_eq g1.symm)
  have lt_r0_1 := E_t.lt
  have lt_rb_1 := V_t.lt
  have F1_wellFormed : Fld Z h1 b1 "com/example/sequence_set/sequenceset/cli/DecimalParser" "wellFormed" "Z" (.int (0 : Int32)) := D1 (Or.inl (hw _ (List.mem_of_getElem? (i := 66) rfl))) (ty := .boolean) (by decide)
  have F1_inRange : Fld Z h1 b1 "com/example/sequence_set/sequenceset/cli/DecimalParser" "inRange" "Z" (.int (0 : Int32)) := D1 (Or.inl (hw _ (List.mem_of_getElem? (i := 68) rfl))) (ty := .boolean) (by decide)
  have F1_characters : Fld Z h1 b1 "com/example/sequence_set/sequenceset/cli/DecimalParser" "characters" "I" (.int (0 : Int32)) := D1 (Or.inl (hw _ (List.mem_of_getElem? (i := 107) rfl))) (ty := .int) (by decide)
  have F1_negative : Fld Z h1 b1 "com/example/sequence_set/sequenceset/cli/DecimalParser" "negative" "Z" (.int (0 : Int32)) := D1 (Or.inl (hw _ (List.mem_of_getElem? (i := 109) rfl))) (ty := .boolean) (by decide)
  have F1_digits : Fld Z h1 b1 "com/example/sequence_set/sequenceset/cli/DecimalParser" "digits" "I" (.int (0 : Int32)) := D1 (Or.inl (hw _ (List.mem_of_getElem? (i := 111) rfl))) (ty := .int) (by decide)
  have F1_negated : Fld Z h1 b1 "com/example/sequence_set/sequenceset/cli/DecimalParser" "negated" "J" (.long (0 : Int64)) := D1 (Or.inl (hw _ (List.mem_of_getElem? (i := 113) rfl))) (ty := .long) (by decide)
  have c2 : ∀ t, Steps p.tables e below (T1.setTop (mkF m 4 #[.val (.ref r0), .unset, .unset] [(.ref b1), (.ref b1)])) t → Steps p.tables e below (T1.setTop (mkF m 3 #[.val (.ref r0), .unset, .unset] [(.ref b1)])) t := by
    intro t kt
    show Steps p.tables e below (T1.setTop (mkF m 3 #[.val (.ref r0), .unset, .unset] [(.ref b1)])) _
    refine XS.dup X1.here hx rfl (hb hby d9_3) rfl rfl ?_
    exact kt
  have f3 := (Nat.le_trans Z0 E1.1)
  obtain ⟨_, _, ⟨T4, L4, k4, n4⟩, -, X4, ⟨Lc4, hQ4, l4, y4, z4⟩, st4⟩ := X1.specialBack hx (y := (⟨"com/example/sequence_set/sequenceset/cli/DecimalParser", "<init>", "()V"⟩ : MethodName)) rfl hown (mvT hZ (hw _ (List.mem_of_getElem? (i := 61) rfl))) (mvT hZ (hw _ (List.mem_of_getElem? (i := 62) rfl))) (mvT hZ (hw _ (List.mem_of_getElem? (i := 63) rfl))) (by decide) (backOf (W := 1) (rm10 l Z a0 hw [] b1  h1 n0 f3 F1_negated F1_negative F1_characters F1_digits F1_wellFormed F1_inRange A1 g_b1) hZ (hw _ (List.mem_of_getElem? (i := 63) rfl)) (hw _ (List.mem_of_getElem? (i := 57) rfl)) (by decide) (by decide)) (g := (mkF m 4 #[.val (.ref r0), .unset, .unset] [(.ref b1), (.ref b1)])) rfl (by rw [hml]; rfl) (Steps.refl _) (a := b1) (argsL := []) (rest := [(.ref b1)]) (lenOf pd_8 rfl) rfl (by show 2 * 0 + _ ≤ _; exact Nat.le_of_eq rfl) (hb hby d9_4) (fun _ _ => ⟨rfl, e1, (by decide : 1 + 0 ≤ _), (by decide : 6 + 0 ≤ _)⟩)
  dsimp only [Pt.U, Pt.locs, Pt.cells, Pt.slots] at X4 l4 y4 z4 st4 hQ4
  subst l4 y4 z4
  obtain ⟨rfl, N4q, Kq4, Eq4, Fq4_0, Fq4_1, Fq4_2, Fq4_3, Fq4_4, Fq4_5⟩ := hQ4
  have N4 := Fr.app N0 N4q
  have c5 : ∀ t, Steps p.tables e below (T4.setTop (mkF m 10 #[.val (.ref r0), .val (.ref b1), .val (.int (0 : Int32))] [])) t → Steps p.tables e below (T4.setTop (mkF m 7 #[.val (.ref r0), .unset, .unset] [(.ref b1)])) t := by
    intro t kt
    show Steps p.tables e below (T4.setTop (mkF m 7 #[.val (.ref r0), .unset, .unset] [(.ref b1)])) _
    refine XS.astoreN X4.here hx rfl (hb hby d9_7) rfl rfl (l' := #[.val (.ref r0), .val (.ref b1), .unset]) rfl ?_
    show Steps p.tables e below (T4.setTop (mkF m 8 #[.val (.ref r0), .val (.ref b1), .unset] [])) _
    refine XS.iconst X4.here hx rfl (hb hby d9_8) ?_
    show Steps p.tables e below (T4.setTop (mkF m 9 #[.val (.ref r0), .val (.ref b1), .unset] [(.int (0 : Int32))])) _
    refine XS.istoreN X4.here hx rfl (hb hby d9_9) rfl (l' := #[.val (.ref r0), .val (.ref b1), .val (.int (0 : Int32))]) rfl ?_
    exact kt
  have f7 := (Nat.le_trans f3 Kq4.1)
  have f8 := ((O0.ext E1).keep Kq4 (allS g_b1 all0))
  have f9 := (((Keep.refl h0 []).ext E1).trans Kq4 (allS (Or.inr sz_b1) all0))
  have f10 := ((E_t.ext E1).keep Kq4)
  have f11 := ((F_v.ext E1).keep Kq4 (ninS (Nat.ne_of_lt (Nat.lt_of_lt_of_le lt_r0_1 (Nat.le_of_eq g1.symm))) nin0))
  have f12 := ((F_c.ext E1).keep Kq4 (ninS (Nat.ne_of_lt (Nat.lt_of_lt_of_le lt_r0_1 (Nat.le_of_eq g1.symm))) nin0))
  have f13 := ((V_t.ext E1).keep Kq4 (ninS (Nat.ne_of_lt (Nat.lt_of_lt_of_le lt_rb_1 (Nat.le_of_eq g1.symm))) nin0))
  obtain ⟨T6, L6, h6, X6, e6, N6, K6, b16, b26, b36, b46, b56, b66, b76, st6⟩ := lparse r0 b1 rb kb tx cs fm hx hZ hw hby hml hown (Nat.ne_of_lt (Nat.lt_of_lt_of_le lt_r0_1 (Nat.le_of_eq g1.symm))) (Nat.ne_of_lt (Nat.lt_of_lt_of_le lt_rb_1 (Nat.le_of_eq g1.symm))) hN hp g_b1 hfm hcs hok SC SF tx.length 0 (by omega) T4 _ T4.heap X4 rfl N4 f7 f8 f10 f11 f12 f13 Eq4 Fq4_0 Fq4_1 Fq4_2 Fq4_3 Fq4_4 Fq4_5
  have c14 : ∀ t, Steps p.tables e below (T6.setTop (mkF m 34 #[.val (.ref r0), .val (.ref b1), .val (.int (Int32.ofNat tx.length))] [(.ref b1)])) t → Steps p.tables e below (T6.setTop (mkF m 33 #[.val (.ref r0), .val (.ref b1), .val (.int (Int32.ofNat tx.length))] [])) t := by
    intro t kt
    show Steps p.tables e below (T6.setTop (mkF m 33 #[.val (.ref r0), .val (.ref b1), .val (.int (Int32.ofNat tx.length))] [])) _
    refine XS.aloadN X6.here hx rfl (hb hby d9_33) rfl rfl ?_
    exact kt
  have f15 := (Nat.le_trans f7 K6.1)
  obtain ⟨cq16, kq16, q16a, q16b, q16c⟩ := isOf hZ e6 b16
  obtain ⟨_, _, ⟨T17, L17, k17, n17⟩, -, X17, ⟨Lc17, hQ17, l17, y17, z17⟩, st17⟩ := X6.virtualBack hx (y := (⟨"com/example/sequence_set/sequenceset/cli/DecimalParser", "value", "()J"⟩ : MethodName)) (z := (⟨"com/example/sequence_set/sequenceset/cli/DecimalParser", "value", "()J"⟩ : MethodName)) hown (mvT hZ (hw _ (List.mem_of_getElem? (i := 116) rfl))) (mvT hZ (hw _ (List.mem_of_getElem? (i := 117) rfl))) (notFace_of_selects (args := #[]) (mvT hZ (hw _ (List.mem_of_getElem? (i := 119) rfl)))) (mvT hZ (hw _ (List.mem_of_getElem? (i := 119) rfl))) (mvT hZ (hw _ (List.mem_of_getElem? (i := 118) rfl))) (by decide) (backOf (W := 0) (rm19 l Z a0 hw [] b1 (own_run tx tx.length).1 (own_run tx tx.length).2.1 (Int32.ofNat tx.length) (own_run tx tx.length).2.2 h6 n0 f15 b26 b36 b46 b56 b66 b76 b16 g_b1 hdg hng) hZ (hw _ (List.mem_of_getElem? (i := 120) rfl)) (hw _ (List.mem_of_getElem? (i := 57) rfl)) (by decide) (by decide)) q16a q16c (g := (mkF m 34 #[.val (.ref r0), .val (.ref b1), .val (.int (Int32.ofNat tx.length))] [(.ref b1)])) rfl (by rw [hml]; rfl) (Steps.refl _) (argsL := []) (rest := []) (lenOf pd_9 rfl) rfl (by show 2 * 0 + _ ≤ _; exact Nat.le_of_eq rfl) (hb hby d9_34) (fun _ _ => ⟨rfl, e6, (by decide : 1 + 0 ≤ _), (by decide : 6 + 0 ≤ _)⟩)
  dsimp only [Pt.U, Pt.locs, Pt.cells, Pt.slots] at X17 l17 y17 z17 st17 hQ17
  subst l17 y17 z17
  obtain ⟨rfl, N17q, e17⟩ := hQ17
  have N17 := Fr.app N6 N17q
  obtain ⟨fs, hr, hrun, hended, hW, hsame⟩ := X17.leave (v := some (.long (own_val (own_run tx tx.length).1 (own_run tx tx.length).2.1))) (fun h => by rw [Bd.returns] at h; cases h)
  have f19 := (f9.trans K6 (allS (Or.inr sz_b1) all0))
  refine ⟨_, _, pre0 _ (st1 _ (c2 _ (st4.trans (c5 _ (st6 _ (c14 _ (st17.trans (?_)))))))), hrun, hended, _, _, rfl, ?_, ⟨_, rfl⟩, hW, hsame.mono (by decide) (by decide)⟩
  · show Steps p.tables e below (T17.setTop (mkF m 37 #[.val (.ref r0), .val (.ref b1), .val (.int (Int32.ofNat tx.length))] [(.long (own_val (own_run tx tx.length).1 (own_run tx tx.length).2.1))])) _
    jvm_step X17.here [X17.here.top, hx, (hb hby d9_37), X17.method', Bd.returns, narrow]
    first | (intro acts; rw [hr _ acts rfl rfl rfl]) | rw [hr _ _ rfl rfl rfl]
    exact Steps.refl _
  · show Q9 Z r0 rb kb tx cs fm wv h0 n0 _ T17.heap _
    rw [e17]
    exact ⟨(congrArg (fun z => some (Value.long z)) hwv), N17, f19⟩
theorem d2_0 : decode method_2_code 0 = .ok (.bipush 48, 2) := by decide +kernel
theorem d2_2 : decode method_2_code 2 = .ok (.lload_n 0, 1) := by decide +kernel
theorem d2_3 : decode method_2_code 3 = .ok (.lload_n 2, 1) := by decide +kernel
theorem d2_4 : decode method_2_code 4 = .ok (.ldiv, 1) := by decide +kernel
theorem d2_5 : decode method_2_code 5 = .ok (.ldc2_w 7, 3) := by decide +kernel
theorem d2_8 : decode method_2_code 8 = .ok (.lrem, 1) := by decide +kernel
theorem d2_9 : decode method_2_code 9 = .ok (.l2i, 1) := by decide +kernel
theorem d2_10 : decode method_2_code 10 = .ok (.isub, 1) := by decide +kernel
theorem d2_11 : decode method_2_code 11 = .ok (.i2c, 1) := by decide +kernel
theorem d2_12 : decode method_2_code 12 = .ok (.ireturn, 1) := by decide +kernel
theorem pn_2 : plainName "com/example/sequence_set/sequenceset/cli/DecimalParserAcceptPinLaw" = true := by first | (simp [plainName, overriddenIn]; done) | decide +kernel
theorem ef_2 (m : MethodId) (x0 : Int64) (x1 : Int64) : entryFrame m #[(.long x0), (.long x1)] 4 = mkF m 0 #[.val (.long x0), .second, .val (.long x1), .second] [] := by first | (simp [entryFrame, mkF, argsToLocals, Value.category]; done) | rfl
def Q2 (Z : State) (q0 : Int64) (q1 : Int64) (h0 : Heap) (n0 : Nat) (v : Option Value) (h : Heap) (L : List Loc) : Prop := v = some (.int (own_d q0 q1)) ∧ Fr n0 L ∧ h = h0
set_option maxRecDepth 65536 in
set_option maxHeartbeats 40000000 in
theorem rm2 (l : Launch) (Z : State) (a0 : Array Value) (hw : ∀ d ∈ tables_1, d.before a0 Z = true) (ws : List Jvm.Cond) (q0 : Int64) (q1 : Int64)  (h0 : Heap) (n0 : Nat) (Z0 : n0 ≤ h0.size) (hq : q1 ≠ 0) :
    MetFree l (⟨"com/example/sequence_set/sequenceset/cli/DecimalParserAcceptPinLaw", "d", "(JJ)C"⟩ : MethodName) (head1 (Jvm.Cond.code (⟨"com/example/sequence_set/sequenceset/cli/DecimalParserAcceptPinLaw", "d", "(JJ)C"⟩ : MethodName) method_2_code 4 (some .char) :: ws) ({ frames := 0, cells := 0, slots := 0, locals := 0 } : Room)) (fun a U => a = #[(.long q0), (.long q1)] ∧ Z.Warmed39 U.vm ∧ U.heap = h0) (fun _ _ _ _ _ => True) (fun _ U o U' => ∃ v L, o = .returned v ∧ Q2 Z q0 q1 h0 n0 v U'.heap L ∧ FrameEnd U o U' L ({ frames := 0, cells := 0, slots := 0, locals := 0 } : Room).cells ({ frames := 0, cells := 0, slots := 0, locals := 0 } : Room).slots) := by
  refine MetFree.of_bodySF (plainFor_of_name pn_2) hisR ?_
  intro p e s m args below meth c s₁ Bd hml0 hP hK
  obtain ⟨rfl, hZ, hh⟩ := hP
  have hx := Bd.exec
  have hby := Bd.bytes
  have hml : c.maxLocals = 4 := hml0
  have hown : s.vm.findClass "com/example/sequence_set/sequenceset/cli/DecimalParserAcceptPinLaw" = some m.cls := findClass_of_methodNamed Bd.named
  have hnm := (name_of_methodNamed Bd.named Bd.method).1
  have X0 : Stand p l e ({ frames := 0, cells := 0, slots := 0, locals := 0 } : Room) s m #[(.long q0), (.long q1)] below meth c s₁ [] 0 0 := Stand.of_body Bd
  have e0 : s₁.heap = h0 := by rw [← hh, Bd.state]; rfl
  have N0 := Fr.nil n0
  have pre0 : ∀ t, Steps p.tables e below (s₁.setTop (mkF m 0 #[.val (.long q0), .second, .val (.long q1), .second] [])) t → Steps p.tables e below (s₁.setTop (entryFrame m #[(.long q0), (.long q1)] 4)) t := fun t k => castTop (ef_2 m q0 q1) k
  have c1 : ∀ t, Steps p.tables e below (s₁.setTop (mkF m 12 #[.val (.long q0), .second, .val (.long q1), .second] [(.int (((48 : Int32) - (((q0 / q1) % (10 : Int64)).toInt32)).toUInt32.toUInt16.toUInt32.toInt32))])) t → Steps p.tables e below (s₁.setTop (mkF m 0 #[.val (.long q0), .second, .val (.long q1), .second] [])) t := by
    intro t kt
    show Steps p.tables e below (s₁.setTop (mkF m 0 #[.val (.long q0), .second, .val (.long q1), .second] [])) _
    refine XS.bipush X0.here hx rfl (hb hby d2_0) ?_
    show Steps p.tables e below (s₁.setTop (mkF m 2 #[.val (.long q0), .second, .val (.long q1), .second] [(.int (48 : Int32))])) _
    refine XS.lloadN X0.here hx rfl (hb hby d2_2) rfl ?_
    show Steps p.tables e below (s₁.setTop (mkF m 3 #[.val (.long q0), .second, .val (.long q1), .second] [(.long q0), (.int (48 : Int32))])) _
    refine XS.lloadN X0.here hx rfl (hb hby d2_3) rfl ?_
    show Steps p.tables e below (s₁.setTop (mkF m 4 #[.val (.long q0), .second, .val (.long q1), .second] [(.long q1), (.long q0), (.int (48 : Int32))])) _
    refine XS.ldiv X0.here hx rfl (hb hby d2_4) rfl hq ?_
    show Steps p.tables e below (s₁.setTop (mkF m 5 #[.val (.long q0), .second, .val (.long q1), .second] [(.long (q0 / q1)), (.int (48 : Int32))])) _
    refine X0.ldc2Long hx hown (mvT hZ (hw _ (List.mem_of_getElem? (i := 9) rfl))) (g := (mkF m 5 #[.val (.long q0), .second, .val (.long q1), .second] [(.long (q0 / q1)), (.int (48 : Int32))])) rfl (hb hby d2_5) _ ?_
    show Steps p.tables e below (s₁.setTop (mkF m 8 #[.val (.long q0), .second, .val (.long q1), .second] [(.long (10 : Int64)), (.long (q0 / q1)), (.int (48 : Int32))])) _
    refine own_lrem X0 hx rfl (hb hby d2_8) rfl (by decide) ?_
    show Steps p.tables e below (s₁.setTop (mkF m 9 #[.val (.long q0), .second, .val (.long q1), .second] [(.long ((q0 / q1) % (10 : Int64))), (.int (48 : Int32))])) _
    refine XS.l2i X0.here hx rfl (hb hby d2_9) rfl ?_
    show Steps p.tables e below (s₁.setTop (mkF m 10 #[.val (.long q0), .second, .val (.long q1), .second] [(.int (((q0 / q1) % (10 : Int64)).toInt32)), (.int (48 : Int32))])) _
    refine XS.isub X0.here hx rfl (hb hby d2_10) rfl ?_
    show Steps p.tables e below (s₁.setTop (mkF m 11 #[.val (.long q0), .second, .val (.long q1), .second] [(.int ((48 : Int32) - (((q0 / q1) % (10 : Int64)).toInt32)))])) _
    refine XS.i2c X0.here hx rfl (hb hby d2_11) rfl ?_
    exact kt
  obtain ⟨fs, hr, hrun, hended, hW, hsame⟩ := X0.leave (v := some (.int ((((48 : Int32) - (((q0 / q1) % (10 : Int64)).toInt32)).toUInt32.toUInt16.toUInt32.toInt32).toUInt32.toUInt16.toUInt32.toInt32))) (fun h => by rw [Bd.returns] at h; cases h)
  refine ⟨_, _, pre0 _ (c1 _ (?_)), hrun, hended, _, _, rfl, ?_, ⟨_, rfl⟩, hW, hsame.mono (by decide) (by decide)⟩
  · show Steps p.tables e below (s₁.setTop (mkF m 12 #[.val (.long q0), .second, .val (.long q1), .second] [(.int (((48 : Int32) - (((q0 / q1) % (10 : Int64)).toInt32)).toUInt32.toUInt16.toUInt32.toInt32))])) _
    exact retN X0 hx (t := .char) Bd.returns (by simp) (hb hby d2_12) hr
  · show Q2 Z q0 q1 h0 n0 _ s₁.heap _
    rw [e0]
    exact ⟨congrArg (fun z => some (Value.int z)) (show ((((48 : Int32) - (((q0 / q1) % (10 : Int64)).toInt32)).toUInt32.toUInt16.toUInt32.toInt32).toUInt32.toUInt16.toUInt32.toInt32) = (own_d q0 q1) from by rfl), N0, rfl⟩
theorem d1_0 : decode method_3_code 0 = .ok (.aload_n 0, 1) := by decide +kernel
theorem d1_1 : decode method_3_code 1 = .ok (.iload_n 1, 1) := by decide +kernel
theorem d1_2 : decode method_3_code 2 = .ok (.lload_n 2, 1) := by decide +kernel
theorem d1_3 : decode method_3_code 3 = .ok (.ldc2_w 9, 3) := by decide +kernel
theorem d1_6 : decode method_3_code 6 = .ok (.invokestatic 11, 3) := by decide +kernel
theorem d1_9 : decode method_3_code 9 = .ok (.castore, 1) := by decide +kernel
theorem d1_10 : decode method_3_code 10 = .ok (.aload_n 0, 1) := by decide +kernel
theorem d1_11 : decode method_3_code 11 = .ok (.iload_n 1, 1) := by decide +kernel
theorem d1_12 : decode method_3_code 12 = .ok (.iconst 1, 1) := by decide +kernel
theorem d1_13 : decode method_3_code 13 = .ok (.iadd, 1) := by decide +kernel
theorem d1_14 : decode method_3_code 14 = .ok (.lload_n 2, 1) := by decide +kernel
theorem d1_15 : decode method_3_code 15 = .ok (.ldc2_w 17, 3) := by decide +kernel
theorem d1_18 : decode method_3_code 18 = .ok (.invokestatic 11, 3) := by decide +kernel
theorem d1_21 : decode method_3_code 21 = .ok (.castore, 1) := by decide +kernel
theorem d1_22 : decode method_3_code 22 = .ok (.aload_n 0, 1) := by decide +kernel
theorem d1_23 : decode method_3_code 23 = .ok (.iload_n 1, 1) := by decide +kernel
theorem d1_24 : decode method_3_code 24 = .ok (.iconst 2, 1) := by decide +kernel
theorem d1_25 : decode method_3_code 25 = .ok (.iadd, 1) := by decide +kernel
theorem d1_26 : decode method_3_code 26 = .ok (.lload_n 2, 1) := by decide +kernel
theorem d1_27 : decode method_3_code 27 = .ok (.ldc2_w 19, 3) := by decide +kernel
theorem d1_30 : decode method_3_code 30 = .ok (.invokestatic 11, 3) := by decide +kernel
theorem d1_33 : decode method_3_code 33 = .ok (.castore, 1) := by decide +kernel
theorem d1_34 : decode method_3_code 34 = .ok (.aload_n 0, 1) := by decide +kernel
theorem d1_35 : decode method_3_code 35 = .ok (.iload_n 1, 1) := by decide +kernel
theorem d1_36 : decode method_3_code 36 = .ok (.iconst 3, 1) := by decide +kernel
theorem d1_37 : decode method_3_code 37 = .ok (.iadd, 1) := by decide +kernel
theorem d1_38 : decode method_3_code 38 = .ok (.lload_n 2, 1) := by decide +kernel
theorem d1_39 : decode method_3_code 39 = .ok (.ldc2_w 21, 3) := by decide +kernel
theorem d1_42 : decode method_3_code 42 = .ok (.invokestatic 11, 3) := by decide +kernel
theorem d1_45 : decode method_3_code 45 = .ok (.castore, 1) := by decide +kernel
theorem d1_46 : decode method_3_code 46 = .ok (.aload_n 0, 1) := by decide +kernel
theorem d1_47 : decode method_3_code 47 = .ok (.iload_n 1, 1) := by decide +kernel
theorem d1_48 : decode method_3_code 48 = .ok (.iconst 4, 1) := by decide +kernel
theorem d1_49 : decode method_3_code 49 = .ok (.iadd, 1) := by decide +kernel
theorem d1_50 : decode method_3_code 50 = .ok (.lload_n 2, 1) := by decide +kernel
theorem d1_51 : decode method_3_code 51 = .ok (.ldc2_w 23, 3) := by decide +kernel
theorem d1_54 : decode method_3_code 54 = .ok (.invokestatic 11, 3) := by decide +kernel
theorem d1_57 : decode method_3_code 57 = .ok (.castore, 1) := by decide +kernel
theorem d1_58 : decode method_3_code 58 = .ok (.aload_n 0, 1) := by decide +kernel
theorem d1_59 : decode method_3_code 59 = .ok (.iload_n 1, 1) := by decide +kernel
theorem d1_60 : decode method_3_code 60 = .ok (.iconst 5, 1) := by decide +kernel
theorem d1_61 : decode method_3_code 61 = .ok (.iadd, 1) := by decide +kernel
theorem d1_62 : decode method_3_code 62 = .ok (.lload_n 2, 1) := by decide +kernel
theorem d1_63 : decode method_3_code 63 = .ok (.ldc2_w 25, 3) := by decide +kernel
theorem d1_66 : decode method_3_code 66 = .ok (.invokestatic 11, 3) := by decide +kernel
theorem d1_69 : decode method_3_code 69 = .ok (.castore, 1) := by decide +kernel
theorem d1_70 : decode method_3_code 70 = .ok (.aload_n 0, 1) := by decide +kernel
theorem d1_71 : decode method_3_code 71 = .ok (.iload_n 1, 1) := by decide +kernel
theorem d1_72 : decode method_3_code 72 = .ok (.bipush 6, 2) := by decide +kernel
theorem d1_74 : decode method_3_code 74 = .ok (.iadd, 1) := by decide +kernel
theorem d1_75 : decode method_3_code 75 = .ok (.lload_n 2, 1) := by decide +kernel
theorem d1_76 : decode method_3_code 76 = .ok (.ldc2_w 27, 3) := by decide +kernel
theorem d1_79 : decode method_3_code 79 = .ok (.invokestatic 11, 3) := by decide +kernel
theorem d1_82 : decode method_3_code 82 = .ok (.castore, 1) := by decide +kernel
theorem d1_83 : decode method_3_code 83 = .ok (.aload_n 0, 1) := by decide +kernel
theorem d1_84 : decode method_3_code 84 = .ok (.iload_n 1, 1) := by decide +kernel
theorem d1_85 : decode method_3_code 85 = .ok (.bipush 7, 2) := by decide +kernel
theorem d1_87 : decode method_3_code 87 = .ok (.iadd, 1) := by decide +kernel
theorem d1_88 : decode method_3_code 88 = .ok (.lload_n 2, 1) := by decide +kernel
theorem d1_89 : decode method_3_code 89 = .ok (.ldc2_w 29, 3) := by decide +kernel
theorem d1_92 : decode method_3_code 92 = .ok (.invokestatic 11, 3) := by decide +kernel
theorem d1_95 : decode method_3_code 95 = .ok (.castore, 1) := by decide +kernel
theorem d1_96 : decode method_3_code 96 = .ok (.aload_n 0, 1) := by decide +kernel
theorem d1_97 : decode method_3_code 97 = .ok (.iload_n 1, 1) := by decide +kernel
theorem d1_98 : decode method_3_code 98 = .ok (.bipush 8, 2) := by decide +kernel
theorem d1_100 : decode method_3_code 100 = .ok (.iadd, 1) := by decide +kernel
theorem d1_101 : decode method_3_code 101 = .ok (.lload_n 2, 1) := by decide +kernel
theorem d1_102 : decode method_3_code 102 = .ok (.ldc2_w 31, 3) := by decide +kernel
theorem d1_105 : decode method_3_code 105 = .ok (.invokestatic 11, 3) := by decide +kernel
theorem d1_108 : decode method_3_code 108 = .ok (.castore, 1) := by decide +kernel
theorem d1_109 : decode method_3_code 109 = .ok (.aload_n 0, 1) := by decide +kernel
theorem d1_110 : decode method_3_code 110 = .ok (.iload_n 1, 1) := by decide +kernel
theorem d1_111 : decode method_3_code 111 = .ok (.bipush 9, 2) := by decide +kernel
theorem d1_113 : decode method_3_code 113 = .ok (.iadd, 1) := by decide +kernel
theorem d1_114 : decode method_3_code 114 = .ok (.lload_n 2, 1) := by decide +kernel
theorem d1_115 : decode method_3_code 115 = .ok (.ldc2_w 33, 3) := by decide +kernel
theorem d1_118 : decode method_3_code 118 = .ok (.invokestatic 11, 3) := by decide +kernel
theorem d1_121 : decode method_3_code 121 = .ok (.castore, 1) := by decide +kernel
theorem d1_122 : decode method_3_code 122 = .ok (.aload_n 0, 1) := by decide +kernel
theorem d1_123 : decode method_3_code 123 = .ok (.iload_n 1, 1) := by decide +kernel
theorem d1_124 : decode method_3_code 124 = .ok (.bipush 10, 2) := by decide +kernel
theorem d1_126 : decode method_3_code 126 = .ok (.iadd, 1) := by decide +kernel
theorem d1_127 : decode method_3_code 127 = .ok (.lload_n 2, 1) := by decide +kernel
theorem d1_128 : decode method_3_code 128 = .ok (.ldc2_w 35, 3) := by decide +kernel
theorem d1_131 : decode method_3_code 131 = .ok (.invokestatic 11, 3) := by decide +kernel
theorem d1_134 : decode method_3_code 134 = .ok (.castore, 1) := by decide +kernel
theorem d1_135 : decode method_3_code 135 = .ok (.aload_n 0, 1) := by decide +kernel
theorem d1_136 : decode method_3_code 136 = .ok (.iload_n 1, 1) := by decide +kernel
theorem d1_137 : decode method_3_code 137 = .ok (.bipush 11, 2) := by decide +kernel
theorem d1_139 : decode method_3_code 139 = .ok (.iadd, 1) := by decide +kernel
theorem d1_140 : decode method_3_code 140 = .ok (.lload_n 2, 1) := by decide +kernel
theorem d1_141 : decode method_3_code 141 = .ok (.ldc2_w 37, 3) := by decide +kernel
theorem d1_144 : decode method_3_code 144 = .ok (.invokestatic 11, 3) := by decide +kernel
theorem d1_147 : decode method_3_code 147 = .ok (.castore, 1) := by decide +kernel
theorem d1_148 : decode method_3_code 148 = .ok (.aload_n 0, 1) := by decide +kernel
theorem d1_149 : decode method_3_code 149 = .ok (.iload_n 1, 1) := by decide +kernel
theorem d1_150 : decode method_3_code 150 = .ok (.bipush 12, 2) := by decide +kernel
theorem d1_152 : decode method_3_code 152 = .ok (.iadd, 1) := by decide +kernel
theorem d1_153 : decode method_3_code 153 = .ok (.lload_n 2, 1) := by decide +kernel
theorem d1_154 : decode method_3_code 154 = .ok (.ldc2_w 39, 3) := by decide +kernel
theorem d1_157 : decode method_3_code 157 = .ok (.invokestatic 11, 3) := by decide +kernel
theorem d1_160 : decode method_3_code 160 = .ok (.castore, 1) := by decide +kernel
theorem d1_161 : decode method_3_code 161 = .ok (.aload_n 0, 1) := by decide +kernel
theorem d1_162 : decode method_3_code 162 = .ok (.iload_n 1, 1) := by decide +kernel
theorem d1_163 : decode method_3_code 163 = .ok (.bipush 13, 2) := by decide +kernel
theorem d1_165 : decode method_3_code 165 = .ok (.iadd, 1) := by decide +kernel
theorem d1_166 : decode method_3_code 166 = .ok (.lload_n 2, 1) := by decide +kernel
theorem d1_167 : decode method_3_code 167 = .ok (.ldc2_w 41, 3) := by decide +kernel
theorem d1_170 : decode method_3_code 170 = .ok (.invokestatic 11, 3) := by decide +kernel
theorem d1_173 : decode method_3_code 173 = .ok (.castore, 1) := by decide +kernel
theorem d1_174 : decode method_3_code 174 = .ok (.aload_n 0, 1) := by decide +kernel
theorem d1_175 : decode method_3_code 175 = .ok (.iload_n 1, 1) := by decide +kernel
theorem d1_176 : decode method_3_code 176 = .ok (.bipush 14, 2) := by decide +kernel
theorem d1_178 : decode method_3_code 178 = .ok (.iadd, 1) := by decide +kernel
theorem d1_179 : decode method_3_code 179 = .ok (.lload_n 2, 1) := by decide +kernel
theorem d1_180 : decode method_3_code 180 = .ok (.ldc2_w 43, 3) := by decide +kernel
theorem d1_183 : decode method_3_code 183 = .ok (.invokestatic 11, 3) := by decide +kernel
theorem d1_186 : decode method_3_code 186 = .ok (.castore, 1) := by decide +kernel
theorem d1_187 : decode method_3_code 187 = .ok (.aload_n 0, 1) := by decide +kernel
theorem d1_188 : decode method_3_code 188 = .ok (.iload_n 1, 1) := by decide +kernel
theorem d1_189 : decode method_3_code 189 = .ok (.bipush 15, 2) := by decide +kernel
theorem d1_191 : decode method_3_code 191 = .ok (.iadd, 1) := by decide +kernel
theorem d1_192 : decode method_3_code 192 = .ok (.lload_n 2, 1) := by decide +kernel
theorem d1_193 : decode method_3_code 193 = .ok (.ldc2_w 45, 3) := by decide +kernel
theorem d1_196 : decode method_3_code 196 = .ok (.invokestatic 11, 3) := by decide +kernel
theorem d1_199 : decode method_3_code 199 = .ok (.castore, 1) := by decide +kernel
theorem d1_200 : decode method_3_code 200 = .ok (.aload_n 0, 1) := by decide +kernel
theorem d1_201 : decode method_3_code 201 = .ok (.iload_n 1, 1) := by decide +kernel
theorem d1_202 : decode method_3_code 202 = .ok (.bipush 16, 2) := by decide +kernel
theorem d1_204 : decode method_3_code 204 = .ok (.iadd, 1) := by decide +kernel
theorem d1_205 : decode method_3_code 205 = .ok (.lload_n 2, 1) := by decide +kernel
theorem d1_206 : decode method_3_code 206 = .ok (.ldc2_w 47, 3) := by decide +kernel
theorem d1_209 : decode method_3_code 209 = .ok (.invokestatic 11, 3) := by decide +kernel
theorem d1_212 : decode method_3_code 212 = .ok (.castore, 1) := by decide +kernel
theorem d1_213 : decode method_3_code 213 = .ok (.aload_n 0, 1) := by decide +kernel
theorem d1_214 : decode method_3_code 214 = .ok (.iload_n 1, 1) := by decide +kernel
theorem d1_215 : decode method_3_code 215 = .ok (.bipush 17, 2) := by decide +kernel
theorem d1_217 : decode method_3_code 217 = .ok (.iadd, 1) := by decide +kernel
theorem d1_218 : decode method_3_code 218 = .ok (.lload_n 2, 1) := by decide +kernel
theorem d1_219 : decode method_3_code 219 = .ok (.ldc2_w 7, 3) := by decide +kernel
theorem d1_222 : decode method_3_code 222 = .ok (.invokestatic 11, 3) := by decide +kernel
theorem d1_225 : decode method_3_code 225 = .ok (.castore, 1) := by decide +kernel
theorem d1_226 : decode method_3_code 226 = .ok (.aload_n 0, 1) := by decide +kernel
theorem d1_227 : decode method_3_code 227 = .ok (.iload_n 1, 1) := by decide +kernel
theorem d1_228 : decode method_3_code 228 = .ok (.bipush 18, 2) := by decide +kernel
theorem d1_230 : decode method_3_code 230 = .ok (.iadd, 1) := by decide +kernel
theorem d1_231 : decode method_3_code 231 = .ok (.lload_n 2, 1) := by decide +kernel
theorem d1_232 : decode method_3_code 232 = .ok (.lconst 1, 1) := by decide +kernel
theorem d1_233 : decode method_3_code 233 = .ok (.invokestatic 11, 3) := by decide +kernel
theorem d1_236 : decode method_3_code 236 = .ok (.castore, 1) := by decide +kernel
theorem d1_237 : decode method_3_code 237 = .ok (.return_, 1) := by decide +kernel
theorem pn_1 : plainName "com/example/sequence_set/sequenceset/cli/DecimalParserAcceptPinLaw" = true := by first | (simp [plainName, overriddenIn]; done) | decide +kernel
theorem ef_1 (m : MethodId) (x0 : Addr) (x1 : Int32) (x2 : Int64) : entryFrame m #[(.ref x0), (.int x1), (.long x2)] 4 = mkF m 0 #[.val (.ref x0), .val (.int x1), .val (.long x2), .second] [] := by first | (simp [entryFrame, mkF, argsToLocals, Value.category]; done) | rfl
def Q1_0 (Z : State) (r0 : Addr) (q2 : Int64) (kk : ClassId) (h0 : Heap) (n0 : Nat) (v : Option Value) (h : Heap) (L : List Loc) : Prop := v = none ∧ Fr n0 L ∧ Keep h0 h [r0] ∧ Arv Z h r0 kk .char (19 : Int32) ((own_c19 q2).map Value.int) (.int (0 : Int32))
set_option maxRecDepth 65536 in
set_option maxHeartbeats 40000000 in
theorem rm1_0 (l : Launch) (Z : State) (a0 : Array Value) (hw : ∀ d ∈ tables_1, d.before a0 Z = true) (ws : List Jvm.Cond) (r0 : Addr) (q2 : Int64) (kk : ClassId) (h0 : Heap) (n0 : Nat) (Z0 : n0 ≤ h0.size) (V : Arv Z h0 r0 kk .char (19 : Int32) [(.int (0 : Int32)), (.int (0 : Int32)), (.int (0 : Int32)), (.int (0 : Int32)), (.int (0 : Int32)), (.int (0 : Int32)), (.int (0 : Int32)), (.int (0 : Int32)), (.int (0 : Int32)), (.int (0 : Int32)), (.int (0 : Int32)), (.int (0 : Int32)), (.int (0 : Int32)), (.int (0 : Int32)), (.int (0 : Int32)), (.int (0 : Int32)), (.int (0 : Int32)), (.int (0 : Int32)), (.int (0 : Int32))] (.int (0 : Int32))) (g_r0 : n0 ≤ r0) :
    MetFree l (⟨"com/example/sequence_set/sequenceset/cli/DecimalParserAcceptPinLaw", "fill", "([CIJ)V"⟩ : MethodName) (head1 (Jvm.Cond.code (⟨"com/example/sequence_set/sequenceset/cli/DecimalParserAcceptPinLaw", "fill", "([CIJ)V"⟩ : MethodName) method_3_code 4 none :: ws) ({ frames := 1, cells := 0, slots := 0, locals := 17 } : Room)) (fun a U => a = #[(.ref r0), (.int (0 : Int32)), (.long q2)] ∧ Z.Warmed39 U.vm ∧ U.heap = h0) (fun _ _ _ _ _ => True) (fun _ U o U' => ∃ v L, o = .returned v ∧ Q1_0 Z r0 q2 kk h0 n0 v U'.heap L ∧ FrameEnd U o U' L ({ frames := 1, cells := 0, slots := 0, locals := 17 } : Room).cells ({ frames := 1, cells := 0, slots := 0, locals := 17 } : Room).slots) := by
  refine MetFree.of_bodySF (plainFor_of_name pn_1) hisR ?_
  intro p e s m args below meth c s₁ Bd hml0 hP hK
  obtain ⟨rfl, hZ, hh⟩ := hP
  have hx := Bd.exec
  have hby := Bd.bytes
  have hml : c.maxLocals = 4 := hml0
  have hown : s.vm.findClass "com/example/sequence_set/sequenceset/cli/DecimalParserAcceptPinLaw" = some m.cls := findClass_of_methodNamed Bd.named
  have hnm := (name_of_methodNamed Bd.named Bd.method).1
  have X0 : Stand p l e ({ frames := 1, cells := 0, slots := 0, locals := 17 } : Room) s m #[(.ref r0), (.int (0 : Int32)), (.long q2)] below meth c s₁ [] 0 0 := Stand.of_body Bd
  have e0 : s₁.heap = h0 := by rw [← hh, Bd.state]; rfl
  have N0 := Fr.nil n0
  have pre0 : ∀ t, Steps p.tables e below (s₁.setTop (mkF m 0 #[.val (.ref r0), .val (.int (0 : Int32)), .val (.long q2), .second] [])) t → Steps p.tables e below (s₁.setTop (entryFrame m #[(.ref r0), (.int (0 : Int32)), (.long q2)] 4)) t := fun t k => castTop (ef_1 m r0 (0 : Int32) q2) k
  have c1 : ∀ t, Steps p.tables e below (s₁.setTop (mkF m 6 #[.val (.ref r0), .val (.int (0 : Int32)), .val (.long q2), .second] [(.long (1000000000000000000 : Int64)), (.long q2), (.int (0 : Int32)), (.ref r0)])) t → Steps p.tables e below (s₁.setTop (mkF m 0 #[.val (.ref r0), .val (.int (0 : Int32)), .val (.long q2), .second] [])) t := by
    intro t kt
    show Steps p.tables e below (s₁.setTop (mkF m 0 #[.val (.ref r0), .val (.int (0 : Int32)), .val (.long q2), .second] [])) _
    refine XS.aloadN X0.here hx rfl (hb hby d1_0) rfl rfl ?_
    show Steps p.tables e below (s₁.setTop (mkF m 1 #[.val (.ref r0), .val (.int (0 : Int32)), .val (.long q2), .second] [(.ref r0)])) _
    refine XS.iloadN X0.here hx rfl (hb hby d1_1) rfl ?_
    show Steps p.tables e below (s₁.setTop (mkF m 2 #[.val (.ref r0), .val (.int (0 : Int32)), .val (.long q2), .second] [(.int (0 : Int32)), (.ref r0)])) _
    refine XS.lloadN X0.here hx rfl (hb hby d1_2) rfl ?_
    show Steps p.tables e below (s₁.setTop (mkF m 3 #[.val (.ref r0), .val (.int (0 : Int32)), .val (.long q2), .second] [(.long q2), (.int (0 : Int32)), (.ref r0)])) _
    refine X0.ldc2Long hx hown (mvT hZ (hw _ (List.mem_of_getElem? (i := 5) rfl))) (g := (mkF m 3 #[.val (.ref r0), .val (.int (0 : Int32)), .val (.long q2), .second] [(.long q2), (.int (0 : Int32)), (.ref r0)])) rfl (hb hby d1_3) _ ?_
    exact kt
  obtain ⟨_, _, ⟨T2, L2, k2, n2⟩, -, X2, ⟨Lc2, hQ2, l2, y2, z2⟩, st2⟩ := Jvm.LawKit.callS X0 hx (y := (⟨"com/example/sequence_set/sequenceset/cli/DecimalParserAcceptPinLaw", "d", "(JJ)C"⟩ : MethodName)) hown (mvT hZ (hw _ (List.mem_of_getElem? (i := 6) rfl))) (mvT hZ (hw _ (List.mem_of_getElem? (i := 7) rfl))) (mvT hZ (hw _ (List.mem_of_getElem? (i := 3) rfl))) (mvT hZ (hw _ (List.mem_of_getElem? (i := 8) rfl))) (by decide) (backOf (W := 2) (rm2 l Z a0 hw [] q2 (1000000000000000000 : Int64)  h0 n0 Z0 (by decide)) hZ (hw _ (List.mem_of_getElem? (i := 8) rfl)) (hw _ (List.mem_of_getElem? (i := 3) rfl)) (by decide) (by decide)) (g := (mkF m 6 #[.val (.ref r0), .val (.int (0 : Int32)), .val (.long q2), .second] [(.long (1000000000000000000 : Int64)), (.long q2), (.int (0 : Int32)), (.ref r0)])) rfl (by rw [hml]; rfl) (argsL := [(.long q2), (.long (1000000000000000000 : Int64))]) (rest := [(.int (0 : Int32)), (.ref r0)]) (lenOf pd_10 rfl) rfl (by show 2 * 0 + _ ≤ _; exact Nat.le_of_eq rfl) (hb hby d1_6) (fun _ _ => ⟨rfl, e0, (by decide : 0 + 0 ≤ _), (by decide : 0 + 0 ≤ _)⟩)
  dsimp only [Pt.U, Pt.locs, Pt.cells, Pt.slots] at X2 l2 y2 z2 st2 hQ2
  subst l2 y2 z2
  obtain ⟨rfl, N2q, e2⟩ := hQ2
  have N2 := Fr.app N0 N2q
  obtain ⟨Go2, X2, N2⟩ := own_opq X2 N2
  have Vc3 := V
  obtain ⟨cl3, Ar3, qk3, S3, M3, H3, G3⟩ := Vc3
  have hin3 : ¬ ((0 : Int32) < 0 ∨ cl3.slots.size ≤ ((0 : Int32)).toNatClampNeg) := inb_of S3 ⟨by decide, by decide⟩
  obtain ⟨T4, h4, X4, e4, W4, st4⟩ := stC X2 hx hZ e2 Ar3 (j := (0 : Int32)) hin3 (g := (mkF m 9 #[.val (.ref r0), .val (.int (0 : Int32)), .val (.long q2), .second] [(.int (own_d q2 (1000000000000000000 : Int64))), (.int (0 : Int32)), (.ref r0)])) rfl rfl (hb hby d1_9)
  have V4 : Arv Z h4 r0 kk .char (19 : Int32) [(.int ((own_d q2 (1000000000000000000 : Int64)).toUInt32.toUInt16.toUInt32.toInt32)), (.int (0 : Int32)), (.int (0 : Int32)), (.int (0 : Int32)), (.int (0 : Int32)), (.int (0 : Int32)), (.int (0 : Int32)), (.int (0 : Int32)), (.int (0 : Int32)), (.int (0 : Int32)), (.int (0 : Int32)), (.int (0 : Int32)), (.int (0 : Int32)), (.int (0 : Int32)), (.int (0 : Int32)), (.int (0 : Int32)), (.int (0 : Int32)), (.int (0 : Int32)), (.int (0 : Int32))] (.int (0 : Int32)) := Arv.set Ar3 qk3 S3 M3 H3 G3 (fits_nar_char _) W4 0 rfl (Nat.le_of_ble_eq_true rfl)
  have N4 := Fr.snoc X4 N2 g_r0
  have c5 : ∀ t, Steps p.tables e below (T4.setTop (mkF m 18 #[.val (.ref r0), .val (.int (0 : Int32)), .val (.long q2), .second] [(.long (100000000000000000 : Int64)), (.long q2), (.int ((0 : Int32) + (1 : Int32))), (.ref r0)])) t → Steps p.tables e below (T4.setTop (mkF m 10 #[.val (.ref r0), .val (.int (0 : Int32)), .val (.long q2), .second] [])) t := by
    intro t kt
    show Steps p.tables e below (T4.setTop (mkF m 10 #[.val (.ref r0), .val (.int (0 : Int32)), .val (.long q2), .second] [])) _
    refine XS.aloadN X4.here hx rfl (hb hby d1_10) rfl rfl ?_
    show Steps p.tables e below (T4.setTop (mkF m 11 #[.val (.ref r0), .val (.int (0 : Int32)), .val (.long q2), .second] [(.ref r0)])) _
    refine XS.iloadN X4.here hx rfl (hb hby d1_11) rfl ?_
    show Steps p.tables e below (T4.setTop (mkF m 12 #[.val (.ref r0), .val (.int (0 : Int32)), .val (.long q2), .second] [(.int (0 : Int32)), (.ref r0)])) _
    refine XS.iconst X4.here hx rfl (hb hby d1_12) ?_
    show Steps p.tables e below (T4.setTop (mkF m 13 #[.val (.ref r0), .val (.int (0 : Int32)), .val (.long q2), .second] [(.int (1 : Int32)), (.int (0 : Int32)), (.ref r0)])) _
    refine XS.iadd X4.here hx rfl (hb hby d1_13) rfl ?_
    show Steps p.tables e below (T4.setTop (mkF m 14 #[.val (.ref r0), .val (.int (0 : Int32)), .val (.long q2), .second] [(.int ((0 : Int32) + (1 : Int32))), (.ref r0)])) _
    refine XS.lloadN X4.here hx rfl (hb hby d1_14) rfl ?_
    show Steps p.tables e below (T4.setTop (mkF m 15 #[.val (.ref r0), .val (.int (0 : Int32)), .val (.long q2), .second] [(.long q2), (.int ((0 : Int32) + (1 : Int32))), (.ref r0)])) _
    refine X4.ldc2Long hx hown (mvT hZ (hw _ (List.mem_of_getElem? (i := 10) rfl))) (g := (mkF m 15 #[.val (.ref r0), .val (.int (0 : Int32)), .val (.long q2), .second] [(.long q2), (.int ((0 : Int32) + (1 : Int32))), (.ref r0)])) rfl (hb hby d1_15) _ ?_
    exact kt
  have f6 := (Nat.le_trans Z0 (Keep.of_wr W4).1)
  obtain ⟨_, _, ⟨T7, L7, k7, n7⟩, -, X7, ⟨Lc7, hQ7, l7, y7, z7⟩, st7⟩ := Jvm.LawKit.callS X4 hx (y := (⟨"com/example/sequence_set/sequenceset/cli/DecimalParserAcceptPinLaw", "d", "(JJ)C"⟩ : MethodName)) hown (mvT hZ (hw _ (List.mem_of_getElem? (i := 6) rfl))) (mvT hZ (hw _ (List.mem_of_getElem? (i := 7) rfl))) (mvT hZ (hw _ (List.mem_of_getElem? (i := 3) rfl))) (mvT hZ (hw _ (List.mem_of_getElem? (i := 8) rfl))) (by decide) (backOf (W := 2) (rm2 l Z a0 hw [] q2 (100000000000000000 : Int64)  h4 n0 f6 (by decide)) hZ (hw _ (List.mem_of_getElem? (i := 8) rfl)) (hw _ (List.mem_of_getElem? (i := 3) rfl)) (by decide) (by decide)) (g := (mkF m 18 #[.val (.ref r0), .val (.int (0 : Int32)), .val (.long q2), .second] [(.long (100000000000000000 : Int64)), (.long q2), (.int ((0 : Int32) + (1 : Int32))), (.ref r0)])) rfl (by rw [hml]; rfl) (argsL := [(.long q2), (.long (100000000000000000 : Int64))]) (rest := [(.int ((0 : Int32) + (1 : Int32))), (.ref r0)]) (lenOf pd_10 rfl) rfl (by show 2 * 0 + _ ≤ _; exact Nat.le_of_eq rfl) (hb hby d1_18) (fun _ _ => ⟨rfl, e4, (by decide : 0 + 0 ≤ _), (by decide : 0 + 0 ≤ _)⟩)
  dsimp only [Pt.U, Pt.locs, Pt.cells, Pt.slots] at X7 l7 y7 z7 st7 hQ7
  subst l7 y7 z7
  obtain ⟨rfl, N7q, e7⟩ := hQ7
  have N7 := Fr.app N4 N7q
  obtain ⟨Go7, X7, N7⟩ := own_opq X7 N7
  have c8 : ∀ t, Steps p.tables e below (T7.setTop (mkF m 21 #[.val (.ref r0), .val (.int (0 : Int32)), .val (.long q2), .second] [(.int (own_d q2 (100000000000000000 : Int64))), (.int (1 : Int32)), (.ref r0)])) t → Steps p.tables e below (T7.setTop (mkF m 21 #[.val (.ref r0), .val (.int (0 : Int32)), .val (.long q2), .second] [(.int (own_d q2 (100000000000000000 : Int64))), (.int ((0 : Int32) + (1 : Int32))), (.ref r0)])) t := fun t kt => castTop (congrArg (fun zv => (mkF m 21 #[.val (.ref r0), .val (.int (0 : Int32)), .val (.long q2), .second] [(.int (own_d q2 (100000000000000000 : Int64))), (.int zv), (.ref r0)])) (show ((0 : Int32) + (1 : Int32)) = (1 : Int32) from by decide)) kt
  have Vc9 := V4
  obtain ⟨cl9, Ar9, qk9, S9, M9, H9, G9⟩ := Vc9
  have hin9 : ¬ ((1 : Int32) < 0 ∨ cl9.slots.size ≤ ((1 : Int32)).toNatClampNeg) := inb_of S9 ⟨by decide, by decide⟩
  obtain ⟨T10, h10, X10, e10, W10, st10⟩ := stC X7 hx hZ e7 Ar9 (j := (1 : Int32)) hin9 (g := (mkF m 21 #[.val (.ref r0), .val (.int (0 : Int32)), .val (.long q2), .second] [(.int (own_d q2 (100000000000000000 : Int64))), (.int (1 : Int32)), (.ref r0)])) rfl rfl (hb hby d1_21)
  have V10 : Arv Z h10 r0 kk .char (19 : Int32) [(.int ((own_d q2 (1000000000000000000 : Int64)).toUInt32.toUInt16.toUInt32.toInt32)), (.int ((own_d q2 (100000000000000000 : Int64)).toUInt32.toUInt16.toUInt32.toInt32)), (.int (0 : Int32)), (.int (0 : Int32)), (.int (0 : Int32)), (.int (0 : Int32)), (.int (0 : Int32)), (.int (0 : Int32)), (.int (0 : Int32)), (.int (0 : Int32)), (.int (0 : Int32)), (.int (0 : Int32)), (.int (0 : Int32)), (.int (0 : Int32)), (.int (0 : Int32)), (.int (0 : Int32)), (.int (0 : Int32)), (.int (0 : Int32)), (.int (0 : Int32))] (.int (0 : Int32)) := Arv.set Ar9 qk9 S9 M9 H9 G9 (fits_nar_char _) W10 1 rfl (Nat.le_of_ble_eq_true rfl)
  have N10 := Fr.snoc X10 N7 g_r0
  have c11 : ∀ t, Steps p.tables e below (T10.setTop (mkF m 30 #[.val (.ref r0), .val (.int (0 : Int32)), .val (.long q2), .second] [(.long (10000000000000000 : Int64)), (.long q2), (.int ((0 : Int32) + (2 : Int32))), (.ref r0)])) t → Steps p.tables e below (T10.setTop (mkF m 22 #[.val (.ref r0), .val (.int (0 : Int32)), .val (.long q2), .second] [])) t := by
    intro t kt
    show Steps p.tables e below (T10.setTop (mkF m 22 #[.val (.ref r0), .val (.int (0 : Int32)), .val (.long q2), .second] [])) _
    refine XS.aloadN X10.here hx rfl (hb hby d1_22) rfl rfl ?_
    show Steps p.tables e below (T10.setTop (mkF m 23 #[.val (.ref r0), .val (.int (0 : Int32)), .val (.long q2), .second] [(.ref r0)])) _
    refine XS.iloadN X10.here hx rfl (hb hby d1_23) rfl ?_
    show Steps p.tables e below (T10.setTop (mkF m 24 #[.val (.ref r0), .val (.int (0 : Int32)), .val (.long q2), .second] [(.int (0 : Int32)), (.ref r0)])) _
    refine XS.iconst X10.here hx rfl (hb hby d1_24) ?_
    show Steps p.tables e below (T10.setTop (mkF m 25 #[.val (.ref r0), .val (.int (0 : Int32)), .val (.long q2), .second] [(.int (2 : Int32)), (.int (0 : Int32)), (.ref r0)])) _
    refine XS.iadd X10.here hx rfl (hb hby d1_25) rfl ?_
    show Steps p.tables e below (T10.setTop (mkF m 26 #[.val (.ref r0), .val (.int (0 : Int32)), .val (.long q2), .second] [(.int ((0 : Int32) + (2 : Int32))), (.ref r0)])) _
    refine XS.lloadN X10.here hx rfl (hb hby d1_26) rfl ?_
    show Steps p.tables e below (T10.setTop (mkF m 27 #[.val (.ref r0), .val (.int (0 : Int32)), .val (.long q2), .second] [(.long q2), (.int ((0 : Int32) + (2 : Int32))), (.ref r0)])) _
    refine X10.ldc2Long hx hown (mvT hZ (hw _ (List.mem_of_getElem? (i := 11) rfl))) (g := (mkF m 27 #[.val (.ref r0), .val (.int (0 : Int32)), .val (.long q2), .second] [(.long q2), (.int ((0 : Int32) + (2 : Int32))), (.ref r0)])) rfl (hb hby d1_27) _ ?_
    exact kt
  have f12 := (Nat.le_trans f6 (Keep.of_wr W10).1)
  obtain ⟨_, _, ⟨T13, L13, k13, n13⟩, -, X13, ⟨Lc13, hQ13, l13, y13, z13⟩, st13⟩ := Jvm.LawKit.callS X10 hx (y := (⟨"com/example/sequence_set/sequenceset/cli/DecimalParserAcceptPinLaw", "d", "(JJ)C"⟩ : MethodName)) hown (mvT hZ (hw _ (List.mem_of_getElem? (i := 6) rfl))) (mvT hZ (hw _ (List.mem_of_getElem? (i := 7) rfl))) (mvT hZ (hw _ (List.mem_of_getElem? (i := 3) rfl))) (mvT hZ (hw _ (List.mem_of_getElem? (i := 8) rfl))) (by decide) (backOf (W := 2) (rm2 l Z a0 hw [] q2 (10000000000000000 : Int64)  h10 n0 f12 (by decide)) hZ (hw _ (List.mem_of_getElem? (i := 8) rfl)) (hw _ (List.mem_of_getElem? (i := 3) rfl)) (by decide) (by decide)) (g := (mkF m 30 #[.val (.ref r0), .val (.int (0 : Int32)), .val (.long q2), .second] [(.long (10000000000000000 : Int64)), (.long q2), (.int ((0 : Int32) + (2 : Int32))), (.ref r0)])) rfl (by rw [hml]; rfl) (argsL := [(.long q2), (.long (10000000000000000 : Int64))]) (rest := [(.int ((0 : Int32) + (2 : Int32))), (.ref r0)]) (lenOf pd_10 rfl) rfl (by show 2 * 0 + _ ≤ _; exact Nat.le_of_eq rfl) (hb hby d1_30) (fun _ _ => ⟨rfl, e10, (by decide : 0 + 0 ≤ _), (by decide : 0 + 0 ≤ _)⟩)
  dsimp only [Pt.U, Pt.locs, Pt.cells, Pt.slots] at X13 l13 y13 z13 st13 hQ13
  subst l13 y13 z13
  obtain ⟨rfl, N13q, e13⟩ := hQ13
  have N13 := Fr.app N10 N13q
  obtain ⟨Go13, X13, N13⟩ := own_opq X13 N13
  have c14 : ∀ t, Steps p.tables e below (T13.setTop (mkF m 33 #[.val (.ref r0), .val (.int (0 : Int32)), .val (.long q2), .second] [(.int (own_d q2 (10000000000000000 : Int64))), (.int (2 : Int32)), (.ref r0)])) t → Steps p.tables e below (T13.setTop (mkF m 33 #[.val (.ref r0), .val (.int (0 : Int32)), .val (.long q2), .second] [(.int (own_d q2 (10000000000000000 : Int64))), (.int ((0 : Int32) + (2 : Int32))), (.ref r0)])) t := fun t kt => castTop (congrArg (fun zv => (mkF m 33 #[.val (.ref r0), .val (.int (0 : Int32)), .val (.long q2), .second] [(.int (own_d q2 (10000000000000000 : Int64))), (.int zv), (.ref r0)])) (show ((0 : Int32) + (2 : Int32)) = (2 : Int32) from by decide)) kt
  have Vc15 := V10
  obtain ⟨cl15, Ar15, qk15, S15, M15, H15, G15⟩ := Vc15
  have hin15 : ¬ ((2 : Int32) < 0 ∨ cl15.slots.size ≤ ((2 : Int32)).toNatClampNeg) := inb_of S15 ⟨by decide, by decide⟩
  obtain ⟨T16, h16, X16, e16, W16, st16⟩ := stC X13 hx hZ e13 Ar15 (j := (2 : Int32)) hin15 (g := (mkF m 33 #[.val (.ref r0), .val (.int (0 : Int32)), .val (.long q2), .second] [(.int (own_d q2 (10000000000000000 : Int64))), (.int (2 : Int32)), (.ref r0)])) rfl rfl (hb hby d1_33)
  have V16 : Arv Z h16 r0 kk .char (19 : Int32) [(.int ((own_d q2 (1000000000000000000 : Int64)).toUInt32.toUInt16.toUInt32.toInt32)), (.int ((own_d q2 (100000000000000000 : Int64)).toUInt32.toUInt16.toUInt32.toInt32)), (.int ((own_d q2 (10000000000000000 : Int64)).toUInt32.toUInt16.toUInt32.toInt32)), (.int (0 : Int32)), (.int (0 : Int32)), (.int (0 : Int32)), (.int (0 : Int32)), (.int (0 : Int32)), (.int (0 : Int32)), (.int (0 : Int32)), (.int (0 : Int32)), (.int (0 : Int32)), (.int (0 : Int32)), (.int (0 : Int32)), (.int (0 : Int32)), (.int (0 : Int32)), (.int (0 : Int32)), (.int (0 : Int32)), (.int (0 : Int32))] (.int (0 : Int32)) := Arv.set Ar15 qk15 S15 M15 H15 G15 (fits_nar_char _) W16 2 rfl (Nat.le_of_ble_eq_true rfl)
  have N16 := Fr.snoc X16 N13 g_r0
  have c17 : ∀ t, Steps p.tables e below (T16.setTop (mkF m 42 #[.val (.ref r0), .val (.int (0 : Int32)), .val (.long q2), .second] [(.long (1000000000000000 : Int64)), (.long q2), (.int ((0 : Int32) + (3 : Int32))), (.ref r0)])) t → Steps p.tables e below (T16.setTop (mkF m 34 #[.val (.ref r0), .val (.int (0 : Int32)), .val (.long q2), .second] [])) t := by
    intro t kt
    show Steps p.tables e below (T16.setTop (mkF m 34 #[.val (.ref r0), .val (.int (0 : Int32)), .val (.long q2), .second] [])) _
    refine XS.aloadN X16.here hx rfl (hb hby d1_34) rfl rfl ?_
    show Steps p.tables e below (T16.setTop (mkF m 35 #[.val (.ref r0), .val (.int (0 : Int32)), .val (.long q2), .second] [(.ref r0)])) _
    refine XS.iloadN X16.here hx rfl (hb hby d1_35) rfl ?_
    show Steps p.tables e below (T16.setTop (mkF m 36 #[.val (.ref r0), .val (.int (0 : Int32)), .val (.long q2), .second] [(.int (0 : Int32)), (.ref r0)])) _
    refine XS.iconst X16.here hx rfl (hb hby d1_36) ?_
    show Steps p.tables e below (T16.setTop (mkF m 37 #[.val (.ref r0), .val (.int (0 : Int32)), .val (.long q2), .second] [(.int (3 : Int32)), (.int (0 : Int32)), (.ref r0)])) _
    refine XS.iadd X16.here hx rfl (hb hby d1_37) rfl ?_
    show Steps p.tables e below (T16.setTop (mkF m 38 #[.val (.ref r0), .val (.int (0 : Int32)), .val (.long q2), .second] [(.int ((0 : Int32) + (3 : Int32))), (.ref r0)])) _
    refine XS.lloadN X16.here hx rfl (hb hby d1_38) rfl ?_
    show Steps p.tables e below (T16.setTop (mkF m 39 #[.val (.ref r0), .val (.int (0 : Int32)), .val (.long q2), .second] [(.long q2), (.int ((0 : Int32) + (3 : Int32))), (.ref r0)])) _
    refine X16.ldc2Long hx hown (mvT hZ (hw _ (List.mem_of_getElem? (i := 12) rfl))) (g := (mkF m 39 #[.val (.ref r0), .val (.int (0 : Int32)), .val (.long q2), .second] [(.long q2), (.int ((0 : Int32) + (3 : Int32))), (.ref r0)])) rfl (hb hby d1_39) _ ?_
    exact kt
  have f18 := (Nat.le_trans f12 (Keep.of_wr W16).1)
  obtain ⟨_, _, ⟨T19, L19, k19, n19⟩, -, X19, ⟨Lc19, hQ19, l19, y19, z19⟩, st19⟩ := Jvm.LawKit.callS X16 hx (y := (⟨"com/example/sequence_set/sequenceset/cli/DecimalParserAcceptPinLaw", "d", "(JJ)C"⟩ : MethodName)) hown (mvT hZ (hw _ (List.mem_of_getElem? (i := 6) rfl))) (mvT hZ (hw _ (List.mem_of_getElem? (i := 7) rfl))) (mvT hZ (hw _ (List.mem_of_getElem? (i := 3) rfl))) (mvT hZ (hw _ (List.mem_of_getElem? (i := 8) rfl))) (by decide) (backOf (W := 2) (rm2 l Z a0 hw [] q2 (1000000000000000 : Int64)  h16 n0 f18 (by decide)) hZ (hw _ (List.mem_of_getElem? (i := 8) rfl)) (hw _ (List.mem_of_getElem? (i := 3) rfl)) (by decide) (by decide)) (g := (mkF m 42 #[.val (.ref r0), .val (.int (0 : Int32)), .val (.long q2), .second] [(.long (1000000000000000 : Int64)), (.long q2), (.int ((0 : Int32) + (3 : Int32))), (.ref r0)])) rfl (by rw [hml]; rfl) (argsL := [(.long q2), (.long (1000000000000000 : Int64))]) (rest := [(.int ((0 : Int32) + (3 : Int32))), (.ref r0)]) (lenOf pd_10 rfl) rfl (by show 2 * 0 + _ ≤ _; exact Nat.le_of_eq rfl) (hb hby d1_42) (fun _ _ => ⟨rfl, e16, (by decide : 0 + 0 ≤ _), (by decide : 0 + 0 ≤ _)⟩)
  dsimp only [Pt.U, Pt.locs, Pt.cells, Pt.slots] at X19 l19 y19 z19 st19 hQ19
  subst l19 y19 z19
  obtain ⟨rfl, N19q, e19⟩ := hQ19
  have N19 := Fr.app N16 N19q
  obtain ⟨Go19, X19, N19⟩ := own_opq X19 N19
  have c20 : ∀ t, Steps p.tables e below (T19.setTop (mkF m 45 #[.val (.ref r0), .val (.int (0 : Int32)), .val (.long q2), .second] [(.int (own_d q2 (1000000000000000 : Int64))), (.int (3 : Int32)), (.ref r0)])) t → Steps p.tables e below (T19.setTop (mkF m 45 #[.val (.ref r0), .val (.int (0 : Int32)), .val (.long q2), .second] [(.int (own_d q2 (1000000000000000 : Int64))), (.int ((0 : Int32) + (3 : Int32))), (.ref r0)])) t := fun t kt => castTop (congrArg (fun zv => (mkF m 45 #[.val (.ref r0), .val (.int (0 : Int32)), .val (.long q2), .second] [(.int (own_d q2 (1000000000000000 : Int64))), (.int zv), (.ref r0)])) (show ((0 : Int32) + (3 : Int32)) = (3 : Int32) from by decide)) kt
  have Vc21 := V16
  obtain ⟨cl21, Ar21, qk21, S21, M21, H21, G21⟩ := Vc21
  have hin21 : ¬ ((3 : Int32) < 0 ∨ cl21.slots.size ≤ ((3 : Int32)).toNatClampNeg) := inb_of S21 ⟨by decide, by decide⟩
  obtain ⟨T22, h22, X22, e22, W22, st22⟩ := stC X19 hx hZ e19 Ar21 (j := (3 : Int32)) hin21 (g := (mkF m 45 #[.val (.ref r0), .val (.int (0 : Int32)), .val (.long q2), .second] [(.int (own_d q2 (1000000000000000 : Int64))), (.int (3 : Int32)), (.ref r0)])) rfl rfl (hb hby d1_45)
  have V22 : Arv Z h22 r0 kk .char (19 : Int32) [(.int ((own_d q2 (1000000000000000000 : Int64)).toUInt32.toUInt16.toUInt32.toInt32)), (.int ((own_d q2 (100000000000000000 : Int64)).toUInt32.toUInt16.toUInt32.toInt32)), (.int ((own_d q2 (10000000000000000 : Int64)).toUInt32.toUInt16.toUInt32.toInt32)), (.int ((own_d q2 (1000000000000000 : Int64)).toUInt32.toUInt16.toUInt32.toInt32)), (.int (0 : Int32)), (.int (0 : Int32)), (.int (0 : Int32)), (.int (0 : Int32)), (.int (0 : Int32)), (.int (0 : Int32)), (.int (0 : Int32)), (.int (0 : Int32)), (.int (0 : Int32)), (.int (0 : Int32)), (.int (0 : Int32)), (.int (0 : Int32)), (.int (0 : Int32)), (.int (0 : Int32)), (.int (0 : Int32))] (.int (0 : Int32)) := Arv.set Ar21 qk21 S21 M21 H21 G21 (fits_nar_char _) W22 3 rfl (Nat.le_of_ble_eq_true rfl)
  have N22 := Fr.snoc X22 N19 g_r0
  have c23 : ∀ t, Steps p.tables e below (T22.setTop (mkF m 54 #[.val (.ref r0), .val (.int (0 : Int32)), .val (.long q2), .second] [(.long (100000000000000 : Int64)), (.long q2), (.int ((0 : Int32) + (4 : Int32))), (.ref r0)])) t → Steps p.tables e below (T22.setTop (mkF m 46 #[.val (.ref r0), .val (.int (0 : Int32)), .val (.long q2), .second] [])) t := by
    intro t kt
    show Steps p.tables e below (T22.setTop (mkF m 46 #[.val (.ref r0), .val (.int (0 : Int32)), .val (.long q2), .second] [])) _
    refine XS.aloadN X22.here hx rfl (hb hby d1_46) rfl rfl ?_
    show Steps p.tables e below (T22.setTop (mkF m 47 #[.val (.ref r0), .val (.int (0 : Int32)), .val (.long q2), .second] [(.ref r0)])) _
    refine XS.iloadN X22.here hx rfl (hb hby d1_47) rfl ?_
    show Steps p.tables e below (T22.setTop (mkF m 48 #[.val (.ref r0), .val (.int (0 : Int32)), .val (.long q2), .second] [(.int (0 : Int32)), (.ref r0)])) _
    refine XS.iconst X22.here hx rfl (hb hby d1_48) ?_
    show Steps p.tables e below (T22.setTop (mkF m 49 #[.val (.ref r0), .val (.int (0 : Int32)), .val (.long q2), .second] [(.int (4 : Int32)), (.int (0 : Int32)), (.ref r0)])) _
    refine XS.iadd X22.here hx rfl (hb hby d1_49) rfl ?_
    show Steps p.tables e below (T22.setTop (mkF m 50 #[.val (.ref r0), .val (.int (0 : Int32)), .val (.long q2), .second] [(.int ((0 : Int32) + (4 : Int32))), (.ref r0)])) _
    refine XS.lloadN X22.here hx rfl (hb hby d1_50) rfl ?_
    show Steps p.tables e below (T22.setTop (mkF m 51 #[.val (.ref r0), .val (.int (0 : Int32)), .val (.long q2), .second] [(.long q2), (.int ((0 : Int32) + (4 : Int32))), (.ref r0)])) _
    refine X22.ldc2Long hx hown (mvT hZ (hw _ (List.mem_of_getElem? (i := 13) rfl))) (g := (mkF m 51 #[.val (.ref r0), .val (.int (0 : Int32)), .val (.long q2), .second] [(.long q2), (.int ((0 : Int32) + (4 : Int32))), (.ref r0)])) rfl (hb hby d1_51) _ ?_
    exact kt
  have f24 := (Nat.le_trans f18 (Keep.of_wr W22).1)
  obtain ⟨_, _, ⟨T25, L25, k25, n25⟩, -, X25, ⟨Lc25, hQ25, l25, y25, z25⟩, st25⟩ := Jvm.LawKit.callS X22 hx (y := (⟨"com/example/sequence_set/sequenceset/cli/DecimalParserAcceptPinLaw", "d", "(JJ)C"⟩ : MethodName)) hown (mvT hZ (hw _ (List.mem_of_getElem? (i := 6) rfl))) (mvT hZ (hw _ (List.mem_of_getElem? (i := 7) rfl))) (mvT hZ (hw _ (List.mem_of_getElem? (i := 3) rfl))) (mvT hZ (hw _ (List.mem_of_getElem? (i := 8) rfl))) (by decide) (backOf (W := 2) (rm2 l Z a0 hw [] q2 (100000000000000 : Int64)  h22 n0 f24 (by decide)) hZ (hw _ (List.mem_of_getElem? (i := 8) rfl)) (hw _ (List.mem_of_getElem? (i := 3) rfl)) (by decide) (by decide)) (g := (mkF m 54 #[.val (.ref r0), .val (.int (0 : Int32)), .val (.long q2), .second] [(.long (100000000000000 : Int64)), (.long q2), (.int ((0 : Int32) + (4 : Int32))), (.ref r0)])) rfl (by rw [hml]; rfl) (argsL := [(.long q2), (.long (100000000000000 : Int64))]) (rest := [(.int ((0 : Int32) + (4 : Int32))), (.ref r0)]) (lenOf pd_10 rfl) rfl (by show 2 * 0 + _ ≤ _; exact Nat.le_of_eq rfl) (hb hby d1_54) (fun _ _ => ⟨rfl, e22, (by decide : 0 + 0 ≤ _), (by decide : 0 + 0 ≤ _)⟩)
  dsimp only [Pt.U, Pt.locs, Pt.cells, Pt.slots] at X25 l25 y25 z25 st25 hQ25
  subst l25 y25 z25
  obtain ⟨rfl, N25q, e25⟩ := hQ25
  have N25 := Fr.app N22 N25q
  obtain ⟨Go25, X25, N25⟩ := own_opq X25 N25
  have c26 : ∀ t, Steps p.tables e below (T25.setTop (mkF m 57 #[.val (.ref r0), .val (.int (0 : Int32)), .val (.long q2), .second] [(.int (own_d q2 (100000000000000 : Int64))), (.int (4 : Int32)), (.ref r0)])) t → Steps p.tables e below (T25.setTop (mkF m 57 #[.val (.ref r0), .val (.int (0 : Int32)), .val (.long q2), .second] [(.int (own_d q2 (100000000000000 : Int64))), (.int ((0 : Int32) + (4 : Int32))), (.ref r0)])) t := fun t kt => castTop (congrArg (fun zv => (mkF m 57 #[.val (.ref r0), .val (.int (0 : Int32)), .val (.long q2), .second] [(.int (own_d q2 (100000000000000 : Int64))), (.int zv), (.ref r0)])) (show ((0 : Int32) + (4 : Int32)) = (4 : Int32) from by decide)) kt
  have Vc27 := V22
  obtain ⟨cl27, Ar27, qk27, S27, M27, H27, G27⟩ := Vc27
  have hin27 : ¬ ((4 : Int32) < 0 ∨ cl27.slots.size ≤ ((4 : Int32)).toNatClampNeg) := inb_of S27 ⟨by decide, by decide⟩
  obtain ⟨T28, h28, X28, e28, W28, st28⟩ := stC X25 hx hZ e25 Ar27 (j := (4 : Int32)) hin27 (g := (mkF m 57 #[.val (.ref r0), .val (.int (0 : Int32)), .val (.long q2), .second] [(.int (own_d q2 (100000000000000 : Int64))), (.int (4 : Int32)), (.ref r0)])) rfl rfl (hb hby d1_57)
  have V28 : Arv Z h28 r0 kk .char (19 : Int32) [(.int ((own_d q2 (1000000000000000000 : Int64)).toUInt32.toUInt16.toUInt32.toInt32)), (.int ((own_d q2 (100000000000000000 : Int64)).toUInt32.toUInt16.toUInt32.toInt32)), (.int ((own_d q2 (10000000000000000 : Int64)).toUInt32.toUInt16.toUInt32.toInt32)), (.int ((own_d q2 (1000000000000000 : Int64)).toUInt32.toUInt16.toUInt32.toInt32)), (.int ((own_d q2 (100000000000000 : Int64)).toUInt32.toUInt16.toUInt32.toInt32)), (.int (0 : Int32)), (.int (0 : Int32)), (.int (0 : Int32)), (.int (0 : Int32)), (.int (0 : Int32)), (.int (0 : Int32)), (.int (0 : Int32)), (.int (0 : Int32)), (.int (0 : Int32)), (.int (0 : Int32)), (.int (0 : Int32)), (.int (0 : Int32)), (.int (0 : Int32)), (.int (0 : Int32))] (.int (0 : Int32)) := Arv.set Ar27 qk27 S27 M27 H27 G27 (fits_nar_char _) W28 4 rfl (Nat.le_of_ble_eq_true rfl)
  have N28 := Fr.snoc X28 N25 g_r0
  have c29 : ∀ t, Steps p.tables e below (T28.setTop (mkF m 66 #[.val (.ref r0), .val (.int (0 : Int32)), .val (.long q2), .second] [(.long (10000000000000 : Int64)), (.long q2), (.int ((0 : Int32) + (5 : Int32))), (.ref r0)])) t → Steps p.tables e below (T28.setTop (mkF m 58 #[.val (.ref r0), .val (.int (0 : Int32)), .val (.long q2), .second] [])) t := by
    intro t kt
    show Steps p.tables e below (T28.setTop (mkF m 58 #[.val (.ref r0), .val (.int (0 : Int32)), .val (.long q2), .second] [])) _
    refine XS.aloadN X28.here hx rfl (hb hby d1_58) rfl rfl ?_
    show Steps p.tables e below (T28.setTop (mkF m 59 #[.val (.ref r0), .val (.int (0 : Int32)), .val (.long q2), .second] [(.ref r0)])) _
    refine XS.iloadN X28.here hx rfl (hb hby d1_59) rfl ?_
    show Steps p.tables e below (T28.setTop (mkF m 60 #[.val (.ref r0), .val (.int (0 : Int32)), .val (.long q2), .second] [(.int (0 : Int32)), (.ref r0)])) _
    refine XS.iconst X28.here hx rfl (hb hby d1_60) ?_
    show Steps p.tables e below (T28.setTop (mkF m 61 #[.val (.ref r0), .val (.int (0 : Int32)), .val (.long q2), .second] [(.int (5 : Int32)), (.int (0 : Int32)), (.ref r0)])) _
    refine XS.iadd X28.here hx rfl (hb hby d1_61) rfl ?_
    show Steps p.tables e below (T28.setTop (mkF m 62 #[.val (.ref r0), .val (.int (0 : Int32)), .val (.long q2), .second] [(.int ((0 : Int32) + (5 : Int32))), (.ref r0)])) _
    refine XS.lloadN X28.here hx rfl (hb hby d1_62) rfl ?_
    show Steps p.tables e below (T28.setTop (mkF m 63 #[.val (.ref r0), .val (.int (0 : Int32)), .val (.long q2), .second] [(.long q2), (.int ((0 : Int32) + (5 : Int32))), (.ref r0)])) _
    refine X28.ldc2Long hx hown (mvT hZ (hw _ (List.mem_of_getElem? (i := 14) rfl))) (g := (mkF m 63 #[.val (.ref r0), .val (.int (0 : Int32)), .val (.long q2), .second] [(.long q2), (.int ((0 : Int32) + (5 : Int32))), (.ref r0)])) rfl (hb hby d1_63) _ ?_
    exact kt
  have f30 := (Nat.le_trans f24 (Keep.of_wr W28).1)
  obtain ⟨_, _, ⟨T31, L31, k31, n31⟩, -, X31, ⟨Lc31, hQ31, l31, y31, z31⟩, st31⟩ := Jvm.LawKit.callS X28 hx (y := (⟨"com/example/sequence_set/sequenceset/cli/DecimalParserAcceptPinLaw", "d", "(JJ)C"⟩ : MethodName)) hown (mvT hZ (hw _ (List.mem_of_getElem? (i := 6) rfl))) (mvT hZ (hw _ (List.mem_of_getElem? (i := 7) rfl))) (mvT hZ (hw _ (List.mem_of_getElem? (i := 3) rfl))) (mvT hZ (hw _ (List.mem_of_getElem? (i := 8) rfl))) (by decide) (backOf (W := 2) (rm2 l Z a0 hw [] q2 (10000000000000 : Int64)  h28 n0 f30 (by decide)) hZ (hw _ (List.mem_of_getElem? (i := 8) rfl)) (hw _ (List.mem_of_getElem? (i := 3) rfl)) (by decide) (by decide)) (g := (mkF m 66 #[.val (.ref r0), .val (.int (0 : Int32)), .val (.long q2), .second] [(.long (10000000000000 : Int64)), (.long q2), (.int ((0 : Int32) + (5 : Int32))), (.ref r0)])) rfl (by rw [hml]; rfl) (argsL := [(.long q2), (.long (10000000000000 : Int64))]) (rest := [(.int ((0 : Int32) + (5 : Int32))), (.ref r0)]) (lenOf pd_10 rfl) rfl (by show 2 * 0 + _ ≤ _; exact Nat.le_of_eq rfl) (hb hby d1_66) (fun _ _ => ⟨rfl, e28, (by decide : 0 + 0 ≤ _), (by decide : 0 + 0 ≤ _)⟩)
  dsimp only [Pt.U, Pt.locs, Pt.cells, Pt.slots] at X31 l31 y31 z31 st31 hQ31
  subst l31 y31 z31
  obtain ⟨rfl, N31q, e31⟩ := hQ31
  have N31 := Fr.app N28 N31q
  obtain ⟨Go31, X31, N31⟩ := own_opq X31 N31
  have c32 : ∀ t, Steps p.tables e below (T31.setTop (mkF m 69 #[.val (.ref r0), .val (.int (0 : Int32)), .val (.long q2), .second] [(.int (own_d q2 (10000000000000 : Int64))), (.int (5 : Int32)), (.ref r0)])) t → Steps p.tables e below (T31.setTop (mkF m 69 #[.val (.ref r0), .val (.int (0 : Int32)), .val (.long q2), .second] [(.int (own_d q2 (10000000000000 : Int64))), (.int ((0 : Int32) + (5 : Int32))), (.ref r0)])) t := fun t kt => castTop (congrArg (fun zv => (mkF m 69 #[.val (.ref r0), .val (.int (0 : Int32)), .val (.long q2), .second] [(.int (own_d q2 (10000000000000 : Int64))), (.int zv), (.ref r0)])) (show ((0 : Int32) + (5 : Int32)) = (5 : Int32) from by decide)) kt
  have Vc33 := V28
  obtain ⟨cl33, Ar33, qk33, S33, M33, H33, G33⟩ := Vc33
  have hin33 : ¬ ((5 : Int32) < 0 ∨ cl33.slots.size ≤ ((5 : Int32)).toNatClampNeg) := inb_of S33 ⟨by decide, by decide⟩
  obtain ⟨T34, h34, X34, e34, W34, st34⟩ := stC X31 hx hZ e31 Ar33 (j := (5 : Int32)) hin33 (g := (mkF m 69 #[.val (.ref r0), .val (.int (0 : Int32)), .val (.long q2), .second] [(.int (own_d q2 (10000000000000 : Int64))), (.int (5 : Int32)), (.ref r0)])) rfl rfl (hb hby d1_69)
  have V34 : Arv Z h34 r0 kk .char (19 : Int32) [(.int ((own_d q2 (1000000000000000000 : Int64)).toUInt32.toUInt16.toUInt32.toInt32)), (.int ((own_d q2 (100000000000000000 : Int64)).toUInt32.toUInt16.toUInt32.toInt32)), (.int ((own_d q2 (10000000000000000 : Int64)).toUInt32.toUInt16.toUInt32.toInt32)), (.int ((own_d q2 (1000000000000000 : Int64)).toUInt32.toUInt16.toUInt32.toInt32)), (.int ((own_d q2 (100000000000000 : Int64)).toUInt32.toUInt16.toUInt32.toInt32)), (.int ((own_d q2 (10000000000000 : Int64)).toUInt32.toUInt16.toUInt32.toInt32)), (.int (0 : Int32)), (.int (0 : Int32)), (.int (0 : Int32)), (.int (0 : Int32)), (.int (0 : Int32)), (.int (0 : Int32)), (.int (0 : Int32)), (.int (0 : Int32)), (.int (0 : Int32)), (.int (0 : Int32)), (.int (0 : Int32)), (.int (0 : Int32)), (.int (0 : Int32))] (.int (0 : Int32)) := Arv.set Ar33 qk33 S33 M33 H33 G33 (fits_nar_char _) W34 5 rfl (Nat.le_of_ble_eq_true rfl)
  have N34 := Fr.snoc X34 N31 g_r0
  have c35 : ∀ t, Steps p.tables e below (T34.setTop (mkF m 79 #[.val (.ref r0), .val (.int (0 : Int32)), .val (.long q2), .second] [(.long (1000000000000 : Int64)), (.long q2), (.int ((0 : Int32) + (6 : Int32))), (.ref r0)])) t → Steps p.tables e below (T34.setTop (mkF m 70 #[.val (.ref r0), .val (.int (0 : Int32)), .val (.long q2), .second] [])) t := by
    intro t kt
    show Steps p.tables e below (T34.setTop (mkF m 70 #[.val (.ref r0), .val (.int (0 : Int32)), .val (.long q2), .second] [])) _
    refine XS.aloadN X34.here hx rfl (hb hby d1_70) rfl rfl ?_
    show Steps p.tables e below (T34.setTop (mkF m 71 #[.val (.ref r0), .val (.int (0 : Int32)), .val (.long q2), .second] [(.ref r0)])) _
    refine XS.iloadN X34.here hx rfl (hb hby d1_71) rfl ?_
    show Steps p.tables e below (T34.setTop (mkF m 72 #[.val (.ref r0), .val (.int (0 : Int32)), .val (.long q2), .second] [(.int (0 : Int32)), (.ref r0)])) _
    refine XS.bipush X34.here hx rfl (hb hby d1_72) ?_
    show Steps p.tables e below (T34.setTop (mkF m 74 #[.val (.ref r0), .val (.int (0 : Int32)), .val (.long q2), .second] [(.int (6 : Int32)), (.int (0 : Int32)), (.ref r0)])) _
    refine XS.iadd X34.here hx rfl (hb hby d1_74) rfl ?_
    show Steps p.tables e below (T34.setTop (mkF m 75 #[.val (.ref r0), .val (.int (0 : Int32)), .val (.long q2), .second] [(.int ((0 : Int32) + (6 : Int32))), (.ref r0)])) _
    refine XS.lloadN X34.here hx rfl (hb hby d1_75) rfl ?_
    show Steps p.tables e below (T34.setTop (mkF m 76 #[.val (.ref r0), .val (.int (0 : Int32)), .val (.long q2), .second] [(.long q2), (.int ((0 : Int32) + (6 : Int32))), (.ref r0)])) _
    refine X34.ldc2Long hx hown (mvT hZ (hw _ (List.mem_of_getElem? (i := 15) rfl))) (g := (mkF m 76 #[.val (.ref r0), .val (.int (0 : Int32)), .val (.long q2), .second] [(.long q2), (.int ((0 : Int32) + (6 : Int32))), (.ref r0)])) rfl (hb hby d1_76) _ ?_
    exact kt
  have f36 := (Nat.le_trans f30 (Keep.of_wr W34).1)
  obtain ⟨_, _, ⟨T37, L37, k37, n37⟩, -, X37, ⟨Lc37, hQ37, l37, y37, z37⟩, st37⟩ := Jvm.LawKit.callS X34 hx (y := (⟨"com/example/sequence_set/sequenceset/cli/DecimalParserAcceptPinLaw", "d", "(JJ)C"⟩ : MethodName)) hown (mvT hZ (hw _ (List.mem_of_getElem? (i := 6) rfl))) (mvT hZ (hw _ (List.mem_of_getElem? (i := 7) rfl))) (mvT hZ (hw _ (List.mem_of_getElem? (i := 3) rfl))) (mvT hZ (hw _ (List.mem_of_getElem? (i := 8) rfl))) (by decide) (backOf (W := 2) (rm2 l Z a0 hw [] q2 (1000000000000 : Int64)  h34 n0 f36 (by decide)) hZ (hw _ (List.mem_of_getElem? (i := 8) rfl)) (hw _ (List.mem_of_getElem? (i := 3) rfl)) (by decide) (by decide)) (g := (mkF m 79 #[.val (.ref r0), .val (.int (0 : Int32)), .val (.long q2), .second] [(.long (1000000000000 : Int64)), (.long q2), (.int ((0 : Int32) + (6 : Int32))), (.ref r0)])) rfl (by rw [hml]; rfl) (argsL := [(.long q2), (.long (1000000000000 : Int64))]) (rest := [(.int ((0 : Int32) + (6 : Int32))), (.ref r0)]) (lenOf pd_10 rfl) rfl (by show 2 * 0 + _ ≤ _; exact Nat.le_of_eq rfl) (hb hby d1_79) (fun _ _ => ⟨rfl, e34, (by decide : 0 + 0 ≤ _), (by decide : 0 + 0 ≤ _)⟩)
  dsimp only [Pt.U, Pt.locs, Pt.cells, Pt.slots] at X37 l37 y37 z37 st37 hQ37
  subst l37 y37 z37
  obtain ⟨rfl, N37q, e37⟩ := hQ37
  have N37 := Fr.app N34 N37q
  obtain ⟨Go37, X37, N37⟩ := own_opq X37 N37
  have c38 : ∀ t, Steps p.tables e below (T37.setTop (mkF m 82 #[.val (.ref r0), .val (.int (0 : Int32)), .val (.long q2), .second] [(.int (own_d q2 (1000000000000 : Int64))), (.int (6 : Int32)), (.ref r0)])) t → Steps p.tables e below (T37.setTop (mkF m 82 #[.val (.ref r0), .val (.int (0 : Int32)), .val (.long q2), .second] [(.int (own_d q2 (1000000000000 : Int64))), (.int ((0 : Int32) + (6 : Int32))), (.ref r0)])) t := fun t kt => castTop (congrArg (fun zv => (mkF m 82 #[.val (.ref r0), .val (.int (0 : Int32)), .val (.long q2), .second] [(.int (own_d q2 (1000000000000 : Int64))), (.int zv), (.ref r0)])) (show ((0 : Int32) + (6 : Int32)) = (6 : Int32) from by decide)) kt
  have Vc39 := V34
  obtain ⟨cl39, Ar39, qk39, S39, M39, H39, G39⟩ := Vc39
  have hin39 : ¬ ((6 : Int32) < 0 ∨ cl39.slots.size ≤ ((6 : Int32)).toNatClampNeg) := inb_of S39 ⟨by decide, by decide⟩
  obtain ⟨T40, h40, X40, e40, W40, st40⟩ := stC X37 hx hZ e37 Ar39 (j := (6 : Int32)) hin39 (g := (mkF m 82 #[.val (.ref r0), .val (.int (0 : Int32)), .val (.long q2), .second] [(.int (own_d q2 (1000000000000 : Int64))), (.int (6 : Int32)), (.ref r0)])) rfl rfl (hb hby d1_82)
  have V40 : Arv Z h40 r0 kk .char (19 : Int32) [(.int ((own_d q2 (1000000000000000000 : Int64)).toUInt32.toUInt16.toUInt32.toInt32)), (.int ((own_d q2 (100000000000000000 : Int64)).toUInt32.toUInt16.toUInt32.toInt32)), (.int ((own_d q2 (10000000000000000 : Int64)).toUInt32.toUInt16.toUInt32.toInt32)), (.int ((own_d q2 (1000000000000000 : Int64)).toUInt32.toUInt16.toUInt32.toInt32)), (.int ((own_d q2 (100000000000000 : Int64)).toUInt32.toUInt16.toUInt32.toInt32)), (.int ((own_d q2 (10000000000000 : Int64)).toUInt32.toUInt16.toUInt32.toInt32)), (.int ((own_d q2 (1000000000000 : Int64)).toUInt32.toUInt16.toUInt32.toInt32)), (.int (0 : Int32)), (.int (0 : Int32)), (.int (0 : Int32)), (.int (0 : Int32)), (.int (0 : Int32)), (.int (0 : Int32)), (.int (0 : Int32)), (.int (0 : Int32)), (.int (0 : Int32)), (.int (0 : Int32)), (.int (0 : Int32)), (.int (0 : Int32))] (.int (0 : Int32)) := Arv.set Ar39 qk39 S39 M39 H39 G39 (fits_nar_char _) W40 6 rfl (Nat.le_of_ble_eq_true rfl)
  have N40 := Fr.snoc X40 N37 g_r0
  have c41 : ∀ t, Steps p.tables e below (T40.setTop (mkF m 92 #[.val (.ref r0), .val (.int (0 : Int32)), .val (.long q2), .second] [(.long (100000000000 : Int64)), (.long q2), (.int ((0 : Int32) + (7 : Int32))), (.ref r0)])) t → Steps p.tables e below (T40.setTop (mkF m 83 #[.val (.ref r0), .val (.int (0 : Int32)), .val (.long q2), .second] [])) t := by
    intro t kt
    show Steps p.tables e below (T40.setTop (mkF m 83 #[.val (.ref r0), .val (.int (0 : Int32)), .val (.long q2), .second] [])) _
    refine XS.aloadN X40.here hx rfl (hb hby d1_83) rfl rfl ?_
    show Steps p.tables e below (T40.setTop (mkF m 84 #[.val (.ref r0), .val (.int (0 : Int32)), .val (.long q2), .second] [(.ref r0)])) _
    refine XS.iloadN X40.here hx rfl (hb hby d1_84) rfl ?_
    show Steps p.tables e below (T40.setTop (mkF m 85 #[.val (.ref r0), .val (.int (0 : Int32)), .val (.long q2), .second] [(.int (0 : Int32)), (.ref r0)])) _
    refine XS.bipush X40.here hx rfl (hb hby d1_85) ?_
    show Steps p.tables e below (T40.setTop (mkF m 87 #[.val (.ref r0), .val (.int (0 : Int32)), .val (.long q2), .second] [(.int (7 : Int32)), (.int (0 : Int32)), (.ref r0)])) _
    refine XS.iadd X40.here hx rfl (hb hby d1_87) rfl ?_
    show Steps p.tables e below (T40.setTop (mkF m 88 #[.val (.ref r0), .val (.int (0 : Int32)), .val (.long q2), .second] [(.int ((0 : Int32) + (7 : Int32))), (.ref r0)])) _
    refine XS.lloadN X40.here hx rfl (hb hby d1_88) rfl ?_
    show Steps p.tables e below (T40.setTop (mkF m 89 #[.val (.ref r0), .val (.int (0 : Int32)), .val (.long q2), .second] [(.long q2), (.int ((0 : Int32) + (7 : Int32))), (.ref r0)])) _
    refine X40.ldc2Long hx hown (mvT hZ (hw _ (List.mem_of_getElem? (i := 16) rfl))) (g := (mkF m 89 #[.val (.ref r0), .val (.int (0 : Int32)), .val (.long q2), .second] [(.long q2), (.int ((0 : Int32) + (7 : Int32))), (.ref r0)])) rfl (hb hby d1_89) _ ?_
    exact kt
  have f42 := (Nat.le_trans f36 (Keep.of_wr W40).1)
  obtain ⟨_, _, ⟨T43, L43, k43, n43⟩, -, X43, ⟨Lc43, hQ43, l43, y43, z43⟩, st43⟩ := Jvm.LawKit.callS X40 hx (y := (⟨"com/example/sequence_set/sequenceset/cli/DecimalParserAcceptPinLaw", "d", "(JJ)C"⟩ : MethodName)) hown (mvT hZ (hw _ (List.mem_of_getElem? (i := 6) rfl))) (mvT hZ (hw _ (List.mem_of_getElem? (i := 7) rfl))) (mvT hZ (hw _ (List.mem_of_getElem? (i := 3) rfl))) (mvT hZ (hw _ (List.mem_of_getElem? (i := 8) rfl))) (by decide) (backOf (W := 2) (rm2 l Z a0 hw [] q2 (100000000000 : Int64)  h40 n0 f42 (by decide)) hZ (hw _ (List.mem_of_getElem? (i := 8) rfl)) (hw _ (List.mem_of_getElem? (i := 3) rfl)) (by decide) (by decide)) (g := (mkF m 92 #[.val (.ref r0), .val (.int (0 : Int32)), .val (.long q2), .second] [(.long (100000000000 : Int64)), (.long q2), (.int ((0 : Int32) + (7 : Int32))), (.ref r0)])) rfl (by rw [hml]; rfl) (argsL := [(.long q2), (.long (100000000000 : Int64))]) (rest := [(.int ((0 : Int32) + (7 : Int32))), (.ref r0)]) (lenOf pd_10 rfl) rfl (by show 2 * 0 + _ ≤ _; exact Nat.le_of_eq rfl) (hb hby d1_92) (fun _ _ => ⟨rfl, e40, (by decide : 0 + 0 ≤ _), (by decide : 0 + 0 ≤ _)⟩)
  dsimp only [Pt.U, Pt.locs, Pt.cells, Pt.slots] at X43 l43 y43 z43 st43 hQ43
  subst l43 y43 z43
  obtain ⟨rfl, N43q, e43⟩ := hQ43
  have N43 := Fr.app N40 N43q
  obtain ⟨Go43, X43, N43⟩ := own_opq X43 N43
  have c44 : ∀ t, Steps p.tables e below (T43.setTop (mkF m 95 #[.val (.ref r0), .val (.int (0 : Int32)), .val (.long q2), .second] [(.int (own_d q2 (100000000000 : Int64))), (.int (7 : Int32)), (.ref r0)])) t → Steps p.tables e below (T43.setTop (mkF m 95 #[.val (.ref r0), .val (.int (0 : Int32)), .val (.long q2), .second] [(.int (own_d q2 (100000000000 : Int64))), (.int ((0 : Int32) + (7 : Int32))), (.ref r0)])) t := fun t kt => castTop (congrArg (fun zv => (mkF m 95 #[.val (.ref r0), .val (.int (0 : Int32)), .val (.long q2), .second] [(.int (own_d q2 (100000000000 : Int64))), (.int zv), (.ref r0)])) (show ((0 : Int32) + (7 : Int32)) = (7 : Int32) from by decide)) kt
  have Vc45 := V40
  obtain ⟨cl45, Ar45, qk45, S45, M45, H45, G45⟩ := Vc45
  have hin45 : ¬ ((7 : Int32) < 0 ∨ cl45.slots.size ≤ ((7 : Int32)).toNatClampNeg) := inb_of S45 ⟨by decide, by decide⟩
  obtain ⟨T46, h46, X46, e46, W46, st46⟩ := stC X43 hx hZ e43 Ar45 (j := (7 : Int32)) hin45 (g := (mkF m 95 #[.val (.ref r0), .val (.int (0 : Int32)), .val (.long q2), .second] [(.int (own_d q2 (100000000000 : Int64))), (.int (7 : Int32)), (.ref r0)])) rfl rfl (hb hby d1_95)
  have V46 : Arv Z h46 r0 kk .char (19 : Int32) [(.int ((own_d q2 (1000000000000000000 : Int64)).toUInt32.toUInt16.toUInt32.toInt32)), (.int ((own_d q2 (100000000000000000 : Int64)).toUInt32.toUInt16.toUInt32.toInt32)), (.int ((own_d q2 (10000000000000000 : Int64)).toUInt32.toUInt16.toUInt32.toInt32)), (.int ((own_d q2 (1000000000000000 : Int64)).toUInt32.toUInt16.toUInt32.toInt32)), (.int ((own_d q2 (100000000000000 : Int64)).toUInt32.toUInt16.toUInt32.toInt32)), (.int ((own_d q2 (10000000000000 : Int64)).toUInt32.toUInt16.toUInt32.toInt32)), (.int ((own_d q2 (1000000000000 : Int64)).toUInt32.toUInt16.toUInt32.toInt32)), (.int ((own_d q2 (100000000000 : Int64)).toUInt32.toUInt16.toUInt32.toInt32)), (.int (0 : Int32)), (.int (0 : Int32)), (.int (0 : Int32)), (.int (0 : Int32)), (.int (0 : Int32)), (.int (0 : Int32)), (.int (0 : Int32)), (.int (0 : Int32)), (.int (0 : Int32)), (.int (0 : Int32)), (.int (0 : Int32))] (.int (0 : Int32)) := Arv.set Ar45 qk45 S45 M45 H45 G45 (fits_nar_char _) W46 7 rfl (Nat.le_of_ble_eq_true rfl)
  have N46 := Fr.snoc X46 N43 g_r0
  have c47 : ∀ t, Steps p.tables e below (T46.setTop (mkF m 105 #[.val (.ref r0), .val (.int (0 : Int32)), .val (.long q2), .second] [(.long (10000000000 : Int64)), (.long q2), (.int ((0 : Int32) + (8 : Int32))), (.ref r0)])) t → Steps p.tables e below (T46.setTop (mkF m 96 #[.val (.ref r0), .val (.int (0 : Int32)), .val (.long q2), .second] [])) t := by
    intro t kt
    show Steps p.tables e below (T46.setTop (mkF m 96 #[.val (.ref r0), .val (.int (0 : Int32)), .val (.long q2), .second] [])) _
    refine XS.aloadN X46.here hx rfl (hb hby d1_96) rfl rfl ?_
    show Steps p.tables e below (T46.setTop (mkF m 97 #[.val (.ref r0), .val (.int (0 : Int32)), .val (.long q2), .second] [(.ref r0)])) _
    refine XS.iloadN X46.here hx rfl (hb hby d1_97) rfl ?_
    show Steps p.tables e below (T46.setTop (mkF m 98 #[.val (.ref r0), .val (.int (0 : Int32)), .val (.long q2), .second] [(.int (0 : Int32)), (.ref r0)])) _
    refine XS.bipush X46.here hx rfl (hb hby d1_98) ?_
    show Steps p.tables e below (T46.setTop (mkF m 100 #[.val (.ref r0), .val (.int (0 : Int32)), .val (.long q2), .second] [(.int (8 : Int32)), (.int (0 : Int32)), (.ref r0)])) _
    refine XS.iadd X46.here hx rfl (hb hby d1_100) rfl ?_
    show Steps p.tables e below (T46.setTop (mkF m 101 #[.val (.ref r0), .val (.int (0 : Int32)), .val (.long q2), .second] [(.int ((0 : Int32) + (8 : Int32))), (.ref r0)])) _
    refine XS.lloadN X46.here hx rfl (hb hby d1_101) rfl ?_
    show Steps p.tables e below (T46.setTop (mkF m 102 #[.val (.ref r0), .val (.int (0 : Int32)), .val (.long q2), .second] [(.long q2), (.int ((0 : Int32) + (8 : Int32))), (.ref r0)])) _
    refine X46.ldc2Long hx hown (mvT hZ (hw _ (List.mem_of_getElem? (i := 17) rfl))) (g := (mkF m 102 #[.val (.ref r0), .val (.int (0 : Int32)), .val (.long q2), .second] [(.long q2), (.int ((0 : Int32) + (8 : Int32))), (.ref r0)])) rfl (hb hby d1_102) _ ?_
    exact kt
  have f48 := (Nat.le_trans f42 (Keep.of_wr W46).1)
  obtain ⟨_, _, ⟨T49, L49, k49, n49⟩, -, X49, ⟨Lc49, hQ49, l49, y49, z49⟩, st49⟩ := Jvm.LawKit.callS X46 hx (y := (⟨"com/example/sequence_set/sequenceset/cli/DecimalParserAcceptPinLaw", "d", "(JJ)C"⟩ : MethodName)) hown (mvT hZ (hw _ (List.mem_of_getElem? (i := 6) rfl))) (mvT hZ (hw _ (List.mem_of_getElem? (i := 7) rfl))) (mvT hZ (hw _ (List.mem_of_getElem? (i := 3) rfl))) (mvT hZ (hw _ (List.mem_of_getElem? (i := 8) rfl))) (by decide) (backOf (W := 2) (rm2 l Z a0 hw [] q2 (10000000000 : Int64)  h46 n0 f48 (by decide)) hZ (hw _ (List.mem_of_getElem? (i := 8) rfl)) (hw _ (List.mem_of_getElem? (i := 3) rfl)) (by decide) (by decide)) (g := (mkF m 105 #[.val (.ref r0), .val (.int (0 : Int32)), .val (.long q2), .second] [(.long (10000000000 : Int64)), (.long q2), (.int ((0 : Int32) + (8 : Int32))), (.ref r0)])) rfl (by rw [hml]; rfl) (argsL := [(.long q2), (.long (10000000000 : Int64))]) (rest := [(.int ((0 : Int32) + (8 : Int32))), (.ref r0)]) (lenOf pd_10 rfl) rfl (by show 2 * 0 + _ ≤ _; exact Nat.le_of_eq rfl) (hb hby d1_105) (fun _ _ => ⟨rfl, e46, (by decide : 0 + 0 ≤ _), (by decide : 0 + 0 ≤ _)⟩)
  dsimp only [Pt.U, Pt.locs, Pt.cells, Pt.slots] at X49 l49 y49 z49 st49 hQ49
  subst l49 y49 z49
  obtain ⟨rfl, N49q, e49⟩ := hQ49
  have N49 := Fr.app N46 N49q
  obtain ⟨Go49, X49, N49⟩ := own_opq X49 N49
  have c50 : ∀ t, Steps p.tables e below (T49.setTop (mkF m 108 #[.val (.ref r0), .val (.int (0 : Int32)), .val (.long q2), .second] [(.int (own_d q2 (10000000000 : Int64))), (.int (8 : Int32)), (.ref r0)])) t → Steps p.tables e below (T49.setTop (mkF m 108 #[.val (.ref r0), .val (.int (0 : Int32)), .val (.long q2), .second] [(.int (own_d q2 (10000000000 : Int64))), (.int ((0 : Int32) + (8 : Int32))), (.ref r0)])) t := fun t kt => castTop (congrArg (fun zv => (mkF m 108 #[.val (.ref r0), .val (.int (0 : Int32)), .val (.long q2), .second] [(.int (own_d q2 (10000000000 : Int64))), (.int zv), (.ref r0)])) (show ((0 : Int32) + (8 : Int32)) = (8 : Int32) from by decide)) kt
  have Vc51 := V46
  obtain ⟨cl51, Ar51, qk51, S51, M51, H51, G51⟩ := Vc51
  have hin51 : ¬ ((8 : Int32) < 0 ∨ cl51.slots.size ≤ ((8 : Int32)).toNatClampNeg) := inb_of S51 ⟨by decide, by decide⟩
  obtain ⟨T52, h52, X52, e52, W52, st52⟩ := stC X49 hx hZ e49 Ar51 (j := (8 : Int32)) hin51 (g := (mkF m 108 #[.val (.ref r0), .val (.int (0 : Int32)), .val (.long q2), .second] [(.int (own_d q2 (10000000000 : Int64))), (.int (8 : Int32)), (.ref r0)])) rfl rfl (hb hby d1_108)
  have V52 : Arv Z h52 r0 kk .char (19 : Int32) [(.int ((own_d q2 (1000000000000000000 : Int64)).toUInt32.toUInt16.toUInt32.toInt32)), (.int ((own_d q2 (100000000000000000 : Int64)).toUInt32.toUInt16.toUInt32.toInt32)), (.int ((own_d q2 (10000000000000000 : Int64)).toUInt32.toUInt16.toUInt32.toInt32)), (.int ((own_d q2 (1000000000000000 : Int64)).toUInt32.toUInt16.toUInt32.toInt32)), (.int ((own_d q2 (100000000000000 : Int64)).toUInt32.toUInt16.toUInt32.toInt32)), (.int ((own_d q2 (10000000000000 : Int64)).toUInt32.toUInt16.toUInt32.toInt32)), (.int ((own_d q2 (1000000000000 : Int64)).toUInt32.toUInt16.toUInt32.toInt32)), (.int ((own_d q2 (100000000000 : Int64)).toUInt32.toUInt16.toUInt32.toInt32)), (.int ((own_d q2 (10000000000 : Int64)).toUInt32.toUInt16.toUInt32.toInt32)), (.int (0 : Int32)), (.int (0 : Int32)), (.int (0 : Int32)), (.int (0 : Int32)), (.int (0 : Int32)), (.int (0 : Int32)), (.int (0 : Int32)), (.int (0 : Int32)), (.int (0 : Int32)), (.int (0 : Int32))] (.int (0 : Int32)) := Arv.set Ar51 qk51 S51 M51 H51 G51 (fits_nar_char _) W52 8 rfl (Nat.le_of_ble_eq_true rfl)
  have N52 := Fr.snoc X52 N49 g_r0
  have c53 : ∀ t, Steps p.tables e below (T52.setTop (mkF m 118 #[.val (.ref r0), .val (.int (0 : Int32)), .val (.long q2), .second] [(.long (1000000000 : Int64)), (.long q2), (.int ((0 : Int32) + (9 : Int32))), (.ref r0)])) t → Steps p.tables e below (T52.setTop (mkF m 109 #[.val (.ref r0), .val (.int (0 : Int32)), .val (.long q2), .second] [])) t := by
    intro t kt
    show Steps p.tables e below (T52.setTop (mkF m 109 #[.val (.ref r0), .val (.int (0 : Int32)), .val (.long q2), .second] [])) _
    refine XS.aloadN X52.here hx rfl (hb hby d1_109) rfl rfl ?_
    show Steps p.tables e below (T52.setTop (mkF m 110 #[.val (.ref r0), .val (.int (0 : Int32)), .val (.long q2), .second] [(.ref r0)])) _
    refine XS.iloadN X52.here hx rfl (hb hby d1_110) rfl ?_
    show Steps p.tables e below (T52.setTop (mkF m 111 #[.val (.ref r0), .val (.int (0 : Int32)), .val (.long q2), .second] [(.int (0 : Int32)), (.ref r0)])) _
    refine XS.bipush X52.here hx rfl (hb hby d1_111) ?_
    show Steps p.tables e below (T52.setTop (mkF m 113 #[.val (.ref r0), .val (.int (0 : Int32)), .val (.long q2), .second] [(.int (9 : Int32)), (.int (0 : Int32)), (.ref r0)])) _
    refine XS.iadd X52.here hx rfl (hb hby d1_113) rfl ?_
    show Steps p.tables e below (T52.setTop (mkF m 114 #[.val (.ref r0), .val (.int (0 : Int32)), .val (.long q2), .second] [(.int ((0 : Int32) + (9 : Int32))), (.ref r0)])) _
    refine XS.lloadN X52.here hx rfl (hb hby d1_114) rfl ?_
    show Steps p.tables e below (T52.setTop (mkF m 115 #[.val (.ref r0), .val (.int (0 : Int32)), .val (.long q2), .second] [(.long q2), (.int ((0 : Int32) + (9 : Int32))), (.ref r0)])) _
    refine X52.ldc2Long hx hown (mvT hZ (hw _ (List.mem_of_getElem? (i := 18) rfl))) (g := (mkF m 115 #[.val (.ref r0), .val (.int (0 : Int32)), .val (.long q2), .second] [(.long q2), (.int ((0 : Int32) + (9 : Int32))), (.ref r0)])) rfl (hb hby d1_115) _ ?_
    exact kt
  have f54 := (Nat.le_trans f48 (Keep.of_wr W52).1)
  obtain ⟨_, _, ⟨T55, L55, k55, n55⟩, -, X55, ⟨Lc55, hQ55, l55, y55, z55⟩, st55⟩ := Jvm.LawKit.callS X52 hx (y := (⟨"com/example/sequence_set/sequenceset/cli/DecimalParserAcceptPinLaw", "d", "(JJ)C"⟩ : MethodName)) hown (mvT hZ (hw _ (List.mem_of_getElem? (i := 6) rfl))) (mvT hZ (hw _ (List.mem_of_getElem? (i := 7) rfl))) (mvT hZ (hw _ (List.mem_of_getElem? (i := 3) rfl))) (mvT hZ (hw _ (List.mem_of_getElem? (i := 8) rfl))) (by decide) (backOf (W := 2) (rm2 l Z a0 hw [] q2 (1000000000 : Int64)  h52 n0 f54 (by decide)) hZ (hw _ (List.mem_of_getElem? (i := 8) rfl)) (hw _ (List.mem_of_getElem? (i := 3) rfl)) (by decide) (by decide)) (g := (mkF m 118 #[.val (.ref r0), .val (.int (0 : Int32)), .val (.long q2), .second] [(.long (1000000000 : Int64)), (.long q2), (.int ((0 : Int32) + (9 : Int32))), (.ref r0)])) rfl (by rw [hml]; rfl) (argsL := [(.long q2), (.long (1000000000 : Int64))]) (rest := [(.int ((0 : Int32) + (9 : Int32))), (.ref r0)]) (lenOf pd_10 rfl) rfl (by show 2 * 0 + _ ≤ _; exact Nat.le_of_eq rfl) (hb hby d1_118) (fun _ _ => ⟨rfl, e52, (by decide : 0 + 0 ≤ _), (by decide : 0 + 0 ≤ _)⟩)
  dsimp only [Pt.U, Pt.locs, Pt.cells, Pt.slots] at X55 l55 y55 z55 st55 hQ55
  subst l55 y55 z55
  obtain ⟨rfl, N55q, e55⟩ := hQ55
  have N55 := Fr.app N52 N55q
  obtain ⟨Go55, X55, N55⟩ := own_opq X55 N55
  have c56 : ∀ t, Steps p.tables e below (T55.setTop (mkF m 121 #[.val (.ref r0), .val (.int (0 : Int32)), .val (.long q2), .second] [(.int (own_d q2 (1000000000 : Int64))), (.int (9 : Int32)), (.ref r0)])) t → Steps p.tables e below (T55.setTop (mkF m 121 #[.val (.ref r0), .val (.int (0 : Int32)), .val (.long q2), .second] [(.int (own_d q2 (1000000000 : Int64))), (.int ((0 : Int32) + (9 : Int32))), (.ref r0)])) t := fun t kt => castTop (congrArg (fun zv => (mkF m 121 #[.val (.ref r0), .val (.int (0 : Int32)), .val (.long q2), .second] [(.int (own_d q2 (1000000000 : Int64))), (.int zv), (.ref r0)])) (show ((0 : Int32) + (9 : Int32)) = (9 : Int32) from by decide)) kt
  have Vc57 := V52
  obtain ⟨cl57, Ar57, qk57, S57, M57, H57, G57⟩ := Vc57
  have hin57 : ¬ ((9 : Int32) < 0 ∨ cl57.slots.size ≤ ((9 : Int32)).toNatClampNeg) := inb_of S57 ⟨by decide, by decide⟩
  obtain ⟨T58, h58, X58, e58, W58, st58⟩ := stC X55 hx hZ e55 Ar57 (j := (9 : Int32)) hin57 (g := (mkF m 121 #[.val (.ref r0), .val (.int (0 : Int32)), .val (.long q2), .second] [(.int (own_d q2 (1000000000 : Int64))), (.int (9 : Int32)), (.ref r0)])) rfl rfl (hb hby d1_121)
  have V58 : Arv Z h58 r0 kk .char (19 : Int32) [(.int ((own_d q2 (1000000000000000000 : Int64)).toUInt32.toUInt16.toUInt32.toInt32)), (.int ((own_d q2 (100000000000000000 : Int64)).toUInt32.toUInt16.toUInt32.toInt32)), (.int ((own_d q2 (10000000000000000 : Int64)).toUInt32.toUInt16.toUInt32.toInt32)), (.int ((own_d q2 (1000000000000000 : Int64)).toUInt32.toUInt16.toUInt32.toInt32)), (.int ((own_d q2 (100000000000000 : Int64)).toUInt32.toUInt16.toUInt32.toInt32)), (.int ((own_d q2 (10000000000000 : Int64)).toUInt32.toUInt16.toUInt32.toInt32)), (.int ((own_d q2 (1000000000000 : Int64)).toUInt32.toUInt16.toUInt32.toInt32)), (.int ((own_d q2 (100000000000 : Int64)).toUInt32.toUInt16.toUInt32.toInt32)), (.int ((own_d q2 (10000000000 : Int64)).toUInt32.toUInt16.toUInt32.toInt32)), (.int ((own_d q2 (1000000000 : Int64)).toUInt32.toUInt16.toUInt32.toInt32)), (.int (0 : Int32)), (.int (0 : Int32)), (.int (0 : Int32)), (.int (0 : Int32)), (.int (0 : Int32)), (.int (0 : Int32)), (.int (0 : Int32)), (.int (0 : Int32)), (.int (0 : Int32))] (.int (0 : Int32)) := Arv.set Ar57 qk57 S57 M57 H57 G57 (fits_nar_char _) W58 9 rfl (Nat.le_of_ble_eq_true rfl)
  have N58 := Fr.snoc X58 N55 g_r0
  have c59 : ∀ t, Steps p.tables e below (T58.setTop (mkF m 131 #[.val (.ref r0), .val (.int (0 : Int32)), .val (.long q2), .second] [(.long (100000000 : Int64)), (.long q2), (.int ((0 : Int32) + (10 : Int32))), (.ref r0)])) t → Steps p.tables e below (T58.setTop (mkF m 122 #[.val (.ref r0), .val (.int (0 : Int32)), .val (.long q2), .second] [])) t := by
    intro t kt
    show Steps p.tables e below (T58.setTop (mkF m 122 #[.val (.ref r0), .val (.int (0 : Int32)), .val (.long q2), .second] [])) _
    refine XS.aloadN X58.here hx rfl (hb hby d1_122) rfl rfl ?_
    show Steps p.tables e below (T58.setTop (mkF m 123 #[.val (.ref r0), .val (.int (0 : Int32)), .val (.long q2), .second] [(.ref r0)])) _
    refine XS.iloadN X58.here hx rfl (hb hby d1_123) rfl ?_
    show Steps p.tables e below (T58.setTop (mkF m 124 #[.val (.ref r0), .val (.int (0 : Int32)), .val (.long q2), .second] [(.int (0 : Int32)), (.ref r0)])) _
    refine XS.bipush X58.here hx rfl (hb hby d1_124) ?_
    show Steps p.tables e below (T58.setTop (mkF m 126 #[.val (.ref r0), .val (.int (0 : Int32)), .val (.long q2), .second] [(.int (10 : Int32)), (.int (0 : Int32)), (.ref r0)])) _
    refine XS.iadd X58.here hx rfl (hb hby d1_126) rfl ?_
    show Steps p.tables e below (T58.setTop (mkF m 127 #[.val (.ref r0), .val (.int (0 : Int32)), .val (.long q2), .second] [(.int ((0 : Int32) + (10 : Int32))), (.ref r0)])) _
    refine XS.lloadN X58.here hx rfl (hb hby d1_127) rfl ?_
    show Steps p.tables e below (T58.setTop (mkF m 128 #[.val (.ref r0), .val (.int (0 : Int32)), .val (.long q2), .second] [(.long q2), (.int ((0 : Int32) + (10 : Int32))), (.ref r0)])) _
    refine X58.ldc2Long hx hown (mvT hZ (hw _ (List.mem_of_getElem? (i := 19) rfl))) (g := (mkF m 128 #[.val (.ref r0), .val (.int (0 : Int32)), .val (.long q2), .second] [(.long q2), (.int ((0 : Int32) + (10 : Int32))), (.ref r0)])) rfl (hb hby d1_128) _ ?_
    exact kt
  have f60 := (Nat.le_trans f54 (Keep.of_wr W58).1)
  obtain ⟨_, _, ⟨T61, L61, k61, n61⟩, -, X61, ⟨Lc61, hQ61, l61, y61, z61⟩, st61⟩ := Jvm.LawKit.callS X58 hx (y := (⟨"com/example/sequence_set/sequenceset/cli/DecimalParserAcceptPinLaw", "d", "(JJ)C"⟩ : MethodName)) hown (mvT hZ (hw _ (List.mem_of_getElem? (i := 6) rfl))) (mvT hZ (hw _ (List.mem_of_getElem? (i := 7) rfl))) (mvT hZ (hw _ (List.mem_of_getElem? (i := 3) rfl))) (mvT hZ (hw _ (List.mem_of_getElem? (i := 8) rfl))) (by decide) (backOf (W := 2) (rm2 l Z a0 hw [] q2 (100000000 : Int64)  h58 n0 f60 (by decide)) hZ (hw _ (List.mem_of_getElem? (i := 8) rfl)) (hw _ (List.mem_of_getElem? (i := 3) rfl)) (by decide) (by decide)) (g := (mkF m 131 #[.val (.ref r0), .val (.int (0 : Int32)), .val (.long q2), .second] [(.long (100000000 : Int64)), (.long q2), (.int ((0 : Int32) + (10 : Int32))), (.ref r0)])) rfl (by rw [hml]; rfl) (argsL := [(.long q2), (.long (100000000 : Int64))]) (rest := [(.int ((0 : Int32) + (10 : Int32))), (.ref r0)]) (lenOf pd_10 rfl) rfl (by show 2 * 0 + _ ≤ _; exact Nat.le_of_eq rfl) (hb hby d1_131) (fun _ _ => ⟨rfl, e58, (by decide : 0 + 0 ≤ _), (by decide : 0 + 0 ≤ _)⟩)
  dsimp only [Pt.U, Pt.locs, Pt.cells, Pt.slots] at X61 l61 y61 z61 st61 hQ61
  subst l61 y61 z61
  obtain ⟨rfl, N61q, e61⟩ := hQ61
  have N61 := Fr.app N58 N61q
  obtain ⟨Go61, X61, N61⟩ := own_opq X61 N61
  have c62 : ∀ t, Steps p.tables e below (T61.setTop (mkF m 134 #[.val (.ref r0), .val (.int (0 : Int32)), .val (.long q2), .second] [(.int (own_d q2 (100000000 : Int64))), (.int (10 : Int32)), (.ref r0)])) t → Steps p.tables e below (T61.setTop (mkF m 134 #[.val (.ref r0), .val (.int (0 : Int32)), .val (.long q2), .second] [(.int (own_d q2 (100000000 : Int64))), (.int ((0 : Int32) + (10 : Int32))), (.ref r0)])) t := fun t kt => castTop (congrArg (fun zv => (mkF m 134 #[.val (.ref r0), .val (.int (0 : Int32)), .val (.long q2), .second] [(.int (own_d q2 (100000000 : Int64))), (.int zv), (.ref r0)])) (show ((0 : Int32) + (10 : Int32)) = (10 : Int32) from by decide)) kt
  have Vc63 := V58
  obtain ⟨cl63, Ar63, qk63, S63, M63, H63, G63⟩ := Vc63
  have hin63 : ¬ ((10 : Int32) < 0 ∨ cl63.slots.size ≤ ((10 : Int32)).toNatClampNeg) := inb_of S63 ⟨by decide, by decide⟩
  obtain ⟨T64, h64, X64, e64, W64, st64⟩ := stC X61 hx hZ e61 Ar63 (j := (10 : Int32)) hin63 (g := (mkF m 134 #[.val (.ref r0), .val (.int (0 : Int32)), .val (.long q2), .second] [(.int (own_d q2 (100000000 : Int64))), (.int (10 : Int32)), (.ref r0)])) rfl rfl (hb hby d1_134)
  have V64 : Arv Z h64 r0 kk .char (19 : Int32) [(.int ((own_d q2 (1000000000000000000 : Int64)).toUInt32.toUInt16.toUInt32.toInt32)), (.int ((own_d q2 (100000000000000000 : Int64)).toUInt32.toUInt16.toUInt32.toInt32)), (.int ((own_d q2 (10000000000000000 : Int64)).toUInt32.toUInt16.toUInt32.toInt32)), (.int ((own_d q2 (1000000000000000 : Int64)).toUInt32.toUInt16.toUInt32.toInt32)), (.int ((own_d q2 (100000000000000 : Int64)).toUInt32.toUInt16.toUInt32.toInt32)), (.int ((own_d q2 (10000000000000 : Int64)).toUInt32.toUInt16.toUInt32.toInt32)), (.int ((own_d q2 (1000000000000 : Int64)).toUInt32.toUInt16.toUInt32.toInt32)), (.int ((own_d q2 (100000000000 : Int64)).toUInt32.toUInt16.toUInt32.toInt32)), (.int ((own_d q2 (10000000000 : Int64)).toUInt32.toUInt16.toUInt32.toInt32)), (.int ((own_d q2 (1000000000 : Int64)).toUInt32.toUInt16.toUInt32.toInt32)), (.int ((own_d q2 (100000000 : Int64)).toUInt32.toUInt16.toUInt32.toInt32)), (.int (0 : Int32)), (.int (0 : Int32)), (.int (0 : Int32)), (.int (0 : Int32)), (.int (0 : Int32)), (.int (0 : Int32)), (.int (0 : Int32)), (.int (0 : Int32))] (.int (0 : Int32)) := Arv.set Ar63 qk63 S63 M63 H63 G63 (fits_nar_char _) W64 10 rfl (Nat.le_of_ble_eq_true rfl)
  have N64 := Fr.snoc X64 N61 g_r0
  have c65 : ∀ t, Steps p.tables e below (T64.setTop (mkF m 144 #[.val (.ref r0), .val (.int (0 : Int32)), .val (.long q2), .second] [(.long (10000000 : Int64)), (.long q2), (.int ((0 : Int32) + (11 : Int32))), (.ref r0)])) t → Steps p.tables e below (T64.setTop (mkF m 135 #[.val (.ref r0), .val (.int (0 : Int32)), .val (.long q2), .second] [])) t := by
    intro t kt
    show Steps p.tables e below (T64.setTop (mkF m 135 #[.val (.ref r0), .val (.int (0 : Int32)), .val (.long q2), .second] [])) _
    refine XS.aloadN X64.here hx rfl (hb hby d1_135) rfl rfl ?_
    show Steps p.tables e below (T64.setTop (mkF m 136 #[.val (.ref r0), .val (.int (0 : Int32)), .val (.long q2), .second] [(.ref r0)])) _
    refine XS.iloadN X64.here hx rfl (hb hby d1_136) rfl ?_
    show Steps p.tables e below (T64.setTop (mkF m 137 #[.val (.ref r0), .val (.int (0 : Int32)), .val (.long q2), .second] [(.int (0 : Int32)), (.ref r0)])) _
    refine XS.bipush X64.here hx rfl (hb hby d1_137) ?_
    show Steps p.tables e below (T64.setTop (mkF m 139 #[.val (.ref r0), .val (.int (0 : Int32)), .val (.long q2), .second] [(.int (11 : Int32)), (.int (0 : Int32)), (.ref r0)])) _
    refine XS.iadd X64.here hx rfl (hb hby d1_139) rfl ?_
    show Steps p.tables e below (T64.setTop (mkF m 140 #[.val (.ref r0), .val (.int (0 : Int32)), .val (.long q2), .second] [(.int ((0 : Int32) + (11 : Int32))), (.ref r0)])) _
    refine XS.lloadN X64.here hx rfl (hb hby d1_140) rfl ?_
    show Steps p.tables e below (T64.setTop (mkF m 141 #[.val (.ref r0), .val (.int (0 : Int32)), .val (.long q2), .second] [(.long q2), (.int ((0 : Int32) + (11 : Int32))), (.ref r0)])) _
    refine X64.ldc2Long hx hown (mvT hZ (hw _ (List.mem_of_getElem? (i := 20) rfl))) (g := (mkF m 141 #[.val (.ref r0), .val (.int (0 : Int32)), .val (.long q2), .second] [(.long q2), (.int ((0 : Int32) + (11 : Int32))), (.ref r0)])) rfl (hb hby d1_141) _ ?_
    exact kt
  have f66 := (Nat.le_trans f60 (Keep.of_wr W64).1)
  obtain ⟨_, _, ⟨T67, L67, k67, n67⟩, -, X67, ⟨Lc67, hQ67, l67, y67, z67⟩, st67⟩ := Jvm.LawKit.callS X64 hx (y := (⟨"com/example/sequence_set/sequenceset/cli/DecimalParserAcceptPinLaw", "d", "(JJ)C"⟩ : MethodName)) hown (mvT hZ (hw _ (List.mem_of_getElem? (i := 6) rfl))) (mvT hZ (hw _ (List.mem_of_getElem? (i := 7) rfl))) (mvT hZ (hw _ (List.mem_of_getElem? (i := 3) rfl))) (mvT hZ (hw _ (List.mem_of_getElem? (i := 8) rfl))) (by decide) (backOf (W := 2) (rm2 l Z a0 hw [] q2 (10000000 : Int64)  h64 n0 f66 (by decide)) hZ (hw _ (List.mem_of_getElem? (i := 8) rfl)) (hw _ (List.mem_of_getElem? (i := 3) rfl)) (by decide) (by decide)) (g := (mkF m 144 #[.val (.ref r0), .val (.int (0 : Int32)), .val (.long q2), .second] [(.long (10000000 : Int64)), (.long q2), (.int ((0 : Int32) + (11 : Int32))), (.ref r0)])) rfl (by rw [hml]; rfl) (argsL := [(.long q2), (.long (10000000 : Int64))]) (rest := [(.int ((0 : Int32) + (11 : Int32))), (.ref r0)]) (lenOf pd_10 rfl) rfl (by show 2 * 0 + _ ≤ _; exact Nat.le_of_eq rfl) (hb hby d1_144) (fun _ _ => ⟨rfl, e64, (by decide : 0 + 0 ≤ _), (by decide : 0 + 0 ≤ _)⟩)
  dsimp only [Pt.U, Pt.locs, Pt.cells, Pt.slots] at X67 l67 y67 z67 st67 hQ67
  subst l67 y67 z67
  obtain ⟨rfl, N67q, e67⟩ := hQ67
  have N67 := Fr.app N64 N67q
  obtain ⟨Go67, X67, N67⟩ := own_opq X67 N67
  have c68 : ∀ t, Steps p.tables e below (T67.setTop (mkF m 147 #[.val (.ref r0), .val (.int (0 : Int32)), .val (.long q2), .second] [(.int (own_d q2 (10000000 : Int64))), (.int (11 : Int32)), (.ref r0)])) t → Steps p.tables e below (T67.setTop (mkF m 147 #[.val (.ref r0), .val (.int (0 : Int32)), .val (.long q2), .second] [(.int (own_d q2 (10000000 : Int64))), (.int ((0 : Int32) + (11 : Int32))), (.ref r0)])) t := fun t kt => castTop (congrArg (fun zv => (mkF m 147 #[.val (.ref r0), .val (.int (0 : Int32)), .val (.long q2), .second] [(.int (own_d q2 (10000000 : Int64))), (.int zv), (.ref r0)])) (show ((0 : Int32) + (11 : Int32)) = (11 : Int32) from by decide)) kt
  have Vc69 := V64
  obtain ⟨cl69, Ar69, qk69, S69, M69, H69, G69⟩ := Vc69
  have hin69 : ¬ ((11 : Int32) < 0 ∨ cl69.slots.size ≤ ((11 : Int32)).toNatClampNeg) := inb_of S69 ⟨by decide, by decide⟩
  obtain ⟨T70, h70, X70, e70, W70, st70⟩ := stC X67 hx hZ e67 Ar69 (j := (11 : Int32)) hin69 (g := (mkF m 147 #[.val (.ref r0), .val (.int (0 : Int32)), .val (.long q2), .second] [(.int (own_d q2 (10000000 : Int64))), (.int (11 : Int32)), (.ref r0)])) rfl rfl (hb hby d1_147)
  have V70 : Arv Z h70 r0 kk .char (19 : Int32) [(.int ((own_d q2 (1000000000000000000 : Int64)).toUInt32.toUInt16.toUInt32.toInt32)), (.int ((own_d q2 (100000000000000000 : Int64)).toUInt32.toUInt16.toUInt32.toInt32)), (.int ((own_d q2 (10000000000000000 : Int64)).toUInt32.toUInt16.toUInt32.toInt32)), (.int ((own_d q2 (1000000000000000 : Int64)).toUInt32.toUInt16.toUInt32.toInt32)), (.int ((own_d q2 (100000000000000 : Int64)).toUInt32.toUInt16.toUInt32.toInt32)), (.int ((own_d q2 (10000000000000 : Int64)).toUInt32.toUInt16.toUInt32.toInt32)), (.int ((own_d q2 (1000000000000 : Int64)).toUInt32.toUInt16.toUInt32.toInt32)), (.int ((own_d q2 (100000000000 : Int64)).toUInt32.toUInt16.toUInt32.toInt32)), (.int ((own_d q2 (10000000000 : Int64)).toUInt32.toUInt16.toUInt32.toInt32)), (.int ((own_d q2 (1000000000 : Int64)).toUInt32.toUInt16.toUInt32.toInt32)), (.int ((own_d q2 (100000000 : Int64)).toUInt32.toUInt16.toUInt32.toInt32)), (.int ((own_d q2 (10000000 : Int64)).toUInt32.toUInt16.toUInt32.toInt32)), (.int (0 : Int32)), (.int (0 : Int32)), (.int (0 : Int32)), (.int (0 : Int32)), (.int (0 : Int32)), (.int (0 : Int32)), (.int (0 : Int32))] (.int (0 : Int32)) := Arv.set Ar69 qk69 S69 M69 H69 G69 (fits_nar_char _) W70 11 rfl (Nat.le_of_ble_eq_true rfl)
  have N70 := Fr.snoc X70 N67 g_r0
  have c71 : ∀ t, Steps p.tables e below (T70.setTop (mkF m 157 #[.val (.ref r0), .val (.int (0 : Int32)), .val (.long q2), .second] [(.long (1000000 : Int64)), (.long q2), (.int ((0 : Int32) + (12 : Int32))), (.ref r0)])) t → Steps p.tables e below (T70.setTop (mkF m 148 #[.val (.ref r0), .val (.int (0 : Int32)), .val (.long q2), .second] [])) t := by
    intro t kt
    show Steps p.tables e below (T70.setTop (mkF m 148 #[.val (.ref r0), .val (.int (0 : Int32)), .val (.long q2), .second] [])) _
    refine XS.aloadN X70.here hx rfl (hb hby d1_148) rfl rfl ?_
    show Steps p.tables e below (T70.setTop (mkF m 149 #[.val (.ref r0), .val (.int (0 : Int32)), .val (.long q2), .second] [(.ref r0)])) _
    refine XS.iloadN X70.here hx rfl (hb hby d1_149) rfl ?_
    show Steps p.tables e below (T70.setTop (mkF m 150 #[.val (.ref r0), .val (.int (0 : Int32)), .val (.long q2), .second] [(.int (0 : Int32)), (.ref r0)])) _
    refine XS.bipush X70.here hx rfl (hb hby d1_150) ?_
    show Steps p.tables e below (T70.setTop (mkF m 152 #[.val (.ref r0), .val (.int (0 : Int32)), .val (.long q2), .second] [(.int (12 : Int32)), (.int (0 : Int32)), (.ref r0)])) _
    refine XS.iadd X70.here hx rfl (hb hby d1_152) rfl ?_
    show Steps p.tables e below (T70.setTop (mkF m 153 #[.val (.ref r0), .val (.int (0 : Int32)), .val (.long q2), .second] [(.int ((0 : Int32) + (12 : Int32))), (.ref r0)])) _
    refine XS.lloadN X70.here hx rfl (hb hby d1_153) rfl ?_
    show Steps p.tables e below (T70.setTop (mkF m 154 #[.val (.ref r0), .val (.int (0 : Int32)), .val (.long q2), .second] [(.long q2), (.int ((0 : Int32) + (12 : Int32))), (.ref r0)])) _
    refine X70.ldc2Long hx hown (mvT hZ (hw _ (List.mem_of_getElem? (i := 21) rfl))) (g := (mkF m 154 #[.val (.ref r0), .val (.int (0 : Int32)), .val (.long q2), .second] [(.long q2), (.int ((0 : Int32) + (12 : Int32))), (.ref r0)])) rfl (hb hby d1_154) _ ?_
    exact kt
  have f72 := (Nat.le_trans f66 (Keep.of_wr W70).1)
  obtain ⟨_, _, ⟨T73, L73, k73, n73⟩, -, X73, ⟨Lc73, hQ73, l73, y73, z73⟩, st73⟩ := Jvm.LawKit.callS X70 hx (y := (⟨"com/example/sequence_set/sequenceset/cli/DecimalParserAcceptPinLaw", "d", "(JJ)C"⟩ : MethodName)) hown (mvT hZ (hw _ (List.mem_of_getElem? (i := 6) rfl))) (mvT hZ (hw _ (List.mem_of_getElem? (i := 7) rfl))) (mvT hZ (hw _ (List.mem_of_getElem? (i := 3) rfl))) (mvT hZ (hw _ (List.mem_of_getElem? (i := 8) rfl))) (by decide) (backOf (W := 2) (rm2 l Z a0 hw [] q2 (1000000 : Int64)  h70 n0 f72 (by decide)) hZ (hw _ (List.mem_of_getElem? (i := 8) rfl)) (hw _ (List.mem_of_getElem? (i := 3) rfl)) (by decide) (by decide)) (g := (mkF m 157 #[.val (.ref r0), .val (.int (0 : Int32)), .val (.long q2), .second] [(.long (1000000 : Int64)), (.long q2), (.int ((0 : Int32) + (12 : Int32))), (.ref r0)])) rfl (by rw [hml]; rfl) (argsL := [(.long q2), (.long (1000000 : Int64))]) (rest := [(.int ((0 : Int32) + (12 : Int32))), (.ref r0)]) (lenOf pd_10 rfl) rfl (by show 2 * 0 + _ ≤ _; exact Nat.le_of_eq rfl) (hb hby d1_157) (fun _ _ => ⟨rfl, e70, (by decide : 0 + 0 ≤ _), (by decide : 0 + 0 ≤ _)⟩)
  dsimp only [Pt.U, Pt.locs, Pt.cells, Pt.slots] at X73 l73 y73 z73 st73 hQ73
  subst l73 y73 z73
  obtain ⟨rfl, N73q, e73⟩ := hQ73
  have N73 := Fr.app N70 N73q
  obtain ⟨Go73, X73, N73⟩ := own_opq X73 N73
  have c74 : ∀ t, Steps p.tables e below (T73.setTop (mkF m 160 #[.val (.ref r0), .val (.int (0 : Int32)), .val (.long q2), .second] [(.int (own_d q2 (1000000 : Int64))), (.int (12 : Int32)), (.ref r0)])) t → Steps p.tables e below (T73.setTop (mkF m 160 #[.val (.ref r0), .val (.int (0 : Int32)), .val (.long q2), .second] [(.int (own_d q2 (1000000 : Int64))), (.int ((0 : Int32) + (12 : Int32))), (.ref r0)])) t := fun t kt => castTop (congrArg (fun zv => (mkF m 160 #[.val (.ref r0), .val (.int (0 : Int32)), .val (.long q2), .second] [(.int (own_d q2 (1000000 : Int64))), (.int zv), (.ref r0)])) (show ((0 : Int32) + (12 : Int32)) = (12 : Int32) from by decide)) kt
  have Vc75 := V70
  obtain ⟨cl75, Ar75, qk75, S75, M75, H75, G75⟩ := Vc75
  have hin75 : ¬ ((12 : Int32) < 0 ∨ cl75.slots.size ≤ ((12 : Int32)).toNatClampNeg) := inb_of S75 ⟨by decide, by decide⟩
  obtain ⟨T76, h76, X76, e76, W76, st76⟩ := stC X73 hx hZ e73 Ar75 (j := (12 : Int32)) hin75 (g := (mkF m 160 #[.val (.ref r0), .val (.int (0 : Int32)), .val (.long q2), .second] [(.int (own_d q2 (1000000 : Int64))), (.int (12 : Int32)), (.ref r0)])) rfl rfl (hb hby d1_160)
  have V76 : Arv Z h76 r0 kk .char (19 : Int32) [(.int ((own_d q2 (1000000000000000000 : Int64)).toUInt32.toUInt16.toUInt32.toInt32)), (.int ((own_d q2 (100000000000000000 : Int64)).toUInt32.toUInt16.toUInt32.toInt32)), (.int ((own_d q2 (10000000000000000 : Int64)).toUInt32.toUInt16.toUInt32.toInt32)), (.int ((own_d q2 (1000000000000000 : Int64)).toUInt32.toUInt16.toUInt32.toInt32)), (.int ((own_d q2 (100000000000000 : Int64)).toUInt32.toUInt16.toUInt32.toInt32)), (.int ((own_d q2 (10000000000000 : Int64)).toUInt32.toUInt16.toUInt32.toInt32)), (.int ((own_d q2 (1000000000000 : Int64)).toUInt32.toUInt16.toUInt32.toInt32)), (.int ((own_d q2 (100000000000 : Int64)).toUInt32.toUInt16.toUInt32.toInt32)), (.int ((own_d q2 (10000000000 : Int64)).toUInt32.toUInt16.toUInt32.toInt32)), (.int ((own_d q2 (1000000000 : Int64)).toUInt32.toUInt16.toUInt32.toInt32)), (.int ((own_d q2 (100000000 : Int64)).toUInt32.toUInt16.toUInt32.toInt32)), (.int ((own_d q2 (10000000 : Int64)).toUInt32.toUInt16.toUInt32.toInt32)), (.int ((own_d q2 (1000000 : Int64)).toUInt32.toUInt16.toUInt32.toInt32)), (.int (0 : Int32)), (.int (0 : Int32)), (.int (0 : Int32)), (.int (0 : Int32)), (.int (0 : Int32)), (.int (0 : Int32))] (.int (0 : Int32)) := Arv.set Ar75 qk75 S75 M75 H75 G75 (fits_nar_char _) W76 12 rfl (Nat.le_of_ble_eq_true rfl)
  have N76 := Fr.snoc X76 N73 g_r0
  have c77 : ∀ t, Steps p.tables e below (T76.setTop (mkF m 170 #[.val (.ref r0), .val (.int (0 : Int32)), .val (.long q2), .second] [(.long (100000 : Int64)), (.long q2), (.int ((0 : Int32) + (13 : Int32))), (.ref r0)])) t → Steps p.tables e below (T76.setTop (mkF m 161 #[.val (.ref r0), .val (.int (0 : Int32)), .val (.long q2), .second] [])) t := by
    intro t kt
    show Steps p.tables e below (T76.setTop (mkF m 161 #[.val (.ref r0), .val (.int (0 : Int32)), .val (.long q2), .second] [])) _
    refine XS.aloadN X76.here hx rfl (hb hby d1_161) rfl rfl ?_
    show Steps p.tables e below (T76.setTop (mkF m 162 #[.val (.ref r0), .val (.int (0 : Int32)), .val (.long q2), .second] [(.ref r0)])) _
    refine XS.iloadN X76.here hx rfl (hb hby d1_162) rfl ?_
    show Steps p.tables e below (T76.setTop (mkF m 163 #[.val (.ref r0), .val (.int (0 : Int32)), .val (.long q2), .second] [(.int (0 : Int32)), (.ref r0)])) _
    refine XS.bipush X76.here hx rfl (hb hby d1_163) ?_
    show Steps p.tables e below (T76.setTop (mkF m 165 #[.val (.ref r0), .val (.int (0 : Int32)), .val (.long q2), .second] [(.int (13 : Int32)), (.int (0 : Int32)), (.ref r0)])) _
    refine XS.iadd X76.here hx rfl (hb hby d1_165) rfl ?_
    show Steps p.tables e below (T76.setTop (mkF m 166 #[.val (.ref r0), .val (.int (0 : Int32)), .val (.long q2), .second] [(.int ((0 : Int32) + (13 : Int32))), (.ref r0)])) _
    refine XS.lloadN X76.here hx rfl (hb hby d1_166) rfl ?_
    show Steps p.tables e below (T76.setTop (mkF m 167 #[.val (.ref r0), .val (.int (0 : Int32)), .val (.long q2), .second] [(.long q2), (.int ((0 : Int32) + (13 : Int32))), (.ref r0)])) _
    refine X76.ldc2Long hx hown (mvT hZ (hw _ (List.mem_of_getElem? (i := 22) rfl))) (g := (mkF m 167 #[.val (.ref r0), .val (.int (0 : Int32)), .val (.long q2), .second] [(.long q2), (.int ((0 : Int32) + (13 : Int32))), (.ref r0)])) rfl (hb hby d1_167) _ ?_
    exact kt
  have f78 := (Nat.le_trans f72 (Keep.of_wr W76).1)
  obtain ⟨_, _, ⟨T79, L79, k79, n79⟩, -, X79, ⟨Lc79, hQ79, l79, y79, z79⟩, st79⟩ := Jvm.LawKit.callS X76 hx (y := (⟨"com/example/sequence_set/sequenceset/cli/DecimalParserAcceptPinLaw", "d", "(JJ)C"⟩ : MethodName)) hown (mvT hZ (hw _ (List.mem_of_getElem? (i := 6) rfl))) (mvT hZ (hw _ (List.mem_of_getElem? (i := 7) rfl))) (mvT hZ (hw _ (List.mem_of_getElem? (i := 3) rfl))) (mvT hZ (hw _ (List.mem_of_getElem? (i := 8) rfl))) (by decide) (backOf (W := 2) (rm2 l Z a0 hw [] q2 (100000 : Int64)  h76 n0 f78 (by decide)) hZ (hw _ (List.mem_of_getElem? (i := 8) rfl)) (hw _ (List.mem_of_getElem? (i := 3) rfl)) (by decide) (by decide)) (g := (mkF m 170 #[.val (.ref r0), .val (.int (0 : Int32)), .val (.long q2), .second] [(.long (100000 : Int64)), (.long q2), (.int ((0 : Int32) + (13 : Int32))), (.ref r0)])) rfl (by rw [hml]; rfl) (argsL := [(.long q2), (.long (100000 : Int64))]) (rest := [(.int ((0 : Int32) + (13 : Int32))), (.ref r0)]) (lenOf pd_10 rfl) rfl (by show 2 * 0 + _ ≤ _; exact Nat.le_of_eq rfl) (hb hby d1_170) (fun _ _ => ⟨rfl, e76, (by decide : 0 + 0 ≤ _), (by decide : 0 + 0 ≤ _)⟩)
  dsimp only [Pt.U, Pt.locs, Pt.cells, Pt.slots] at X79 l79 y79 z79 st79 hQ79
  subst l79 y79 z79
  obtain ⟨rfl, N79q, e79⟩ := hQ79
  have N79 := Fr.app N76 N79q
  obtain ⟨Go79, X79, N79⟩ := own_opq X79 N79
  have c80 : ∀ t, Steps p.tables e below (T79.setTop (mkF m 173 #[.val (.ref r0), .val (.int (0 : Int32)), .val (.long q2), .second] [(.int (own_d q2 (100000 : Int64))), (.int (13 : Int32)), (.ref r0)])) t → Steps p.tables e below (T79.setTop (mkF m 173 #[.val (.ref r0), .val (.int (0 : Int32)), .val (.long q2), .second] [(.int (own_d q2 (100000 : Int64))), (.int ((0 : Int32) + (13 : Int32))), (.ref r0)])) t := fun t kt => castTop (congrArg (fun zv => (mkF m 173 #[.val (.ref r0), .val (.int (0 : Int32)), .val (.long q2), .second] [(.int (own_d q2 (100000 : Int64))), (.int zv), (.ref r0)])) (show ((0 : Int32) + (13 : Int32)) = (13 : Int32) from by decide)) kt
  have Vc81 := V76
  obtain ⟨cl81, Ar81, qk81, S81, M81, H81, G81⟩ := Vc81
  have hin81 : ¬ ((13 : Int32) < 0 ∨ cl81.slots.size ≤ ((13 : Int32)).toNatClampNeg) := inb_of S81 ⟨by decide, by decide⟩
  obtain ⟨T82, h82, X82, e82, W82, st82⟩ := stC X79 hx hZ e79 Ar81 (j := (13 : Int32)) hin81 (g := (mkF m 173 #[.val (.ref r0), .val (.int (0 : Int32)), .val (.long q2), .second] [(.int (own_d q2 (100000 : Int64))), (.int (13 : Int32)), (.ref r0)])) rfl rfl (hb hby d1_173)
  have V82 : Arv Z h82 r0 kk .char (19 : Int32) [(.int ((own_d q2 (1000000000000000000 : Int64)).toUInt32.toUInt16.toUInt32.toInt32)), (.int ((own_d q2 (100000000000000000 : Int64)).toUInt32.toUInt16.toUInt32.toInt32)), (.int ((own_d q2 (10000000000000000 : Int64)).toUInt32.toUInt16.toUInt32.toInt32)), (.int ((own_d q2 (1000000000000000 : Int64)).toUInt32.toUInt16.toUInt32.toInt32)), (.int ((own_d q2 (100000000000000 : Int64)).toUInt32.toUInt16.toUInt32.toInt32)), (.int ((own_d q2 (10000000000000 : Int64)).toUInt32.toUInt16.toUInt32.toInt32)), (.int ((own_d q2 (1000000000000 : Int64)).toUInt32.toUInt16.toUInt32.toInt32)), (.int ((own_d q2 (100000000000 : Int64)).toUInt32.toUInt16.toUInt32.toInt32)), (.int ((own_d q2 (10000000000 : Int64)).toUInt32.toUInt16.toUInt32.toInt32)), (.int ((own_d q2 (1000000000 : Int64)).toUInt32.toUInt16.toUInt32.toInt32)), (.int ((own_d q2 (100000000 : Int64)).toUInt32.toUInt16.toUInt32.toInt32)), (.int ((own_d q2 (10000000 : Int64)).toUInt32.toUInt16.toUInt32.toInt32)), (.int ((own_d q2 (1000000 : Int64)).toUInt32.toUInt16.toUInt32.toInt32)), (.int ((own_d q2 (100000 : Int64)).toUInt32.toUInt16.toUInt32.toInt32)), (.int (0 : Int32)), (.int (0 : Int32)), (.int (0 : Int32)), (.int (0 : Int32)), (.int (0 : Int32))] (.int (0 : Int32)) := Arv.set Ar81 qk81 S81 M81 H81 G81 (fits_nar_char _) W82 13 rfl (Nat.le_of_ble_eq_true rfl)
  have N82 := Fr.snoc X82 N79 g_r0
  have c83 : ∀ t, Steps p.tables e below (T82.setTop (mkF m 183 #[.val (.ref r0), .val (.int (0 : Int32)), .val (.long q2), .second] [(.long (10000 : Int64)), (.long q2), (.int ((0 : Int32) + (14 : Int32))), (.ref r0)])) t → Steps p.tables e below (T82.setTop (mkF m 174 #[.val (.ref r0), .val (.int (0 : Int32)), .val (.long q2), .second] [])) t := by
    intro t kt
    show Steps p.tables e below (T82.setTop (mkF m 174 #[.val (.ref r0), .val (.int (0 : Int32)), .val (.long q2), .second] [])) _
    refine XS.aloadN X82.here hx rfl (hb hby d1_174) rfl rfl ?_
    show Steps p.tables e below (T82.setTop (mkF m 175 #[.val (.ref r0), .val (.int (0 : Int32)), .val (.long q2), .second] [(.ref r0)])) _
    refine XS.iloadN X82.here hx rfl (hb hby d1_175) rfl ?_
    show Steps p.tables e below (T82.setTop (mkF m 176 #[.val (.ref r0), .val (.int (0 : Int32)), .val (.long q2), .second] [(.int (0 : Int32)), (.ref r0)])) _
    refine XS.bipush X82.here hx rfl (hb hby d1_176) ?_
    show Steps p.tables e below (T82.setTop (mkF m 178 #[.val (.ref r0), .val (.int (0 : Int32)), .val (.long q2), .second] [(.int (14 : Int32)), (.int (0 : Int32)), (.ref r0)])) _
    refine XS.iadd X82.here hx rfl (hb hby d1_178) rfl ?_
    show Steps p.tables e below (T82.setTop (mkF m 179 #[.val (.ref r0), .val (.int (0 : Int32)), .val (.long q2), .second] [(.int ((0 : Int32) + (14 : Int32))), (.ref r0)])) _
    refine XS.lloadN X82.here hx rfl (hb hby d1_179) rfl ?_
    show Steps p.tables e below (T82.setTop (mkF m 180 #[.val (.ref r0), .val (.int (0 : Int32)), .val (.long q2), .second] [(.long q2), (.int ((0 : Int32) + (14 : Int32))), (.ref r0)])) _
    refine X82.ldc2Long hx hown (mvT hZ (hw _ (List.mem_of_getElem? (i := 23) rfl))) (g := (mkF m 180 #[.val (.ref r0), .val (.int (0 : Int32)), .val (.long q2), .second] [(.long q2), (.int ((0 : Int32) + (14 : Int32))), (.ref r0)])) rfl (hb hby d1_180) _ ?_
    exact kt
  have f84 := (Nat.le_trans f78 (Keep.of_wr W82).1)
  obtain ⟨_, _, ⟨T85, L85, k85, n85⟩, -, X85, ⟨Lc85, hQ85, l85, y85, z85⟩, st85⟩ := Jvm.LawKit.callS X82 hx (y := (⟨"com/example/sequence_set/sequenceset/cli/DecimalParserAcceptPinLaw", "d", "(JJ)C"⟩ : MethodName)) hown (mvT hZ (hw _ (List.mem_of_getElem? (i := 6) rfl))) (mvT hZ (hw _ (List.mem_of_getElem? (i := 7) rfl))) (mvT hZ (hw _ (List.mem_of_getElem? (i := 3) rfl))) (mvT hZ (hw _ (List.mem_of_getElem? (i := 8) rfl))) (by decide) (backOf (W := 2) (rm2 l Z a0 hw [] q2 (10000 : Int64)  h82 n0 f84 (by decide)) hZ (hw _ (List.mem_of_getElem? (i := 8) rfl)) (hw _ (List.mem_of_getElem? (i := 3) rfl)) (by decide) (by decide)) (g := (mkF m 183 #[.val (.ref r0), .val (.int (0 : Int32)), .val (.long q2), .second] [(.long (10000 : Int64)), (.long q2), (.int ((0 : Int32) + (14 : Int32))), (.ref r0)])) rfl (by rw [hml]; rfl) (argsL := [(.long q2), (.long (10000 : Int64))]) (rest := [(.int ((0 : Int32) + (14 : Int32))), (.ref r0)]) (lenOf pd_10 rfl) rfl (by show 2 * 0 + _ ≤ _; exact Nat.le_of_eq rfl) (hb hby d1_183) (fun _ _ => ⟨rfl, e82, (by decide : 0 + 0 ≤ _), (by decide : 0 + 0 ≤ _)⟩)
  dsimp only [Pt.U, Pt.locs, Pt.cells, Pt.slots] at X85 l85 y85 z85 st85 hQ85
  subst l85 y85 z85
  obtain ⟨rfl, N85q, e85⟩ := hQ85
  have N85 := Fr.app N82 N85q
  obtain ⟨Go85, X85, N85⟩ := own_opq X85 N85
  have c86 : ∀ t, Steps p.tables e below (T85.setTop (mkF m 186 #[.val (.ref r0), .val (.int (0 : Int32)), .val (.long q2), .second] [(.int (own_d q2 (10000 : Int64))), (.int (14 : Int32)), (.ref r0)])) t → Steps p.tables e below (T85.setTop (mkF m 186 #[.val (.ref r0), .val (.int (0 : Int32)), .val (.long q2), .second] [(.int (own_d q2 (10000 : Int64))), (.int ((0 : Int32) + (14 : Int32))), (.ref r0)])) t := fun t kt => castTop (congrArg (fun zv => (mkF m 186 #[.val (.ref r0), .val (.int (0 : Int32)), .val (.long q2), .second] [(.int (own_d q2 (10000 : Int64))), (.int zv), (.ref r0)])) (show ((0 : Int32) + (14 : Int32)) = (14 : Int32) from by decide)) kt
  have Vc87 := V82
  obtain ⟨cl87, Ar87, qk87, S87, M87, H87, G87⟩ := Vc87
  have hin87 : ¬ ((14 : Int32) < 0 ∨ cl87.slots.size ≤ ((14 : Int32)).toNatClampNeg) := inb_of S87 ⟨by decide, by decide⟩
  obtain ⟨T88, h88, X88, e88, W88, st88⟩ := stC X85 hx hZ e85 Ar87 (j := (14 : Int32)) hin87 (g := (mkF m 186 #[.val (.ref r0), .val (.int (0 : Int32)), .val (.long q2), .second] [(.int (own_d q2 (10000 : Int64))), (.int (14 : Int32)), (.ref r0)])) rfl rfl (hb hby d1_186)
  have V88 : Arv Z h88 r0 kk .char (19 : Int32) [(.int ((own_d q2 (1000000000000000000 : Int64)).toUInt32.toUInt16.toUInt32.toInt32)), (.int ((own_d q2 (100000000000000000 : Int64)).toUInt32.toUInt16.toUInt32.toInt32)), (.int ((own_d q2 (10000000000000000 : Int64)).toUInt32.toUInt16.toUInt32.toInt32)), (.int ((own_d q2 (1000000000000000 : Int64)).toUInt32.toUInt16.toUInt32.toInt32)), (.int ((own_d q2 (100000000000000 : Int64)).toUInt32.toUInt16.toUInt32.toInt32)), (.int ((own_d q2 (10000000000000 : Int64)).toUInt32.toUInt16.toUInt32.toInt32)), (.int ((own_d q2 (1000000000000 : Int64)).toUInt32.toUInt16.toUInt32.toInt32)), (.int ((own_d q2 (100000000000 : Int64)).toUInt32.toUInt16.toUInt32.toInt32)), (.int ((own_d q2 (10000000000 : Int64)).toUInt32.toUInt16.toUInt32.toInt32)), (.int ((own_d q2 (1000000000 : Int64)).toUInt32.toUInt16.toUInt32.toInt32)), (.int ((own_d q2 (100000000 : Int64)).toUInt32.toUInt16.toUInt32.toInt32)), (.int ((own_d q2 (10000000 : Int64)).toUInt32.toUInt16.toUInt32.toInt32)), (.int ((own_d q2 (1000000 : Int64)).toUInt32.toUInt16.toUInt32.toInt32)), (.int ((own_d q2 (100000 : Int64)).toUInt32.toUInt16.toUInt32.toInt32)), (.int ((own_d q2 (10000 : Int64)).toUInt32.toUInt16.toUInt32.toInt32)), (.int (0 : Int32)), (.int (0 : Int32)), (.int (0 : Int32)), (.int (0 : Int32))] (.int (0 : Int32)) := Arv.set Ar87 qk87 S87 M87 H87 G87 (fits_nar_char _) W88 14 rfl (Nat.le_of_ble_eq_true rfl)
  have N88 := Fr.snoc X88 N85 g_r0
  have c89 : ∀ t, Steps p.tables e below (T88.setTop (mkF m 196 #[.val (.ref r0), .val (.int (0 : Int32)), .val (.long q2), .second] [(.long (1000 : Int64)), (.long q2), (.int ((0 : Int32) + (15 : Int32))), (.ref r0)])) t → Steps p.tables e below (T88.setTop (mkF m 187 #[.val (.ref r0), .val (.int (0 : Int32)), .val (.long q2), .second] [])) t := by
    intro t kt
    show Steps p.tables e below (T88.setTop (mkF m 187 #[.val (.ref r0), .val (.int (0 : Int32)), .val (.long q2), .second] [])) _
    refine XS.aloadN X88.here hx rfl (hb hby d1_187) rfl rfl ?_
    show Steps p.tables e below (T88.setTop (mkF m 188 #[.val (.ref r0), .val (.int (0 : Int32)), .val (.long q2), .second] [(.ref r0)])) _
    refine XS.iloadN X88.here hx rfl (hb hby d1_188) rfl ?_
    show Steps p.tables e below (T88.setTop (mkF m 189 #[.val (.ref r0), .val (.int (0 : Int32)), .val (.long q2), .second] [(.int (0 : Int32)), (.ref r0)])) _
    refine XS.bipush X88.here hx rfl (hb hby d1_189) ?_
    show Steps p.tables e below (T88.setTop (mkF m 191 #[.val (.ref r0), .val (.int (0 : Int32)), .val (.long q2), .second] [(.int (15 : Int32)), (.int (0 : Int32)), (.ref r0)])) _
    refine XS.iadd X88.here hx rfl (hb hby d1_191) rfl ?_
    show Steps p.tables e below (T88.setTop (mkF m 192 #[.val (.ref r0), .val (.int (0 : Int32)), .val (.long q2), .second] [(.int ((0 : Int32) + (15 : Int32))), (.ref r0)])) _
    refine XS.lloadN X88.here hx rfl (hb hby d1_192) rfl ?_
    show Steps p.tables e below (T88.setTop (mkF m 193 #[.val (.ref r0), .val (.int (0 : Int32)), .val (.long q2), .second] [(.long q2), (.int ((0 : Int32) + (15 : Int32))), (.ref r0)])) _
    refine X88.ldc2Long hx hown (mvT hZ (hw _ (List.mem_of_getElem? (i := 24) rfl))) (g := (mkF m 193 #[.val (.ref r0), .val (.int (0 : Int32)), .val (.long q2), .second] [(.long q2), (.int ((0 : Int32) + (15 : Int32))), (.ref r0)])) rfl (hb hby d1_193) _ ?_
    exact kt
  have f90 := (Nat.le_trans f84 (Keep.of_wr W88).1)
  obtain ⟨_, _, ⟨T91, L91, k91, n91⟩, -, X91, ⟨Lc91, hQ91, l91, y91, z91⟩, st91⟩ := Jvm.LawKit.callS X88 hx (y := (⟨"com/example/sequence_set/sequenceset/cli/DecimalParserAcceptPinLaw", "d", "(JJ)C"⟩ : MethodName)) hown (mvT hZ (hw _ (List.mem_of_getElem? (i := 6) rfl))) (mvT hZ (hw _ (List.mem_of_getElem? (i := 7) rfl))) (mvT hZ (hw _ (List.mem_of_getElem? (i := 3) rfl))) (mvT hZ (hw _ (List.mem_of_getElem? (i := 8) rfl))) (by decide) (backOf (W := 2) (rm2 l Z a0 hw [] q2 (1000 : Int64)  h88 n0 f90 (by decide)) hZ (hw _ (List.mem_of_getElem? (i := 8) rfl)) (hw _ (List.mem_of_getElem? (i := 3) rfl)) (by decide) (by decide)) (g := (mkF m 196 #[.val (.ref r0), .val (.int (0 : Int32)), .val (.long q2), .second] [(.long (1000 : Int64)), (.long q2), (.int ((0 : Int32) + (15 : Int32))), (.ref r0)])) rfl (by rw [hml]; rfl) (argsL := [(.long q2), (.long (1000 : Int64))]) (rest := [(.int ((0 : Int32) + (15 : Int32))), (.ref r0)]) (lenOf pd_10 rfl) rfl (by show 2 * 0 + _ ≤ _; exact Nat.le_of_eq rfl) (hb hby d1_196) (fun _ _ => ⟨rfl, e88, (by decide : 0 + 0 ≤ _), (by decide : 0 + 0 ≤ _)⟩)
  dsimp only [Pt.U, Pt.locs, Pt.cells, Pt.slots] at X91 l91 y91 z91 st91 hQ91
  subst l91 y91 z91
  obtain ⟨rfl, N91q, e91⟩ := hQ91
  have N91 := Fr.app N88 N91q
  obtain ⟨Go91, X91, N91⟩ := own_opq X91 N91
  have c92 : ∀ t, Steps p.tables e below (T91.setTop (mkF m 199 #[.val (.ref r0), .val (.int (0 : Int32)), .val (.long q2), .second] [(.int (own_d q2 (1000 : Int64))), (.int (15 : Int32)), (.ref r0)])) t → Steps p.tables e below (T91.setTop (mkF m 199 #[.val (.ref r0), .val (.int (0 : Int32)), .val (.long q2), .second] [(.int (own_d q2 (1000 : Int64))), (.int ((0 : Int32) + (15 : Int32))), (.ref r0)])) t := fun t kt => castTop (congrArg (fun zv => (mkF m 199 #[.val (.ref r0), .val (.int (0 : Int32)), .val (.long q2), .second] [(.int (own_d q2 (1000 : Int64))), (.int zv), (.ref r0)])) (show ((0 : Int32) + (15 : Int32)) = (15 : Int32) from by decide)) kt
  have Vc93 := V88
  obtain ⟨cl93, Ar93, qk93, S93, M93, H93, G93⟩ := Vc93
  have hin93 : ¬ ((15 : Int32) < 0 ∨ cl93.slots.size ≤ ((15 : Int32)).toNatClampNeg) := inb_of S93 ⟨by decide, by decide⟩
  obtain ⟨T94, h94, X94, e94, W94, st94⟩ := stC X91 hx hZ e91 Ar93 (j := (15 : Int32)) hin93 (g := (mkF m 199 #[.val (.ref r0), .val (.int (0 : Int32)), .val (.long q2), .second] [(.int (own_d q2 (1000 : Int64))), (.int (15 : Int32)), (.ref r0)])) rfl rfl (hb hby d1_199)
  have V94 : Arv Z h94 r0 kk .char (19 : Int32) [(.int ((own_d q2 (1000000000000000000 : Int64)).toUInt32.toUInt16.toUInt32.toInt32)), (.int ((own_d q2 (100000000000000000 : Int64)).toUInt32.toUInt16.toUInt32.toInt32)), (.int ((own_d q2 (10000000000000000 : Int64)).toUInt32.toUInt16.toUInt32.toInt32)), (.int ((own_d q2 (1000000000000000 : Int64)).toUInt32.toUInt16.toUInt32.toInt32)), (.int ((own_d q2 (100000000000000 : Int64)).toUInt32.toUInt16.toUInt32.toInt32)), (.int ((own_d q2 (10000000000000 : Int64)).toUInt32.toUInt16.toUInt32.toInt32)), (.int ((own_d q2 (1000000000000 : Int64)).toUInt32.toUInt16.toUInt32.toInt32)), (.int ((own_d q2 (100000000000 : Int64)).toUInt32.toUInt16.toUInt32.toInt32)), (.int ((own_d q2 (10000000000 : Int64)).toUInt32.toUInt16.toUInt32.toInt32)), (.int ((own_d q2 (1000000000 : Int64)).toUInt32.toUInt16.toUInt32.toInt32)), (.int ((own_d q2 (100000000 : Int64)).toUInt32.toUInt16.toUInt32.toInt32)), (.int ((own_d q2 (10000000 : Int64)).toUInt32.toUInt16.toUInt32.toInt32)), (.int ((own_d q2 (1000000 : Int64)).toUInt32.toUInt16.toUInt32.toInt32)), (.int ((own_d q2 (100000 : Int64)).toUInt32.toUInt16.toUInt32.toInt32)), (.int ((own_d q2 (10000 : Int64)).toUInt32.toUInt16.toUInt32.toInt32)), (.int ((own_d q2 (1000 : Int64)).toUInt32.toUInt16.toUInt32.toInt32)), (.int (0 : Int32)), (.int (0 : Int32)), (.int (0 : Int32))] (.int (0 : Int32)) := Arv.set Ar93 qk93 S93 M93 H93 G93 (fits_nar_char _) W94 15 rfl (Nat.le_of_ble_eq_true rfl)
  have N94 := Fr.snoc X94 N91 g_r0
  have c95 : ∀ t, Steps p.tables e below (T94.setTop (mkF m 209 #[.val (.ref r0), .val (.int (0 : Int32)), .val (.long q2), .second] [(.long (100 : Int64)), (.long q2), (.int ((0 : Int32) + (16 : Int32))), (.ref r0)])) t → Steps p.tables e below (T94.setTop (mkF m 200 #[.val (.ref r0), .val (.int (0 : Int32)), .val (.long q2), .second] [])) t := by
    intro t kt
    show Steps p.tables e below (T94.setTop (mkF m 200 #[.val (.ref r0), .val (.int (0 : Int32)), .val (.long q2), .second] [])) _
    refine XS.aloadN X94.here hx rfl (hb hby d1_200) rfl rfl ?_
    show Steps p.tables e below (T94.setTop (mkF m 201 #[.val (.ref r0), .val (.int (0 : Int32)), .val (.long q2), .second] [(.ref r0)])) _
    refine XS.iloadN X94.here hx rfl (hb hby d1_201) rfl ?_
    show Steps p.tables e below (T94.setTop (mkF m 202 #[.val (.ref r0), .val (.int (0 : Int32)), .val (.long q2), .second] [(.int (0 : Int32)), (.ref r0)])) _
    refine XS.bipush X94.here hx rfl (hb hby d1_202) ?_
    show Steps p.tables e below (T94.setTop (mkF m 204 #[.val (.ref r0), .val (.int (0 : Int32)), .val (.long q2), .second] [(.int (16 : Int32)), (.int (0 : Int32)), (.ref r0)])) _
    refine XS.iadd X94.here hx rfl (hb hby d1_204) rfl ?_
    show Steps p.tables e below (T94.setTop (mkF m 205 #[.val (.ref r0), .val (.int (0 : Int32)), .val (.long q2), .second] [(.int ((0 : Int32) + (16 : Int32))), (.ref r0)])) _
    refine XS.lloadN X94.here hx rfl (hb hby d1_205) rfl ?_
    show Steps p.tables e below (T94.setTop (mkF m 206 #[.val (.ref r0), .val (.int (0 : Int32)), .val (.long q2), .second] [(.long q2), (.int ((0 : Int32) + (16 : Int32))), (.ref r0)])) _
    refine X94.ldc2Long hx hown (mvT hZ (hw _ (List.mem_of_getElem? (i := 25) rfl))) (g := (mkF m 206 #[.val (.ref r0), .val (.int (0 : Int32)), .val (.long q2), .second] [(.long q2), (.int ((0 : Int32) + (16 : Int32))), (.ref r0)])) rfl (hb hby d1_206) _ ?_
    exact kt
  have f96 := (Nat.le_trans f90 (Keep.of_wr W94).1)
  obtain ⟨_, _, ⟨T97, L97, k97, n97⟩, -, X97, ⟨Lc97, hQ97, l97, y97, z97⟩, st97⟩ := Jvm.LawKit.callS X94 hx (y := (⟨"com/example/sequence_set/sequenceset/cli/DecimalParserAcceptPinLaw", "d", "(JJ)C"⟩ : MethodName)) hown (mvT hZ (hw _ (List.mem_of_getElem? (i := 6) rfl))) (mvT hZ (hw _ (List.mem_of_getElem? (i := 7) rfl))) (mvT hZ (hw _ (List.mem_of_getElem? (i := 3) rfl))) (mvT hZ (hw _ (List.mem_of_getElem? (i := 8) rfl))) (by decide) (backOf (W := 2) (rm2 l Z a0 hw [] q2 (100 : Int64)  h94 n0 f96 (by decide)) hZ (hw _ (List.mem_of_getElem? (i := 8) rfl)) (hw _ (List.mem_of_getElem? (i := 3) rfl)) (by decide) (by decide)) (g := (mkF m 209 #[.val (.ref r0), .val (.int (0 : Int32)), .val (.long q2), .second] [(.long (100 : Int64)), (.long q2), (.int ((0 : Int32) + (16 : Int32))), (.ref r0)])) rfl (by rw [hml]; rfl) (argsL := [(.long q2), (.long (100 : Int64))]) (rest := [(.int ((0 : Int32) + (16 : Int32))), (.ref r0)]) (lenOf pd_10 rfl) rfl (by show 2 * 0 + _ ≤ _; exact Nat.le_of_eq rfl) (hb hby d1_209) (fun _ _ => ⟨rfl, e94, (by decide : 0 + 0 ≤ _), (by decide : 0 + 0 ≤ _)⟩)
  dsimp only [Pt.U, Pt.locs, Pt.cells, Pt.slots] at X97 l97 y97 z97 st97 hQ97
  subst l97 y97 z97
  obtain ⟨rfl, N97q, e97⟩ := hQ97
  have N97 := Fr.app N94 N97q
  obtain ⟨Go97, X97, N97⟩ := own_opq X97 N97
  have c98 : ∀ t, Steps p.tables e below (T97.setTop (mkF m 212 #[.val (.ref r0), .val (.int (0 : Int32)), .val (.long q2), .second] [(.int (own_d q2 (100 : Int64))), (.int (16 : Int32)), (.ref r0)])) t → Steps p.tables e below (T97.setTop (mkF m 212 #[.val (.ref r0), .val (.int (0 : Int32)), .val (.long q2), .second] [(.int (own_d q2 (100 : Int64))), (.int ((0 : Int32) + (16 : Int32))), (.ref r0)])) t := fun t kt => castTop (congrArg (fun zv => (mkF m 212 #[.val (.ref r0), .val (.int (0 : Int32)), .val (.long q2), .second] [(.int (own_d q2 (100 : Int64))), (.int zv), (.ref r0)])) (show ((0 : Int32) + (16 : Int32)) = (16 : Int32) from by decide)) kt
  have Vc99 := V94
  obtain ⟨cl99, Ar99, qk99, S99, M99, H99, G99⟩ := Vc99
  have hin99 : ¬ ((16 : Int32) < 0 ∨ cl99.slots.size ≤ ((16 : Int32)).toNatClampNeg) := inb_of S99 ⟨by decide, by decide⟩
  obtain ⟨T100, h100, X100, e100, W100, st100⟩ := stC X97 hx hZ e97 Ar99 (j := (16 : Int32)) hin99 (g := (mkF m 212 #[.val (.ref r0), .val (.int (0 : Int32)), .val (.long q2), .second] [(.int (own_d q2 (100 : Int64))), (.int (16 : Int32)), (.ref r0)])) rfl rfl (hb hby d1_212)
  have V100 : Arv Z h100 r0 kk .char (19 : Int32) [(.int ((own_d q2 (1000000000000000000 : Int64)).toUInt32.toUInt16.toUInt32.toInt32)), (.int ((own_d q2 (100000000000000000 : Int64)).toUInt32.toUInt16.toUInt32.toInt32)), (.int ((own_d q2 (10000000000000000 : Int64)).toUInt32.toUInt16.toUInt32.toInt32)), (.int ((own_d q2 (1000000000000000 : Int64)).toUInt32.toUInt16.toUInt32.toInt32)), (.int ((own_d q2 (100000000000000 : Int64)).toUInt32.toUInt16.toUInt32.toInt32)), (.int ((own_d q2 (10000000000000 : Int64)).toUInt32.toUInt16.toUInt32.toInt32)), (.int ((own_d q2 (1000000000000 : Int64)).toUInt32.toUInt16.toUInt32.toInt32)), (.int ((own_d q2 (100000000000 : Int64)).toUInt32.toUInt16.toUInt32.toInt32)), (.int ((own_d q2 (10000000000 : Int64)).toUInt32.toUInt16.toUInt32.toInt32)), (.int ((own_d q2 (1000000000 : Int64)).toUInt32.toUInt16.toUInt32.toInt32)), (.int ((own_d q2 (100000000 : Int64)).toUInt32.toUInt16.toUInt32.toInt32)), (.int ((own_d q2 (10000000 : Int64)).toUInt32.toUInt16.toUInt32.toInt32)), (.int ((own_d q2 (1000000 : Int64)).toUInt32.toUInt16.toUInt32.toInt32)), (.int ((own_d q2 (100000 : Int64)).toUInt32.toUInt16.toUInt32.toInt32)), (.int ((own_d q2 (10000 : Int64)).toUInt32.toUInt16.toUInt32.toInt32)), (.int ((own_d q2 (1000 : Int64)).toUInt32.toUInt16.toUInt32.toInt32)), (.int ((own_d q2 (100 : Int64)).toUInt32.toUInt16.toUInt32.toInt32)), (.int (0 : Int32)), (.int (0 : Int32))] (.int (0 : Int32)) := Arv.set Ar99 qk99 S99 M99 H99 G99 (fits_nar_char _) W100 16 rfl (Nat.le_of_ble_eq_true rfl)
  have N100 := Fr.snoc X100 N97 g_r0
  have c101 : ∀ t, Steps p.tables e below (T100.setTop (mkF m 222 #[.val (.ref r0), .val (.int (0 : Int32)), .val (.long q2), .second] [(.long (10 : Int64)), (.long q2), (.int ((0 : Int32) + (17 : Int32))), (.ref r0)])) t → Steps p.tables e below (T100.setTop (mkF m 213 #[.val (.ref r0), .val (.int (0 : Int32)), .val (.long q2), .second] [])) t := by
    intro t kt
    show Steps p.tables e below (T100.setTop (mkF m 213 #[.val (.ref r0), .val (.int (0 : Int32)), .val (.long q2), .second] [])) _
    refine XS.aloadN X100.here hx rfl (hb hby d1_213) rfl rfl ?_
    show Steps p.tables e below (T100.setTop (mkF m 214 #[.val (.ref r0), .val (.int (0 : Int32)), .val (.long q2), .second] [(.ref r0)])) _
    refine XS.iloadN X100.here hx rfl (hb hby d1_214) rfl ?_
    show Steps p.tables e below (T100.setTop (mkF m 215 #[.val (.ref r0), .val (.int (0 : Int32)), .val (.long q2), .second] [(.int (0 : Int32)), (.ref r0)])) _
    refine XS.bipush X100.here hx rfl (hb hby d1_215) ?_
    show Steps p.tables e below (T100.setTop (mkF m 217 #[.val (.ref r0), .val (.int (0 : Int32)), .val (.long q2), .second] [(.int (17 : Int32)), (.int (0 : Int32)), (.ref r0)])) _
    refine XS.iadd X100.here hx rfl (hb hby d1_217) rfl ?_
    show Steps p.tables e below (T100.setTop (mkF m 218 #[.val (.ref r0), .val (.int (0 : Int32)), .val (.long q2), .second] [(.int ((0 : Int32) + (17 : Int32))), (.ref r0)])) _
    refine XS.lloadN X100.here hx rfl (hb hby d1_218) rfl ?_
    show Steps p.tables e below (T100.setTop (mkF m 219 #[.val (.ref r0), .val (.int (0 : Int32)), .val (.long q2), .second] [(.long q2), (.int ((0 : Int32) + (17 : Int32))), (.ref r0)])) _
    refine X100.ldc2Long hx hown (mvT hZ (hw _ (List.mem_of_getElem? (i := 9) rfl))) (g := (mkF m 219 #[.val (.ref r0), .val (.int (0 : Int32)), .val (.long q2), .second] [(.long q2), (.int ((0 : Int32) + (17 : Int32))), (.ref r0)])) rfl (hb hby d1_219) _ ?_
    exact kt
  have f102 := (Nat.le_trans f96 (Keep.of_wr W100).1)
  obtain ⟨_, _, ⟨T103, L103, k103, n103⟩, -, X103, ⟨Lc103, hQ103, l103, y103, z103⟩, st103⟩ := Jvm.LawKit.callS X100 hx (y := (⟨"com/example/sequence_set/sequenceset/cli/DecimalParserAcceptPinLaw", "d", "(JJ)C"⟩ : MethodName)) hown (mvT hZ (hw _ (List.mem_of_getElem? (i := 6) rfl))) (mvT hZ (hw _ (List.mem_of_getElem? (i := 7) rfl))) (mvT hZ (hw _ (List.mem_of_getElem? (i := 3) rfl))) (mvT hZ (hw _ (List.mem_of_getElem? (i := 8) rfl))) (by decide) (backOf (W := 2) (rm2 l Z a0 hw [] q2 (10 : Int64)  h100 n0 f102 (by decide)) hZ (hw _ (List.mem_of_getElem? (i := 8) rfl)) (hw _ (List.mem_of_getElem? (i := 3) rfl)) (by decide) (by decide)) (g := (mkF m 222 #[.val (.ref r0), .val (.int (0 : Int32)), .val (.long q2), .second] [(.long (10 : Int64)), (.long q2), (.int ((0 : Int32) + (17 : Int32))), (.ref r0)])) rfl (by rw [hml]; rfl) (argsL := [(.long q2), (.long (10 : Int64))]) (rest := [(.int ((0 : Int32) + (17 : Int32))), (.ref r0)]) (lenOf pd_10 rfl) rfl (by show 2 * 0 + _ ≤ _; exact Nat.le_of_eq rfl) (hb hby d1_222) (fun _ _ => ⟨rfl, e100, (by decide : 0 + 0 ≤ _), (by decide : 0 + 0 ≤ _)⟩)
  dsimp only [Pt.U, Pt.locs, Pt.cells, Pt.slots] at X103 l103 y103 z103 st103 hQ103
  subst l103 y103 z103
  obtain ⟨rfl, N103q, e103⟩ := hQ103
  have N103 := Fr.app N100 N103q
  obtain ⟨Go103, X103, N103⟩ := own_opq X103 N103
  have c104 : ∀ t, Steps p.tables e below (T103.setTop (mkF m 225 #[.val (.ref r0), .val (.int (0 : Int32)), .val (.long q2), .second] [(.int (own_d q2 (10 : Int64))), (.int (17 : Int32)), (.ref r0)])) t → Steps p.tables e below (T103.setTop (mkF m 225 #[.val (.ref r0), .val (.int (0 : Int32)), .val (.long q2), .second] [(.int (own_d q2 (10 : Int64))), (.int ((0 : Int32) + (17 : Int32))), (.ref r0)])) t := fun t kt => castTop (congrArg (fun zv => (mkF m 225 #[.val (.ref r0), .val (.int (0 : Int32)), .val (.long q2), .second] [(.int (own_d q2 (10 : Int64))), (.int zv), (.ref r0)])) (show ((0 : Int32) + (17 : Int32)) = (17 : Int32) from by decide)) kt
  have Vc105 := V100
  obtain ⟨cl105, Ar105, qk105, S105, M105, H105, G105⟩ := Vc105
  have hin105 : ¬ ((17 : Int32) < 0 ∨ cl105.slots.size ≤ ((17 : Int32)).toNatClampNeg) := inb_of S105 ⟨by decide, by decide⟩
  obtain ⟨T106, h106, X106, e106, W106, st106⟩ := stC X103 hx hZ e103 Ar105 (j := (17 : Int32)) hin105 (g := (mkF m 225 #[.val (.ref r0), .val (.int (0 : Int32)), .val (.long q2), .second] [(.int (own_d q2 (10 : Int64))), (.int (17 : Int32)), (.ref r0)])) rfl rfl (hb hby d1_225)
  have V106 : Arv Z h106 r0 kk .char (19 : Int32) [(.int ((own_d q2 (1000000000000000000 : Int64)).toUInt32.toUInt16.toUInt32.toInt32)), (.int ((own_d q2 (100000000000000000 : Int64)).toUInt32.toUInt16.toUInt32.toInt32)), (.int ((own_d q2 (10000000000000000 : Int64)).toUInt32.toUInt16.toUInt32.toInt32)), (.int ((own_d q2 (1000000000000000 : Int64)).toUInt32.toUInt16.toUInt32.toInt32)), (.int ((own_d q2 (100000000000000 : Int64)).toUInt32.toUInt16.toUInt32.toInt32)), (.int ((own_d q2 (10000000000000 : Int64)).toUInt32.toUInt16.toUInt32.toInt32)), (.int ((own_d q2 (1000000000000 : Int64)).toUInt32.toUInt16.toUInt32.toInt32)), (.int ((own_d q2 (100000000000 : Int64)).toUInt32.toUInt16.toUInt32.toInt32)), (.int ((own_d q2 (10000000000 : Int64)).toUInt32.toUInt16.toUInt32.toInt32)), (.int ((own_d q2 (1000000000 : Int64)).toUInt32.toUInt16.toUInt32.toInt32)), (.int ((own_d q2 (100000000 : Int64)).toUInt32.toUInt16.toUInt32.toInt32)), (.int ((own_d q2 (10000000 : Int64)).toUInt32.toUInt16.toUInt32.toInt32)), (.int ((own_d q2 (1000000 : Int64)).toUInt32.toUInt16.toUInt32.toInt32)), (.int ((own_d q2 (100000 : Int64)).toUInt32.toUInt16.toUInt32.toInt32)), (.int ((own_d q2 (10000 : Int64)).toUInt32.toUInt16.toUInt32.toInt32)), (.int ((own_d q2 (1000 : Int64)).toUInt32.toUInt16.toUInt32.toInt32)), (.int ((own_d q2 (100 : Int64)).toUInt32.toUInt16.toUInt32.toInt32)), (.int ((own_d q2 (10 : Int64)).toUInt32.toUInt16.toUInt32.toInt32)), (.int (0 : Int32))] (.int (0 : Int32)) := Arv.set Ar105 qk105 S105 M105 H105 G105 (fits_nar_char _) W106 17 rfl (Nat.le_of_ble_eq_true rfl)
  have N106 := Fr.snoc X106 N103 g_r0
  have c107 : ∀ t, Steps p.tables e below (T106.setTop (mkF m 233 #[.val (.ref r0), .val (.int (0 : Int32)), .val (.long q2), .second] [(.long (1 : Int64)), (.long q2), (.int ((0 : Int32) + (18 : Int32))), (.ref r0)])) t → Steps p.tables e below (T106.setTop (mkF m 226 #[.val (.ref r0), .val (.int (0 : Int32)), .val (.long q2), .second] [])) t := by
    intro t kt
    show Steps p.tables e below (T106.setTop (mkF m 226 #[.val (.ref r0), .val (.int (0 : Int32)), .val (.long q2), .second] [])) _
    refine XS.aloadN X106.here hx rfl (hb hby d1_226) rfl rfl ?_
    show Steps p.tables e below (T106.setTop (mkF m 227 #[.val (.ref r0), .val (.int (0 : Int32)), .val (.long q2), .second] [(.ref r0)])) _
    refine XS.iloadN X106.here hx rfl (hb hby d1_227) rfl ?_
    show Steps p.tables e below (T106.setTop (mkF m 228 #[.val (.ref r0), .val (.int (0 : Int32)), .val (.long q2), .second] [(.int (0 : Int32)), (.ref r0)])) _
    refine XS.bipush X106.here hx rfl (hb hby d1_228) ?_
    show Steps p.tables e below (T106.setTop (mkF m 230 #[.val (.ref r0), .val (.int (0 : Int32)), .val (.long q2), .second] [(.int (18 : Int32)), (.int (0 : Int32)), (.ref r0)])) _
    refine XS.iadd X106.here hx rfl (hb hby d1_230) rfl ?_
    show Steps p.tables e below (T106.setTop (mkF m 231 #[.val (.ref r0), .val (.int (0 : Int32)), .val (.long q2), .second] [(.int ((0 : Int32) + (18 : Int32))), (.ref r0)])) _
    refine XS.lloadN X106.here hx rfl (hb hby d1_231) rfl ?_
    show Steps p.tables e below (T106.setTop (mkF m 232 #[.val (.ref r0), .val (.int (0 : Int32)), .val (.long q2), .second] [(.long q2), (.int ((0 : Int32) + (18 : Int32))), (.ref r0)])) _
    refine XS.lconst X106.here hx rfl (hb hby d1_232) ?_
    exact kt
  have f108 := (Nat.le_trans f102 (Keep.of_wr W106).1)
  obtain ⟨_, _, ⟨T109, L109, k109, n109⟩, -, X109, ⟨Lc109, hQ109, l109, y109, z109⟩, st109⟩ := Jvm.LawKit.callS X106 hx (y := (⟨"com/example/sequence_set/sequenceset/cli/DecimalParserAcceptPinLaw", "d", "(JJ)C"⟩ : MethodName)) hown (mvT hZ (hw _ (List.mem_of_getElem? (i := 6) rfl))) (mvT hZ (hw _ (List.mem_of_getElem? (i := 7) rfl))) (mvT hZ (hw _ (List.mem_of_getElem? (i := 3) rfl))) (mvT hZ (hw _ (List.mem_of_getElem? (i := 8) rfl))) (by decide) (backOf (W := 2) (rm2 l Z a0 hw [] q2 (1 : Int64)  h106 n0 f108 (by decide)) hZ (hw _ (List.mem_of_getElem? (i := 8) rfl)) (hw _ (List.mem_of_getElem? (i := 3) rfl)) (by decide) (by decide)) (g := (mkF m 233 #[.val (.ref r0), .val (.int (0 : Int32)), .val (.long q2), .second] [(.long (1 : Int64)), (.long q2), (.int ((0 : Int32) + (18 : Int32))), (.ref r0)])) rfl (by rw [hml]; rfl) (argsL := [(.long q2), (.long (1 : Int64))]) (rest := [(.int ((0 : Int32) + (18 : Int32))), (.ref r0)]) (lenOf pd_10 rfl) rfl (by show 2 * 0 + _ ≤ _; exact Nat.le_of_eq rfl) (hb hby d1_233) (fun _ _ => ⟨rfl, e106, (by decide : 0 + 0 ≤ _), (by decide : 0 + 0 ≤ _)⟩)
  dsimp only [Pt.U, Pt.locs, Pt.cells, Pt.slots] at X109 l109 y109 z109 st109 hQ109
  subst l109 y109 z109
  obtain ⟨rfl, N109q, e109⟩ := hQ109
  have N109 := Fr.app N106 N109q
  obtain ⟨Go109, X109, N109⟩ := own_opq X109 N109
  have c110 : ∀ t, Steps p.tables e below (T109.setTop (mkF m 236 #[.val (.ref r0), .val (.int (0 : Int32)), .val (.long q2), .second] [(.int (own_d q2 (1 : Int64))), (.int (18 : Int32)), (.ref r0)])) t → Steps p.tables e below (T109.setTop (mkF m 236 #[.val (.ref r0), .val (.int (0 : Int32)), .val (.long q2), .second] [(.int (own_d q2 (1 : Int64))), (.int ((0 : Int32) + (18 : Int32))), (.ref r0)])) t := fun t kt => castTop (congrArg (fun zv => (mkF m 236 #[.val (.ref r0), .val (.int (0 : Int32)), .val (.long q2), .second] [(.int (own_d q2 (1 : Int64))), (.int zv), (.ref r0)])) (show ((0 : Int32) + (18 : Int32)) = (18 : Int32) from by decide)) kt
  have Vc111 := V106
  obtain ⟨cl111, Ar111, qk111, S111, M111, H111, G111⟩ := Vc111
  have hin111 : ¬ ((18 : Int32) < 0 ∨ cl111.slots.size ≤ ((18 : Int32)).toNatClampNeg) := inb_of S111 ⟨by decide, by decide⟩
  obtain ⟨T112, h112, X112, e112, W112, st112⟩ := stC X109 hx hZ e109 Ar111 (j := (18 : Int32)) hin111 (g := (mkF m 236 #[.val (.ref r0), .val (.int (0 : Int32)), .val (.long q2), .second] [(.int (own_d q2 (1 : Int64))), (.int (18 : Int32)), (.ref r0)])) rfl rfl (hb hby d1_236)
  have V112 : Arv Z h112 r0 kk .char (19 : Int32) [(.int ((own_d q2 (1000000000000000000 : Int64)).toUInt32.toUInt16.toUInt32.toInt32)), (.int ((own_d q2 (100000000000000000 : Int64)).toUInt32.toUInt16.toUInt32.toInt32)), (.int ((own_d q2 (10000000000000000 : Int64)).toUInt32.toUInt16.toUInt32.toInt32)), (.int ((own_d q2 (1000000000000000 : Int64)).toUInt32.toUInt16.toUInt32.toInt32)), (.int ((own_d q2 (100000000000000 : Int64)).toUInt32.toUInt16.toUInt32.toInt32)), (.int ((own_d q2 (10000000000000 : Int64)).toUInt32.toUInt16.toUInt32.toInt32)), (.int ((own_d q2 (1000000000000 : Int64)).toUInt32.toUInt16.toUInt32.toInt32)), (.int ((own_d q2 (100000000000 : Int64)).toUInt32.toUInt16.toUInt32.toInt32)), (.int ((own_d q2 (10000000000 : Int64)).toUInt32.toUInt16.toUInt32.toInt32)), (.int ((own_d q2 (1000000000 : Int64)).toUInt32.toUInt16.toUInt32.toInt32)), (.int ((own_d q2 (100000000 : Int64)).toUInt32.toUInt16.toUInt32.toInt32)), (.int ((own_d q2 (10000000 : Int64)).toUInt32.toUInt16.toUInt32.toInt32)), (.int ((own_d q2 (1000000 : Int64)).toUInt32.toUInt16.toUInt32.toInt32)), (.int ((own_d q2 (100000 : Int64)).toUInt32.toUInt16.toUInt32.toInt32)), (.int ((own_d q2 (10000 : Int64)).toUInt32.toUInt16.toUInt32.toInt32)), (.int ((own_d q2 (1000 : Int64)).toUInt32.toUInt16.toUInt32.toInt32)), (.int ((own_d q2 (100 : Int64)).toUInt32.toUInt16.toUInt32.toInt32)), (.int ((own_d q2 (10 : Int64)).toUInt32.toUInt16.toUInt32.toInt32)), (.int ((own_d q2 (1 : Int64)).toUInt32.toUInt16.toUInt32.toInt32))] (.int (0 : Int32)) := Arv.set Ar111 qk111 S111 M111 H111 G111 (fits_nar_char _) W112 18 rfl (Nat.le_of_ble_eq_true rfl)
  have N112 := Fr.snoc X112 N109 g_r0
  obtain ⟨fs, hr, hrun, hended, hW, hsame⟩ := X112.leave (v := none) (fun _ => rfl)
  have f114 := ((((((((((((((((((((Keep.refl h0 [r0]).wr W4 (Or.inl (List.mem_of_getElem? (i := 0) rfl))).wr W10 (Or.inl (List.mem_of_getElem? (i := 0) rfl))).wr W16 (Or.inl (List.mem_of_getElem? (i := 0) rfl))).wr W22 (Or.inl (List.mem_of_getElem? (i := 0) rfl))).wr W28 (Or.inl (List.mem_of_getElem? (i := 0) rfl))).wr W34 (Or.inl (List.mem_of_getElem? (i := 0) rfl))).wr W40 (Or.inl (List.mem_of_getElem? (i := 0) rfl))).wr W46 (Or.inl (List.mem_of_getElem? (i := 0) rfl))).wr W52 (Or.inl (List.mem_of_getElem? (i := 0) rfl))).wr W58 (Or.inl (List.mem_of_getElem? (i := 0) rfl))).wr W64 (Or.inl (List.mem_of_getElem? (i := 0) rfl))).wr W70 (Or.inl (List.mem_of_getElem? (i := 0) rfl))).wr W76 (Or.inl (List.mem_of_getElem? (i := 0) rfl))).wr W82 (Or.inl (List.mem_of_getElem? (i := 0) rfl))).wr W88 (Or.inl (List.mem_of_getElem? (i := 0) rfl))).wr W94 (Or.inl (List.mem_of_getElem? (i := 0) rfl))).wr W100 (Or.inl (List.mem_of_getElem? (i := 0) rfl))).wr W106 (Or.inl (List.mem_of_getElem? (i := 0) rfl))).wr W112 (Or.inl (List.mem_of_getElem? (i := 0) rfl)))
  refine ⟨_, _, pre0 _ (c1 _ (st2 _ (st4 _ (c5 _ (st7 _ (c8 _ (st10 _ (c11 _ (st13 _ (c14 _ (st16 _ (c17 _ (st19 _ (c20 _ (st22 _ (c23 _ (st25 _ (c26 _ (st28 _ (c29 _ (st31 _ (c32 _ (st34 _ (c35 _ (st37 _ (c38 _ (st40 _ (c41 _ (st43 _ (c44 _ (st46 _ (c47 _ (st49 _ (c50 _ (st52 _ (c53 _ (st55 _ (c56 _ (st58 _ (c59 _ (st61 _ (c62 _ (st64 _ (c65 _ (st67 _ (c68 _ (st70 _ (c71 _ (st73 _ (c74 _ (st76 _ (c77 _ (st79 _ (c80 _ (st82 _ (c83 _ (st85 _ (c86 _ (st88 _ (c89 _ (st91 _ (c92 _ (st94 _ (c95 _ (st97 _ (c98 _ (st100 _ (c101 _ (st103 _ (c104 _ (st106 _ (c107 _ (st109 _ (c110 _ (st112 _ (?_)))))))))))))))))))))))))))))))))))))))))))))))))))))))))))))))))))))))))))), hrun, hended, _, _, rfl, ?_, ⟨_, rfl⟩, hW, hsame.mono (by decide) (by decide)⟩
  · show Steps p.tables e below (T112.setTop (mkF m 237 #[.val (.ref r0), .val (.int (0 : Int32)), .val (.long q2), .second] [])) _
    exact X112.returnOut hx Bd.returns (hb hby d1_237) hr
  · show Q1_0 Z r0 q2 kk h0 n0 _ T112.heap _
    rw [e112]
    exact ⟨rfl, N112, f114, (by rw [own_c19m]; exact V112)⟩
def Q1_1 (Z : State) (r0 : Addr) (q2 : Int64) (kk : ClassId) (sg : Int32) (h0 : Heap) (n0 : Nat) (v : Option Value) (h : Heap) (L : List Loc) : Prop := v = none ∧ Fr n0 L ∧ Keep h0 h [r0] ∧ Arv Z h r0 kk .char (20 : Int32) ((own_c20 sg q2).map Value.int) (.int (0 : Int32))
set_option maxRecDepth 65536 in
set_option maxHeartbeats 40000000 in
theorem rm1_1 (l : Launch) (Z : State) (a0 : Array Value) (hw : ∀ d ∈ tables_1, d.before a0 Z = true) (ws : List Jvm.Cond) (r0 : Addr) (q2 : Int64) (kk : ClassId) (sg : Int32) (h0 : Heap) (n0 : Nat) (Z0 : n0 ≤ h0.size) (V : Arv Z h0 r0 kk .char (20 : Int32) [(.int sg), (.int (0 : Int32)), (.int (0 : Int32)), (.int (0 : Int32)), (.int (0 : Int32)), (.int (0 : Int32)), (.int (0 : Int32)), (.int (0 : Int32)), (.int (0 : Int32)), (.int (0 : Int32)), (.int (0 : Int32)), (.int (0 : Int32)), (.int (0 : Int32)), (.int (0 : Int32)), (.int (0 : Int32)), (.int (0 : Int32)), (.int (0 : Int32)), (.int (0 : Int32)), (.int (0 : Int32)), (.int (0 : Int32))] (.int (0 : Int32))) (g_r0 : n0 ≤ r0) :
    MetFree l (⟨"com/example/sequence_set/sequenceset/cli/DecimalParserAcceptPinLaw", "fill", "([CIJ)V"⟩ : MethodName) (head1 (Jvm.Cond.code (⟨"com/example/sequence_set/sequenceset/cli/DecimalParserAcceptPinLaw", "fill", "([CIJ)V"⟩ : MethodName) method_3_code 4 none :: ws) ({ frames := 1, cells := 0, slots := 0, locals := 17 } : Room)) (fun a U => a = #[(.ref r0), (.int (1 : Int32)), (.long q2)] ∧ Z.Warmed39 U.vm ∧ U.heap = h0) (fun _ _ _ _ _ => True) (fun _ U o U' => ∃ v L, o = .returned v ∧ Q1_1 Z r0 q2 kk sg h0 n0 v U'.heap L ∧ FrameEnd U o U' L ({ frames := 1, cells := 0, slots := 0, locals := 17 } : Room).cells ({ frames := 1, cells := 0, slots := 0, locals := 17 } : Room).slots) := by
  refine MetFree.of_bodySF (plainFor_of_name pn_1) hisR ?_
  intro p e s m args below meth c s₁ Bd hml0 hP hK
  obtain ⟨rfl, hZ, hh⟩ := hP
  have hx := Bd.exec
  have hby := Bd.bytes
  have hml : c.maxLocals = 4 := hml0
  have hown : s.vm.findClass "com/example/sequence_set/sequenceset/cli/DecimalParserAcceptPinLaw" = some m.cls := findClass_of_methodNamed Bd.named
  have hnm := (name_of_methodNamed Bd.named Bd.method).1
  have X0 : Stand p l e ({ frames := 1, cells := 0, slots := 0, locals := 17 } : Room) s m #[(.ref r0), (.int (1 : Int32)), (.long q2)] below meth c s₁ [] 0 0 := Stand.of_body Bd
  have e0 : s₁.heap = h0 := by rw [← hh, Bd.state]; rfl
  have N0 := Fr.nil n0
  have pre0 : ∀ t, Steps p.tables e below (s₁.setTop (mkF m 0 #[.val (.ref r0), .val (.int (1 : Int32)), .val (.long q2), .second] [])) t → Steps p.tables e below (s₁.setTop (entryFrame m #[(.ref r0), (.int (1 : Int32)), (.long q2)] 4)) t := fun t k => castTop (ef_1 m r0 (1 : Int32) q2) k
  have c1 : ∀ t, Steps p.tables e below (s₁.setTop (mkF m 6 #[.val (.ref r0), .val (.int (1 : Int32)), .val (.long q2), .second] [(.long (1000000000000000000 : Int64)), (.long q2), (.int (1 : Int32)), (.ref r0)])) t → Steps p.tables e below (s₁.setTop (mkF m 0 #[.val (.ref r0), .val (.int (1 : Int32)), .val (.long q2), .second] [])) t := by
    intro t kt
    show Steps p.tables e below (s₁.setTop (mkF m 0 #[.val (.ref r0), .val (.int (1 : Int32)), .val (.long q2), .second] [])) _
    refine XS.aloadN X0.here hx rfl (hb hby d1_0) rfl rfl ?_
    show Steps p.tables e below (s₁.setTop (mkF m 1 #[.val (.ref r0), .val (.int (1 : Int32)), .val (.long q2), .second] [(.ref r0)])) _
    refine XS.iloadN X0.here hx rfl (hb hby d1_1) rfl ?_
    show Steps p.tables e below (s₁.setTop (mkF m 2 #[.val (.ref r0), .val (.int (1 : Int32)), .val (.long q2), .second] [(.int (1 : Int32)), (.ref r0)])) _
    refine XS.lloadN X0.here hx rfl (hb hby d1_2) rfl ?_
    show Steps p.tables e below (s₁.setTop (mkF m 3 #[.val (.ref r0), .val (.int (1 : Int32)), .val (.long q2), .second] [(.long q2), (.int (1 : Int32)), (.ref r0)])) _
    refine X0.ldc2Long hx hown (mvT hZ (hw _ (List.mem_of_getElem? (i := 5) rfl))) (g := (mkF m 3 #[.val (.ref r0), .val (.int (1 : Int32)), .val (.long q2), .second] [(.long q2), (.int (1 : Int32)), (.ref r0)])) rfl (hb hby d1_3) _ ?_
    exact kt
  obtain ⟨_, _, ⟨T2, L2, k2, n2⟩, -, X2, ⟨Lc2, hQ2, l2, y2, z2⟩, st2⟩ := Jvm.LawKit.callS X0 hx (y := (⟨"com/example/sequence_set/sequenceset/cli/DecimalParserAcceptPinLaw", "d", "(JJ)C"⟩ : MethodName)) hown (mvT hZ (hw _ (List.mem_of_getElem? (i := 6) rfl))) (mvT hZ (hw _ (List.mem_of_getElem? (i := 7) rfl))) (mvT hZ (hw _ (List.mem_of_getElem? (i := 3) rfl))) (mvT hZ (hw _ (List.mem_of_getElem? (i := 8) rfl))) (by decide) (backOf (W := 2) (rm2 l Z a0 hw [] q2 (1000000000000000000 : Int64)  h0 n0 Z0 (by decide)) hZ (hw _ (List.mem_of_getElem? (i := 8) rfl)) (hw _ (List.mem_of_getElem? (i := 3) rfl)) (by decide) (by decide)) (g := (mkF m 6 #[.val (.ref r0), .val (.int (1 : Int32)), .val (.long q2), .second] [(.long (1000000000000000000 : Int64)), (.long q2), (.int (1 : Int32)), (.ref r0)])) rfl (by rw [hml]; rfl) (argsL := [(.long q2), (.long (1000000000000000000 : Int64))]) (rest := [(.int (1 : Int32)), (.ref r0)]) (lenOf pd_10 rfl) rfl (by show 2 * 0 + _ ≤ _; exact Nat.le_of_eq rfl) (hb hby d1_6) (fun _ _ => ⟨rfl, e0, (by decide : 0 + 0 ≤ _), (by decide : 0 + 0 ≤ _)⟩)
  dsimp only [Pt.U, Pt.locs, Pt.cells, Pt.slots] at X2 l2 y2 z2 st2 hQ2
  subst l2 y2 z2
  obtain ⟨rfl, N2q, e2⟩ := hQ2
  have N2 := Fr.app N0 N2q
  obtain ⟨Go2, X2, N2⟩ := own_opq X2 N2
  have Vc3 := V
  obtain ⟨cl3, Ar3, qk3, S3, M3, H3, G3⟩ := Vc3
  have hin3 : ¬ ((1 : Int32) < 0 ∨ cl3.slots.size ≤ ((1 : Int32)).toNatClampNeg) := inb_of S3 ⟨by decide, by decide⟩
  obtain ⟨T4, h4, X4, e4, W4, st4⟩ := stC X2 hx hZ e2 Ar3 (j := (1 : Int32)) hin3 (g := (mkF m 9 #[.val (.ref r0), .val (.int (1 : Int32)), .val (.long q2), .second] [(.int (own_d q2 (1000000000000000000 : Int64))), (.int (1 : Int32)), (.ref r0)])) rfl rfl (hb hby d1_9)
  have V4 : Arv Z h4 r0 kk .char (20 : Int32) [(.int sg), (.int ((own_d q2 (1000000000000000000 : Int64)).toUInt32.toUInt16.toUInt32.toInt32)), (.int (0 : Int32)), (.int (0 : Int32)), (.int (0 : Int32)), (.int (0 : Int32)), (.int (0 : Int32)), (.int (0 : Int32)), (.int (0 : Int32)), (.int (0 : Int32)), (.int (0 : Int32)), (.int (0 : Int32)), (.int (0 : Int32)), (.int (0 : Int32)), (.int (0 : Int32)), (.int (0 : Int32)), (.int (0 : Int32)), (.int (0 : Int32)), (.int (0 : Int32)), (.int (0 : Int32))] (.int (0 : Int32)) := Arv.set Ar3 qk3 S3 M3 H3 G3 (fits_nar_char _) W4 1 rfl (Nat.le_of_ble_eq_true rfl)
  have N4 := Fr.snoc X4 N2 g_r0
  have c5 : ∀ t, Steps p.tables e below (T4.setTop (mkF m 18 #[.val (.ref r0), .val (.int (1 : Int32)), .val (.long q2), .second] [(.long (100000000000000000 : Int64)), (.long q2), (.int ((1 : Int32) + (1 : Int32))), (.ref r0)])) t → Steps p.tables e below (T4.setTop (mkF m 10 #[.val (.ref r0), .val (.int (1 : Int32)), .val (.long q2), .second] [])) t := by
    intro t kt
    show Steps p.tables e below (T4.setTop (mkF m 10 #[.val (.ref r0), .val (.int (1 : Int32)), .val (.long q2), .second] [])) _
    refine XS.aloadN X4.here hx rfl (hb hby d1_10) rfl rfl ?_
    show Steps p.tables e below (T4.setTop (mkF m 11 #[.val (.ref r0), .val (.int (1 : Int32)), .val (.long q2), .second] [(.ref r0)])) _
    refine XS.iloadN X4.here hx rfl (hb hby d1_11) rfl ?_
    show Steps p.tables e below (T4.setTop (mkF m 12 #[.val (.ref r0), .val (.int (1 : Int32)), .val (.long q2), .second] [(.int (1 : Int32)), (.ref r0)])) _
    refine XS.iconst X4.here hx rfl (hb hby d1_12) ?_
    show Steps p.tables e below (T4.setTop (mkF m 13 #[.val (.ref r0), .val (.int (1 : Int32)), .val (.long q2), .second] [(.int (1 : Int32)), (.int (1 : Int32)), (.ref r0)])) _
    refine XS.iadd X4.here hx rfl (hb hby d1_13) rfl ?_
    show Steps p.tables e below (T4.setTop (mkF m 14 #[.val (.ref r0), .val (.int (1 : Int32)), .val (.long q2), .second] [(.int ((1 : Int32) + (1 : Int32))), (.ref r0)])) _
    refine XS.lloadN X4.here hx rfl (hb hby d1_14) rfl ?_
    show Steps p.tables e below (T4.setTop (mkF m 15 #[.val (.ref r0), .val (.int (1 : Int32)), .val (.long q2), .second] [(.long q2), (.int ((1 : Int32) + (1 : Int32))), (.ref r0)])) _
    refine X4.ldc2Long hx hown (mvT hZ (hw _ (List.mem_of_getElem? (i := 10) rfl))) (g := (mkF m 15 #[.val (.ref r0), .val (.int (1 : Int32)), .val (.long q2), .second] [(.long q2), (.int ((1 : Int32) + (1 : Int32))), (.ref r0)])) rfl (hb hby d1_15) _ ?_
    exact kt
  have f6 := (Nat.le_trans Z0 (Keep.of_wr W4).1)
  obtain ⟨_, _, ⟨T7, L7, k7, n7⟩, -, X7, ⟨Lc7, hQ7, l7, y7, z7⟩, st7⟩ := Jvm.LawKit.callS X4 hx (y := (⟨"com/example/sequence_set/sequenceset/cli/DecimalParserAcceptPinLaw", "d", "(JJ)C"⟩ : MethodName)) hown (mvT hZ (hw _ (List.mem_of_getElem? (i := 6) rfl))) (mvT hZ (hw _ (List.mem_of_getElem? (i := 7) rfl))) (mvT hZ (hw _ (List.mem_of_getElem? (i := 3) rfl))) (mvT hZ (hw _ (List.mem_of_getElem? (i := 8) rfl))) (by decide) (backOf (W := 2) (rm2 l Z a0 hw [] q2 (100000000000000000 : Int64)  h4 n0 f6 (by decide)) hZ (hw _ (List.mem_of_getElem? (i := 8) rfl)) (hw _ (List.mem_of_getElem? (i := 3) rfl)) (by decide) (by decide)) (g := (mkF m 18 #[.val (.ref r0), .val (.int (1 : Int32)), .val (.long q2), .second] [(.long (100000000000000000 : Int64)), (.long q2), (.int ((1 : Int32) + (1 : Int32))), (.ref r0)])) rfl (by rw [hml]; rfl) (argsL := [(.long q2), (.long (100000000000000000 : Int64))]) (rest := [(.int ((1 : Int32) + (1 : Int32))), (.ref r0)]) (lenOf pd_10 rfl) rfl (by show 2 * 0 + _ ≤ _; exact Nat.le_of_eq rfl) (hb hby d1_18) (fun _ _ => ⟨rfl, e4, (by decide : 0 + 0 ≤ _), (by decide : 0 + 0 ≤ _)⟩)
  dsimp only [Pt.U, Pt.locs, Pt.cells, Pt.slots] at X7 l7 y7 z7 st7 hQ7
  subst l7 y7 z7
  obtain ⟨rfl, N7q, e7⟩ := hQ7
  have N7 := Fr.app N4 N7q
  obtain ⟨Go7, X7, N7⟩ := own_opq X7 N7
  have c8 : ∀ t, Steps p.tables e below (T7.setTop (mkF m 21 #[.val (.ref r0), .val (.int (1 : Int32)), .val (.long q2), .second] [(.int (own_d q2 (100000000000000000 : Int64))), (.int (2 : Int32)), (.ref r0)])) t → Steps p.tables e below (T7.setTop (mkF m 21 #[.val (.ref r0), .val (.int (1 : Int32)), .val (.long q2), .second] [(.int (own_d q2 (100000000000000000 : Int64))), (.int ((1 : Int32) + (1 : Int32))), (.ref r0)])) t := fun t kt => castTop (congrArg (fun zv => (mkF m 21 #[.val (.ref r0), .val (.int (1 : Int32)), .val (.long q2), .second] [(.int (own_d q2 (100000000000000000 : Int64))), (.int zv), (.ref r0)])) (show ((1 : Int32) + (1 : Int32)) = (2 : Int32) from by decide)) kt
  have Vc9 := V4
  obtain ⟨cl9, Ar9, qk9, S9, M9, H9, G9⟩ := Vc9
  have hin9 : ¬ ((2 : Int32) < 0 ∨ cl9.slots.size ≤ ((2 : Int32)).toNatClampNeg) := inb_of S9 ⟨by decide, by decide⟩
  obtain ⟨T10, h10, X10, e10, W10, st10⟩ := stC X7 hx hZ e7 Ar9 (j := (2 : Int32)) hin9 (g := (mkF m 21 #[.val (.ref r0), .val (.int (1 : Int32)), .val (.long q2), .second] [(.int (own_d q2 (100000000000000000 : Int64))), (.int (2 : Int32)), (.ref r0)])) rfl rfl (hb hby d1_21)
  have V10 : Arv Z h10 r0 kk .char (20 : Int32) [(.int sg), (.int ((own_d q2 (1000000000000000000 : Int64)).toUInt32.toUInt16.toUInt32.toInt32)), (.int ((own_d q2 (100000000000000000 : Int64)).toUInt32.toUInt16.toUInt32.toInt32)), (.int (0 : Int32)), (.int (0 : Int32)), (.int (0 : Int32)), (.int (0 : Int32)), (.int (0 : Int32)), (.int (0 : Int32)), (.int (0 : Int32)), (.int (0 : Int32)), (.int (0 : Int32)), (.int (0 : Int32)), (.int (0 : Int32)), (.int (0 : Int32)), (.int (0 : Int32)), (.int (0 : Int32)), (.int (0 : Int32)), (.int (0 : Int32)), (.int (0 : Int32))] (.int (0 : Int32)) := Arv.set Ar9 qk9 S9 M9 H9 G9 (fits_nar_char _) W10 2 rfl (Nat.le_of_ble_eq_true rfl)
  have N10 := Fr.snoc X10 N7 g_r0
  have c11 : ∀ t, Steps p.tables e below (T10.setTop (mkF m 30 #[.val (.ref r0), .val (.int (1 : Int32)), .val (.long q2), .second] [(.long (10000000000000000 : Int64)), (.long q2), (.int ((1 : Int32) + (2 : Int32))), (.ref r0)])) t → Steps p.tables e below (T10.setTop (mkF m 22 #[.val (.ref r0), .val (.int (1 : Int32)), .val (.long q2), .second] [])) t := by
    intro t kt
    show Steps p.tables e below (T10.setTop (mkF m 22 #[.val (.ref r0), .val (.int (1 : Int32)), .val (.long q2), .second] [])) _
    refine XS.aloadN X10.here hx rfl (hb hby d1_22) rfl rfl ?_
    show Steps p.tables e below (T10.setTop (mkF m 23 #[.val (.ref r0), .val (.int (1 : Int32)), .val (.long q2), .second] [(.ref r0)])) _
    refine XS.iloadN X10.here hx rfl (hb hby d1_23) rfl ?_
    show Steps p.tables e below (T10.setTop (mkF m 24 #[.val (.ref r0), .val (.int (1 : Int32)), .val (.long q2), .second] [(.int (1 : Int32)), (.ref r0)])) _
    refine XS.iconst X10.here hx rfl (hb hby d1_24) ?_
    show Steps p.tables e below (T10.setTop (mkF m 25 #[.val (.ref r0), .val (.int (1 : Int32)), .val (.long q2), .second] [(.int (2 : Int32)), (.int (1 : Int32)), (.ref r0)])) _
    refine XS.iadd X10.here hx rfl (hb hby d1_25) rfl ?_
    show Steps p.tables e below (T10.setTop (mkF m 26 #[.val (.ref r0), .val (.int (1 : Int32)), .val (.long q2), .second] [(.int ((1 : Int32) + (2 : Int32))), (.ref r0)])) _
    refine XS.lloadN X10.here hx rfl (hb hby d1_26) rfl ?_
    show Steps p.tables e below (T10.setTop (mkF m 27 #[.val (.ref r0), .val (.int (1 : Int32)), .val (.long q2), .second] [(.long q2), (.int ((1 : Int32) + (2 : Int32))), (.ref r0)])) _
    refine X10.ldc2Long hx hown (mvT hZ (hw _ (List.mem_of_getElem? (i := 11) rfl))) (g := (mkF m 27 #[.val (.ref r0), .val (.int (1 : Int32)), .val (.long q2), .second] [(.long q2), (.int ((1 : Int32) + (2 : Int32))), (.ref r0)])) rfl (hb hby d1_27) _ ?_
    exact kt
  have f12 := (Nat.le_trans f6 (Keep.of_wr W10).1)
  obtain ⟨_, _, ⟨T13, L13, k13, n13⟩, -, X13, ⟨Lc13, hQ13, l13, y13, z13⟩, st13⟩ := Jvm.LawKit.callS X10 hx (y := (⟨"com/example/sequence_set/sequenceset/cli/DecimalParserAcceptPinLaw", "d", "(JJ)C"⟩ : MethodName)) hown (mvT hZ (hw _ (List.mem_of_getElem? (i := 6) rfl))) (mvT hZ (hw _ (List.mem_of_getElem? (i := 7) rfl))) (mvT hZ (hw _ (List.mem_of_getElem? (i := 3) rfl))) (mvT hZ (hw _ (List.mem_of_getElem? (i := 8) rfl))) (by decide) (backOf (W := 2) (rm2 l Z a0 hw [] q2 (10000000000000000 : Int64)  h10 n0 f12 (by decide)) hZ (hw _ (List.mem_of_getElem? (i := 8) rfl)) (hw _ (List.mem_of_getElem? (i := 3) rfl)) (by decide) (by decide)) (g := (mkF m 30 #[.val (.ref r0), .val (.int (1 : Int32)), .val (.long q2), .second] [(.long (10000000000000000 : Int64)), (.long q2), (.int ((1 : Int32) + (2 : Int32))), (.ref r0)])) rfl (by rw [hml]; rfl) (argsL := [(.long q2), (.long (10000000000000000 : Int64))]) (rest := [(.int ((1 : Int32) + (2 : Int32))), (.ref r0)]) (lenOf pd_10 rfl) rfl (by show 2 * 0 + _ ≤ _; exact Nat.le_of_eq rfl) (hb hby d1_30) (fun _ _ => ⟨rfl, e10, (by decide : 0 + 0 ≤ _), (by decide : 0 + 0 ≤ _)⟩)
  dsimp only [Pt.U, Pt.locs, Pt.cells, Pt.slots] at X13 l13 y13 z13 st13 hQ13
  subst l13 y13 z13
  obtain ⟨rfl, N13q, e13⟩ := hQ13
  have N13 := Fr.app N10 N13q
  obtain ⟨Go13, X13, N13⟩ := own_opq X13 N13
  have c14 : ∀ t, Steps p.tables e below (T13.setTop (mkF m 33 #[.val (.ref r0), .val (.int (1 : Int32)), .val (.long q2), .second] [(.int (own_d q2 (10000000000000000 : Int64))), (.int (3 : Int32)), (.ref r0)])) t → Steps p.tables e below (T13.setTop (mkF m 33 #[.val (.ref r0), .val (.int (1 : Int32)), .val (.long q2), .second] [(.int (own_d q2 (10000000000000000 : Int64))), (.int ((1 : Int32) + (2 : Int32))), (.ref r0)])) t := fun t kt => castTop (congrArg (fun zv => (mkF m 33 #[.val (.ref r0), .val (.int (1 : Int32)), .val (.long q2), .second] [(.int (own_d q2 (10000000000000000 : Int64))), (.int zv), (.ref r0)])) (show ((1 : Int32) + (2 : Int32)) = (3 : Int32) from by decide)) kt
  have Vc15 := V10
  obtain ⟨cl15, Ar15, qk15, S15, M15, H15, G15⟩ := Vc15
  have hin15 : ¬ ((3 : Int32) < 0 ∨ cl15.slots.size ≤ ((3 : Int32)).toNatClampNeg) := inb_of S15 ⟨by decide, by decide⟩
  obtain ⟨T16, h16, X16, e16, W16, st16⟩ := stC X13 hx hZ e13 Ar15 (j := (3 : Int32)) hin15 (g := (mkF m 33 #[.val (.ref r0), .val (.int (1 : Int32)), .val (.long q2), .second] [(.int (own_d q2 (10000000000000000 : Int64))), (.int (3 : Int32)), (.ref r0)])) rfl rfl (hb hby d1_33)
  have V16 : Arv Z h16 r0 kk .char (20 : Int32) [(.int sg), (.int ((own_d q2 (1000000000000000000 : Int64)).toUInt32.toUInt16.toUInt32.toInt32)), (.int ((own_d q2 (100000000000000000 : Int64)).toUInt32.toUInt16.toUInt32.toInt32)), (.int ((own_d q2 (10000000000000000 : Int64)).toUInt32.toUInt16.toUInt32.toInt32)), (.int (0 : Int32)), (.int (0 : Int32)), (.int (0 : Int32)), (.int (0 : Int32)), (.int (0 : Int32)), (.int (0 : Int32)), (.int (0 : Int32)), (.int (0 : Int32)), (.int (0 : Int32)), (.int (0 : Int32)), (.int (0 : Int32)), (.int (0 : Int32)), (.int (0 : Int32)), (.int (0 : Int32)), (.int (0 : Int32)), (.int (0 : Int32))] (.int (0 : Int32)) := Arv.set Ar15 qk15 S15 M15 H15 G15 (fits_nar_char _) W16 3 rfl (Nat.le_of_ble_eq_true rfl)
  have N16 := Fr.snoc X16 N13 g_r0
  have c17 : ∀ t, Steps p.tables e below (T16.setTop (mkF m 42 #[.val (.ref r0), .val (.int (1 : Int32)), .val (.long q2), .second] [(.long (1000000000000000 : Int64)), (.long q2), (.int ((1 : Int32) + (3 : Int32))), (.ref r0)])) t → Steps p.tables e below (T16.setTop (mkF m 34 #[.val (.ref r0), .val (.int (1 : Int32)), .val (.long q2), .second] [])) t := by
    intro t kt
    show Steps p.tables e below (T16.setTop (mkF m 34 #[.val (.ref r0), .val (.int (1 : Int32)), .val (.long q2), .second] [])) _
    refine XS.aloadN X16.here hx rfl (hb hby d1_34) rfl rfl ?_
    show Steps p.tables e below (T16.setTop (mkF m 35 #[.val (.ref r0), .val (.int (1 : Int32)), .val (.long q2), .second] [(.ref r0)])) _
    refine XS.iloadN X16.here hx rfl (hb hby d1_35) rfl ?_
    show Steps p.tables e below (T16.setTop (mkF m 36 #[.val (.ref r0), .val (.int (1 : Int32)), .val (.long q2), .second] [(.int (1 : Int32)), (.ref r0)])) _
    refine XS.iconst X16.here hx rfl (hb hby d1_36) ?_
    show Steps p.tables e below (T16.setTop (mkF m 37 #[.val (.ref r0), .val (.int (1 : Int32)), .val (.long q2), .second] [(.int (3 : Int32)), (.int (1 : Int32)), (.ref r0)])) _
    refine XS.iadd X16.here hx rfl (hb hby d1_37) rfl ?_
    show Steps p.tables e below (T16.setTop (mkF m 38 #[.val (.ref r0), .val (.int (1 : Int32)), .val (.long q2), .second] [(.int ((1 : Int32) + (3 : Int32))), (.ref r0)])) _
    refine XS.lloadN X16.here hx rfl (hb hby d1_38) rfl ?_
    show Steps p.tables e below (T16.setTop (mkF m 39 #[.val (.ref r0), .val (.int (1 : Int32)), .val (.long q2), .second] [(.long q2), (.int ((1 : Int32) + (3 : Int32))), (.ref r0)])) _
    refine X16.ldc2Long hx hown (mvT hZ (hw _ (List.mem_of_getElem? (i := 12) rfl))) (g := (mkF m 39 #[.val (.ref r0), .val (.int (1 : Int32)), .val (.long q2), .second] [(.long q2), (.int ((1 : Int32) + (3 : Int32))), (.ref r0)])) rfl (hb hby d1_39) _ ?_
    exact kt
  have f18 := (Nat.le_trans f12 (Keep.of_wr W16).1)
  obtain ⟨_, _, ⟨T19, L19, k19, n19⟩, -, X19, ⟨Lc19, hQ19, l19, y19, z19⟩, st19⟩ := Jvm.LawKit.callS X16 hx (y := (⟨"com/example/sequence_set/sequenceset/cli/DecimalParserAcceptPinLaw", "d", "(JJ)C"⟩ : MethodName)) hown (mvT hZ (hw _ (List.mem_of_getElem? (i := 6) rfl))) (mvT hZ (hw _ (List.mem_of_getElem? (i := 7) rfl))) (mvT hZ (hw _ (List.mem_of_getElem? (i := 3) rfl))) (mvT hZ (hw _ (List.mem_of_getElem? (i := 8) rfl))) (by decide) (backOf (W := 2) (rm2 l Z a0 hw [] q2 (1000000000000000 : Int64)  h16 n0 f18 (by decide)) hZ (hw _ (List.mem_of_getElem? (i := 8) rfl)) (hw _ (List.mem_of_getElem? (i := 3) rfl)) (by decide) (by decide)) (g := (mkF m 42 #[.val (.ref r0), .val (.int (1 : Int32)), .val (.long q2), .second] [(.long (1000000000000000 : Int64)), (.long q2), (.int ((1 : Int32) + (3 : Int32))), (.ref r0)])) rfl (by rw [hml]; rfl) (argsL := [(.long q2), (.long (1000000000000000 : Int64))]) (rest := [(.int ((1 : Int32) + (3 : Int32))), (.ref r0)]) (lenOf pd_10 rfl) rfl (by show 2 * 0 + _ ≤ _; exact Nat.le_of_eq rfl) (hb hby d1_42) (fun _ _ => ⟨rfl, e16, (by decide : 0 + 0 ≤ _), (by decide : 0 + 0 ≤ _)⟩)
  dsimp only [Pt.U, Pt.locs, Pt.cells, Pt.slots] at X19 l19 y19 z19 st19 hQ19
  subst l19 y19 z19
  obtain ⟨rfl, N19q, e19⟩ := hQ19
  have N19 := Fr.app N16 N19q
  obtain ⟨Go19, X19, N19⟩ := own_opq X19 N19
  have c20 : ∀ t, Steps p.tables e below (T19.setTop (mkF m 45 #[.val (.ref r0), .val (.int (1 : Int32)), .val (.long q2), .second] [(.int (own_d q2 (1000000000000000 : Int64))), (.int (4 : Int32)), (.ref r0)])) t → Steps p.tables e below (T19.setTop (mkF m 45 #[.val (.ref r0), .val (.int (1 : Int32)), .val (.long q2), .second] [(.int (own_d q2 (1000000000000000 : Int64))), (.int ((1 : Int32) + (3 : Int32))), (.ref r0)])) t := fun t kt => castTop (congrArg (fun zv => (mkF m 45 #[.val (.ref r0), .val (.int (1 : Int32)), .val (.long q2), .second] [(.int (own_d q2 (1000000000000000 : Int64))), (.int zv), (.ref r0)])) (show ((1 : Int32) + (3 : Int32)) = (4 : Int32) from by decide)) kt
  have Vc21 := V16
  obtain ⟨cl21, Ar21, qk21, S21, M21, H21, G21⟩ := Vc21
  have hin21 : ¬ ((4 : Int32) < 0 ∨ cl21.slots.size ≤ ((4 : Int32)).toNatClampNeg) := inb_of S21 ⟨by decide, by decide⟩
  obtain ⟨T22, h22, X22, e22, W22, st22⟩ := stC X19 hx hZ e19 Ar21 (j := (4 : Int32)) hin21 (g := (mkF m 45 #[.val (.ref r0), .val (.int (1 : Int32)), .val (.long q2), .second] [(.int (own_d q2 (1000000000000000 : Int64))), (.int (4 : Int32)), (.ref r0)])) rfl rfl (hb hby d1_45)
  have V22 : Arv Z h22 r0 kk .char (20 : Int32) [(.int sg), (.int ((own_d q2 (1000000000000000000 : Int64)).toUInt32.toUInt16.toUInt32.toInt32)), (.int ((own_d q2 (100000000000000000 : Int64)).toUInt32.toUInt16.toUInt32.toInt32)), (.int ((own_d q2 (10000000000000000 : Int64)).toUInt32.toUInt16.toUInt32.toInt32)), (.int ((own_d q2 (1000000000000000 : Int64)).toUInt32.toUInt16.toUInt32.toInt32)), (.int (0 : Int32)), (.int (0 : Int32)), (.int (0 : Int32)), (.int (0 : Int32)), (.int (0 : Int32)), (.int (0 : Int32)), (.int (0 : Int32)), (.int (0 : Int32)), (.int (0 : Int32)), (.int (0 : Int32)), (.int (0 : Int32)), (.int (0 : Int32)), (.int (0 : Int32)), (.int (0 : Int32)), (.int (0 : Int32))] (.int (0 : Int32)) := Arv.set Ar21 qk21 S21 M21 H21 G21 (fits_nar_char _) W22 4 rfl (Nat.le_of_ble_eq_true rfl)
  have N22 := Fr.snoc X22 N19 g_r0
  have c23 : ∀ t, Steps p.tables e below (T22.setTop (mkF m 54 #[.val (.ref r0), .val (.int (1 : Int32)), .val (.long q2), .second] [(.long (100000000000000 : Int64)), (.long q2), (.int ((1 : Int32) + (4 : Int32))), (.ref r0)])) t → Steps p.tables e below (T22.setTop (mkF m 46 #[.val (.ref r0), .val (.int (1 : Int32)), .val (.long q2), .second] [])) t := by
    intro t kt
    show Steps p.tables e below (T22.setTop (mkF m 46 #[.val (.ref r0), .val (.int (1 : Int32)), .val (.long q2), .second] [])) _
    refine XS.aloadN X22.here hx rfl (hb hby d1_46) rfl rfl ?_
    show Steps p.tables e below (T22.setTop (mkF m 47 #[.val (.ref r0), .val (.int (1 : Int32)), .val (.long q2), .second] [(.ref r0)])) _
    refine XS.iloadN X22.here hx rfl (hb hby d1_47) rfl ?_
    show Steps p.tables e below (T22.setTop (mkF m 48 #[.val (.ref r0), .val (.int (1 : Int32)), .val (.long q2), .second] [(.int (1 : Int32)), (.ref r0)])) _
    refine XS.iconst X22.here hx rfl (hb hby d1_48) ?_
    show Steps p.tables e below (T22.setTop (mkF m 49 #[.val (.ref r0), .val (.int (1 : Int32)), .val (.long q2), .second] [(.int (4 : Int32)), (.int (1 : Int32)), (.ref r0)])) _
    refine XS.iadd X22.here hx rfl (hb hby d1_49) rfl ?_
    show Steps p.tables e below (T22.setTop (mkF m 50 #[.val (.ref r0), .val (.int (1 : Int32)), .val (.long q2), .second] [(.int ((1 : Int32) + (4 : Int32))), (.ref r0)])) _
    refine XS.lloadN X22.here hx rfl (hb hby d1_50) rfl ?_
    show Steps p.tables e below (T22.setTop (mkF m 51 #[.val (.ref r0), .val (.int (1 : Int32)), .val (.long q2), .second] [(.long q2), (.int ((1 : Int32) + (4 : Int32))), (.ref r0)])) _
    refine X22.ldc2Long hx hown (mvT hZ (hw _ (List.mem_of_getElem? (i := 13) rfl))) (g := (mkF m 51 #[.val (.ref r0), .val (.int (1 : Int32)), .val (.long q2), .second] [(.long q2), (.int ((1 : Int32) + (4 : Int32))), (.ref r0)])) rfl (hb hby d1_51) _ ?_
    exact kt
  have f24 := (Nat.le_trans f18 (Keep.of_wr W22).1)
  obtain ⟨_, _, ⟨T25, L25, k25, n25⟩, -, X25, ⟨Lc25, hQ25, l25, y25, z25⟩, st25⟩ := Jvm.LawKit.callS X22 hx (y := (⟨"com/example/sequence_set/sequenceset/cli/DecimalParserAcceptPinLaw", "d", "(JJ)C"⟩ : MethodName)) hown (mvT hZ (hw _ (List.mem_of_getElem? (i := 6) rfl))) (mvT hZ (hw _ (List.mem_of_getElem? (i := 7) rfl))) (mvT hZ (hw _ (List.mem_of_getElem? (i := 3) rfl))) (mvT hZ (hw _ (List.mem_of_getElem? (i := 8) rfl))) (by decide) (backOf (W := 2) (rm2 l Z a0 hw [] q2 (100000000000000 : Int64)  h22 n0 f24 (by decide)) hZ (hw _ (List.mem_of_getElem? (i := 8) rfl)) (hw _ (List.mem_of_getElem? (i := 3) rfl)) (by decide) (by decide)) (g := (mkF m 54 #[.val (.ref r0), .val (.int (1 : Int32)), .val (.long q2), .second] [(.long (100000000000000 : Int64)), (.long q2), (.int ((1 : Int32) + (4 : Int32))), (.ref r0)])) rfl (by rw [hml]; rfl) (argsL := [(.long q2), (.long (100000000000000 : Int64))]) (rest := [(.int ((1 : Int32) + (4 : Int32))), (.ref r0)]) (lenOf pd_10 rfl) rfl (by show 2 * 0 + _ ≤ _; exact Nat.le_of_eq rfl) (hb hby d1_54) (fun _ _ => ⟨rfl, e22, (by decide : 0 + 0 ≤ _), (by decide : 0 + 0 ≤ _)⟩)
  dsimp only [Pt.U, Pt.locs, Pt.cells, Pt.slots] at X25 l25 y25 z25 st25 hQ25
  subst l25 y25 z25
  obtain ⟨rfl, N25q, e25⟩ := hQ25
  have N25 := Fr.app N22 N25q
  obtain ⟨Go25, X25, N25⟩ := own_opq X25 N25
  have c26 : ∀ t, Steps p.tables e below (T25.setTop (mkF m 57 #[.val (.ref r0), .val (.int (1 : Int32)), .val (.long q2), .second] [(.int (own_d q2 (100000000000000 : Int64))), (.int (5 : Int32)), (.ref r0)])) t → Steps p.tables e below (T25.setTop (mkF m 57 #[.val (.ref r0), .val (.int (1 : Int32)), .val (.long q2), .second] [(.int (own_d q2 (100000000000000 : Int64))), (.int ((1 : Int32) + (4 : Int32))), (.ref r0)])) t := fun t kt => castTop (congrArg (fun zv => (mkF m 57 #[.val (.ref r0), .val (.int (1 : Int32)), .val (.long q2), .second] [(.int (own_d q2 (100000000000000 : Int64))), (.int zv), (.ref r0)])) (show ((1 : Int32) + (4 : Int32)) = (5 : Int32) from by decide)) kt
  have Vc27 := V22
  obtain ⟨cl27, Ar27, qk27, S27, M27, H27, G27⟩ := Vc27
  have hin27 : ¬ ((5 : Int32) < 0 ∨ cl27.slots.size ≤ ((5 : Int32)).toNatClampNeg) := inb_of S27 ⟨by decide, by decide⟩
  obtain ⟨T28, h28, X28, e28, W28, st28⟩ := stC X25 hx hZ e25 Ar27 (j := (5 : Int32)) hin27 (g := (mkF m 57 #[.val (.ref r0), .val (.int (1 : Int32)), .val (.long q2), .second] [(.int (own_d q2 (100000000000000 : Int64))), (.int (5 : Int32)), (.ref r0)])) rfl rfl (hb hby d1_57)
  have V28 : Arv Z h28 r0 kk .char (20 : Int32) [(.int sg), (.int ((own_d q2 (1000000000000000000 : Int64)).toUInt32.toUInt16.toUInt32.toInt32)), (.int ((own_d q2 (100000000000000000 : Int64)).toUInt32.toUInt16.toUInt32.toInt32)), (.int ((own_d q2 (10000000000000000 : Int64)).toUInt32.toUInt16.toUInt32.toInt32)), (.int ((own_d q2 (1000000000000000 : Int64)).toUInt32.toUInt16.toUInt32.toInt32)), (.int ((own_d q2 (100000000000000 : Int64)).toUInt32.toUInt16.toUInt32.toInt32)), (.int (0 : Int32)), (.int (0 : Int32)), (.int (0 : Int32)), (.int (0 : Int32)), (.int (0 : Int32)), (.int (0 : Int32)), (.int (0 : Int32)), (.int (0 : Int32)), (.int (0 : Int32)), (.int (0 : Int32)), (.int (0 : Int32)), (.int (0 : Int32)), (.int (0 : Int32)), (.int (0 : Int32))] (.int (0 : Int32)) := Arv.set Ar27 qk27 S27 M27 H27 G27 (fits_nar_char _) W28 5 rfl (Nat.le_of_ble_eq_true rfl)
  have N28 := Fr.snoc X28 N25 g_r0
  have c29 : ∀ t, Steps p.tables e below (T28.setTop (mkF m 66 #[.val (.ref r0), .val (.int (1 : Int32)), .val (.long q2), .second] [(.long (10000000000000 : Int64)), (.long q2), (.int ((1 : Int32) + (5 : Int32))), (.ref r0)])) t → Steps p.tables e below (T28.setTop (mkF m 58 #[.val (.ref r0), .val (.int (1 : Int32)), .val (.long q2), .second] [])) t := by
    intro t kt
    show Steps p.tables e below (T28.setTop (mkF m 58 #[.val (.ref r0), .val (.int (1 : Int32)), .val (.long q2), .second] [])) _
    refine XS.aloadN X28.here hx rfl (hb hby d1_58) rfl rfl ?_
    show Steps p.tables e below (T28.setTop (mkF m 59 #[.val (.ref r0), .val (.int (1 : Int32)), .val (.long q2), .second] [(.ref r0)])) _
    refine XS.iloadN X28.here hx rfl (hb hby d1_59) rfl ?_
    show Steps p.tables e below (T28.setTop (mkF m 60 #[.val (.ref r0), .val (.int (1 : Int32)), .val (.long q2), .second] [(.int (1 : Int32)), (.ref r0)])) _
    refine XS.iconst X28.here hx rfl (hb hby d1_60) ?_
    show Steps p.tables e below (T28.setTop (mkF m 61 #[.val (.ref r0), .val (.int (1 : Int32)), .val (.long q2), .second] [(.int (5 : Int32)), (.int (1 : Int32)), (.ref r0)])) _
    refine XS.iadd X28.here hx rfl (hb hby d1_61) rfl ?_
    show Steps p.tables e below (T28.setTop (mkF m 62 #[.val (.ref r0), .val (.int (1 : Int32)), .val (.long q2), .second] [(.int ((1 : Int32) + (5 : Int32))), (.ref r0)])) _
    refine XS.lloadN X28.here hx rfl (hb hby d1_62) rfl ?_
    show Steps p.tables e below (T28.setTop (mkF m 63 #[.val (.ref r0), .val (.int (1 : Int32)), .val (.long q2), .second] [(.long q2), (.int ((1 : Int32) + (5 : Int32))), (.ref r0)])) _
    refine X28.ldc2Long hx hown (mvT hZ (hw _ (List.mem_of_getElem? (i := 14) rfl))) (g := (mkF m 63 #[.val (.ref r0), .val (.int (1 : Int32)), .val (.long q2), .second] [(.long q2), (.int ((1 : Int32) + (5 : Int32))), (.ref r0)])) rfl (hb hby d1_63) _ ?_
    exact kt
  have f30 := (Nat.le_trans f24 (Keep.of_wr W28).1)
  obtain ⟨_, _, ⟨T31, L31, k31, n31⟩, -, X31, ⟨Lc31, hQ31, l31, y31, z31⟩, st31⟩ := Jvm.LawKit.callS X28 hx (y := (⟨"com/example/sequence_set/sequenceset/cli/DecimalParserAcceptPinLaw", "d", "(JJ)C"⟩ : MethodName)) hown (mvT hZ (hw _ (List.mem_of_getElem? (i := 6) rfl))) (mvT hZ (hw _ (List.mem_of_getElem? (i := 7) rfl))) (mvT hZ (hw _ (List.mem_of_getElem? (i := 3) rfl))) (mvT hZ (hw _ (List.mem_of_getElem? (i := 8) rfl))) (by decide) (backOf (W := 2) (rm2 l Z a0 hw [] q2 (10000000000000 : Int64)  h28 n0 f30 (by decide)) hZ (hw _ (List.mem_of_getElem? (i := 8) rfl)) (hw _ (List.mem_of_getElem? (i := 3) rfl)) (by decide) (by decide)) (g := (mkF m 66 #[.val (.ref r0), .val (.int (1 : Int32)), .val (.long q2), .second] [(.long (10000000000000 : Int64)), (.long q2), (.int ((1 : Int32) + (5 : Int32))), (.ref r0)])) rfl (by rw [hml]; rfl) (argsL := [(.long q2), (.long (10000000000000 : Int64))]) (rest := [(.int ((1 : Int32) + (5 : Int32))), (.ref r0)]) (lenOf pd_10 rfl) rfl (by show 2 * 0 + _ ≤ _; exact Nat.le_of_eq rfl) (hb hby d1_66) (fun _ _ => ⟨rfl, e28, (by decide : 0 + 0 ≤ _), (by decide : 0 + 0 ≤ _)⟩)
  dsimp only [Pt.U, Pt.locs, Pt.cells, Pt.slots] at X31 l31 y31 z31 st31 hQ31
  subst l31 y31 z31
  obtain ⟨rfl, N31q, e31⟩ := hQ31
  have N31 := Fr.app N28 N31q
  obtain ⟨Go31, X31, N31⟩ := own_opq X31 N31
  have c32 : ∀ t, Steps p.tables e below (T31.setTop (mkF m 69 #[.val (.ref r0), .val (.int (1 : Int32)), .val (.long q2), .second] [(.int (own_d q2 (10000000000000 : Int64))), (.int (6 : Int32)), (.ref r0)])) t → Steps p.tables e below (T31.setTop (mkF m 69 #[.val (.ref r0), .val (.int (1 : Int32)), .val (.long q2), .second] [(.int (own_d q2 (10000000000000 : Int64))), (.int ((1 : Int32) + (5 : Int32))), (.ref r0)])) t := fun t kt => castTop (congrArg (fun zv => (mkF m 69 #[.val (.ref r0), .val (.int (1 : Int32)), .val (.long q2), .second] [(.int (own_d q2 (10000000000000 : Int64))), (.int zv), (.ref r0)])) (show ((1 : Int32) + (5 : Int32)) = (6 : Int32) from by decide)) kt
  have Vc33 := V28
  obtain ⟨cl33, Ar33, qk33, S33, M33, H33, G33⟩ := Vc33
  have hin33 : ¬ ((6 : Int32) < 0 ∨ cl33.slots.size ≤ ((6 : Int32)).toNatClampNeg) := inb_of S33 ⟨by decide, by decide⟩
  obtain ⟨T34, h34, X34, e34, W34, st34⟩ := stC X31 hx hZ e31 Ar33 (j := (6 : Int32)) hin33 (g := (mkF m 69 #[.val (.ref r0), .val (.int (1 : Int32)), .val (.long q2), .second] [(.int (own_d q2 (10000000000000 : Int64))), (.int (6 : Int32)), (.ref r0)])) rfl rfl (hb hby d1_69)
  have V34 : Arv Z h34 r0 kk .char (20 : Int32) [(.int sg), (.int ((own_d q2 (1000000000000000000 : Int64)).toUInt32.toUInt16.toUInt32.toInt32)), (.int ((own_d q2 (100000000000000000 : Int64)).toUInt32.toUInt16.toUInt32.toInt32)), (.int ((own_d q2 (10000000000000000 : Int64)).toUInt32.toUInt16.toUInt32.toInt32)), (.int ((own_d q2 (1000000000000000 : Int64)).toUInt32.toUInt16.toUInt32.toInt32)), (.int ((own_d q2 (100000000000000 : Int64)).toUInt32.toUInt16.toUInt32.toInt32)), (.int ((own_d q2 (10000000000000 : Int64)).toUInt32.toUInt16.toUInt32.toInt32)), (.int (0 : Int32)), (.int (0 : Int32)), (.int (0 : Int32)), (.int (0 : Int32)), (.int (0 : Int32)), (.int (0 : Int32)), (.int (0 : Int32)), (.int (0 : Int32)), (.int (0 : Int32)), (.int (0 : Int32)), (.int (0 : Int32)), (.int (0 : Int32)), (.int (0 : Int32))] (.int (0 : Int32)) := Arv.set Ar33 qk33 S33 M33 H33 G33 (fits_nar_char _) W34 6 rfl (Nat.le_of_ble_eq_true rfl)
  have N34 := Fr.snoc X34 N31 g_r0
  have c35 : ∀ t, Steps p.tables e below (T34.setTop (mkF m 79 #[.val (.ref r0), .val (.int (1 : Int32)), .val (.long q2), .second] [(.long (1000000000000 : Int64)), (.long q2), (.int ((1 : Int32) + (6 : Int32))), (.ref r0)])) t → Steps p.tables e below (T34.setTop (mkF m 70 #[.val (.ref r0), .val (.int (1 : Int32)), .val (.long q2), .second] [])) t := by
    intro t kt
    show Steps p.tables e below (T34.setTop (mkF m 70 #[.val (.ref r0), .val (.int (1 : Int32)), .val (.long q2), .second] [])) _
    refine XS.aloadN X34.here hx rfl (hb hby d1_70) rfl rfl ?_
    show Steps p.tables e below (T34.setTop (mkF m 71 #[.val (.ref r0), .val (.int (1 : Int32)), .val (.long q2), .second] [(.ref r0)])) _
    refine XS.iloadN X34.here hx rfl (hb hby d1_71) rfl ?_
    show Steps p.tables e below (T34.setTop (mkF m 72 #[.val (.ref r0), .val (.int (1 : Int32)), .val (.long q2), .second] [(.int (1 : Int32)), (.ref r0)])) _
    refine XS.bipush X34.here hx rfl (hb hby d1_72) ?_
    show Steps p.tables e below (T34.setTop (mkF m 74 #[.val (.ref r0), .val (.int (1 : Int32)), .val (.long q2), .second] [(.int (6 : Int32)), (.int (1 : Int32)), (.ref r0)])) _
    refine XS.iadd X34.here hx rfl (hb hby d1_74) rfl ?_
    show Steps p.tables e below (T34.setTop (mkF m 75 #[.val (.ref r0), .val (.int (1 : Int32)), .val (.long q2), .second] [(.int ((1 : Int32) + (6 : Int32))), (.ref r0)])) _
    refine XS.lloadN X34.here hx rfl (hb hby d1_75) rfl ?_
    show Steps p.tables e below (T34.setTop (mkF m 76 #[.val (.ref r0), .val (.int (1 : Int32)), .val (.long q2), .second] [(.long q2), (.int ((1 : Int32) + (6 : Int32))), (.ref r0)])) _
    refine X34.ldc2Long hx hown (mvT hZ (hw _ (List.mem_of_getElem? (i := 15) rfl))) (g := (mkF m 76 #[.val (.ref r0), .val (.int (1 : Int32)), .val (.long q2), .second] [(.long q2), (.int ((1 : Int32) + (6 : Int32))), (.ref r0)])) rfl (hb hby d1_76) _ ?_
    exact kt
  have f36 := (Nat.le_trans f30 (Keep.of_wr W34).1)
  obtain ⟨_, _, ⟨T37, L37, k37, n37⟩, -, X37, ⟨Lc37, hQ37, l37, y37, z37⟩, st37⟩ := Jvm.LawKit.callS X34 hx (y := (⟨"com/example/sequence_set/sequenceset/cli/DecimalParserAcceptPinLaw", "d", "(JJ)C"⟩ : MethodName)) hown (mvT hZ (hw _ (List.mem_of_getElem? (i := 6) rfl))) (mvT hZ (hw _ (List.mem_of_getElem? (i := 7) rfl))) (mvT hZ (hw _ (List.mem_of_getElem? (i := 3) rfl))) (mvT hZ (hw _ (List.mem_of_getElem? (i := 8) rfl))) (by decide) (backOf (W := 2) (rm2 l Z a0 hw [] q2 (1000000000000 : Int64)  h34 n0 f36 (by decide)) hZ (hw _ (List.mem_of_getElem? (i := 8) rfl)) (hw _ (List.mem_of_getElem? (i := 3) rfl)) (by decide) (by decide)) (g := (mkF m 79 #[.val (.ref r0), .val (.int (1 : Int32)), .val (.long q2), .second] [(.long (1000000000000 : Int64)), (.long q2), (.int ((1 : Int32) + (6 : Int32))), (.ref r0)])) rfl (by rw [hml]; rfl) (argsL := [(.long q2), (.long (1000000000000 : Int64))]) (rest := [(.int ((1 : Int32) + (6 : Int32))), (.ref r0)]) (lenOf pd_10 rfl) rfl (by show 2 * 0 + _ ≤ _; exact Nat.le_of_eq rfl) (hb hby d1_79) (fun _ _ => ⟨rfl, e34, (by decide : 0 + 0 ≤ _), (by decide : 0 + 0 ≤ _)⟩)
  dsimp only [Pt.U, Pt.locs, Pt.cells, Pt.slots] at X37 l37 y37 z37 st37 hQ37
  subst l37 y37 z37
  obtain ⟨rfl, N37q, e37⟩ := hQ37
  have N37 := Fr.app N34 N37q
  obtain ⟨Go37, X37, N37⟩ := own_opq X37 N37
  have c38 : ∀ t, Steps p.tables e below (T37.setTop (mkF m 82 #[.val (.ref r0), .val (.int (1 : Int32)), .val (.long q2), .second] [(.int (own_d q2 (1000000000000 : Int64))), (.int (7 : Int32)), (.ref r0)])) t → Steps p.tables e below (T37.setTop (mkF m 82 #[.val (.ref r0), .val (.int (1 : Int32)), .val (.long q2), .second] [(.int (own_d q2 (1000000000000 : Int64))), (.int ((1 : Int32) + (6 : Int32))), (.ref r0)])) t := fun t kt => castTop (congrArg (fun zv => (mkF m 82 #[.val (.ref r0), .val (.int (1 : Int32)), .val (.long q2), .second] [(.int (own_d q2 (1000000000000 : Int64))), (.int zv), (.ref r0)])) (show ((1 : Int32) + (6 : Int32)) = (7 : Int32) from by decide)) kt
  have Vc39 := V34
  obtain ⟨cl39, Ar39, qk39, S39, M39, H39, G39⟩ := Vc39
  have hin39 : ¬ ((7 : Int32) < 0 ∨ cl39.slots.size ≤ ((7 : Int32)).toNatClampNeg) := inb_of S39 ⟨by decide, by decide⟩
  obtain ⟨T40, h40, X40, e40, W40, st40⟩ := stC X37 hx hZ e37 Ar39 (j := (7 : Int32)) hin39 (g := (mkF m 82 #[.val (.ref r0), .val (.int (1 : Int32)), .val (.long q2), .second] [(.int (own_d q2 (1000000000000 : Int64))), (.int (7 : Int32)), (.ref r0)])) rfl rfl (hb hby d1_82)
  have V40 : Arv Z h40 r0 kk .char (20 : Int32) [(.int sg), (.int ((own_d q2 (1000000000000000000 : Int64)).toUInt32.toUInt16.toUInt32.toInt32)), (.int ((own_d q2 (100000000000000000 : Int64)).toUInt32.toUInt16.toUInt32.toInt32)), (.int ((own_d q2 (10000000000000000 : Int64)).toUInt32.toUInt16.toUInt32.toInt32)), (.int ((own_d q2 (1000000000000000 : Int64)).toUInt32.toUInt16.toUInt32.toInt32)), (.int ((own_d q2 (100000000000000 : Int64)).toUInt32.toUInt16.toUInt32.toInt32)), (.int ((own_d q2 (10000000000000 : Int64)).toUInt32.toUInt16.toUInt32.toInt32)), (.int ((own_d q2 (1000000000000 : Int64)).toUInt32.toUInt16.toUInt32.toInt32)), (.int (0 : Int32)), (.int (0 : Int32)), (.int (0 : Int32)), (.int (0 : Int32)), (.int (0 : Int32)), (.int (0 : Int32)), (.int (0 : Int32)), (.int (0 : Int32)), (.int (0 : Int32)), (.int (0 : Int32)), (.int (0 : Int32)), (.int (0 : Int32))] (.int (0 : Int32)) := Arv.set Ar39 qk39 S39 M39 H39 G39 (fits_nar_char _) W40 7 rfl (Nat.le_of_ble_eq_true rfl)
  have N40 := Fr.snoc X40 N37 g_r0
  have c41 : ∀ t, Steps p.tables e below (T40.setTop (mkF m 92 #[.val (.ref r0), .val (.int (1 : Int32)), .val (.long q2), .second] [(.long (100000000000 : Int64)), (.long q2), (.int ((1 : Int32) + (7 : Int32))), (.ref r0)])) t → Steps p.tables e below (T40.setTop (mkF m 83 #[.val (.ref r0), .val (.int (1 : Int32)), .val (.long q2), .second] [])) t := by
    intro t kt
    show Steps p.tables e below (T40.setTop (mkF m 83 #[.val (.ref r0), .val (.int (1 : Int32)), .val (.long q2), .second] [])) _
    refine XS.aloadN X40.here hx rfl (hb hby d1_83) rfl rfl ?_
    show Steps p.tables e below (T40.setTop (mkF m 84 #[.val (.ref r0), .val (.int (1 : Int32)), .val (.long q2), .second] [(.ref r0)])) _
    refine XS.iloadN X40.here hx rfl (hb hby d1_84) rfl ?_
    show Steps p.tables e below (T40.setTop (mkF m 85 #[.val (.ref r0), .val (.int (1 : Int32)), .val (.long q2), .second] [(.int (1 : Int32)), (.ref r0)])) _
    refine XS.bipush X40.here hx rfl (hb hby d1_85) ?_
    show Steps p.tables e below (T40.setTop (mkF m 87 #[.val (.ref r0), .val (.int (1 : Int32)), .val (.long q2), .second] [(.int (7 : Int32)), (.int (1 : Int32)), (.ref r0)])) _
    refine XS.iadd X40.here hx rfl (hb hby d1_87) rfl ?_
    show Steps p.tables e below (T40.setTop (mkF m 88 #[.val (.ref r0), .val (.int (1 : Int32)), .val (.long q2), .second] [(.int ((1 : Int32) + (7 : Int32))), (.ref r0)])) _
    refine XS.lloadN X40.here hx rfl (hb hby d1_88) rfl ?_
    show Steps p.tables e below (T40.setTop (mkF m 89 #[.val (.ref r0), .val (.int (1 : Int32)), .val (.long q2), .second] [(.long q2), (.int ((1 : Int32) + (7 : Int32))), (.ref r0)])) _
    refine X40.ldc2Long hx hown (mvT hZ (hw _ (List.mem_of_getElem? (i := 16) rfl))) (g := (mkF m 89 #[.val (.ref r0), .val (.int (1 : Int32)), .val (.long q2), .second] [(.long q2), (.int ((1 : Int32) + (7 : Int32))), (.ref r0)])) rfl (hb hby d1_89) _ ?_
    exact kt
  have f42 := (Nat.le_trans f36 (Keep.of_wr W40).1)
  obtain ⟨_, _, ⟨T43, L43, k43, n43⟩, -, X43, ⟨Lc43, hQ43, l43, y43, z43⟩, st43⟩ := Jvm.LawKit.callS X40 hx (y := (⟨"com/example/sequence_set/sequenceset/cli/DecimalParserAcceptPinLaw", "d", "(JJ)C"⟩ : MethodName)) hown (mvT hZ (hw _ (List.mem_of_getElem? (i := 6) rfl))) (mvT hZ (hw _ (List.mem_of_getElem? (i := 7) rfl))) (mvT hZ (hw _ (List.mem_of_getElem? (i := 3) rfl))) (mvT hZ (hw _ (List.mem_of_getElem? (i := 8) rfl))) (by decide) (backOf (W := 2) (rm2 l Z a0 hw [] q2 (100000000000 : Int64)  h40 n0 f42 (by decide)) hZ (hw _ (List.mem_of_getElem? (i := 8) rfl)) (hw _ (List.mem_of_getElem? (i := 3) rfl)) (by decide) (by decide)) (g := (mkF m 92 #[.val (.ref r0), .val (.int (1 : Int32)), .val (.long q2), .second] [(.long (100000000000 : Int64)), (.long q2), (.int ((1 : Int32) + (7 : Int32))), (.ref r0)])) rfl (by rw [hml]; rfl) (argsL := [(.long q2), (.long (100000000000 : Int64))]) (rest := [(.int ((1 : Int32) + (7 : Int32))), (.ref r0)]) (lenOf pd_10 rfl) rfl (by show 2 * 0 + _ ≤ _; exact Nat.le_of_eq rfl) (hb hby d1_92) (fun _ _ => ⟨rfl, e40, (by decide : 0 + 0 ≤ _), (by decide : 0 + 0 ≤ _)⟩)
  dsimp only [Pt.U, Pt.locs, Pt.cells, Pt.slots] at X43 l43 y43 z43 st43 hQ43
  subst l43 y43 z43
  obtain ⟨rfl, N43q, e43⟩ := hQ43
  have N43 := Fr.app N40 N43q
  obtain ⟨Go43, X43, N43⟩ := own_opq X43 N43
  have c44 : ∀ t, Steps p.tables e below (T43.setTop (mkF m 95 #[.val (.ref r0), .val (.int (1 : Int32)), .val (.long q2), .second] [(.int (own_d q2 (100000000000 : Int64))), (.int (8 : Int32)), (.ref r0)])) t → Steps p.tables e below (T43.setTop (mkF m 95 #[.val (.ref r0), .val (.int (1 : Int32)), .val (.long q2), .second] [(.int (own_d q2 (100000000000 : Int64))), (.int ((1 : Int32) + (7 : Int32))), (.ref r0)])) t := fun t kt => castTop (congrArg (fun zv => (mkF m 95 #[.val (.ref r0), .val (.int (1 : Int32)), .val (.long q2), .second] [(.int (own_d q2 (100000000000 : Int64))), (.int zv), (.ref r0)])) (show ((1 : Int32) + (7 : Int32)) = (8 : Int32) from by decide)) kt
  have Vc45 := V40
  obtain ⟨cl45, Ar45, qk45, S45, M45, H45, G45⟩ := Vc45
  have hin45 : ¬ ((8 : Int32) < 0 ∨ cl45.slots.size ≤ ((8 : Int32)).toNatClampNeg) := inb_of S45 ⟨by decide, by decide⟩
  obtain ⟨T46, h46, X46, e46, W46, st46⟩ := stC X43 hx hZ e43 Ar45 (j := (8 : Int32)) hin45 (g := (mkF m 95 #[.val (.ref r0), .val (.int (1 : Int32)), .val (.long q2), .second] [(.int (own_d q2 (100000000000 : Int64))), (.int (8 : Int32)), (.ref r0)])) rfl rfl (hb hby d1_95)
  have V46 : Arv Z h46 r0 kk .char (20 : Int32) [(.int sg), (.int ((own_d q2 (1000000000000000000 : Int64)).toUInt32.toUInt16.toUInt32.toInt32)), (.int ((own_d q2 (100000000000000000 : Int64)).toUInt32.toUInt16.toUInt32.toInt32)), (.int ((own_d q2 (10000000000000000 : Int64)).toUInt32.toUInt16.toUInt32.toInt32)), (.int ((own_d q2 (1000000000000000 : Int64)).toUInt32.toUInt16.toUInt32.toInt32)), (.int ((own_d q2 (100000000000000 : Int64)).toUInt32.toUInt16.toUInt32.toInt32)), (.int ((own_d q2 (10000000000000 : Int64)).toUInt32.toUInt16.toUInt32.toInt32)), (.int ((own_d q2 (1000000000000 : Int64)).toUInt32.toUInt16.toUInt32.toInt32)), (.int ((own_d q2 (100000000000 : Int64)).toUInt32.toUInt16.toUInt32.toInt32)), (.int (0 : Int32)), (.int (0 : Int32)), (.int (0 : Int32)), (.int (0 : Int32)), (.int (0 : Int32)), (.int (0 : Int32)), (.int (0 : Int32)), (.int (0 : Int32)), (.int (0 : Int32)), (.int (0 : Int32)), (.int (0 : Int32))] (.int (0 : Int32)) := Arv.set Ar45 qk45 S45 M45 H45 G45 (fits_nar_char _) W46 8 rfl (Nat.le_of_ble_eq_true rfl)
  have N46 := Fr.snoc X46 N43 g_r0
  have c47 : ∀ t, Steps p.tables e below (T46.setTop (mkF m 105 #[.val (.ref r0), .val (.int (1 : Int32)), .val (.long q2), .second] [(.long (10000000000 : Int64)), (.long q2), (.int ((1 : Int32) + (8 : Int32))), (.ref r0)])) t → Steps p.tables e below (T46.setTop (mkF m 96 #[.val (.ref r0), .val (.int (1 : Int32)), .val (.long q2), .second] [])) t := by
    intro t kt
    show Steps p.tables e below (T46.setTop (mkF m 96 #[.val (.ref r0), .val (.int (1 : Int32)), .val (.long q2), .second] [])) _
    refine XS.aloadN X46.here hx rfl (hb hby d1_96) rfl rfl ?_
    show Steps p.tables e below (T46.setTop (mkF m 97 #[.val (.ref r0), .val (.int (1 : Int32)), .val (.long q2), .second] [(.ref r0)])) _
    refine XS.iloadN X46.here hx rfl (hb hby d1_97) rfl ?_
    show Steps p.tables e below (T46.setTop (mkF m 98 #[.val (.ref r0), .val (.int (1 : Int32)), .val (.long q2), .second] [(.int (1 : Int32)), (.ref r0)])) _
    refine XS.bipush X46.here hx rfl (hb hby d1_98) ?_
    show Steps p.tables e below (T46.setTop (mkF m 100 #[.val (.ref r0), .val (.int (1 : Int32)), .val (.long q2), .second] [(.int (8 : Int32)), (.int (1 : Int32)), (.ref r0)])) _
    refine XS.iadd X46.here hx rfl (hb hby d1_100) rfl ?_
    show Steps p.tables e below (T46.setTop (mkF m 101 #[.val (.ref r0), .val (.int (1 : Int32)), .val (.long q2), .second] [(.int ((1 : Int32) + (8 : Int32))), (.ref r0)])) _
    refine XS.lloadN X46.here hx rfl (hb hby d1_101) rfl ?_
    show Steps p.tables e below (T46.setTop (mkF m 102 #[.val (.ref r0), .val (.int (1 : Int32)), .val (.long q2), .second] [(.long q2), (.int ((1 : Int32) + (8 : Int32))), (.ref r0)])) _
    refine X46.ldc2Long hx hown (mvT hZ (hw _ (List.mem_of_getElem? (i := 17) rfl))) (g := (mkF m 102 #[.val (.ref r0), .val (.int (1 : Int32)), .val (.long q2), .second] [(.long q2), (.int ((1 : Int32) + (8 : Int32))), (.ref r0)])) rfl (hb hby d1_102) _ ?_
    exact kt
  have f48 := (Nat.le_trans f42 (Keep.of_wr W46).1)
  obtain ⟨_, _, ⟨T49, L49, k49, n49⟩, -, X49, ⟨Lc49, hQ49, l49, y49, z49⟩, st49⟩ := Jvm.LawKit.callS X46 hx (y := (⟨"com/example/sequence_set/sequenceset/cli/DecimalParserAcceptPinLaw", "d", "(JJ)C"⟩ : MethodName)) hown (mvT hZ (hw _ (List.mem_of_getElem? (i := 6) rfl))) (mvT hZ (hw _ (List.mem_of_getElem? (i := 7) rfl))) (mvT hZ (hw _ (List.mem_of_getElem? (i := 3) rfl))) (mvT hZ (hw _ (List.mem_of_getElem? (i := 8) rfl))) (by decide) (backOf (W := 2) (rm2 l Z a0 hw [] q2 (10000000000 : Int64)  h46 n0 f48 (by decide)) hZ (hw _ (List.mem_of_getElem? (i := 8) rfl)) (hw _ (List.mem_of_getElem? (i := 3) rfl)) (by decide) (by decide)) (g := (mkF m 105 #[.val (.ref r0), .val (.int (1 : Int32)), .val (.long q2), .second] [(.long (10000000000 : Int64)), (.long q2), (.int ((1 : Int32) + (8 : Int32))), (.ref r0)])) rfl (by rw [hml]; rfl) (argsL := [(.long q2), (.long (10000000000 : Int64))]) (rest := [(.int ((1 : Int32) + (8 : Int32))), (.ref r0)]) (lenOf pd_10 rfl) rfl (by show 2 * 0 + _ ≤ _; exact Nat.le_of_eq rfl) (hb hby d1_105) (fun _ _ => ⟨rfl, e46, (by decide : 0 + 0 ≤ _), (by decide : 0 + 0 ≤ _)⟩)
  dsimp only [Pt.U, Pt.locs, Pt.cells, Pt.slots] at X49 l49 y49 z49 st49 hQ49
  subst l49 y49 z49
  obtain ⟨rfl, N49q, e49⟩ := hQ49
  have N49 := Fr.app N46 N49q
  obtain ⟨Go49, X49, N49⟩ := own_opq X49 N49
  have c50 : ∀ t, Steps p.tables e below (T49.setTop (mkF m 108 #[.val (.ref r0), .val (.int (1 : Int32)), .val (.long q2), .second] [(.int (own_d q2 (10000000000 : Int64))), (.int (9 : Int32)), (.ref r0)])) t → Steps p.tables e below (T49.setTop (mkF m 108 #[.val (.ref r0), .val (.int (1 : Int32)), .val (.long q2), .second] [(.int (own_d q2 (10000000000 : Int64))), (.int ((1 : Int32) + (8 : Int32))), (.ref r0)])) t := fun t kt => castTop (congrArg (fun zv => (mkF m 108 #[.val (.ref r0), .val (.int (1 : Int32)), .val (.long q2), .second] [(.int (own_d q2 (10000000000 : Int64))), (.int zv), (.ref r0)])) (show ((1 : Int32) + (8 : Int32)) = (9 : Int32) from by decide)) kt
  have Vc51 := V46
  obtain ⟨cl51, Ar51, qk51, S51, M51, H51, G51⟩ := Vc51
  have hin51 : ¬ ((9 : Int32) < 0 ∨ cl51.slots.size ≤ ((9 : Int32)).toNatClampNeg) := inb_of S51 ⟨by decide, by decide⟩
  obtain ⟨T52, h52, X52, e52, W52, st52⟩ := stC X49 hx hZ e49 Ar51 (j := (9 : Int32)) hin51 (g := (mkF m 108 #[.val (.ref r0), .val (.int (1 : Int32)), .val (.long q2), .second] [(.int (own_d q2 (10000000000 : Int64))), (.int (9 : Int32)), (.ref r0)])) rfl rfl (hb hby d1_108)
  have V52 : Arv Z h52 r0 kk .char (20 : Int32) [(.int sg), (.int ((own_d q2 (1000000000000000000 : Int64)).toUInt32.toUInt16.toUInt32.toInt32)), (.int ((own_d q2 (100000000000000000 : Int64)).toUInt32.toUInt16.toUInt32.toInt32)), (.int ((own_d q2 (10000000000000000 : Int64)).toUInt32.toUInt16.toUInt32.toInt32)), (.int ((own_d q2 (1000000000000000 : Int64)).toUInt32.toUInt16.toUInt32.toInt32)), (.int ((own_d q2 (100000000000000 : Int64)).toUInt32.toUInt16.toUInt32.toInt32)), (.int ((own_d q2 (10000000000000 : Int64)).toUInt32.toUInt16.toUInt32.toInt32)), (.int ((own_d q2 (1000000000000 : Int64)).toUInt32.toUInt16.toUInt32.toInt32)), (.int ((own_d q2 (100000000000 : Int64)).toUInt32.toUInt16.toUInt32.toInt32)), (.int ((own_d q2 (10000000000 : Int64)).toUInt32.toUInt16.toUInt32.toInt32)), (.int (0 : Int32)), (.int (0 : Int32)), (.int (0 : Int32)), (.int (0 : Int32)), (.int (0 : Int32)), (.int (0 : Int32)), (.int (0 : Int32)), (.int (0 : Int32)), (.int (0 : Int32)), (.int (0 : Int32))] (.int (0 : Int32)) := Arv.set Ar51 qk51 S51 M51 H51 G51 (fits_nar_char _) W52 9 rfl (Nat.le_of_ble_eq_true rfl)
  have N52 := Fr.snoc X52 N49 g_r0
  have c53 : ∀ t, Steps p.tables e below (T52.setTop (mkF m 118 #[.val (.ref r0), .val (.int (1 : Int32)), .val (.long q2), .second] [(.long (1000000000 : Int64)), (.long q2), (.int ((1 : Int32) + (9 : Int32))), (.ref r0)])) t → Steps p.tables e below (T52.setTop (mkF m 109 #[.val (.ref r0), .val (.int (1 : Int32)), .val (.long q2), .second] [])) t := by
    intro t kt
    show Steps p.tables e below (T52.setTop (mkF m 109 #[.val (.ref r0), .val (.int (1 : Int32)), .val (.long q2), .second] [])) _
    refine XS.aloadN X52.here hx rfl (hb hby d1_109) rfl rfl ?_
    show Steps p.tables e below (T52.setTop (mkF m 110 #[.val (.ref r0), .val (.int (1 : Int32)), .val (.long q2), .second] [(.ref r0)])) _
    refine XS.iloadN X52.here hx rfl (hb hby d1_110) rfl ?_
    show Steps p.tables e below (T52.setTop (mkF m 111 #[.val (.ref r0), .val (.int (1 : Int32)), .val (.long q2), .second] [(.int (1 : Int32)), (.ref r0)])) _
    refine XS.bipush X52.here hx rfl (hb hby d1_111) ?_
    show Steps p.tables e below (T52.setTop (mkF m 113 #[.val (.ref r0), .val (.int (1 : Int32)), .val (.long q2), .second] [(.int (9 : Int32)), (.int (1 : Int32)), (.ref r0)])) _
    refine XS.iadd X52.here hx rfl (hb hby d1_113) rfl ?_
    show Steps p.tables e below (T52.setTop (mkF m 114 #[.val (.ref r0), .val (.int (1 : Int32)), .val (.long q2), .second] [(.int ((1 : Int32) + (9 : Int32))), (.ref r0)])) _
    refine XS.lloadN X52.here hx rfl (hb hby d1_114) rfl ?_
    show Steps p.tables e below (T52.setTop (mkF m 115 #[.val (.ref r0), .val (.int (1 : Int32)), .val (.long q2), .second] [(.long q2), (.int ((1 : Int32) + (9 : Int32))), (.ref r0)])) _
    refine X52.ldc2Long hx hown (mvT hZ (hw _ (List.mem_of_getElem? (i := 18) rfl))) (g := (mkF m 115 #[.val (.ref r0), .val (.int (1 : Int32)), .val (.long q2), .second] [(.long q2), (.int ((1 : Int32) + (9 : Int32))), (.ref r0)])) rfl (hb hby d1_115) _ ?_
    exact kt
  have f54 := (Nat.le_trans f48 (Keep.of_wr W52).1)
  obtain ⟨_, _, ⟨T55, L55, k55, n55⟩, -, X55, ⟨Lc55, hQ55, l55, y55, z55⟩, st55⟩ := Jvm.LawKit.callS X52 hx (y := (⟨"com/example/sequence_set/sequenceset/cli/DecimalParserAcceptPinLaw", "d", "(JJ)C"⟩ : MethodName)) hown (mvT hZ (hw _ (List.mem_of_getElem? (i := 6) rfl))) (mvT hZ (hw _ (List.mem_of_getElem? (i := 7) rfl))) (mvT hZ (hw _ (List.mem_of_getElem? (i := 3) rfl))) (mvT hZ (hw _ (List.mem_of_getElem? (i := 8) rfl))) (by decide) (backOf (W := 2) (rm2 l Z a0 hw [] q2 (1000000000 : Int64)  h52 n0 f54 (by decide)) hZ (hw _ (List.mem_of_getElem? (i := 8) rfl)) (hw _ (List.mem_of_getElem? (i := 3) rfl)) (by decide) (by decide)) (g := (mkF m 118 #[.val (.ref r0), .val (.int (1 : Int32)), .val (.long q2), .second] [(.long (1000000000 : Int64)), (.long q2), (.int ((1 : Int32) + (9 : Int32))), (.ref r0)])) rfl (by rw [hml]; rfl) (argsL := [(.long q2), (.long (1000000000 : Int64))]) (rest := [(.int ((1 : Int32) + (9 : Int32))), (.ref r0)]) (lenOf pd_10 rfl) rfl (by show 2 * 0 + _ ≤ _; exact Nat.le_of_eq rfl) (hb hby d1_118) (fun _ _ => ⟨rfl, e52, (by decide : 0 + 0 ≤ _), (by decide : 0 + 0 ≤ _)⟩)
  dsimp only [Pt.U, Pt.locs, Pt.cells, Pt.slots] at X55 l55 y55 z55 st55 hQ55
  subst l55 y55 z55
  obtain ⟨rfl, N55q, e55⟩ := hQ55
  have N55 := Fr.app N52 N55q
  obtain ⟨Go55, X55, N55⟩ := own_opq X55 N55
  have c56 : ∀ t, Steps p.tables e below (T55.setTop (mkF m 121 #[.val (.ref r0), .val (.int (1 : Int32)), .val (.long q2), .second] [(.int (own_d q2 (1000000000 : Int64))), (.int (10 : Int32)), (.ref r0)])) t → Steps p.tables e below (T55.setTop (mkF m 121 #[.val (.ref r0), .val (.int (1 : Int32)), .val (.long q2), .second] [(.int (own_d q2 (1000000000 : Int64))), (.int ((1 : Int32) + (9 : Int32))), (.ref r0)])) t := fun t kt => castTop (congrArg (fun zv => (mkF m 121 #[.val (.ref r0), .val (.int (1 : Int32)), .val (.long q2), .second] [(.int (own_d q2 (1000000000 : Int64))), (.int zv), (.ref r0)])) (show ((1 : Int32) + (9 : Int32)) = (10 : Int32) from by decide)) kt
  have Vc57 := V52
  obtain ⟨cl57, Ar57, qk57, S57, M57, H57, G57⟩ := Vc57
  have hin57 : ¬ ((10 : Int32) < 0 ∨ cl57.slots.size ≤ ((10 : Int32)).toNatClampNeg) := inb_of S57 ⟨by decide, by decide⟩
  obtain ⟨T58, h58, X58, e58, W58, st58⟩ := stC X55 hx hZ e55 Ar57 (j := (10 : Int32)) hin57 (g := (mkF m 121 #[.val (.ref r0), .val (.int (1 : Int32)), .val (.long q2), .second] [(.int (own_d q2 (1000000000 : Int64))), (.int (10 : Int32)), (.ref r0)])) rfl rfl (hb hby d1_121)
  have V58 : Arv Z h58 r0 kk .char (20 : Int32) [(.int sg), (.int ((own_d q2 (1000000000000000000 : Int64)).toUInt32.toUInt16.toUInt32.toInt32)), (.int ((own_d q2 (100000000000000000 : Int64)).toUInt32.toUInt16.toUInt32.toInt32)), (.int ((own_d q2 (10000000000000000 : Int64)).toUInt32.toUInt16.toUInt32.toInt32)), (.int ((own_d q2 (1000000000000000 : Int64)).toUInt32.toUInt16.toUInt32.toInt32)), (.int ((own_d q2 (100000000000000 : Int64)).toUInt32.toUInt16.toUInt32.toInt32)), (.int ((own_d q2 (10000000000000 : Int64)).toUInt32.toUInt16.toUInt32.toInt32)), (.int ((own_d q2 (1000000000000 : Int64)).toUInt32.toUInt16.toUInt32.toInt32)), (.int ((own_d q2 (100000000000 : Int64)).toUInt32.toUInt16.toUInt32.toInt32)), (.int ((own_d q2 (10000000000 : Int64)).toUInt32.toUInt16.toUInt32.toInt32)), (.int ((own_d q2 (1000000000 : Int64)).toUInt32.toUInt16.toUInt32.toInt32)), (.int (0 : Int32)), (.int (0 : Int32)), (.int (0 : Int32)), (.int (0 : Int32)), (.int (0 : Int32)), (.int (0 : Int32)), (.int (0 : Int32)), (.int (0 : Int32)), (.int (0 : Int32))] (.int (0 : Int32)) := Arv.set Ar57 qk57 S57 M57 H57 G57 (fits_nar_char _) W58 10 rfl (Nat.le_of_ble_eq_true rfl)
  have N58 := Fr.snoc X58 N55 g_r0
  have c59 : ∀ t, Steps p.tables e below (T58.setTop (mkF m 131 #[.val (.ref r0), .val (.int (1 : Int32)), .val (.long q2), .second] [(.long (100000000 : Int64)), (.long q2), (.int ((1 : Int32) + (10 : Int32))), (.ref r0)])) t → Steps p.tables e below (T58.setTop (mkF m 122 #[.val (.ref r0), .val (.int (1 : Int32)), .val (.long q2), .second] [])) t := by
    intro t kt
    show Steps p.tables e below (T58.setTop (mkF m 122 #[.val (.ref r0), .val (.int (1 : Int32)), .val (.long q2), .second] [])) _
    refine XS.aloadN X58.here hx rfl (hb hby d1_122) rfl rfl ?_
    show Steps p.tables e below (T58.setTop (mkF m 123 #[.val (.ref r0), .val (.int (1 : Int32)), .val (.long q2), .second] [(.ref r0)])) _
    refine XS.iloadN X58.here hx rfl (hb hby d1_123) rfl ?_
    show Steps p.tables e below (T58.setTop (mkF m 124 #[.val (.ref r0), .val (.int (1 : Int32)), .val (.long q2), .second] [(.int (1 : Int32)), (.ref r0)])) _
    refine XS.bipush X58.here hx rfl (hb hby d1_124) ?_
    show Steps p.tables e below (T58.setTop (mkF m 126 #[.val (.ref r0), .val (.int (1 : Int32)), .val (.long q2), .second] [(.int (10 : Int32)), (.int (1 : Int32)), (.ref r0)])) _
    refine XS.iadd X58.here hx rfl (hb hby d1_126) rfl ?_
    show Steps p.tables e below (T58.setTop (mkF m 127 #[.val (.ref r0), .val (.int (1 : Int32)), .val (.long q2), .second] [(.int ((1 : Int32) + (10 : Int32))), (.ref r0)])) _
    refine XS.lloadN X58.here hx rfl (hb hby d1_127) rfl ?_
    show Steps p.tables e below (T58.setTop (mkF m 128 #[.val (.ref r0), .val (.int (1 : Int32)), .val (.long q2), .second] [(.long q2), (.int ((1 : Int32) + (10 : Int32))), (.ref r0)])) _
    refine X58.ldc2Long hx hown (mvT hZ (hw _ (List.mem_of_getElem? (i := 19) rfl))) (g := (mkF m 128 #[.val (.ref r0), .val (.int (1 : Int32)), .val (.long q2), .second] [(.long q2), (.int ((1 : Int32) + (10 : Int32))), (.ref r0)])) rfl (hb hby d1_128) _ ?_
    exact kt
  have f60 := (Nat.le_trans f54 (Keep.of_wr W58).1)
  obtain ⟨_, _, ⟨T61, L61, k61, n61⟩, -, X61, ⟨Lc61, hQ61, l61, y61, z61⟩, st61⟩ := Jvm.LawKit.callS X58 hx (y := (⟨"com/example/sequence_set/sequenceset/cli/DecimalParserAcceptPinLaw", "d", "(JJ)C"⟩ : MethodName)) hown (mvT hZ (hw _ (List.mem_of_getElem? (i := 6) rfl))) (mvT hZ (hw _ (List.mem_of_getElem? (i := 7) rfl))) (mvT hZ (hw _ (List.mem_of_getElem? (i := 3) rfl))) (mvT hZ (hw _ (List.mem_of_getElem? (i := 8) rfl))) (by decide) (backOf (W := 2) (rm2 l Z a0 hw [] q2 (100000000 : Int64)  h58 n0 f60 (by decide)) hZ (hw _ (List.mem_of_getElem? (i := 8) rfl)) (hw _ (List.mem_of_getElem? (i := 3) rfl)) (by decide) (by decide)) (g := (mkF m 131 #[.val (.ref r0), .val (.int (1 : Int32)), .val (.long q2), .second] [(.long (100000000 : Int64)), (.long q2), (.int ((1 : Int32) + (10 : Int32))), (.ref r0)])) rfl (by rw [hml]; rfl) (argsL := [(.long q2), (.long (100000000 : Int64))]) (rest := [(.int ((1 : Int32) + (10 : Int32))), (.ref r0)]) (lenOf pd_10 rfl) rfl (by show 2 * 0 + _ ≤ _; exact Nat.le_of_eq rfl) (hb hby d1_131) (fun _ _ => ⟨rfl, e58, (by decide : 0 + 0 ≤ _), (by decide : 0 + 0 ≤ _)⟩)
  dsimp only [Pt.U, Pt.locs, Pt.cells, Pt.slots] at X61 l61 y61 z61 st61 hQ61
  subst l61 y61 z61
  obtain ⟨rfl, N61q, e61⟩ := hQ61
  have N61 := Fr.app N58 N61q
  obtain ⟨Go61, X61, N61⟩ := own_opq X61 N61
  have c62 : ∀ t, Steps p.tables e below (T61.setTop (mkF m 134 #[.val (.ref r0), .val (.int (1 : Int32)), .val (.long q2), .second] [(.int (own_d q2 (100000000 : Int64))), (.int (11 : Int32)), (.ref r0)])) t → Steps p.tables e below (T61.setTop (mkF m 134 #[.val (.ref r0), .val (.int (1 : Int32)), .val (.long q2), .second] [(.int (own_d q2 (100000000 : Int64))), (.int ((1 : Int32) + (10 : Int32))), (.ref r0)])) t := fun t kt => castTop (congrArg (fun zv => (mkF m 134 #[.val (.ref r0), .val (.int (1 : Int32)), .val (.long q2), .second] [(.int (own_d q2 (100000000 : Int64))), (.int zv), (.ref r0)])) (show ((1 : Int32) + (10 : Int32)) = (11 : Int32) from by decide)) kt
  have Vc63 := V58
  obtain ⟨cl63, Ar63, qk63, S63, M63, H63, G63⟩ := Vc63
  have hin63 : ¬ ((11 : Int32) < 0 ∨ cl63.slots.size ≤ ((11 : Int32)).toNatClampNeg) := inb_of S63 ⟨by decide, by decide⟩
  obtain ⟨T64, h64, X64, e64, W64, st64⟩ := stC X61 hx hZ e61 Ar63 (j := (11 : Int32)) hin63 (g := (mkF m 134 #[.val (.ref r0), .val (.int (1 : Int32)), .val (.long q2), .second] [(.int (own_d q2 (100000000 : Int64))), (.int (11 : Int32)), (.ref r0)])) rfl rfl (hb hby d1_134)
  have V64 : Arv Z h64 r0 kk .char (20 : Int32) [(.int sg), (.int ((own_d q2 (1000000000000000000 : Int64)).toUInt32.toUInt16.toUInt32.toInt32)), (.int ((own_d q2 (100000000000000000 : Int64)).toUInt32.toUInt16.toUInt32.toInt32)), (.int ((own_d q2 (10000000000000000 : Int64)).toUInt32.toUInt16.toUInt32.toInt32)), (.int ((own_d q2 (1000000000000000 : Int64)).toUInt32.toUInt16.toUInt32.toInt32)), (.int ((own_d q2 (100000000000000 : Int64)).toUInt32.toUInt16.toUInt32.toInt32)), (.int ((own_d q2 (10000000000000 : Int64)).toUInt32.toUInt16.toUInt32.toInt32)), (.int ((own_d q2 (1000000000000 : Int64)).toUInt32.toUInt16.toUInt32.toInt32)), (.int ((own_d q2 (100000000000 : Int64)).toUInt32.toUInt16.toUInt32.toInt32)), (.int ((own_d q2 (10000000000 : Int64)).toUInt32.toUInt16.toUInt32.toInt32)), (.int ((own_d q2 (1000000000 : Int64)).toUInt32.toUInt16.toUInt32.toInt32)), (.int ((own_d q2 (100000000 : Int64)).toUInt32.toUInt16.toUInt32.toInt32)), (.int (0 : Int32)), (.int (0 : Int32)), (.int (0 : Int32)), (.int (0 : Int32)), (.int (0 : Int32)), (.int (0 : Int32)), (.int (0 : Int32)), (.int (0 : Int32))] (.int (0 : Int32)) := Arv.set Ar63 qk63 S63 M63 H63 G63 (fits_nar_char _) W64 11 rfl (Nat.le_of_ble_eq_true rfl)
  have N64 := Fr.snoc X64 N61 g_r0
  have c65 : ∀ t, Steps p.tables e below (T64.setTop (mkF m 144 #[.val (.ref r0), .val (.int (1 : Int32)), .val (.long q2), .second] [(.long (10000000 : Int64)), (.long q2), (.int ((1 : Int32) + (11 : Int32))), (.ref r0)])) t → Steps p.tables e below (T64.setTop (mkF m 135 #[.val (.ref r0), .val (.int (1 : Int32)), .val (.long q2), .second] [])) t := by
    intro t kt
    show Steps p.tables e below (T64.setTop (mkF m 135 #[.val (.ref r0), .val (.int (1 : Int32)), .val (.long q2), .second] [])) _
    refine XS.aloadN X64.here hx rfl (hb hby d1_135) rfl rfl ?_
    show Steps p.tables e below (T64.setTop (mkF m 136 #[.val (.ref r0), .val (.int (1 : Int32)), .val (.long q2), .second] [(.ref r0)])) _
    refine XS.iloadN X64.here hx rfl (hb hby d1_136) rfl ?_
    show Steps p.tables e below (T64.setTop (mkF m 137 #[.val (.ref r0), .val (.int (1 : Int32)), .val (.long q2), .second] [(.int (1 : Int32)), (.ref r0)])) _
    refine XS.bipush X64.here hx rfl (hb hby d1_137) ?_
    show Steps p.tables e below (T64.setTop (mkF m 139 #[.val (.ref r0), .val (.int (1 : Int32)), .val (.long q2), .second] [(.int (11 : Int32)), (.int (1 : Int32)), (.ref r0)])) _
    refine XS.iadd X64.here hx rfl (hb hby d1_139) rfl ?_
    show Steps p.tables e below (T64.setTop (mkF m 140 #[.val (.ref r0), .val (.int (1 : Int32)), .val (.long q2), .second] [(.int ((1 : Int32) + (11 : Int32))), (.ref r0)])) _
    refine XS.lloadN X64.here hx rfl (hb hby d1_140) rfl ?_
    show Steps p.tables e below (T64.setTop (mkF m 141 #[.val (.ref r0), .val (.int (1 : Int32)), .val (.long q2), .second] [(.long q2), (.int ((1 : Int32) + (11 : Int32))), (.ref r0)])) _
    refine X64.ldc2Long hx hown (mvT hZ (hw _ (List.mem_of_getElem? (i := 20) rfl))) (g := (mkF m 141 #[.val (.ref r0), .val (.int (1 : Int32)), .val (.long q2), .second] [(.long q2), (.int ((1 : Int32) + (11 : Int32))), (.ref r0)])) rfl (hb hby d1_141) _ ?_
    exact kt
  have f66 := (Nat.le_trans f60 (Keep.of_wr W64).1)
  obtain ⟨_, _, ⟨T67, L67, k67, n67⟩, -, X67, ⟨Lc67, hQ67, l67, y67, z67⟩, st67⟩ := Jvm.LawKit.callS X64 hx (y := (⟨"com/example/sequence_set/sequenceset/cli/DecimalParserAcceptPinLaw", "d", "(JJ)C"⟩ : MethodName)) hown (mvT hZ (hw _ (List.mem_of_getElem? (i := 6) rfl))) (mvT hZ (hw _ (List.mem_of_getElem? (i := 7) rfl))) (mvT hZ (hw _ (List.mem_of_getElem? (i := 3) rfl))) (mvT hZ (hw _ (List.mem_of_getElem? (i := 8) rfl))) (by decide) (backOf (W := 2) (rm2 l Z a0 hw [] q2 (10000000 : Int64)  h64 n0 f66 (by decide)) hZ (hw _ (List.mem_of_getElem? (i := 8) rfl)) (hw _ (List.mem_of_getElem? (i := 3) rfl)) (by decide) (by decide)) (g := (mkF m 144 #[.val (.ref r0), .val (.int (1 : Int32)), .val (.long q2), .second] [(.long (10000000 : Int64)), (.long q2), (.int ((1 : Int32) + (11 : Int32))), (.ref r0)])) rfl (by rw [hml]; rfl) (argsL := [(.long q2), (.long (10000000 : Int64))]) (rest := [(.int ((1 : Int32) + (11 : Int32))), (.ref r0)]) (lenOf pd_10 rfl) rfl (by show 2 * 0 + _ ≤ _; exact Nat.le_of_eq rfl) (hb hby d1_144) (fun _ _ => ⟨rfl, e64, (by decide : 0 + 0 ≤ _), (by decide : 0 + 0 ≤ _)⟩)
  dsimp only [Pt.U, Pt.locs, Pt.cells, Pt.slots] at X67 l67 y67 z67 st67 hQ67
  subst l67 y67 z67
  obtain ⟨rfl, N67q, e67⟩ := hQ67
  have N67 := Fr.app N64 N67q
  obtain ⟨Go67, X67, N67⟩ := own_opq X67 N67
  have c68 : ∀ t, Steps p.tables e below (T67.setTop (mkF m 147 #[.val (.ref r0), .val (.int (1 : Int32)), .val (.long q2), .second] [(.int (own_d q2 (10000000 : Int64))), (.int (12 : Int32)), (.ref r0)])) t → Steps p.tables e below (T67.setTop (mkF m 147 #[.val (.ref r0), .val (.int (1 : Int32)), .val (.long q2), .second] [(.int (own_d q2 (10000000 : Int64))), (.int ((1 : Int32) + (11 : Int32))), (.ref r0)])) t := fun t kt => castTop (congrArg (fun zv => (mkF m 147 #[.val (.ref r0), .val (.int (1 : Int32)), .val (.long q2), .second] [(.int (own_d q2 (10000000 : Int64))), (.int zv), (.ref r0)])) (show ((1 : Int32) + (11 : Int32)) = (12 : Int32) from by decide)) kt
  have Vc69 := V64
  obtain ⟨cl69, Ar69, qk69, S69, M69, H69, G69⟩ := Vc69
  have hin69 : ¬ ((12 : Int32) < 0 ∨ cl69.slots.size ≤ ((12 : Int32)).toNatClampNeg) := inb_of S69 ⟨by decide, by decide⟩
  obtain ⟨T70, h70, X70, e70, W70, st70⟩ := stC X67 hx hZ e67 Ar69 (j := (12 : Int32)) hin69 (g := (mkF m 147 #[.val (.ref r0), .val (.int (1 : Int32)), .val (.long q2), .second] [(.int (own_d q2 (10000000 : Int64))), (.int (12 : Int32)), (.ref r0)])) rfl rfl (hb hby d1_147)
  have V70 : Arv Z h70 r0 kk .char (20 : Int32) [(.int sg), (.int ((own_d q2 (1000000000000000000 : Int64)).toUInt32.toUInt16.toUInt32.toInt32)), (.int ((own_d q2 (100000000000000000 : Int64)).toUInt32.toUInt16.toUInt32.toInt32)), (.int ((own_d q2 (10000000000000000 : Int64)).toUInt32.toUInt16.toUInt32.toInt32)), (.int ((own_d q2 (1000000000000000 : Int64)).toUInt32.toUInt16.toUInt32.toInt32)), (.int ((own_d q2 (100000000000000 : Int64)).toUInt32.toUInt16.toUInt32.toInt32)), (.int ((own_d q2 (10000000000000 : Int64)).toUInt32.toUInt16.toUInt32.toInt32)), (.int ((own_d q2 (1000000000000 : Int64)).toUInt32.toUInt16.toUInt32.toInt32)), (.int ((own_d q2 (100000000000 : Int64)).toUInt32.toUInt16.toUInt32.toInt32)), (.int ((own_d q2 (10000000000 : Int64)).toUInt32.toUInt16.toUInt32.toInt32)), (.int ((own_d q2 (1000000000 : Int64)).toUInt32.toUInt16.toUInt32.toInt32)), (.int ((own_d q2 (100000000 : Int64)).toUInt32.toUInt16.toUInt32.toInt32)), (.int ((own_d q2 (10000000 : Int64)).toUInt32.toUInt16.toUInt32.toInt32)), (.int (0 : Int32)), (.int (0 : Int32)), (.int (0 : Int32)), (.int (0 : Int32)), (.int (0 : Int32)), (.int (0 : Int32)), (.int (0 : Int32))] (.int (0 : Int32)) := Arv.set Ar69 qk69 S69 M69 H69 G69 (fits_nar_char _) W70 12 rfl (Nat.le_of_ble_eq_true rfl)
  have N70 := Fr.snoc X70 N67 g_r0
  have c71 : ∀ t, Steps p.tables e below (T70.setTop (mkF m 157 #[.val (.ref r0), .val (.int (1 : Int32)), .val (.long q2), .second] [(.long (1000000 : Int64)), (.long q2), (.int ((1 : Int32) + (12 : Int32))), (.ref r0)])) t → Steps p.tables e below (T70.setTop (mkF m 148 #[.val (.ref r0), .val (.int (1 : Int32)), .val (.long q2), .second] [])) t := by
    intro t kt
    show Steps p.tables e below (T70.setTop (mkF m 148 #[.val (.ref r0), .val (.int (1 : Int32)), .val (.long q2), .second] [])) _
    refine XS.aloadN X70.here hx rfl (hb hby d1_148) rfl rfl ?_
    show Steps p.tables e below (T70.setTop (mkF m 149 #[.val (.ref r0), .val (.int (1 : Int32)), .val (.long q2), .second] [(.ref r0)])) _
    refine XS.iloadN X70.here hx rfl (hb hby d1_149) rfl ?_
    show Steps p.tables e below (T70.setTop (mkF m 150 #[.val (.ref r0), .val (.int (1 : Int32)), .val (.long q2), .second] [(.int (1 : Int32)), (.ref r0)])) _
    refine XS.bipush X70.here hx rfl (hb hby d1_150) ?_
    show Steps p.tables e below (T70.setTop (mkF m 152 #[.val (.ref r0), .val (.int (1 : Int32)), .val (.long q2), .second] [(.int (12 : Int32)), (.int (1 : Int32)), (.ref r0)])) _
    refine XS.iadd X70.here hx rfl (hb hby d1_152) rfl ?_
    show Steps p.tables e below (T70.setTop (mkF m 153 #[.val (.ref r0), .val (.int (1 : Int32)), .val (.long q2), .second] [(.int ((1 : Int32) + (12 : Int32))), (.ref r0)])) _
    refine XS.lloadN X70.here hx rfl (hb hby d1_153) rfl ?_
    show Steps p.tables e below (T70.setTop (mkF m 154 #[.val (.ref r0), .val (.int (1 : Int32)), .val (.long q2), .second] [(.long q2), (.int ((1 : Int32) + (12 : Int32))), (.ref r0)])) _
    refine X70.ldc2Long hx hown (mvT hZ (hw _ (List.mem_of_getElem? (i := 21) rfl))) (g := (mkF m 154 #[.val (.ref r0), .val (.int (1 : Int32)), .val (.long q2), .second] [(.long q2), (.int ((1 : Int32) + (12 : Int32))), (.ref r0)])) rfl (hb hby d1_154) _ ?_
    exact kt
  have f72 := (Nat.le_trans f66 (Keep.of_wr W70).1)
  obtain ⟨_, _, ⟨T73, L73, k73, n73⟩, -, X73, ⟨Lc73, hQ73, l73, y73, z73⟩, st73⟩ := Jvm.LawKit.callS X70 hx (y := (⟨"com/example/sequence_set/sequenceset/cli/DecimalParserAcceptPinLaw", "d", "(JJ)C"⟩ : MethodName)) hown (mvT hZ (hw _ (List.mem_of_getElem? (i := 6) rfl))) (mvT hZ (hw _ (List.mem_of_getElem? (i := 7) rfl))) (mvT hZ (hw _ (List.mem_of_getElem? (i := 3) rfl))) (mvT hZ (hw _ (List.mem_of_getElem? (i := 8) rfl))) (by decide) (backOf (W := 2) (rm2 l Z a0 hw [] q2 (1000000 : Int64)  h70 n0 f72 (by decide)) hZ (hw _ (List.mem_of_getElem? (i := 8) rfl)) (hw _ (List.mem_of_getElem? (i := 3) rfl)) (by decide) (by decide)) (g := (mkF m 157 #[.val (.ref r0), .val (.int (1 : Int32)), .val (.long q2), .second] [(.long (1000000 : Int64)), (.long q2), (.int ((1 : Int32) + (12 : Int32))), (.ref r0)])) rfl (by rw [hml]; rfl) (argsL := [(.long q2), (.long (1000000 : Int64))]) (rest := [(.int ((1 : Int32) + (12 : Int32))), (.ref r0)]) (lenOf pd_10 rfl) rfl (by show 2 * 0 + _ ≤ _; exact Nat.le_of_eq rfl) (hb hby d1_157) (fun _ _ => ⟨rfl, e70, (by decide : 0 + 0 ≤ _), (by decide : 0 + 0 ≤ _)⟩)
  dsimp only [Pt.U, Pt.locs, Pt.cells, Pt.slots] at X73 l73 y73 z73 st73 hQ73
  subst l73 y73 z73
  obtain ⟨rfl, N73q, e73⟩ := hQ73
  have N73 := Fr.app N70 N73q
  obtain ⟨Go73, X73, N73⟩ := own_opq X73 N73
  have c74 : ∀ t, Steps p.tables e below (T73.setTop (mkF m 160 #[.val (.ref r0), .val (.int (1 : Int32)), .val (.long q2), .second] [(.int (own_d q2 (1000000 : Int64))), (.int (13 : Int32)), (.ref r0)])) t → Steps p.tables e below (T73.setTop (mkF m 160 #[.val (.ref r0), .val (.int (1 : Int32)), .val (.long q2), .second] [(.int (own_d q2 (1000000 : Int64))), (.int ((1 : Int32) + (12 : Int32))), (.ref r0)])) t := fun t kt => castTop (congrArg (fun zv => (mkF m 160 #[.val (.ref r0), .val (.int (1 : Int32)), .val (.long q2), .second] [(.int (own_d q2 (1000000 : Int64))), (.int zv), (.ref r0)])) (show ((1 : Int32) + (12 : Int32)) = (13 : Int32) from by decide)) kt
  have Vc75 := V70
  obtain ⟨cl75, Ar75, qk75, S75, M75, H75, G75⟩ := Vc75
  have hin75 : ¬ ((13 : Int32) < 0 ∨ cl75.slots.size ≤ ((13 : Int32)).toNatClampNeg) := inb_of S75 ⟨by decide, by decide⟩
  obtain ⟨T76, h76, X76, e76, W76, st76⟩ := stC X73 hx hZ e73 Ar75 (j := (13 : Int32)) hin75 (g := (mkF m 160 #[.val (.ref r0), .val (.int (1 : Int32)), .val (.long q2), .second] [(.int (own_d q2 (1000000 : Int64))), (.int (13 : Int32)), (.ref r0)])) rfl rfl (hb hby d1_160)
  have V76 : Arv Z h76 r0 kk .char (20 : Int32) [(.int sg), (.int ((own_d q2 (1000000000000000000 : Int64)).toUInt32.toUInt16.toUInt32.toInt32)), (.int ((own_d q2 (100000000000000000 : Int64)).toUInt32.toUInt16.toUInt32.toInt32)), (.int ((own_d q2 (10000000000000000 : Int64)).toUInt32.toUInt16.toUInt32.toInt32)), (.int ((own_d q2 (1000000000000000 : Int64)).toUInt32.toUInt16.toUInt32.toInt32)), (.int ((own_d q2 (100000000000000 : Int64)).toUInt32.toUInt16.toUInt32.toInt32)), (.int ((own_d q2 (10000000000000 : Int64)).toUInt32.toUInt16.toUInt32.toInt32)), (.int ((own_d q2 (1000000000000 : Int64)).toUInt32.toUInt16.toUInt32.toInt32)), (.int ((own_d q2 (100000000000 : Int64)).toUInt32.toUInt16.toUInt32.toInt32)), (.int ((own_d q2 (10000000000 : Int64)).toUInt32.toUInt16.toUInt32.toInt32)), (.int ((own_d q2 (1000000000 : Int64)).toUInt32.toUInt16.toUInt32.toInt32)), (.int ((own_d q2 (100000000 : Int64)).toUInt32.toUInt16.toUInt32.toInt32)), (.int ((own_d q2 (10000000 : Int64)).toUInt32.toUInt16.toUInt32.toInt32)), (.int ((own_d q2 (1000000 : Int64)).toUInt32.toUInt16.toUInt32.toInt32)), (.int (0 : Int32)), (.int (0 : Int32)), (.int (0 : Int32)), (.int (0 : Int32)), (.int (0 : Int32)), (.int (0 : Int32))] (.int (0 : Int32)) := Arv.set Ar75 qk75 S75 M75 H75 G75 (fits_nar_char _) W76 13 rfl (Nat.le_of_ble_eq_true rfl)
  have N76 := Fr.snoc X76 N73 g_r0
  have c77 : ∀ t, Steps p.tables e below (T76.setTop (mkF m 170 #[.val (.ref r0), .val (.int (1 : Int32)), .val (.long q2), .second] [(.long (100000 : Int64)), (.long q2), (.int ((1 : Int32) + (13 : Int32))), (.ref r0)])) t → Steps p.tables e below (T76.setTop (mkF m 161 #[.val (.ref r0), .val (.int (1 : Int32)), .val (.long q2), .second] [])) t := by
    intro t kt
    show Steps p.tables e below (T76.setTop (mkF m 161 #[.val (.ref r0), .val (.int (1 : Int32)), .val (.long q2), .second] [])) _
    refine XS.aloadN X76.here hx rfl (hb hby d1_161) rfl rfl ?_
    show Steps p.tables e below (T76.setTop (mkF m 162 #[.val (.ref r0), .val (.int (1 : Int32)), .val (.long q2), .second] [(.ref r0)])) _
    refine XS.iloadN X76.here hx rfl (hb hby d1_162) rfl ?_
    show Steps p.tables e below (T76.setTop (mkF m 163 #[.val (.ref r0), .val (.int (1 : Int32)), .val (.long q2), .second] [(.int (1 : Int32)), (.ref r0)])) _
    refine XS.bipush X76.here hx rfl (hb hby d1_163) ?_
    show Steps p.tables e below (T76.setTop (mkF m 165 #[.val (.ref r0), .val (.int (1 : Int32)), .val (.long q2), .second] [(.int (13 : Int32)), (.int (1 : Int32)), (.ref r0)])) _
    refine XS.iadd X76.here hx rfl (hb hby d1_165) rfl ?_
    show Steps p.tables e below (T76.setTop (mkF m 166 #[.val (.ref r0), .val (.int (1 : Int32)), .val (.long q2), .second] [(.int ((1 : Int32) + (13 : Int32))), (.ref r0)])) _
    refine XS.lloadN X76.here hx rfl (hb hby d1_166) rfl ?_
    show Steps p.tables e below (T76.setTop (mkF m 167 #[.val (.ref r0), .val (.int (1 : Int32)), .val (.long q2), .second] [(.long q2), (.int ((1 : Int32) + (13 : Int32))), (.ref r0)])) _
    refine X76.ldc2Long hx hown (mvT hZ (hw _ (List.mem_of_getElem? (i := 22) rfl))) (g := (mkF m 167 #[.val (.ref r0), .val (.int (1 : Int32)), .val (.long q2), .second] [(.long q2), (.int ((1 : Int32) + (13 : Int32))), (.ref r0)])) rfl (hb hby d1_167) _ ?_
    exact kt
  have f78 := (Nat.le_trans f72 (Keep.of_wr W76).1)
  obtain ⟨_, _, ⟨T79, L79, k79, n79⟩, -, X79, ⟨Lc79, hQ79, l79, y79, z79⟩, st79⟩ := Jvm.LawKit.callS X76 hx (y := (⟨"com/example/sequence_set/sequenceset/cli/DecimalParserAcceptPinLaw", "d", "(JJ)C"⟩ : MethodName)) hown (mvT hZ (hw _ (List.mem_of_getElem? (i := 6) rfl))) (mvT hZ (hw _ (List.mem_of_getElem? (i := 7) rfl))) (mvT hZ (hw _ (List.mem_of_getElem? (i := 3) rfl))) (mvT hZ (hw _ (List.mem_of_getElem? (i := 8) rfl))) (by decide) (backOf (W := 2) (rm2 l Z a0 hw [] q2 (100000 : Int64)  h76 n0 f78 (by decide)) hZ (hw _ (List.mem_of_getElem? (i := 8) rfl)) (hw _ (List.mem_of_getElem? (i := 3) rfl)) (by decide) (by decide)) (g := (mkF m 170 #[.val (.ref r0), .val (.int (1 : Int32)), .val (.long q2), .second] [(.long (100000 : Int64)), (.long q2), (.int ((1 : Int32) + (13 : Int32))), (.ref r0)])) rfl (by rw [hml]; rfl) (argsL := [(.long q2), (.long (100000 : Int64))]) (rest := [(.int ((1 : Int32) + (13 : Int32))), (.ref r0)]) (lenOf pd_10 rfl) rfl (by show 2 * 0 + _ ≤ _; exact Nat.le_of_eq rfl) (hb hby d1_170) (fun _ _ => ⟨rfl, e76, (by decide : 0 + 0 ≤ _), (by decide : 0 + 0 ≤ _)⟩)
  dsimp only [Pt.U, Pt.locs, Pt.cells, Pt.slots] at X79 l79 y79 z79 st79 hQ79
  subst l79 y79 z79
  obtain ⟨rfl, N79q, e79⟩ := hQ79
  have N79 := Fr.app N76 N79q
  obtain ⟨Go79, X79, N79⟩ := own_opq X79 N79
  have c80 : ∀ t, Steps p.tables e below (T79.setTop (mkF m 173 #[.val (.ref r0), .val (.int (1 : Int32)), .val (.long q2), .second] [(.int (own_d q2 (100000 : Int64))), (.int (14 : Int32)), (.ref r0)])) t → Steps p.tables e below (T79.setTop (mkF m 173 #[.val (.ref r0), .val (.int (1 : Int32)), .val (.long q2), .second] [(.int (own_d q2 (100000 : Int64))), (.int ((1 : Int32) + (13 : Int32))), (.ref r0)])) t := fun t kt => castTop (congrArg (fun zv => (mkF m 173 #[.val (.ref r0), .val (.int (1 : Int32)), .val (.long q2), .second] [(.int (own_d q2 (100000 : Int64))), (.int zv), (.ref r0)])) (show ((1 : Int32) + (13 : Int32)) = (14 : Int32) from by decide)) kt
  have Vc81 := V76
  obtain ⟨cl81, Ar81, qk81, S81, M81, H81, G81⟩ := Vc81
  have hin81 : ¬ ((14 : Int32) < 0 ∨ cl81.slots.size ≤ ((14 : Int32)).toNatClampNeg) := inb_of S81 ⟨by decide, by decide⟩
  obtain ⟨T82, h82, X82, e82, W82, st82⟩ := stC X79 hx hZ e79 Ar81 (j := (14 : Int32)) hin81 (g := (mkF m 173 #[.val (.ref r0), .val (.int (1 : Int32)), .val (.long q2), .second] [(.int (own_d q2 (100000 : Int64))), (.int (14 : Int32)), (.ref r0)])) rfl rfl (hb hby d1_173)
  have V82 : Arv Z h82 r0 kk .char (20 : Int32) [(.int sg), (.int ((own_d q2 (1000000000000000000 : Int64)).toUInt32.toUInt16.toUInt32.toInt32)), (.int ((own_d q2 (100000000000000000 : Int64)).toUInt32.toUInt16.toUInt32.toInt32)), (.int ((own_d q2 (10000000000000000 : Int64)).toUInt32.toUInt16.toUInt32.toInt32)), (.int ((own_d q2 (1000000000000000 : Int64)).toUInt32.toUInt16.toUInt32.toInt32)), (.int ((own_d q2 (100000000000000 : Int64)).toUInt32.toUInt16.toUInt32.toInt32)), (.int ((own_d q2 (10000000000000 : Int64)).toUInt32.toUInt16.toUInt32.toInt32)), (.int ((own_d q2 (1000000000000 : Int64)).toUInt32.toUInt16.toUInt32.toInt32)), (.int ((own_d q2 (100000000000 : Int64)).toUInt32.toUInt16.toUInt32.toInt32)), (.int ((own_d q2 (10000000000 : Int64)).toUInt32.toUInt16.toUInt32.toInt32)), (.int ((own_d q2 (1000000000 : Int64)).toUInt32.toUInt16.toUInt32.toInt32)), (.int ((own_d q2 (100000000 : Int64)).toUInt32.toUInt16.toUInt32.toInt32)), (.int ((own_d q2 (10000000 : Int64)).toUInt32.toUInt16.toUInt32.toInt32)), (.int ((own_d q2 (1000000 : Int64)).toUInt32.toUInt16.toUInt32.toInt32)), (.int ((own_d q2 (100000 : Int64)).toUInt32.toUInt16.toUInt32.toInt32)), (.int (0 : Int32)), (.int (0 : Int32)), (.int (0 : Int32)), (.int (0 : Int32)), (.int (0 : Int32))] (.int (0 : Int32)) := Arv.set Ar81 qk81 S81 M81 H81 G81 (fits_nar_char _) W82 14 rfl (Nat.le_of_ble_eq_true rfl)
  have N82 := Fr.snoc X82 N79 g_r0
  have c83 : ∀ t, Steps p.tables e below (T82.setTop (mkF m 183 #[.val (.ref r0), .val (.int (1 : Int32)), .val (.long q2), .second] [(.long (10000 : Int64)), (.long q2), (.int ((1 : Int32) + (14 : Int32))), (.ref r0)])) t → Steps p.tables e below (T82.setTop (mkF m 174 #[.val (.ref r0), .val (.int (1 : Int32)), .val (.long q2), .second] [])) t := by
    intro t kt
    show Steps p.tables e below (T82.setTop (mkF m 174 #[.val (.ref r0), .val (.int (1 : Int32)), .val (.long q2), .second] [])) _
    refine XS.aloadN X82.here hx rfl (hb hby d1_174) rfl rfl ?_
    show Steps p.tables e below (T82.setTop (mkF m 175 #[.val (.ref r0), .val (.int (1 : Int32)), .val (.long q2), .second] [(.ref r0)])) _
    refine XS.iloadN X82.here hx rfl (hb hby d1_175) rfl ?_
    show Steps p.tables e below (T82.setTop (mkF m 176 #[.val (.ref r0), .val (.int (1 : Int32)), .val (.long q2), .second] [(.int (1 : Int32)), (.ref r0)])) _
    refine XS.bipush X82.here hx rfl (hb hby d1_176) ?_
    show Steps p.tables e below (T82.setTop (mkF m 178 #[.val (.ref r0), .val (.int (1 : Int32)), .val (.long q2), .second] [(.int (14 : Int32)), (.int (1 : Int32)), (.ref r0)])) _
    refine XS.iadd X82.here hx rfl (hb hby d1_178) rfl ?_
    show Steps p.tables e below (T82.setTop (mkF m 179 #[.val (.ref r0), .val (.int (1 : Int32)), .val (.long q2), .second] [(.int ((1 : Int32) + (14 : Int32))), (.ref r0)])) _
    refine XS.lloadN X82.here hx rfl (hb hby d1_179) rfl ?_
    show Steps p.tables e below (T82.setTop (mkF m 180 #[.val (.ref r0), .val (.int (1 : Int32)), .val (.long q2), .second] [(.long q2), (.int ((1 : Int32) + (14 : Int32))), (.ref r0)])) _
    refine X82.ldc2Long hx hown (mvT hZ (hw _ (List.mem_of_getElem? (i := 23) rfl))) (g := (mkF m 180 #[.val (.ref r0), .val (.int (1 : Int32)), .val (.long q2), .second] [(.long q2), (.int ((1 : Int32) + (14 : Int32))), (.ref r0)])) rfl (hb hby d1_180) _ ?_
    exact kt
  have f84 := (Nat.le_trans f78 (Keep.of_wr W82).1)
  obtain ⟨_, _, ⟨T85, L85, k85, n85⟩, -, X85, ⟨Lc85, hQ85, l85, y85, z85⟩, st85⟩ := Jvm.LawKit.callS X82 hx (y := (⟨"com/example/sequence_set/sequenceset/cli/DecimalParserAcceptPinLaw", "d", "(JJ)C"⟩ : MethodName)) hown (mvT hZ (hw _ (List.mem_of_getElem? (i := 6) rfl))) (mvT hZ (hw _ (List.mem_of_getElem? (i := 7) rfl))) (mvT hZ (hw _ (List.mem_of_getElem? (i := 3) rfl))) (mvT hZ (hw _ (List.mem_of_getElem? (i := 8) rfl))) (by decide) (backOf (W := 2) (rm2 l Z a0 hw [] q2 (10000 : Int64)  h82 n0 f84 (by decide)) hZ (hw _ (List.mem_of_getElem? (i := 8) rfl)) (hw _ (List.mem_of_getElem? (i := 3) rfl)) (by decide) (by decide)) (g := (mkF m 183 #[.val (.ref r0), .val (.int (1 : Int32)), .val (.long q2), .second] [(.long (10000 : Int64)), (.long q2), (.int ((1 : Int32) + (14 : Int32))), (.ref r0)])) rfl (by rw [hml]; rfl) (argsL := [(.long q2), (.long (10000 : Int64))]) (rest := [(.int ((1 : Int32) + (14 : Int32))), (.ref r0)]) (lenOf pd_10 rfl) rfl (by show 2 * 0 + _ ≤ _; exact Nat.le_of_eq rfl) (hb hby d1_183) (fun _ _ => ⟨rfl, e82, (by decide : 0 + 0 ≤ _), (by decide : 0 + 0 ≤ _)⟩)
  dsimp only [Pt.U, Pt.locs, Pt.cells, Pt.slots] at X85 l85 y85 z85 st85 hQ85
  subst l85 y85 z85
  obtain ⟨rfl, N85q, e85⟩ := hQ85
  have N85 := Fr.app N82 N85q
  obtain ⟨Go85, X85, N85⟩ := own_opq X85 N85
  have c86 : ∀ t, Steps p.tables e below (T85.setTop (mkF m 186 #[.val (.ref r0), .val (.int (1 : Int32)), .val (.long q2), .second] [(.int (own_d q2 (10000 : Int64))), (.int (15 : Int32)), (.ref r0)])) t → Steps p.tables e below (T85.setTop (mkF m 186 #[.val (.ref r0), .val (.int (1 : Int32)), .val (.long q2), .second] [(.int (own_d q2 (10000 : Int64))), (.int ((1 : Int32) + (14 : Int32))), (.ref r0)])) t := fun t kt => castTop (congrArg (fun zv => (mkF m 186 #[.val (.ref r0), .val (.int (1 : Int32)), .val (.long q2), .second] [(.int (own_d q2 (10000 : Int64))), (.int zv), (.ref r0)])) (show ((1 : Int32) + (14 : Int32)) = (15 : Int32) from by decide)) kt
  have Vc87 := V82
  obtain ⟨cl87, Ar87, qk87, S87, M87, H87, G87⟩ := Vc87
  have hin87 : ¬ ((15 : Int32) < 0 ∨ cl87.slots.size ≤ ((15 : Int32)).toNatClampNeg) := inb_of S87 ⟨by decide, by decide⟩
  obtain ⟨T88, h88, X88, e88, W88, st88⟩ := stC X85 hx hZ e85 Ar87 (j := (15 : Int32)) hin87 (g := (mkF m 186 #[.val (.ref r0), .val (.int (1 : Int32)), .val (.long q2), .second] [(.int (own_d q2 (10000 : Int64))), (.int (15 : Int32)), (.ref r0)])) rfl rfl (hb hby d1_186)
  have V88 : Arv Z h88 r0 kk .char (20 : Int32) [(.int sg), (.int ((own_d q2 (1000000000000000000 : Int64)).toUInt32.toUInt16.toUInt32.toInt32)), (.int ((own_d q2 (100000000000000000 : Int64)).toUInt32.toUInt16.toUInt32.toInt32)), (.int ((own_d q2 (10000000000000000 : Int64)).toUInt32.toUInt16.toUInt32.toInt32)), (.int ((own_d q2 (1000000000000000 : Int64)).toUInt32.toUInt16.toUInt32.toInt32)), (.int ((own_d q2 (100000000000000 : Int64)).toUInt32.toUInt16.toUInt32.toInt32)), (.int ((own_d q2 (10000000000000 : Int64)).toUInt32.toUInt16.toUInt32.toInt32)), (.int ((own_d q2 (1000000000000 : Int64)).toUInt32.toUInt16.toUInt32.toInt32)), (.int ((own_d q2 (100000000000 : Int64)).toUInt32.toUInt16.toUInt32.toInt32)), (.int ((own_d q2 (10000000000 : Int64)).toUInt32.toUInt16.toUInt32.toInt32)), (.int ((own_d q2 (1000000000 : Int64)).toUInt32.toUInt16.toUInt32.toInt32)), (.int ((own_d q2 (100000000 : Int64)).toUInt32.toUInt16.toUInt32.toInt32)), (.int ((own_d q2 (10000000 : Int64)).toUInt32.toUInt16.toUInt32.toInt32)), (.int ((own_d q2 (1000000 : Int64)).toUInt32.toUInt16.toUInt32.toInt32)), (.int ((own_d q2 (100000 : Int64)).toUInt32.toUInt16.toUInt32.toInt32)), (.int ((own_d q2 (10000 : Int64)).toUInt32.toUInt16.toUInt32.toInt32)), (.int (0 : Int32)), (.int (0 : Int32)), (.int (0 : Int32)), (.int (0 : Int32))] (.int (0 : Int32)) := Arv.set Ar87 qk87 S87 M87 H87 G87 (fits_nar_char _) W88 15 rfl (Nat.le_of_ble_eq_true rfl)
  have N88 := Fr.snoc X88 N85 g_r0
  have c89 : ∀ t, Steps p.tables e below (T88.setTop (mkF m 196 #[.val (.ref r0), .val (.int (1 : Int32)), .val (.long q2), .second] [(.long (1000 : Int64)), (.long q2), (.int ((1 : Int32) + (15 : Int32))), (.ref r0)])) t → Steps p.tables e below (T88.setTop (mkF m 187 #[.val (.ref r0), .val (.int (1 : Int32)), .val (.long q2), .second] [])) t := by
    intro t kt
    show Steps p.tables e below (T88.setTop (mkF m 187 #[.val (.ref r0), .val (.int (1 : Int32)), .val (.long q2), .second] [])) _
    refine XS.aloadN X88.here hx rfl (hb hby d1_187) rfl rfl ?_
    show Steps p.tables e below (T88.setTop (mkF m 188 #[.val (.ref r0), .val (.int (1 : Int32)), .val (.long q2), .second] [(.ref r0)])) _
    refine XS.iloadN X88.here hx rfl (hb hby d1_188) rfl ?_
    show Steps p.tables e below (T88.setTop (mkF m 189 #[.val (.ref r0), .val (.int (1 : Int32)), .val (.long q2), .second] [(.int (1 : Int32)), (.ref r0)])) _
    refine XS.bipush X88.here hx rfl (hb hby d1_189) ?_
    show Steps p.tables e below (T88.setTop (mkF m 191 #[.val (.ref r0), .val (.int (1 : Int32)), .val (.long q2), .second] [(.int (15 : Int32)), (.int (1 : Int32)), (.ref r0)])) _
    refine XS.iadd X88.here hx rfl (hb hby d1_191) rfl ?_
    show Steps p.tables e below (T88.setTop (mkF m 192 #[.val (.ref r0), .val (.int (1 : Int32)), .val (.long q2), .second] [(.int ((1 : Int32) + (15 : Int32))), (.ref r0)])) _
    refine XS.lloadN X88.here hx rfl (hb hby d1_192) rfl ?_
    show Steps p.tables e below (T88.setTop (mkF m 193 #[.val (.ref r0), .val (.int (1 : Int32)), .val (.long q2), .second] [(.long q2), (.int ((1 : Int32) + (15 : Int32))), (.ref r0)])) _
    refine X88.ldc2Long hx hown (mvT hZ (hw _ (List.mem_of_getElem? (i := 24) rfl))) (g := (mkF m 193 #[.val (.ref r0), .val (.int (1 : Int32)), .val (.long q2), .second] [(.long q2), (.int ((1 : Int32) + (15 : Int32))), (.ref r0)])) rfl (hb hby d1_193) _ ?_
    exact kt
  have f90 := (Nat.le_trans f84 (Keep.of_wr W88).1)
  obtain ⟨_, _, ⟨T91, L91, k91, n91⟩, -, X91, ⟨Lc91, hQ91, l91, y91, z91⟩, st91⟩ := Jvm.LawKit.callS X88 hx (y := (⟨"com/example/sequence_set/sequenceset/cli/DecimalParserAcceptPinLaw", "d", "(JJ)C"⟩ : MethodName)) hown (mvT hZ (hw _ (List.mem_of_getElem? (i := 6) rfl))) (mvT hZ (hw _ (List.mem_of_getElem? (i := 7) rfl))) (mvT hZ (hw _ (List.mem_of_getElem? (i := 3) rfl))) (mvT hZ (hw _ (List.mem_of_getElem? (i := 8) rfl))) (by decide) (backOf (W := 2) (rm2 l Z a0 hw [] q2 (1000 : Int64)  h88 n0 f90 (by decide)) hZ (hw _ (List.mem_of_getElem? (i := 8) rfl)) (hw _ (List.mem_of_getElem? (i := 3) rfl)) (by decide) (by decide)) (g := (mkF m 196 #[.val (.ref r0), .val (.int (1 : Int32)), .val (.long q2), .second] [(.long (1000 : Int64)), (.long q2), (.int ((1 : Int32) + (15 : Int32))), (.ref r0)])) rfl (by rw [hml]; rfl) (argsL := [(.long q2), (.long (1000 : Int64))]) (rest := [(.int ((1 : Int32) + (15 : Int32))), (.ref r0)]) (lenOf pd_10 rfl) rfl (by show 2 * 0 + _ ≤ _; exact Nat.le_of_eq rfl) (hb hby d1_196) (fun _ _ => ⟨rfl, e88, (by decide : 0 + 0 ≤ _), (by decide : 0 + 0 ≤ _)⟩)
  dsimp only [Pt.U, Pt.locs, Pt.cells, Pt.slots] at X91 l91 y91 z91 st91 hQ91
  subst l91 y91 z91
  obtain ⟨rfl, N91q, e91⟩ := hQ91
  have N91 := Fr.app N88 N91q
  obtain ⟨Go91, X91, N91⟩ := own_opq X91 N91
  have c92 : ∀ t, Steps p.tables e below (T91.setTop (mkF m 199 #[.val (.ref r0), .val (.int (1 : Int32)), .val (.long q2), .second] [(.int (own_d q2 (1000 : Int64))), (.int (16 : Int32)), (.ref r0)])) t → Steps p.tables e below (T91.setTop (mkF m 199 #[.val (.ref r0), .val (.int (1 : Int32)), .val (.long q2), .second] [(.int (own_d q2 (1000 : Int64))), (.int ((1 : Int32) + (15 : Int32))), (.ref r0)])) t := fun t kt => castTop (congrArg (fun zv => (mkF m 199 #[.val (.ref r0), .val (.int (1 : Int32)), .val (.long q2), .second] [(.int (own_d q2 (1000 : Int64))), (.int zv), (.ref r0)])) (show ((1 : Int32) + (15 : Int32)) = (16 : Int32) from by decide)) kt
  have Vc93 := V88
  obtain ⟨cl93, Ar93, qk93, S93, M93, H93, G93⟩ := Vc93
  have hin93 : ¬ ((16 : Int32) < 0 ∨ cl93.slots.size ≤ ((16 : Int32)).toNatClampNeg) := inb_of S93 ⟨by decide, by decide⟩
  obtain ⟨T94, h94, X94, e94, W94, st94⟩ := stC X91 hx hZ e91 Ar93 (j := (16 : Int32)) hin93 (g := (mkF m 199 #[.val (.ref r0), .val (.int (1 : Int32)), .val (.long q2), .second] [(.int (own_d q2 (1000 : Int64))), (.int (16 : Int32)), (.ref r0)])) rfl rfl (hb hby d1_199)
  have V94 : Arv Z h94 r0 kk .char (20 : Int32) [(.int sg), (.int ((own_d q2 (1000000000000000000 : Int64)).toUInt32.toUInt16.toUInt32.toInt32)), (.int ((own_d q2 (100000000000000000 : Int64)).toUInt32.toUInt16.toUInt32.toInt32)), (.int ((own_d q2 (10000000000000000 : Int64)).toUInt32.toUInt16.toUInt32.toInt32)), (.int ((own_d q2 (1000000000000000 : Int64)).toUInt32.toUInt16.toUInt32.toInt32)), (.int ((own_d q2 (100000000000000 : Int64)).toUInt32.toUInt16.toUInt32.toInt32)), (.int ((own_d q2 (10000000000000 : Int64)).toUInt32.toUInt16.toUInt32.toInt32)), (.int ((own_d q2 (1000000000000 : Int64)).toUInt32.toUInt16.toUInt32.toInt32)), (.int ((own_d q2 (100000000000 : Int64)).toUInt32.toUInt16.toUInt32.toInt32)), (.int ((own_d q2 (10000000000 : Int64)).toUInt32.toUInt16.toUInt32.toInt32)), (.int ((own_d q2 (1000000000 : Int64)).toUInt32.toUInt16.toUInt32.toInt32)), (.int ((own_d q2 (100000000 : Int64)).toUInt32.toUInt16.toUInt32.toInt32)), (.int ((own_d q2 (10000000 : Int64)).toUInt32.toUInt16.toUInt32.toInt32)), (.int ((own_d q2 (1000000 : Int64)).toUInt32.toUInt16.toUInt32.toInt32)), (.int ((own_d q2 (100000 : Int64)).toUInt32.toUInt16.toUInt32.toInt32)), (.int ((own_d q2 (10000 : Int64)).toUInt32.toUInt16.toUInt32.toInt32)), (.int ((own_d q2 (1000 : Int64)).toUInt32.toUInt16.toUInt32.toInt32)), (.int (0 : Int32)), (.int (0 : Int32)), (.int (0 : Int32))] (.int (0 : Int32)) := Arv.set Ar93 qk93 S93 M93 H93 G93 (fits_nar_char _) W94 16 rfl (Nat.le_of_ble_eq_true rfl)
  have N94 := Fr.snoc X94 N91 g_r0
  have c95 : ∀ t, Steps p.tables e below (T94.setTop (mkF m 209 #[.val (.ref r0), .val (.int (1 : Int32)), .val (.long q2), .second] [(.long (100 : Int64)), (.long q2), (.int ((1 : Int32) + (16 : Int32))), (.ref r0)])) t → Steps p.tables e below (T94.setTop (mkF m 200 #[.val (.ref r0), .val (.int (1 : Int32)), .val (.long q2), .second] [])) t := by
    intro t kt
    show Steps p.tables e below (T94.setTop (mkF m 200 #[.val (.ref r0), .val (.int (1 : Int32)), .val (.long q2), .second] [])) _
    refine XS.aloadN X94.here hx rfl (hb hby d1_200) rfl rfl ?_
    show Steps p.tables e below (T94.setTop (mkF m 201 #[.val (.ref r0), .val (.int (1 : Int32)), .val (.long q2), .second] [(.ref r0)])) _
    refine XS.iloadN X94.here hx rfl (hb hby d1_201) rfl ?_
    show Steps p.tables e below (T94.setTop (mkF m 202 #[.val (.ref r0), .val (.int (1 : Int32)), .val (.long q2), .second] [(.int (1 : Int32)), (.ref r0)])) _
    refine XS.bipush X94.here hx rfl (hb hby d1_202) ?_
    show Steps p.tables e below (T94.setTop (mkF m 204 #[.val (.ref r0), .val (.int (1 : Int32)), .val (.long q2), .second] [(.int (16 : Int32)), (.int (1 : Int32)), (.ref r0)])) _
    refine XS.iadd X94.here hx rfl (hb hby d1_204) rfl ?_
    show Steps p.tables e below (T94.setTop (mkF m 205 #[.val (.ref r0), .val (.int (1 : Int32)), .val (.long q2), .second] [(.int ((1 : Int32) + (16 : Int32))), (.ref r0)])) _
    refine XS.lloadN X94.here hx rfl (hb hby d1_205) rfl ?_
    show Steps p.tables e below (T94.setTop (mkF m 206 #[.val (.ref r0), .val (.int (1 : Int32)), .val (.long q2), .second] [(.long q2), (.int ((1 : Int32) + (16 : Int32))), (.ref r0)])) _
    refine X94.ldc2Long hx hown (mvT hZ (hw _ (List.mem_of_getElem? (i := 25) rfl))) (g := (mkF m 206 #[.val (.ref r0), .val (.int (1 : Int32)), .val (.long q2), .second] [(.long q2), (.int ((1 : Int32) + (16 : Int32))), (.ref r0)])) rfl (hb hby d1_206) _ ?_
    exact kt
  have f96 := (Nat.le_trans f90 (Keep.of_wr W94).1)
  obtain ⟨_, _, ⟨T97, L97, k97, n97⟩, -, X97, ⟨Lc97, hQ97, l97, y97, z97⟩, st97⟩ := Jvm.LawKit.callS X94 hx (y := (⟨"com/example/sequence_set/sequenceset/cli/DecimalParserAcceptPinLaw", "d", "(JJ)C"⟩ : MethodName)) hown (mvT hZ (hw _ (List.mem_of_getElem? (i := 6) rfl))) (mvT hZ (hw _ (List.mem_of_getElem? (i := 7) rfl))) (mvT hZ (hw _ (List.mem_of_getElem? (i := 3) rfl))) (mvT hZ (hw _ (List.mem_of_getElem? (i := 8) rfl))) (by decide) (backOf (W := 2) (rm2 l Z a0 hw [] q2 (100 : Int64)  h94 n0 f96 (by decide)) hZ (hw _ (List.mem_of_getElem? (i := 8) rfl)) (hw _ (List.mem_of_getElem? (i := 3) rfl)) (by decide) (by decide)) (g := (mkF m 209 #[.val (.ref r0), .val (.int (1 : Int32)), .val (.long q2), .second] [(.long (100 : Int64)), (.long q2), (.int ((1 : Int32) + (16 : Int32))), (.ref r0)])) rfl (by rw [hml]; rfl) (argsL := [(.long q2), (.long (100 : Int64))]) (rest := [(.int ((1 : Int32) + (16 : Int32))), (.ref r0)]) (lenOf pd_10 rfl) rfl (by show 2 * 0 + _ ≤ _; exact Nat.le_of_eq rfl) (hb hby d1_209) (fun _ _ => ⟨rfl, e94, (by decide : 0 + 0 ≤ _), (by decide : 0 + 0 ≤ _)⟩)
  dsimp only [Pt.U, Pt.locs, Pt.cells, Pt.slots] at X97 l97 y97 z97 st97 hQ97
  subst l97 y97 z97
  obtain ⟨rfl, N97q, e97⟩ := hQ97
  have N97 := Fr.app N94 N97q
  obtain ⟨Go97, X97, N97⟩ := own_opq X97 N97
  have c98 : ∀ t, Steps p.tables e below (T97.setTop (mkF m 212 #[.val (.ref r0), .val (.int (1 : Int32)), .val (.long q2), .second] [(.int (own_d q2 (100 : Int64))), (.int (17 : Int32)), (.ref r0)])) t → Steps p.tables e below (T97.setTop (mkF m 212 #[.val (.ref r0), .val (.int (1 : Int32)), .val (.long q2), .second] [(.int (own_d q2 (100 : Int64))), (.int ((1 : Int32) + (16 : Int32))), (.ref r0)])) t := fun t kt => castTop (congrArg (fun zv => (mkF m 212 #[.val (.ref r0), .val (.int (1 : Int32)), .val (.long q2), .second] [(.int (own_d q2 (100 : Int64))), (.int zv), (.ref r0)])) (show ((1 : Int32) + (16 : Int32)) = (17 : Int32) from by decide)) kt
  have Vc99 := V94
  obtain ⟨cl99, Ar99, qk99, S99, M99, H99, G99⟩ := Vc99
  have hin99 : ¬ ((17 : Int32) < 0 ∨ cl99.slots.size ≤ ((17 : Int32)).toNatClampNeg) := inb_of S99 ⟨by decide, by decide⟩
  obtain ⟨T100, h100, X100, e100, W100, st100⟩ := stC X97 hx hZ e97 Ar99 (j := (17 : Int32)) hin99 (g := (mkF m 212 #[.val (.ref r0), .val (.int (1 : Int32)), .val (.long q2), .second] [(.int (own_d q2 (100 : Int64))), (.int (17 : Int32)), (.ref r0)])) rfl rfl (hb hby d1_212)
  have V100 : Arv Z h100 r0 kk .char (20 : Int32) [(.int sg), (.int ((own_d q2 (1000000000000000000 : Int64)).toUInt32.toUInt16.toUInt32.toInt32)), (.int ((own_d q2 (100000000000000000 : Int64)).toUInt32.toUInt16.toUInt32.toInt32)), (.int ((own_d q2 (10000000000000000 : Int64)).toUInt32.toUInt16.toUInt32.toInt32)), (.int ((own_d q2 (1000000000000000 : Int64)).toUInt32.toUInt16.toUInt32.toInt32)), (.int ((own_d q2 (100000000000000 : Int64)).toUInt32.toUInt16.toUInt32.toInt32)), (.int ((own_d q2 (10000000000000 : Int64)).toUInt32.toUInt16.toUInt32.toInt32)), (.int ((own_d q2 (1000000000000 : Int64)).toUInt32.toUInt16.toUInt32.toInt32)), (.int ((own_d q2 (100000000000 : Int64)).toUInt32.toUInt16.toUInt32.toInt32)), (.int ((own_d q2 (10000000000 : Int64)).toUInt32.toUInt16.toUInt32.toInt32)), (.int ((own_d q2 (1000000000 : Int64)).toUInt32.toUInt16.toUInt32.toInt32)), (.int ((own_d q2 (100000000 : Int64)).toUInt32.toUInt16.toUInt32.toInt32)), (.int ((own_d q2 (10000000 : Int64)).toUInt32.toUInt16.toUInt32.toInt32)), (.int ((own_d q2 (1000000 : Int64)).toUInt32.toUInt16.toUInt32.toInt32)), (.int ((own_d q2 (100000 : Int64)).toUInt32.toUInt16.toUInt32.toInt32)), (.int ((own_d q2 (10000 : Int64)).toUInt32.toUInt16.toUInt32.toInt32)), (.int ((own_d q2 (1000 : Int64)).toUInt32.toUInt16.toUInt32.toInt32)), (.int ((own_d q2 (100 : Int64)).toUInt32.toUInt16.toUInt32.toInt32)), (.int (0 : Int32)), (.int (0 : Int32))] (.int (0 : Int32)) := Arv.set Ar99 qk99 S99 M99 H99 G99 (fits_nar_char _) W100 17 rfl (Nat.le_of_ble_eq_true rfl)
  have N100 := Fr.snoc X100 N97 g_r0
  have c101 : ∀ t, Steps p.tables e below (T100.setTop (mkF m 222 #[.val (.ref r0), .val (.int (1 : Int32)), .val (.long q2), .second] [(.long (10 : Int64)), (.long q2), (.int ((1 : Int32) + (17 : Int32))), (.ref r0)])) t → Steps p.tables e below (T100.setTop (mkF m 213 #[.val (.ref r0), .val (.int (1 : Int32)), .val (.long q2), .second] [])) t := by
    intro t kt
    show Steps p.tables e below (T100.setTop (mkF m 213 #[.val (.ref r0), .val (.int (1 : Int32)), .val (.long q2), .second] [])) _
    refine XS.aloadN X100.here hx rfl (hb hby d1_213) rfl rfl ?_
    show Steps p.tables e below (T100.setTop (mkF m 214 #[.val (.ref r0), .val (.int (1 : Int32)), .val (.long q2), .second] [(.ref r0)])) _
    refine XS.iloadN X100.here hx rfl (hb hby d1_214) rfl ?_
    show Steps p.tables e below (T100.setTop (mkF m 215 #[.val (.ref r0), .val (.int (1 : Int32)), .val (.long q2), .second] [(.int (1 : Int32)), (.ref r0)])) _
    refine XS.bipush X100.here hx rfl (hb hby d1_215) ?_
    show Steps p.tables e below (T100.setTop (mkF m 217 #[.val (.ref r0), .val (.int (1 : Int32)), .val (.long q2), .second] [(.int (17 : Int32)), (.int (1 : Int32)), (.ref r0)])) _
    refine XS.iadd X100.here hx rfl (hb hby d1_217) rfl ?_
    show Steps p.tables e below (T100.setTop (mkF m 218 #[.val (.ref r0), .val (.int (1 : Int32)), .val (.long q2), .second] [(.int ((1 : Int32) + (17 : Int32))), (.ref r0)])) _
    refine XS.lloadN X100.here hx rfl (hb hby d1_218) rfl ?_
    show Steps p.tables e below (T100.setTop (mkF m 219 #[.val (.ref r0), .val (.int (1 : Int32)), .val (.long q2), .second] [(.long q2), (.int ((1 : Int32) + (17 : Int32))), (.ref r0)])) _
    refine X100.ldc2Long hx hown (mvT hZ (hw _ (List.mem_of_getElem? (i := 9) rfl))) (g := (mkF m 219 #[.val (.ref r0), .val (.int (1 : Int32)), .val (.long q2), .second] [(.long q2), (.int ((1 : Int32) + (17 : Int32))), (.ref r0)])) rfl (hb hby d1_219) _ ?_
    exact kt
  have f102 := (Nat.le_trans f96 (Keep.of_wr W100).1)
  obtain ⟨_, _, ⟨T103, L103, k103, n103⟩, -, X103, ⟨Lc103, hQ103, l103, y103, z103⟩, st103⟩ := Jvm.LawKit.callS X100 hx (y := (⟨"com/example/sequence_set/sequenceset/cli/DecimalParserAcceptPinLaw", "d", "(JJ)C"⟩ : MethodName)) hown (mvT hZ (hw _ (List.mem_of_getElem? (i := 6) rfl))) (mvT hZ (hw _ (List.mem_of_getElem? (i := 7) rfl))) (mvT hZ (hw _ (List.mem_of_getElem? (i := 3) rfl))) (mvT hZ (hw _ (List.mem_of_getElem? (i := 8) rfl))) (by decide) (backOf (W := 2) (rm2 l Z a0 hw [] q2 (10 : Int64)  h100 n0 f102 (by decide)) hZ (hw _ (List.mem_of_getElem? (i := 8) rfl)) (hw _ (List.mem_of_getElem? (i := 3) rfl)) (by decide) (by decide)) (g := (mkF m 222 #[.val (.ref r0), .val (.int (1 : Int32)), .val (.long q2), .second] [(.long (10 : Int64)), (.long q2), (.int ((1 : Int32) + (17 : Int32))), (.ref r0)])) rfl (by rw [hml]; rfl) (argsL := [(.long q2), (.long (10 : Int64))]) (rest := [(.int ((1 : Int32) + (17 : Int32))), (.ref r0)]) (lenOf pd_10 rfl) rfl (by show 2 * 0 + _ ≤ _; exact Nat.le_of_eq rfl) (hb hby d1_222) (fun _ _ => ⟨rfl, e100, (by decide : 0 + 0 ≤ _), (by decide : 0 + 0 ≤ _)⟩)
  dsimp only [Pt.U, Pt.locs, Pt.cells, Pt.slots] at X103 l103 y103 z103 st103 hQ103
  subst l103 y103 z103
  obtain ⟨rfl, N103q, e103⟩ := hQ103
  have N103 := Fr.app N100 N103q
  obtain ⟨Go103, X103, N103⟩ := own_opq X103 N103
  have c104 : ∀ t, Steps p.tables e below (T103.setTop (mkF m 225 #[.val (.ref r0), .val (.int (1 : Int32)), .val (.long q2), .second] [(.int (own_d q2 (10 : Int64))), (.int (18 : Int32)), (.ref r0)])) t → Steps p.tables e below (T103.setTop (mkF m 225 #[.val (.ref r0), .val (.int (1 : Int32)), .val (.long q2), .second] [(.int (own_d q2 (10 : Int64))), (.int ((1 : Int32) + (17 : Int32))), (.ref r0)])) t := fun t kt => castTop (congrArg (fun zv => (mkF m 225 #[.val (.ref r0), .val (.int (1 : Int32)), .val (.long q2), .second] [(.int (own_d q2 (10 : Int64))), (.int zv), (.ref r0)])) (show ((1 : Int32) + (17 : Int32)) = (18 : Int32) from by decide)) kt
  have Vc105 := V100
  obtain ⟨cl105, Ar105, qk105, S105, M105, H105, G105⟩ := Vc105
  have hin105 : ¬ ((18 : Int32) < 0 ∨ cl105.slots.size ≤ ((18 : Int32)).toNatClampNeg) := inb_of S105 ⟨by decide, by decide⟩
  obtain ⟨T106, h106, X106, e106, W106, st106⟩ := stC X103 hx hZ e103 Ar105 (j := (18 : Int32)) hin105 (g := (mkF m 225 #[.val (.ref r0), .val (.int (1 : Int32)), .val (.long q2), .second] [(.int (own_d q2 (10 : Int64))), (.int (18 : Int32)), (.ref r0)])) rfl rfl (hb hby d1_225)
  have V106 : Arv Z h106 r0 kk .char (20 : Int32) [(.int sg), (.int ((own_d q2 (1000000000000000000 : Int64)).toUInt32.toUInt16.toUInt32.toInt32)), (.int ((own_d q2 (100000000000000000 : Int64)).toUInt32.toUInt16.toUInt32.toInt32)), (.int ((own_d q2 (10000000000000000 : Int64)).toUInt32.toUInt16.toUInt32.toInt32)), (.int ((own_d q2 (1000000000000000 : Int64)).toUInt32.toUInt16.toUInt32.toInt32)), (.int ((own_d q2 (100000000000000 : Int64)).toUInt32.toUInt16.toUInt32.toInt32)), (.int ((own_d q2 (10000000000000 : Int64)).toUInt32.toUInt16.toUInt32.toInt32)), (.int ((own_d q2 (1000000000000 : Int64)).toUInt32.toUInt16.toUInt32.toInt32)), (.int ((own_d q2 (100000000000 : Int64)).toUInt32.toUInt16.toUInt32.toInt32)), (.int ((own_d q2 (10000000000 : Int64)).toUInt32.toUInt16.toUInt32.toInt32)), (.int ((own_d q2 (1000000000 : Int64)).toUInt32.toUInt16.toUInt32.toInt32)), (.int ((own_d q2 (100000000 : Int64)).toUInt32.toUInt16.toUInt32.toInt32)), (.int ((own_d q2 (10000000 : Int64)).toUInt32.toUInt16.toUInt32.toInt32)), (.int ((own_d q2 (1000000 : Int64)).toUInt32.toUInt16.toUInt32.toInt32)), (.int ((own_d q2 (100000 : Int64)).toUInt32.toUInt16.toUInt32.toInt32)), (.int ((own_d q2 (10000 : Int64)).toUInt32.toUInt16.toUInt32.toInt32)), (.int ((own_d q2 (1000 : Int64)).toUInt32.toUInt16.toUInt32.toInt32)), (.int ((own_d q2 (100 : Int64)).toUInt32.toUInt16.toUInt32.toInt32)), (.int ((own_d q2 (10 : Int64)).toUInt32.toUInt16.toUInt32.toInt32)), (.int (0 : Int32))] (.int (0 : Int32)) := Arv.set Ar105 qk105 S105 M105 H105 G105 (fits_nar_char _) W106 18 rfl (Nat.le_of_ble_eq_true rfl)
  have N106 := Fr.snoc X106 N103 g_r0
  have c107 : ∀ t, Steps p.tables e below (T106.setTop (mkF m 233 #[.val (.ref r0), .val (.int (1 : Int32)), .val (.long q2), .second] [(.long (1 : Int64)), (.long q2), (.int ((1 : Int32) + (18 : Int32))), (.ref r0)])) t → Steps p.tables e below (T106.setTop (mkF m 226 #[.val (.ref r0), .val (.int (1 : Int32)), .val (.long q2), .second] [])) t := by
    intro t kt
    show Steps p.tables e below (T106.setTop (mkF m 226 #[.val (.ref r0), .val (.int (1 : Int32)), .val (.long q2), .second] [])) _
    refine XS.aloadN X106.here hx rfl (hb hby d1_226) rfl rfl ?_
    show Steps p.tables e below (T106.setTop (mkF m 227 #[.val (.ref r0), .val (.int (1 : Int32)), .val (.long q2), .second] [(.ref r0)])) _
    refine XS.iloadN X106.here hx rfl (hb hby d1_227) rfl ?_
    show Steps p.tables e below (T106.setTop (mkF m 228 #[.val (.ref r0), .val (.int (1 : Int32)), .val (.long q2), .second] [(.int (1 : Int32)), (.ref r0)])) _
    refine XS.bipush X106.here hx rfl (hb hby d1_228) ?_
    show Steps p.tables e below (T106.setTop (mkF m 230 #[.val (.ref r0), .val (.int (1 : Int32)), .val (.long q2), .second] [(.int (18 : Int32)), (.int (1 : Int32)), (.ref r0)])) _
    refine XS.iadd X106.here hx rfl (hb hby d1_230) rfl ?_
    show Steps p.tables e below (T106.setTop (mkF m 231 #[.val (.ref r0), .val (.int (1 : Int32)), .val (.long q2), .second] [(.int ((1 : Int32) + (18 : Int32))), (.ref r0)])) _
    refine XS.lloadN X106.here hx rfl (hb hby d1_231) rfl ?_
    show Steps p.tables e below (T106.setTop (mkF m 232 #[.val (.ref r0), .val (.int (1 : Int32)), .val (.long q2), .second] [(.long q2), (.int ((1 : Int32) + (18 : Int32))), (.ref r0)])) _
    refine XS.lconst X106.here hx rfl (hb hby d1_232) ?_
    exact kt
  have f108 := (Nat.le_trans f102 (Keep.of_wr W106).1)
  obtain ⟨_, _, ⟨T109, L109, k109, n109⟩, -, X109, ⟨Lc109, hQ109, l109, y109, z109⟩, st109⟩ := Jvm.LawKit.callS X106 hx (y := (⟨"com/example/sequence_set/sequenceset/cli/DecimalParserAcceptPinLaw", "d", "(JJ)C"⟩ : MethodName)) hown (mvT hZ (hw _ (List.mem_of_getElem? (i := 6) rfl))) (mvT hZ (hw _ (List.mem_of_getElem? (i := 7) rfl))) (mvT hZ (hw _ (List.mem_of_getElem? (i := 3) rfl))) (mvT hZ (hw _ (List.mem_of_getElem? (i := 8) rfl))) (by decide) (backOf (W := 2) (rm2 l Z a0 hw [] q2 (1 : Int64)  h106 n0 f108 (by decide)) hZ (hw _ (List.mem_of_getElem? (i := 8) rfl)) (hw _ (List.mem_of_getElem? (i := 3) rfl)) (by decide) (by decide)) (g := (mkF m 233 #[.val (.ref r0), .val (.int (1 : Int32)), .val (.long q2), .second] [(.long (1 : Int64)), (.long q2), (.int ((1 : Int32) + (18 : Int32))), (.ref r0)])) rfl (by rw [hml]; rfl) (argsL := [(.long q2), (.long (1 : Int64))]) (rest := [(.int ((1 : Int32) + (18 : Int32))), (.ref r0)]) (lenOf pd_10 rfl) rfl (by show 2 * 0 + _ ≤ _; exact Nat.le_of_eq rfl) (hb hby d1_233) (fun _ _ => ⟨rfl, e106, (by decide : 0 + 0 ≤ _), (by decide : 0 + 0 ≤ _)⟩)
  dsimp only [Pt.U, Pt.locs, Pt.cells, Pt.slots] at X109 l109 y109 z109 st109 hQ109
  subst l109 y109 z109
  obtain ⟨rfl, N109q, e109⟩ := hQ109
  have N109 := Fr.app N106 N109q
  obtain ⟨Go109, X109, N109⟩ := own_opq X109 N109
  have c110 : ∀ t, Steps p.tables e below (T109.setTop (mkF m 236 #[.val (.ref r0), .val (.int (1 : Int32)), .val (.long q2), .second] [(.int (own_d q2 (1 : Int64))), (.int (19 : Int32)), (.ref r0)])) t → Steps p.tables e below (T109.setTop (mkF m 236 #[.val (.ref r0), .val (.int (1 : Int32)), .val (.long q2), .second] [(.int (own_d q2 (1 : Int64))), (.int ((1 : Int32) + (18 : Int32))), (.ref r0)])) t := fun t kt => castTop (congrArg (fun zv => (mkF m 236 #[.val (.ref r0), .val (.int (1 : Int32)), .val (.long q2), .second] [(.int (own_d q2 (1 : Int64))), (.int zv), (.ref r0)])) (show ((1 : Int32) + (18 : Int32)) = (19 : Int32) from by decide)) kt
  have Vc111 := V106
  obtain ⟨cl111, Ar111, qk111, S111, M111, H111, G111⟩ := Vc111
  have hin111 : ¬ ((19 : Int32) < 0 ∨ cl111.slots.size ≤ ((19 : Int32)).toNatClampNeg) := inb_of S111 ⟨by decide, by decide⟩
  obtain ⟨T112, h112, X112, e112, W112, st112⟩ := stC X109 hx hZ e109 Ar111 (j := (19 : Int32)) hin111 (g := (mkF m 236 #[.val (.ref r0), .val (.int (1 : Int32)), .val (.long q2), .second] [(.int (own_d q2 (1 : Int64))), (.int (19 : Int32)), (.ref r0)])) rfl rfl (hb hby d1_236)
  have V112 : Arv Z h112 r0 kk .char (20 : Int32) [(.int sg), (.int ((own_d q2 (1000000000000000000 : Int64)).toUInt32.toUInt16.toUInt32.toInt32)), (.int ((own_d q2 (100000000000000000 : Int64)).toUInt32.toUInt16.toUInt32.toInt32)), (.int ((own_d q2 (10000000000000000 : Int64)).toUInt32.toUInt16.toUInt32.toInt32)), (.int ((own_d q2 (1000000000000000 : Int64)).toUInt32.toUInt16.toUInt32.toInt32)), (.int ((own_d q2 (100000000000000 : Int64)).toUInt32.toUInt16.toUInt32.toInt32)), (.int ((own_d q2 (10000000000000 : Int64)).toUInt32.toUInt16.toUInt32.toInt32)), (.int ((own_d q2 (1000000000000 : Int64)).toUInt32.toUInt16.toUInt32.toInt32)), (.int ((own_d q2 (100000000000 : Int64)).toUInt32.toUInt16.toUInt32.toInt32)), (.int ((own_d q2 (10000000000 : Int64)).toUInt32.toUInt16.toUInt32.toInt32)), (.int ((own_d q2 (1000000000 : Int64)).toUInt32.toUInt16.toUInt32.toInt32)), (.int ((own_d q2 (100000000 : Int64)).toUInt32.toUInt16.toUInt32.toInt32)), (.int ((own_d q2 (10000000 : Int64)).toUInt32.toUInt16.toUInt32.toInt32)), (.int ((own_d q2 (1000000 : Int64)).toUInt32.toUInt16.toUInt32.toInt32)), (.int ((own_d q2 (100000 : Int64)).toUInt32.toUInt16.toUInt32.toInt32)), (.int ((own_d q2 (10000 : Int64)).toUInt32.toUInt16.toUInt32.toInt32)), (.int ((own_d q2 (1000 : Int64)).toUInt32.toUInt16.toUInt32.toInt32)), (.int ((own_d q2 (100 : Int64)).toUInt32.toUInt16.toUInt32.toInt32)), (.int ((own_d q2 (10 : Int64)).toUInt32.toUInt16.toUInt32.toInt32)), (.int ((own_d q2 (1 : Int64)).toUInt32.toUInt16.toUInt32.toInt32))] (.int (0 : Int32)) := Arv.set Ar111 qk111 S111 M111 H111 G111 (fits_nar_char _) W112 19 rfl (Nat.le_of_ble_eq_true rfl)
  have N112 := Fr.snoc X112 N109 g_r0
  obtain ⟨fs, hr, hrun, hended, hW, hsame⟩ := X112.leave (v := none) (fun _ => rfl)
  have f114 := ((((((((((((((((((((Keep.refl h0 [r0]).wr W4 (Or.inl (List.mem_of_getElem? (i := 0) rfl))).wr W10 (Or.inl (List.mem_of_getElem? (i := 0) rfl))).wr W16 (Or.inl (List.mem_of_getElem? (i := 0) rfl))).wr W22 (Or.inl (List.mem_of_getElem? (i := 0) rfl))).wr W28 (Or.inl (List.mem_of_getElem? (i := 0) rfl))).wr W34 (Or.inl (List.mem_of_getElem? (i := 0) rfl))).wr W40 (Or.inl (List.mem_of_getElem? (i := 0) rfl))).wr W46 (Or.inl (List.mem_of_getElem? (i := 0) rfl))).wr W52 (Or.inl (List.mem_of_getElem? (i := 0) rfl))).wr W58 (Or.inl (List.mem_of_getElem? (i := 0) rfl))).wr W64 (Or.inl (List.mem_of_getElem? (i := 0) rfl))).wr W70 (Or.inl (List.mem_of_getElem? (i := 0) rfl))).wr W76 (Or.inl (List.mem_of_getElem? (i := 0) rfl))).wr W82 (Or.inl (List.mem_of_getElem? (i := 0) rfl))).wr W88 (Or.inl (List.mem_of_getElem? (i := 0) rfl))).wr W94 (Or.inl (List.mem_of_getElem? (i := 0) rfl))).wr W100 (Or.inl (List.mem_of_getElem? (i := 0) rfl))).wr W106 (Or.inl (List.mem_of_getElem? (i := 0) rfl))).wr W112 (Or.inl (List.mem_of_getElem? (i := 0) rfl)))
  refine ⟨_, _, pre0 _ (c1 _ (st2 _ (st4 _ (c5 _ (st7 _ (c8 _ (st10 _ (c11 _ (st13 _ (c14 _ (st16 _ (c17 _ (st19 _ (c20 _ (st22 _ (c23 _ (st25 _ (c26 _ (st28 _ (c29 _ (st31 _ (c32 _ (st34 _ (c35 _ (st37 _ (c38 _ (st40 _ (c41 _ (st43 _ (c44 _ (st46 _ (c47 _ (st49 _ (c50 _ (st52 _ (c53 _ (st55 _ (c56 _ (st58 _ (c59 _ (st61 _ (c62 _ (st64 _ (c65 _ (st67 _ (c68 _ (st70 _ (c71 _ (st73 _ (c74 _ (st76 _ (c77 _ (st79 _ (c80 _ (st82 _ (c83 _ (st85 _ (c86 _ (st88 _ (c89 _ (st91 _ (c92 _ (st94 _ (c95 _ (st97 _ (c98 _ (st100 _ (c101 _ (st103 _ (c104 _ (st106 _ (c107 _ (st109 _ (c110 _ (st112 _ (?_)))))))))))))))))))))))))))))))))))))))))))))))))))))))))))))))))))))))))))), hrun, hended, _, _, rfl, ?_, ⟨_, rfl⟩, hW, hsame.mono (by decide) (by decide)⟩
  · show Steps p.tables e below (T112.setTop (mkF m 237 #[.val (.ref r0), .val (.int (1 : Int32)), .val (.long q2), .second] [])) _
    exact X112.returnOut hx Bd.returns (hb hby d1_237) hr
  · show Q1_1 Z r0 q2 kk sg h0 n0 _ T112.heap _
    rw [e112]
    exact ⟨rfl, N112, f114, (by rw [own_c20m]; exact V112)⟩
theorem pn_0 : plainName "com/example/sequence_set/sequenceset/cli/DecimalParserAcceptPinLaw" = true := by first | (simp [plainName, overriddenIn]; done) | decide +kernel
theorem ef_0 (m : MethodId) (x0 : Int64) (x1 : Int32) : entryFrame m #[(.long x0), (.int x1)] maxLocals = mkF m 0 #[.val (.long x0), .second, .val (.int x1), .unset, .unset, .unset, .unset, .unset, .unset, .unset, .unset, .unset] [] := by first | (simp [entryFrame, mkF, argsToLocals, Value.category, maxLocals]; done) | rfl
def Q0 (Z : State) (q0 : Int64) (p1 : Int32) (cs : Int32) (fm : Value) (h0 : Heap) (n0 : Nat) (v : Option Value) (h : Heap) (L : List Loc) : Prop := v = some (.int 1) ∧ Fr n0 L
set_option maxRecDepth 65536 in
set_option maxHeartbeats 40000000 in
theorem rm0 (l : Launch) (Z : State) (a0 : Array Value) (hw : ∀ d ∈ tables_1, d.before a0 Z = true) (ws : List Jvm.Cond) (q0 : Int64) (p1 : Int32) (cs : Int32) (fm : Value) (h0 : Heap) (n0 : Nat) (Z0 : n0 ≤ h0.size) (O0 : Old Z n0 h0) (SC : Sta Z Z.heap "java/lang/String" "COMPACT_STRINGS" "Z" (.int cs)) (hcs : ¬ cs = (0 : Int32)) (SF : Sta Z Z.heap "jdk/internal/util/Preconditions" "SIOOBE_FORMATTER" "Ljava/util/function/BiFunction;" fm) (hfm : fm.isRef = true) :
    MetFree l x (head1 (Jvm.Cond.code x code maxLocals ret :: ws) room_1) (fun a U => a = #[(.long q0), (.int p1)] ∧ Z.Warmed39 U.vm ∧ U.heap = h0) (fun _ _ _ _ _ => True) (fun _ U o U' => ∃ v L, o = .returned v ∧ Q0 Z q0 p1 cs fm h0 n0 v U'.heap L ∧ FrameEnd U o U' L room_1.cells room_1.slots) := by
  refine MetFree.of_bodySF (plainFor_of_name pn_0) hisR ?_
  intro p e s m args below meth c s₁ Bd hml0 hP hK
  obtain ⟨rfl, hZ, hh⟩ := hP
  have hx := Bd.exec
  have hby := Bd.bytes
  have hml : c.maxLocals = 12 := hml0
  have hown : s.vm.findClass "com/example/sequence_set/sequenceset/cli/DecimalParserAcceptPinLaw" = some m.cls := findClass_of_methodNamed Bd.named
  have hnm := (name_of_methodNamed Bd.named Bd.method).1
  have X0 : Stand p l e room_1 s m #[(.long q0), (.int p1)] below meth c s₁ [] 0 0 := Stand.of_body Bd
  have e0 : s₁.heap = h0 := by rw [← hh, Bd.state]; rfl
  have N0 := Fr.nil n0
  have pre0 : ∀ t, Steps p.tables e below (s₁.setTop (mkF m 0 #[.val (.long q0), .second, .val (.int p1), .unset, .unset, .unset, .unset, .unset, .unset, .unset, .unset, .unset] [])) t → Steps p.tables e below (s₁.setTop (entryFrame m #[(.long q0), (.int p1)] maxLocals)) t := fun t k => castTop (ef_0 m q0 p1) k
  have hws : ∀ d ∈ StrChars.Road.words, d.before a0 Z = true := fun d hd => hw d ((by decide +kernel : ∀ d ∈ StrChars.Road.words, d ∈ tables_1) d hd)
  have c1 : ∀ t, Steps p.tables e below (s₁.setTop (mkF m 3 #[.val (.long q0), .second, .val (.int p1), .unset, .unset, .unset, .unset, .unset, .unset, .unset, .unset, .unset] [(.int (lcmpW q0 (0 : Int64)))])) t → Steps p.tables e below (s₁.setTop (mkF m 0 #[.val (.long q0), .second, .val (.int p1), .unset, .unset, .unset, .unset, .unset, .unset, .unset, .unset, .unset] [])) t := by
    intro t kt
    show Steps p.tables e below (s₁.setTop (mkF m 0 #[.val (.long q0), .second, .val (.int p1), .unset, .unset, .unset, .unset, .unset, .unset, .unset, .unset, .unset] [])) _
    refine XS.lloadN X0.here hx rfl (hb hby at_0) rfl ?_
    show Steps p.tables e below (s₁.setTop (mkF m 1 #[.val (.long q0), .second, .val (.int p1), .unset, .unset, .unset, .unset, .unset, .unset, .unset, .unset, .unset] [(.long q0)])) _
    refine XS.lconst X0.here hx rfl (hb hby at_1) ?_
    show Steps p.tables e below (s₁.setTop (mkF m 2 #[.val (.long q0), .second, .val (.int p1), .unset, .unset, .unset, .unset, .unset, .unset, .unset, .unset, .unset] [(.long (0 : Int64)), (.long q0)])) _
    refine XS.lcmp X0.here hx rfl (hb hby at_2) rfl ?_
    exact kt
  by_cases hc3 : q0 < (0 : Int64)
  · -- it is
    have c2 : ∀ t, Steps p.tables e below (s₁.setTop (mkF m 13 #[.val (.long q0), .second, .val (.int p1), .val (.long q0), .second, .unset, .unset, .unset, .unset, .unset, .unset, .unset] [])) t → Steps p.tables e below (s₁.setTop (mkF m 3 #[.val (.long q0), .second, .val (.int p1), .unset, .unset, .unset, .unset, .unset, .unset, .unset, .unset, .unset] [(.int (lcmpW q0 (0 : Int64)))])) t := by
      intro t kt
      show Steps p.tables e below (s₁.setTop (mkF m 3 #[.val (.long q0), .second, .val (.int p1), .unset, .unset, .unset, .unset, .unset, .unset, .unset, .unset, .unset] [(.int (lcmpW q0 (0 : Int64)))])) _
      refine XS.ifNo X0.here hx rfl (hb hby at_3) rfl ((if0 _ _).trans (tlt ((lw_lt _ _).mpr hc3)).2.1) ?_
      show Steps p.tables e below (s₁.setTop (mkF m 6 #[.val (.long q0), .second, .val (.int p1), .unset, .unset, .unset, .unset, .unset, .unset, .unset, .unset, .unset] [])) _
      refine XS.lloadN X0.here hx rfl (hb hby at_6) rfl ?_
      show Steps p.tables e below (s₁.setTop (mkF m 7 #[.val (.long q0), .second, .val (.int p1), .unset, .unset, .unset, .unset, .unset, .unset, .unset, .unset, .unset] [(.long q0)])) _
      refine XS.goto X0.here hx rfl (pc0 := 7) (pc' := 12) rfl (hb hby at_7) (by decide) (by decide) ?_
      show Steps p.tables e below (s₁.setTop (mkF m 12 #[.val (.long q0), .second, .val (.int p1), .unset, .unset, .unset, .unset, .unset, .unset, .unset, .unset, .unset] [(.long q0)])) _
      refine XS.lstoreN X0.here hx rfl (hb hby at_12) rfl (l' := #[.val (.long q0), .second, .val (.int p1), .val (.long q0), .second, .unset, .unset, .unset, .unset, .unset, .unset, .unset]) rfl ?_
      exact kt
    obtain ⟨mm, hmm⟩ : ∃ z, z = q0 := ⟨_, rfl⟩
    have c3 : ∀ t, Steps p.tables e below (s₁.setTop (mkF m 13 #[.val (.long q0), .second, .val (.int p1), .val (.long mm), .second, .unset, .unset, .unset, .unset, .unset, .unset, .unset] [])) t → Steps p.tables e below (s₁.setTop (mkF m 13 #[.val (.long q0), .second, .val (.int p1), .val (.long q0), .second, .unset, .unset, .unset, .unset, .unset, .unset, .unset] [])) t := fun t kt => by rw [hmm] at kt; exact kt
    have hm : mm.toInt ≤ 0 := by rw [hmm]; exact own_neg' _ hc3
    have c4 : ∀ t, Steps p.tables e below (s₁.setTop (mkF m 21 #[.val (.long q0), .second, .val (.int p1), .val (.long mm), .second, .val (.int (p1 &&& (3 : Int32))), .unset, .unset, .unset, .unset, .unset, .unset] [(.int (2 : Int32)), (.int (p1 &&& (3 : Int32)))])) t → Steps p.tables e below (s₁.setTop (mkF m 13 #[.val (.long q0), .second, .val (.int p1), .val (.long mm), .second, .unset, .unset, .unset, .unset, .unset, .unset, .unset] [])) t := by
      intro t kt
      show Steps p.tables e below (s₁.setTop (mkF m 13 #[.val (.long q0), .second, .val (.int p1), .val (.long mm), .second, .unset, .unset, .unset, .unset, .unset, .unset, .unset] [])) _
      refine XS.iloadN X0.here hx rfl (hb hby at_13) rfl ?_
      show Steps p.tables e below (s₁.setTop (mkF m 14 #[.val (.long q0), .second, .val (.int p1), .val (.long mm), .second, .unset, .unset, .unset, .unset, .unset, .unset, .unset] [(.int p1)])) _
      refine XS.iconst X0.here hx rfl (hb hby at_14) ?_
      show Steps p.tables e below (s₁.setTop (mkF m 15 #[.val (.long q0), .second, .val (.int p1), .val (.long mm), .second, .unset, .unset, .unset, .unset, .unset, .unset, .unset] [(.int (3 : Int32)), (.int p1)])) _
      refine XS.iand X0.here hx rfl (hb hby at_15) rfl ?_
      show Steps p.tables e below (s₁.setTop (mkF m 16 #[.val (.long q0), .second, .val (.int p1), .val (.long mm), .second, .unset, .unset, .unset, .unset, .unset, .unset, .unset] [(.int (p1 &&& (3 : Int32)))])) _
      refine XS.istore X0.here hx rfl (hb hby at_16) rfl (l' := #[.val (.long q0), .second, .val (.int p1), .val (.long mm), .second, .val (.int (p1 &&& (3 : Int32))), .unset, .unset, .unset, .unset, .unset, .unset]) rfl ?_
      show Steps p.tables e below (s₁.setTop (mkF m 18 #[.val (.long q0), .second, .val (.int p1), .val (.long mm), .second, .val (.int (p1 &&& (3 : Int32))), .unset, .unset, .unset, .unset, .unset, .unset] [])) _
      refine XS.iload X0.here hx rfl (hb hby at_18) rfl ?_
      show Steps p.tables e below (s₁.setTop (mkF m 20 #[.val (.long q0), .second, .val (.int p1), .val (.long mm), .second, .val (.int (p1 &&& (3 : Int32))), .unset, .unset, .unset, .unset, .unset, .unset] [(.int (p1 &&& (3 : Int32)))])) _
      refine XS.iconst X0.here hx rfl (hb hby at_20) ?_
      exact kt
    by_cases hc21 : (p1 &&& (3 : Int32)) < (2 : Int32)
    · -- it is
      have c5 : ∀ t, Steps p.tables e below (s₁.setTop (mkF m 29 #[.val (.long q0), .second, .val (.int p1), .val (.long mm), .second, .val (.int (p1 &&& (3 : Int32))), .unset, .unset, .unset, .unset, .unset, .unset] [(.int (lcmpW mm (-9223372036854775808 : Int64)))])) t → Steps p.tables e below (s₁.setTop (mkF m 21 #[.val (.long q0), .second, .val (.int p1), .val (.long mm), .second, .val (.int (p1 &&& (3 : Int32))), .unset, .unset, .unset, .unset, .unset, .unset] [(.int (2 : Int32)), (.int (p1 &&& (3 : Int32)))])) t := by
        intro t kt
        show Steps p.tables e below (s₁.setTop (mkF m 21 #[.val (.long q0), .second, .val (.int p1), .val (.long mm), .second, .val (.int (p1 &&& (3 : Int32))), .unset, .unset, .unset, .unset, .unset, .unset] [(.int (2 : Int32)), (.int (p1 &&& (3 : Int32)))])) _
        refine XS.icmpNo X0.here hx rfl (hb hby at_21) rfl (tlt hc21).2.1 ?_
        show Steps p.tables e below (s₁.setTop (mkF m 24 #[.val (.long q0), .second, .val (.int p1), .val (.long mm), .second, .val (.int (p1 &&& (3 : Int32))), .unset, .unset, .unset, .unset, .unset, .unset] [])) _
        refine XS.lloadN X0.here hx rfl (hb hby at_24) rfl ?_
        show Steps p.tables e below (s₁.setTop (mkF m 25 #[.val (.long q0), .second, .val (.int p1), .val (.long mm), .second, .val (.int (p1 &&& (3 : Int32))), .unset, .unset, .unset, .unset, .unset, .unset] [(.long mm)])) _
        refine X0.ldc2Long hx hown (mvT hZ (hw _ (List.mem_of_getElem? (i := 121) rfl))) (g := (mkF m 25 #[.val (.long q0), .second, .val (.int p1), .val (.long mm), .second, .val (.int (p1 &&& (3 : Int32))), .unset, .unset, .unset, .unset, .unset, .unset] [(.long mm)])) rfl (hb hby at_25) _ ?_
        show Steps p.tables e below (s₁.setTop (mkF m 28 #[.val (.long q0), .second, .val (.int p1), .val (.long mm), .second, .val (.int (p1 &&& (3 : Int32))), .unset, .unset, .unset, .unset, .unset, .unset] [(.long (-9223372036854775808 : Int64)), (.long mm)])) _
        refine XS.lcmp X0.here hx rfl (hb hby at_28) rfl ?_
        exact kt
      by_cases hc29 : mm = (-9223372036854775808 : Int64)
      · -- it is
        have c7 : ∀ t, Steps p.tables e below (s₁.setTop (mkF m 82 #[.val (.long q0), .second, .val (.int p1), .val (.long mm), .second, .val (.int (p1 &&& (3 : Int32))), .val (.int (1 : Int32)), .val (.int (0 : Int32)), .val (.long mm), .second, .unset, .unset] [(.int (20 : Int32))])) t → Steps p.tables e below (s₁.setTop (mkF m 29 #[.val (.long q0), .second, .val (.int p1), .val (.long mm), .second, .val (.int (p1 &&& (3 : Int32))), .unset, .unset, .unset, .unset, .unset, .unset] [(.int (lcmpW mm (-9223372036854775808 : Int64)))])) t := by
          intro t kt
          show Steps p.tables e below (s₁.setTop (mkF m 29 #[.val (.long q0), .second, .val (.int p1), .val (.long mm), .second, .val (.int (p1 &&& (3 : Int32))), .unset, .unset, .unset, .unset, .unset, .unset] [(.int (lcmpW mm (-9223372036854775808 : Int64)))])) _
          refine XS.ifNo X0.here hx rfl (hb hby at_29) rfl ((if0 _ _).trans (teq ((lw_eq _ _).mpr hc29)).2) ?_
          show Steps p.tables e below (s₁.setTop (mkF m 32 #[.val (.long q0), .second, .val (.int p1), .val (.long mm), .second, .val (.int (p1 &&& (3 : Int32))), .unset, .unset, .unset, .unset, .unset, .unset] [])) _
          refine XS.iconst X0.here hx rfl (hb hby at_32) ?_
          show Steps p.tables e below (s₁.setTop (mkF m 33 #[.val (.long q0), .second, .val (.int p1), .val (.long mm), .second, .val (.int (p1 &&& (3 : Int32))), .unset, .unset, .unset, .unset, .unset, .unset] [(.int (1 : Int32))])) _
          refine XS.goto X0.here hx rfl (pc0 := 33) (pc' := 37) rfl (hb hby at_33) (by decide) (by decide) ?_
          show Steps p.tables e below (s₁.setTop (mkF m 37 #[.val (.long q0), .second, .val (.int p1), .val (.long mm), .second, .val (.int (p1 &&& (3 : Int32))), .unset, .unset, .unset, .unset, .unset, .unset] [(.int (1 : Int32))])) _
          refine XS.istore X0.here hx rfl (hb hby at_37) rfl (l' := #[.val (.long q0), .second, .val (.int p1), .val (.long mm), .second, .val (.int (p1 &&& (3 : Int32))), .val (.int (1 : Int32)), .unset, .unset, .unset, .unset, .unset]) rfl ?_
          show Steps p.tables e below (s₁.setTop (mkF m 39 #[.val (.long q0), .second, .val (.int p1), .val (.long mm), .second, .val (.int (p1 &&& (3 : Int32))), .val (.int (1 : Int32)), .unset, .unset, .unset, .unset, .unset] [])) _
          refine XS.iload X0.here hx rfl (hb hby at_39) rfl ?_
          show Steps p.tables e below (s₁.setTop (mkF m 41 #[.val (.long q0), .second, .val (.int p1), .val (.long mm), .second, .val (.int (p1 &&& (3 : Int32))), .val (.int (1 : Int32)), .unset, .unset, .unset, .unset, .unset] [(.int (1 : Int32))])) _
          refine XS.ifYes X0.here hx rfl (pc0 := 41) (pc' := 54) rfl (hb hby at_41) rfl ((if0 _ _).trans (feq (by decide : ¬ ((1 : Int32) = (0 : Int32)))).2) (by decide) (by decide) ?_
          show Steps p.tables e below (s₁.setTop (mkF m 54 #[.val (.long q0), .second, .val (.int p1), .val (.long mm), .second, .val (.int (p1 &&& (3 : Int32))), .val (.int (1 : Int32)), .unset, .unset, .unset, .unset, .unset] [])) _
          refine XS.iconst X0.here hx rfl (hb hby at_54) ?_
          show Steps p.tables e below (s₁.setTop (mkF m 55 #[.val (.long q0), .second, .val (.int p1), .val (.long mm), .second, .val (.int (p1 &&& (3 : Int32))), .val (.int (1 : Int32)), .unset, .unset, .unset, .unset, .unset] [(.int (0 : Int32))])) _
          refine XS.istore X0.here hx rfl (hb hby at_55) rfl (l' := #[.val (.long q0), .second, .val (.int p1), .val (.long mm), .second, .val (.int (p1 &&& (3 : Int32))), .val (.int (1 : Int32)), .val (.int (0 : Int32)), .unset, .unset, .unset, .unset]) rfl ?_
          show Steps p.tables e below (s₁.setTop (mkF m 57 #[.val (.long q0), .second, .val (.int p1), .val (.long mm), .second, .val (.int (p1 &&& (3 : Int32))), .val (.int (1 : Int32)), .val (.int (0 : Int32)), .unset, .unset, .unset, .unset] [])) _
          refine XS.iload X0.here hx rfl (hb hby at_57) rfl ?_
          show Steps p.tables e below (s₁.setTop (mkF m 59 #[.val (.long q0), .second, .val (.int p1), .val (.long mm), .second, .val (.int (p1 &&& (3 : Int32))), .val (.int (1 : Int32)), .val (.int (0 : Int32)), .unset, .unset, .unset, .unset] [(.int (1 : Int32))])) _
          refine XS.ifNo X0.here hx rfl (hb hby at_59) rfl ((if0 _ _).trans (feq (by decide : ¬ ((1 : Int32) = (0 : Int32)))).1) ?_
          show Steps p.tables e below (s₁.setTop (mkF m 62 #[.val (.long q0), .second, .val (.int p1), .val (.long mm), .second, .val (.int (p1 &&& (3 : Int32))), .val (.int (1 : Int32)), .val (.int (0 : Int32)), .unset, .unset, .unset, .unset] [])) _
          refine XS.lloadN X0.here hx rfl (hb hby at_62) rfl ?_
          show Steps p.tables e below (s₁.setTop (mkF m 63 #[.val (.long q0), .second, .val (.int p1), .val (.long mm), .second, .val (.int (p1 &&& (3 : Int32))), .val (.int (1 : Int32)), .val (.int (0 : Int32)), .unset, .unset, .unset, .unset] [(.long mm)])) _
          refine XS.goto X0.here hx rfl (pc0 := 63) (pc' := 68) rfl (hb hby at_63) (by decide) (by decide) ?_
          show Steps p.tables e below (s₁.setTop (mkF m 68 #[.val (.long q0), .second, .val (.int p1), .val (.long mm), .second, .val (.int (p1 &&& (3 : Int32))), .val (.int (1 : Int32)), .val (.int (0 : Int32)), .unset, .unset, .unset, .unset] [(.long mm)])) _
          refine XS.lstore X0.here hx rfl (hb hby at_68) rfl (l' := #[.val (.long q0), .second, .val (.int p1), .val (.long mm), .second, .val (.int (p1 &&& (3 : Int32))), .val (.int (1 : Int32)), .val (.int (0 : Int32)), .val (.long mm), .second, .unset, .unset]) rfl ?_
          show Steps p.tables e below (s₁.setTop (mkF m 70 #[.val (.long q0), .second, .val (.int p1), .val (.long mm), .second, .val (.int (p1 &&& (3 : Int32))), .val (.int (1 : Int32)), .val (.int (0 : Int32)), .val (.long mm), .second, .unset, .unset] [])) _
          refine XS.iload X0.here hx rfl (hb hby at_70) rfl ?_
          show Steps p.tables e below (s₁.setTop (mkF m 72 #[.val (.long q0), .second, .val (.int p1), .val (.long mm), .second, .val (.int (p1 &&& (3 : Int32))), .val (.int (1 : Int32)), .val (.int (0 : Int32)), .val (.long mm), .second, .unset, .unset] [(.int (1 : Int32))])) _
          refine XS.ifYes X0.here hx rfl (pc0 := 72) (pc' := 80) rfl (hb hby at_72) rfl ((if0 _ _).trans (feq (by decide : ¬ ((1 : Int32) = (0 : Int32)))).2) (by decide) (by decide) ?_
          show Steps p.tables e below (s₁.setTop (mkF m 80 #[.val (.long q0), .second, .val (.int p1), .val (.long mm), .second, .val (.int (p1 &&& (3 : Int32))), .val (.int (1 : Int32)), .val (.int (0 : Int32)), .val (.long mm), .second, .unset, .unset] [])) _
          refine XS.bipush X0.here hx rfl (hb hby at_80) ?_
          exact kt
        obtain ⟨T6, h6, k6, X6, e6, E6, A6, st6⟩ := newP X0 hx hZ (hw _ (List.mem_of_getElem? (i := 0) rfl)) e0 (g := (mkF m 82 #[.val (.long q0), .second, .val (.int p1), .val (.long mm), .second, .val (.int (p1 &&& (3 : Int32))), .val (.int (1 : Int32)), .val (.int (0 : Int32)), .val (.long mm), .second, .unset, .unset] [(.int (20 : Int32))])) rfl (hb hby at_82) rfl (by decide) (cap := 20) (by decide) (by decide) (by decide) (by decide)
        obtain ⟨b6, g6⟩ : ∃ z, z = h0.size := ⟨_, rfl⟩
        rw [← g6] at A6 st6
        have g_b6 : n0 ≤ b6 := Nat.le_trans Z0 (Nat.le_of_eq g6.symm)
        have sz_b6 : h0.size ≤ b6 := Nat.le_trans (Keep.refl h0 []).1 (Nat.le_of_eq g6.symm)
        have V6 : Arv Z h6 b6 k6 .char (20 : Int32) [(.int (0 : Int32)), (.int (0 : Int32)), (.int (0 : Int32)), (.int (0 : Int32)), (.int (0 : Int32)), (.int (0 : Int32)), (.int (0 : Int32)), (.int (0 : Int32)), (.int (0 : Int32)), (.int (0 : Int32)), (.int (0 : Int32)), (.int (0 : Int32)), (.int (0 : Int32)), (.int (0 : Int32)), (.int (0 : Int32)), (.int (0 : Int32)), (.int (0 : Int32)), (.int (0 : Int32)), (.int (0 : Int32)), (.int (0 : Int32))] (.int (0 : Int32)) := (Arv.new A6 (by decide)).pad (pad_rep [] (.int (0 : Int32)) 20)
        have c8 : ∀ t, Steps p.tables e below (T6.setTop (mkF m 101 #[.val (.long q0), .second, .val (.int p1), .val (.long mm), .second, .val (.int (p1 &&& (3 : Int32))), .val (.int (1 : Int32)), .val (.int (0 : Int32)), .val (.long mm), .second, .unset, .val (.ref b6)] [(.int (45 : Int32)), (.int (0 : Int32)), (.ref b6)])) t → Steps p.tables e below (T6.setTop (mkF m 84 #[.val (.long q0), .second, .val (.int p1), .val (.long mm), .second, .val (.int (p1 &&& (3 : Int32))), .val (.int (1 : Int32)), .val (.int (0 : Int32)), .val (.long mm), .second, .unset, .unset] [(.ref b6)])) t := by
          intro t kt
          show Steps p.tables e below (T6.setTop (mkF m 84 #[.val (.long q0), .second, .val (.int p1), .val (.long mm), .second, .val (.int (p1 &&& (3 : Int32))), .val (.int (1 : Int32)), .val (.int (0 : Int32)), .val (.long mm), .second, .unset, .unset] [(.ref b6)])) _
          refine XS.astore X6.here hx rfl (hb hby at_84) rfl rfl (l' := #[.val (.long q0), .second, .val (.int p1), .val (.long mm), .second, .val (.int (p1 &&& (3 : Int32))), .val (.int (1 : Int32)), .val (.int (0 : Int32)), .val (.long mm), .second, .unset, .val (.ref b6)]) rfl ?_
          show Steps p.tables e below (T6.setTop (mkF m 86 #[.val (.long q0), .second, .val (.int p1), .val (.long mm), .second, .val (.int (p1 &&& (3 : Int32))), .val (.int (1 : Int32)), .val (.int (0 : Int32)), .val (.long mm), .second, .unset, .val (.ref b6)] [])) _
          refine XS.aload X6.here hx rfl (hb hby at_86) rfl rfl ?_
          show Steps p.tables e below (T6.setTop (mkF m 88 #[.val (.long q0), .second, .val (.int p1), .val (.long mm), .second, .val (.int (p1 &&& (3 : Int32))), .val (.int (1 : Int32)), .val (.int (0 : Int32)), .val (.long mm), .second, .unset, .val (.ref b6)] [(.ref b6)])) _
          refine XS.iconst X6.here hx rfl (hb hby at_88) ?_
          show Steps p.tables e below (T6.setTop (mkF m 89 #[.val (.long q0), .second, .val (.int p1), .val (.long mm), .second, .val (.int (p1 &&& (3 : Int32))), .val (.int (1 : Int32)), .val (.int (0 : Int32)), .val (.long mm), .second, .unset, .val (.ref b6)] [(.int (0 : Int32)), (.ref b6)])) _
          refine XS.iload X6.here hx rfl (hb hby at_89) rfl ?_
          show Steps p.tables e below (T6.setTop (mkF m 91 #[.val (.long q0), .second, .val (.int p1), .val (.long mm), .second, .val (.int (p1 &&& (3 : Int32))), .val (.int (1 : Int32)), .val (.int (0 : Int32)), .val (.long mm), .second, .unset, .val (.ref b6)] [(.int (1 : Int32)), (.int (0 : Int32)), (.ref b6)])) _
          refine XS.ifNo X6.here hx rfl (hb hby at_91) rfl ((if0 _ _).trans (feq (by decide : ¬ ((1 : Int32) = (0 : Int32)))).1) ?_
          show Steps p.tables e below (T6.setTop (mkF m 94 #[.val (.long q0), .second, .val (.int p1), .val (.long mm), .second, .val (.int (p1 &&& (3 : Int32))), .val (.int (1 : Int32)), .val (.int (0 : Int32)), .val (.long mm), .second, .unset, .val (.ref b6)] [(.int (0 : Int32)), (.ref b6)])) _
          refine XS.bipush X6.here hx rfl (hb hby at_94) ?_
          show Steps p.tables e below (T6.setTop (mkF m 96 #[.val (.long q0), .second, .val (.int p1), .val (.long mm), .second, .val (.int (p1 &&& (3 : Int32))), .val (.int (1 : Int32)), .val (.int (0 : Int32)), .val (.long mm), .second, .unset, .val (.ref b6)] [(.int (45 : Int32)), (.int (0 : Int32)), (.ref b6)])) _
          refine XS.goto X6.here hx rfl (pc0 := 96) (pc' := 101) rfl (hb hby at_96) (by decide) (by decide) ?_
          exact kt
        have Vc9 := V6
        obtain ⟨cl9, Ar9, qk9, S9, M9, H9, G9⟩ := Vc9
        have hin9 : ¬ ((0 : Int32) < 0 ∨ cl9.slots.size ≤ ((0 : Int32)).toNatClampNeg) := inb_of S9 ⟨by decide, by decide⟩
        obtain ⟨T10, h10, X10, e10, W10, st10⟩ := stC X6 hx hZ e6 Ar9 (j := (0 : Int32)) hin9 (g := (mkF m 101 #[.val (.long q0), .second, .val (.int p1), .val (.long mm), .second, .val (.int (p1 &&& (3 : Int32))), .val (.int (1 : Int32)), .val (.int (0 : Int32)), .val (.long mm), .second, .unset, .val (.ref b6)] [(.int (45 : Int32)), (.int (0 : Int32)), (.ref b6)])) rfl rfl (hb hby at_101)
        have V10 : Arv Z h10 b6 k6 .char (20 : Int32) [(.int ((45 : Int32).toUInt32.toUInt16.toUInt32.toInt32)), (.int (0 : Int32)), (.int (0 : Int32)), (.int (0 : Int32)), (.int (0 : Int32)), (.int (0 : Int32)), (.int (0 : Int32)), (.int (0 : Int32)), (.int (0 : Int32)), (.int (0 : Int32)), (.int (0 : Int32)), (.int (0 : Int32)), (.int (0 : Int32)), (.int (0 : Int32)), (.int (0 : Int32)), (.int (0 : Int32)), (.int (0 : Int32)), (.int (0 : Int32)), (.int (0 : Int32)), (.int (0 : Int32))] (.int (0 : Int32)) := Arv.set Ar9 qk9 S9 M9 H9 G9 (fits_nar_char _) W10 0 rfl (Nat.le_of_ble_eq_true rfl)
        have N10 := Fr.snoc X10 N0 g_b6
        have c11 : ∀ t, Steps p.tables e below (T10.setTop (mkF m 106 #[.val (.long q0), .second, .val (.int p1), .val (.long mm), .second, .val (.int (p1 &&& (3 : Int32))), .val (.int (1 : Int32)), .val (.int (0 : Int32)), .val (.long mm), .second, .unset, .val (.ref b6)] [(.long mm), (.int (1 : Int32)), (.ref b6)])) t → Steps p.tables e below (T10.setTop (mkF m 102 #[.val (.long q0), .second, .val (.int p1), .val (.long mm), .second, .val (.int (p1 &&& (3 : Int32))), .val (.int (1 : Int32)), .val (.int (0 : Int32)), .val (.long mm), .second, .unset, .val (.ref b6)] [])) t := by
          intro t kt
          show Steps p.tables e below (T10.setTop (mkF m 102 #[.val (.long q0), .second, .val (.int p1), .val (.long mm), .second, .val (.int (p1 &&& (3 : Int32))), .val (.int (1 : Int32)), .val (.int (0 : Int32)), .val (.long mm), .second, .unset, .val (.ref b6)] [])) _
          refine XS.aload X10.here hx rfl (hb hby at_102) rfl rfl ?_
          show Steps p.tables e below (T10.setTop (mkF m 104 #[.val (.long q0), .second, .val (.int p1), .val (.long mm), .second, .val (.int (p1 &&& (3 : Int32))), .val (.int (1 : Int32)), .val (.int (0 : Int32)), .val (.long mm), .second, .unset, .val (.ref b6)] [(.ref b6)])) _
          refine XS.iconst X10.here hx rfl (hb hby at_104) ?_
          show Steps p.tables e below (T10.setTop (mkF m 105 #[.val (.long q0), .second, .val (.int p1), .val (.long mm), .second, .val (.int (p1 &&& (3 : Int32))), .val (.int (1 : Int32)), .val (.int (0 : Int32)), .val (.long mm), .second, .unset, .val (.ref b6)] [(.int (1 : Int32)), (.ref b6)])) _
          refine XS.lloadN X10.here hx rfl (hb hby at_105) rfl ?_
          exact kt
        have f12 := (Nat.le_trans (Nat.le_trans Z0 E6.1) (Keep.of_wr W10).1)
        obtain ⟨_, _, ⟨T13, L13, k13, n13⟩, -, X13, ⟨Lc13, hQ13, l13, y13, z13⟩, st13⟩ := Jvm.LawKit.callS X10 hx (y := (⟨"com/example/sequence_set/sequenceset/cli/DecimalParserAcceptPinLaw", "fill", "([CIJ)V"⟩ : MethodName)) hown (mvT hZ (hw _ (List.mem_of_getElem? (i := 1) rfl))) (mvT hZ (hw _ (List.mem_of_getElem? (i := 2) rfl))) (mvT hZ (hw _ (List.mem_of_getElem? (i := 3) rfl))) (mvT hZ (hw _ (List.mem_of_getElem? (i := 4) rfl))) (by decide) (backOf (W := 0) (rm1_1 l Z a0 hw []  b6 mm k6 ((45 : Int32).toUInt32.toUInt16.toUInt32.toInt32) h10 n0 f12 V10 g_b6) hZ (hw _ (List.mem_of_getElem? (i := 4) rfl)) (hw _ (List.mem_of_getElem? (i := 3) rfl)) (by decide) (by decide)) (g := (mkF m 106 #[.val (.long q0), .second, .val (.int p1), .val (.long mm), .second, .val (.int (p1 &&& (3 : Int32))), .val (.int (1 : Int32)), .val (.int (0 : Int32)), .val (.long mm), .second, .unset, .val (.ref b6)] [(.long mm), (.int (1 : Int32)), (.ref b6)])) rfl (by rw [hml]; rfl) (argsL := [(.ref b6), (.int (1 : Int32)), (.long mm)]) (rest := []) (lenOf pd_11 rfl) rfl (by show 2 * 0 + _ ≤ _; exact Nat.le_of_eq rfl) (hb hby at_106) (fun _ _ => ⟨rfl, e10, (by decide : 1 + 0 ≤ _), (by decide : 20 + 0 ≤ _)⟩)
        dsimp only [Pt.U, Pt.locs, Pt.cells, Pt.slots] at X13 l13 y13 z13 st13 hQ13
        subst l13 y13 z13
        obtain ⟨rfl, N13q, Kq13, Vq13⟩ := hQ13
        have N13 := Fr.app N10 N13q
        obtain ⟨Go13, X13, N13⟩ := own_opq X13 N13
        obtain ⟨T14, h14, X14, e14, E14, A14, D14, U14, st14⟩ := newO X13 hx hZ hown (hw _ (List.mem_of_getElem? (i := 26) rfl)) (hw _ (List.mem_of_getElem? (i := 27) rfl)) (hw _ (List.mem_of_getElem? (i := 28) rfl)) rfl (g := (mkF m 109 #[.val (.long q0), .second, .val (.int p1), .val (.long mm), .second, .val (.int (p1 &&& (3 : Int32))), .val (.int (1 : Int32)), .val (.int (0 : Int32)), .val (.long mm), .second, .unset, .val (.ref b6)] [])) rfl (hb hby at_109) (by decide) (by decide)
        obtain ⟨b14, g14⟩ : ∃ z, z = T13.heap.size := ⟨_, rfl⟩
        rw [← g14] at A14 D14 U14 st14
        have f15 := (Nat.le_trans f12 Kq13.1)
        have f16 := ((((Keep.refl h0 []).ext E6).wr W10 (Or.inr sz_b6)).trans Kq13 (allS (Or.inr sz_b6) all0))
        have g_b14 : n0 ≤ b14 := Nat.le_trans f15 (Nat.le_of_eq g14.symm)
        have sz_b14 : h0.size ≤ b14 := Nat.le_trans f16.1 (Nat.le_of_eq g14.symm)
        have lt_b6_14 := Vq13.lt
        have F14_coder : Fld Z h14 b14 "java/lang/String" "coder" "B" (.int (0 : Int32)) := D14 (Or.inr (hw _ (List.mem_of_getElem? (i := 52) rfl))) (ty := .byte) (by decide)
        have F14_value : Fld Z h14 b14 "java/lang/String" "value" "[B" .null := D14 (Or.inr (hw _ (List.mem_of_getElem? (i := 54) rfl))) (ty := (.array .byte)) (by decide)
        have c17 : ∀ t, Steps p.tables e below (T14.setTop (mkF m 115 #[.val (.long q0), .second, .val (.int p1), .val (.long mm), .second, .val (.int (p1 &&& (3 : Int32))), .val (.int (1 : Int32)), .val (.int (0 : Int32)), .val (.long mm), .second, .unset, .val (.ref b6)] [(.ref b6), (.ref b14), (.ref b14)])) t → Steps p.tables e below (T14.setTop (mkF m 112 #[.val (.long q0), .second, .val (.int p1), .val (.long mm), .second, .val (.int (p1 &&& (3 : Int32))), .val (.int (1 : Int32)), .val (.int (0 : Int32)), .val (.long mm), .second, .unset, .val (.ref b6)] [(.ref b14)])) t := by
          intro t kt
          show Steps p.tables e below (T14.setTop (mkF m 112 #[.val (.long q0), .second, .val (.int p1), .val (.long mm), .second, .val (.int (p1 &&& (3 : Int32))), .val (.int (1 : Int32)), .val (.int (0 : Int32)), .val (.long mm), .second, .unset, .val (.ref b6)] [(.ref b14)])) _
          refine XS.dup X14.here hx rfl (hb hby at_112) rfl rfl ?_
          show Steps p.tables e below (T14.setTop (mkF m 113 #[.val (.long q0), .second, .val (.int p1), .val (.long mm), .second, .val (.int (p1 &&& (3 : Int32))), .val (.int (1 : Int32)), .val (.int (0 : Int32)), .val (.long mm), .second, .unset, .val (.ref b6)] [(.ref b14), (.ref b14)])) _
          refine XS.aload X14.here hx rfl (hb hby at_113) rfl rfl ?_
          exact kt
        have f18 := (Nat.le_trans f15 E14.1)
        have f19 := (Vq13.ext E14)
        have f20 := ((((O0.ext E6).wr W10 g_b6).keep Kq13 (allS g_b6 all0)).ext E14)
        obtain ⟨_, _, ⟨T21, L21, k21, n21⟩, -, X21, ⟨Lc21, hQ21, l21, y21, z21⟩, st21⟩ := X14.specialBack hx (y := (⟨"java/lang/String", "<init>", "([C)V"⟩ : MethodName)) rfl hown (mvT hZ (hw _ (List.mem_of_getElem? (i := 29) rfl))) (mvT hZ (hw _ (List.mem_of_getElem? (i := 30) rfl))) (mvT hZ (hw _ (List.mem_of_getElem? (i := 31) rfl))) (by decide) (StrChars.Road.backV (W := 1) hZ hws (kI := 4) (hw _ (List.mem_of_getElem? (i := 27) rfl)) (cs := (own_c20 ((45 : Int32).toUInt32.toUInt16.toUInt32.toInt32) mm)) (bs := ((own_c20 ((45 : Int32).toUInt32.toUInt16.toUInt32.toInt32) mm)).map (fun c => c.toInt8.toInt32)) (n := 20) g_b14 f18 A14 F14_value F14_coder f19 (SC.ext f20.2) hcs rfl rfl (by decide) (by decide) (own_hp20 _ mm (by decide) hm) rfl (by decide) (by decide)) (g := (mkF m 115 #[.val (.long q0), .second, .val (.int p1), .val (.long mm), .second, .val (.int (p1 &&& (3 : Int32))), .val (.int (1 : Int32)), .val (.int (0 : Int32)), .val (.long mm), .second, .unset, .val (.ref b6)] [(.ref b6), (.ref b14), (.ref b14)])) rfl (by rw [hml]; rfl) (Steps.refl _) (a := b14) (argsL := [(.ref b6)]) (rest := [(.ref b14)]) (lenOf pd_12 rfl) rfl (by show 2 * 0 + _ ≤ _; exact Nat.le_of_eq rfl) (hb hby at_115) (fun _ _ => ⟨rfl, e14, (by decide : 2 + 1 ≤ _), (by decide : 24 + 20 ≤ _)⟩)
        dsimp only [Pt.U, Pt.locs, Pt.cells, Pt.slots] at X21 l21 y21 z21 st21 hQ21
        subst l21 y21 z21
        obtain ⟨rfl, N21q, Kq21, Eq21, Fc21, ot21, kb21, g_ot21, szq21, nt21, Fv21, Vb21⟩ := hQ21
        have N21 := Fr.app N13 N21q
        have lt_b6_21 := f19.lt
        have lt_b14_21 := A14.lt
        have f22 := (f16.ext E14)
        have sz_ot21 : h0.size ≤ ot21 := Nat.le_trans f22.1 szq21
        obtain ⟨Go21, X21, N21⟩ := own_opq X21 N21
        have c23 : ∀ t, Steps p.tables e below (T21.setTop (mkF m 149 #[.val (.long q0), .second, .val (.int p1), .val (.long mm), .second, .val (.int (p1 &&& (3 : Int32))), .val (.int (1 : Int32)), .val (.int (0 : Int32)), .val (.long mm), .second, .val (.ref b14), .val (.ref b6)] [(.ref b14)])) t → Steps p.tables e below (T21.setTop (mkF m 118 #[.val (.long q0), .second, .val (.int p1), .val (.long mm), .second, .val (.int (p1 &&& (3 : Int32))), .val (.int (1 : Int32)), .val (.int (0 : Int32)), .val (.long mm), .second, .unset, .val (.ref b6)] [(.ref b14)])) t := by
          intro t kt
          show Steps p.tables e below (T21.setTop (mkF m 118 #[.val (.long q0), .second, .val (.int p1), .val (.long mm), .second, .val (.int (p1 &&& (3 : Int32))), .val (.int (1 : Int32)), .val (.int (0 : Int32)), .val (.long mm), .second, .unset, .val (.ref b6)] [(.ref b14)])) _
          refine XS.astore X21.here hx rfl (hb hby at_118) rfl rfl (l' := #[.val (.long q0), .second, .val (.int p1), .val (.long mm), .second, .val (.int (p1 &&& (3 : Int32))), .val (.int (1 : Int32)), .val (.int (0 : Int32)), .val (.long mm), .second, .val (.ref b14), .val (.ref b6)]) rfl ?_
          show Steps p.tables e below (T21.setTop (mkF m 120 #[.val (.long q0), .second, .val (.int p1), .val (.long mm), .second, .val (.int (p1 &&& (3 : Int32))), .val (.int (1 : Int32)), .val (.int (0 : Int32)), .val (.long mm), .second, .val (.ref b14), .val (.ref b6)] [])) _
          refine XS.goto X21.here hx rfl (pc0 := 120) (pc' := 147) rfl (hb hby at_120) (by decide) (by decide) ?_
          show Steps p.tables e below (T21.setTop (mkF m 147 #[.val (.long q0), .second, .val (.int p1), .val (.long mm), .second, .val (.int (p1 &&& (3 : Int32))), .val (.int (1 : Int32)), .val (.int (0 : Int32)), .val (.long mm), .second, .val (.ref b14), .val (.ref b6)] [])) _
          refine XS.aload X21.here hx rfl (hb hby at_147) rfl rfl ?_
          exact kt
        have f24 := (Nat.le_trans f18 Kq21.1)
        have hsg : ((45 : Int32).toUInt32.toUInt16.toUInt32.toInt32) = 45 ∨ ((45 : Int32).toUInt32.toUInt16.toUInt32.toInt32) = 43 := by decide
        have f25 := (f20.keep Kq21 (allS g_b14 all0))
        obtain ⟨_, _, ⟨T26, L26, k26, n26⟩, -, X26, ⟨Lc26, hQ26, l26, y26, z26⟩, st26⟩ := Jvm.LawKit.callS X21 hx (y := (⟨"com/example/sequence_set/sequenceset/cli/DecimalParser", "parse", "(Ljava/lang/String;)J"⟩ : MethodName)) hown (mvT hZ (hw _ (List.mem_of_getElem? (i := 55) rfl))) (mvT hZ (hw _ (List.mem_of_getElem? (i := 56) rfl))) (mvT hZ (hw _ (List.mem_of_getElem? (i := 57) rfl))) (mvT hZ (hw _ (List.mem_of_getElem? (i := 58) rfl))) (by decide) (backOf (W := 0) (rm9 l Z a0 hw [] b14 ot21 kb21 (own_c20 ((45 : Int32).toUInt32.toUInt16.toUInt32.toInt32) mm) cs fm mm T21.heap n0 f24 f25 SC hcs SF hfm (by show own_val (own_run (own_c20 ((45 : Int32).toUInt32.toUInt16.toUInt32.toInt32) mm) 20).1 (own_run (own_c20 ((45 : Int32).toUInt32.toUInt16.toUInt32.toInt32) mm) 20).2.1 = _; rw [show own_run (own_c20 ((45 : Int32).toUInt32.toUInt16.toUInt32.toInt32) mm) 20 = _ from (own_e20 _ mm hsg hm)]; exact own_v45 _) Eq21 Fv21 Fc21 Vb21 (Nat.le_of_ble_eq_true rfl) (own_hp20 _ mm (by decide) hm) (own_all20 _ mm hsg hm) (by show ¬ (own_run (own_c20 ((45 : Int32).toUInt32.toUInt16.toUInt32.toInt32) mm) 20).2.2 = 0; rw [show own_run (own_c20 ((45 : Int32).toUInt32.toUInt16.toUInt32.toInt32) mm) 20 = _ from (own_e20 _ mm hsg hm)]; exact own_nz) (by show (own_run (own_c20 ((45 : Int32).toUInt32.toUInt16.toUInt32.toInt32) mm) 20).2.1 = 0 → ¬ (own_run (own_c20 ((45 : Int32).toUInt32.toUInt16.toUInt32.toInt32) mm) 20).1 = (-9223372036854775808 : Int64); rw [show own_run (own_c20 ((45 : Int32).toUInt32.toUInt16.toUInt32.toInt32) mm) 20 = _ from (own_e20 _ mm hsg hm)]; exact fun q => absurd q own_n45)) hZ (hw _ (List.mem_of_getElem? (i := 58) rfl)) (hw _ (List.mem_of_getElem? (i := 57) rfl)) (by decide) (by decide)) (g := (mkF m 149 #[.val (.long q0), .second, .val (.int p1), .val (.long mm), .second, .val (.int (p1 &&& (3 : Int32))), .val (.int (1 : Int32)), .val (.int (0 : Int32)), .val (.long mm), .second, .val (.ref b14), .val (.ref b6)] [(.ref b14)])) rfl (by rw [hml]; rfl) (argsL := [(.ref b14)]) (rest := []) (lenOf pd_13 rfl) rfl (by show 2 * 0 + _ ≤ _; exact Nat.le_of_eq rfl) (hb hby at_149) (fun _ _ => ⟨rfl, rfl, (by decide : 3 + 1 ≤ _), (by decide : 44 + 6 ≤ _)⟩)
        dsimp only [Pt.U, Pt.locs, Pt.cells, Pt.slots] at X26 l26 y26 z26 st26 hQ26
        subst l26 y26 z26
        obtain ⟨rfl, N26q, Kq26⟩ := hQ26
        have N26 := Fr.app N21 N26q
        obtain ⟨Go26, X26, N26⟩ := own_opq X26 N26
        have c27 : ∀ t, Steps p.tables e below (T26.setTop (mkF m 163 #[.val (.long q0), .second, .val (.int p1), .val (.long mm), .second, .val (.int (p1 &&& (3 : Int32))), .val (.int (1 : Int32)), .val (.int (0 : Int32)), .val (.long mm), .second, .val (.ref b14), .val (.ref b6)] [(.int (1 : Int32))])) t → Steps p.tables e below (T26.setTop (mkF m 152 #[.val (.long q0), .second, .val (.int p1), .val (.long mm), .second, .val (.int (p1 &&& (3 : Int32))), .val (.int (1 : Int32)), .val (.int (0 : Int32)), .val (.long mm), .second, .val (.ref b14), .val (.ref b6)] [(.long mm)])) t := by
          intro t kt
          show Steps p.tables e below (T26.setTop (mkF m 152 #[.val (.long q0), .second, .val (.int p1), .val (.long mm), .second, .val (.int (p1 &&& (3 : Int32))), .val (.int (1 : Int32)), .val (.int (0 : Int32)), .val (.long mm), .second, .val (.ref b14), .val (.ref b6)] [(.long mm)])) _
          refine XS.lload X26.here hx rfl (hb hby at_152) rfl ?_
          show Steps p.tables e below (T26.setTop (mkF m 154 #[.val (.long q0), .second, .val (.int p1), .val (.long mm), .second, .val (.int (p1 &&& (3 : Int32))), .val (.int (1 : Int32)), .val (.int (0 : Int32)), .val (.long mm), .second, .val (.ref b14), .val (.ref b6)] [(.long mm), (.long mm)])) _
          refine XS.lcmp X26.here hx rfl (hb hby at_154) rfl ?_
          show Steps p.tables e below (T26.setTop (mkF m 155 #[.val (.long q0), .second, .val (.int p1), .val (.long mm), .second, .val (.int (p1 &&& (3 : Int32))), .val (.int (1 : Int32)), .val (.int (0 : Int32)), .val (.long mm), .second, .val (.ref b14), .val (.ref b6)] [(.int (lcmpW mm mm))])) _
          refine XS.ifNo X26.here hx rfl (hb hby at_155) rfl ((if0 _ _).trans (teq ((lw_eq _ _).mpr (rfl : mm = mm))).2) ?_
          show Steps p.tables e below (T26.setTop (mkF m 158 #[.val (.long q0), .second, .val (.int p1), .val (.long mm), .second, .val (.int (p1 &&& (3 : Int32))), .val (.int (1 : Int32)), .val (.int (0 : Int32)), .val (.long mm), .second, .val (.ref b14), .val (.ref b6)] [])) _
          refine XS.iconst X26.here hx rfl (hb hby at_158) ?_
          show Steps p.tables e below (T26.setTop (mkF m 159 #[.val (.long q0), .second, .val (.int p1), .val (.long mm), .second, .val (.int (p1 &&& (3 : Int32))), .val (.int (1 : Int32)), .val (.int (0 : Int32)), .val (.long mm), .second, .val (.ref b14), .val (.ref b6)] [(.int (1 : Int32))])) _
          refine XS.goto X26.here hx rfl (pc0 := 159) (pc' := 163) rfl (hb hby at_159) (by decide) (by decide) ?_
          exact kt
        obtain ⟨fs, hr, hrun, hended, hW, hsame⟩ := X26.leave (v := some (.int (1 : Int32))) (fun h => by rw [Bd.returns] at h; cases h)
        refine ⟨_, _, pre0 _ (c1 _ (c2 _ (c3 _ (c4 _ (c5 _ (c7 _ (st6 _ (c8 _ (st10 _ (c11 _ (st13 _ (st14 _ (c17 _ (st21.trans (c23 _ (st26 _ (c27 _ (?_)))))))))))))))))), hrun, hended, _, _, rfl, ?_, ⟨_, rfl⟩, hW, hsame.mono (by decide) (by decide)⟩
        · show Steps p.tables e below (T26.setTop (mkF m 163 #[.val (.long q0), .second, .val (.int p1), .val (.long mm), .second, .val (.int (p1 &&& (3 : Int32))), .val (.int (1 : Int32)), .val (.int (0 : Int32)), .val (.long mm), .second, .val (.ref b14), .val (.ref b6)] [(.int (1 : Int32))])) _
          exact retN X26 hx (t := .boolean) Bd.returns (by simp) (hb hby at_163) hr
        · show Q0 Z q0 p1 cs fm h0 n0 _ T26.heap _
          exact ⟨congrArg (fun z => some (Value.int z)) (show (1 : Int32) = (1 : Int32) from by rfl), N26⟩
      · -- it isn't
        have c29 : ∀ t, Steps p.tables e below (s₁.setTop (mkF m 47 #[.val (.long q0), .second, .val (.int p1), .val (.long mm), .second, .val (.int (p1 &&& (3 : Int32))), .val (.int (0 : Int32)), .unset, .unset, .unset, .unset, .unset] [(.int (1 : Int32)), (.int (p1 &&& (3 : Int32)))])) t → Steps p.tables e below (s₁.setTop (mkF m 29 #[.val (.long q0), .second, .val (.int p1), .val (.long mm), .second, .val (.int (p1 &&& (3 : Int32))), .unset, .unset, .unset, .unset, .unset, .unset] [(.int (lcmpW mm (-9223372036854775808 : Int64)))])) t := by
          intro t kt
          show Steps p.tables e below (s₁.setTop (mkF m 29 #[.val (.long q0), .second, .val (.int p1), .val (.long mm), .second, .val (.int (p1 &&& (3 : Int32))), .unset, .unset, .unset, .unset, .unset, .unset] [(.int (lcmpW mm (-9223372036854775808 : Int64)))])) _
          refine XS.ifYes X0.here hx rfl (pc0 := 29) (pc' := 36) rfl (hb hby at_29) rfl ((if0 _ _).trans (feq (fun q => hc29 ((lw_eq _ _).mp q))).2) (by decide) (by decide) ?_
          show Steps p.tables e below (s₁.setTop (mkF m 36 #[.val (.long q0), .second, .val (.int p1), .val (.long mm), .second, .val (.int (p1 &&& (3 : Int32))), .unset, .unset, .unset, .unset, .unset, .unset] [])) _
          refine XS.iconst X0.here hx rfl (hb hby at_36) ?_
          show Steps p.tables e below (s₁.setTop (mkF m 37 #[.val (.long q0), .second, .val (.int p1), .val (.long mm), .second, .val (.int (p1 &&& (3 : Int32))), .unset, .unset, .unset, .unset, .unset, .unset] [(.int (0 : Int32))])) _
          refine XS.istore X0.here hx rfl (hb hby at_37) rfl (l' := #[.val (.long q0), .second, .val (.int p1), .val (.long mm), .second, .val (.int (p1 &&& (3 : Int32))), .val (.int (0 : Int32)), .unset, .unset, .unset, .unset, .unset]) rfl ?_
          show Steps p.tables e below (s₁.setTop (mkF m 39 #[.val (.long q0), .second, .val (.int p1), .val (.long mm), .second, .val (.int (p1 &&& (3 : Int32))), .val (.int (0 : Int32)), .unset, .unset, .unset, .unset, .unset] [])) _
          refine XS.iload X0.here hx rfl (hb hby at_39) rfl ?_
          show Steps p.tables e below (s₁.setTop (mkF m 41 #[.val (.long q0), .second, .val (.int p1), .val (.long mm), .second, .val (.int (p1 &&& (3 : Int32))), .val (.int (0 : Int32)), .unset, .unset, .unset, .unset, .unset] [(.int (0 : Int32))])) _
          refine XS.ifNo X0.here hx rfl (hb hby at_41) rfl ((if0 _ _).trans (teq (by decide : (0 : Int32) = (0 : Int32))).2) ?_
          show Steps p.tables e below (s₁.setTop (mkF m 44 #[.val (.long q0), .second, .val (.int p1), .val (.long mm), .second, .val (.int (p1 &&& (3 : Int32))), .val (.int (0 : Int32)), .unset, .unset, .unset, .unset, .unset] [])) _
          refine XS.iload X0.here hx rfl (hb hby at_44) rfl ?_
          show Steps p.tables e below (s₁.setTop (mkF m 46 #[.val (.long q0), .second, .val (.int p1), .val (.long mm), .second, .val (.int (p1 &&& (3 : Int32))), .val (.int (0 : Int32)), .unset, .unset, .unset, .unset, .unset] [(.int (p1 &&& (3 : Int32)))])) _
          refine XS.iconst X0.here hx rfl (hb hby at_46) ?_
          exact kt
        by_cases hc47 : (p1 &&& (3 : Int32)) = (1 : Int32)
        · -- it is
          have c31 : ∀ t, Steps p.tables e below (s₁.setTop (mkF m 82 #[.val (.long q0), .second, .val (.int p1), .val (.long mm), .second, .val (.int (p1 &&& (3 : Int32))), .val (.int (0 : Int32)), .val (.int (1 : Int32)), .val (.long (-mm)), .second, .unset, .unset] [(.int (20 : Int32))])) t → Steps p.tables e below (s₁.setTop (mkF m 47 #[.val (.long q0), .second, .val (.int p1), .val (.long mm), .second, .val (.int (p1 &&& (3 : Int32))), .val (.int (0 : Int32)), .unset, .unset, .unset, .unset, .unset] [(.int (1 : Int32)), (.int (p1 &&& (3 : Int32)))])) t := by
            intro t kt
            show Steps p.tables e below (s₁.setTop (mkF m 47 #[.val (.long q0), .second, .val (.int p1), .val (.long mm), .second, .val (.int (p1 &&& (3 : Int32))), .val (.int (0 : Int32)), .unset, .unset, .unset, .unset, .unset] [(.int (1 : Int32)), (.int (p1 &&& (3 : Int32)))])) _
            refine XS.icmpNo X0.here hx rfl (hb hby at_47) rfl (teq hc47).2 ?_
            show Steps p.tables e below (s₁.setTop (mkF m 50 #[.val (.long q0), .second, .val (.int p1), .val (.long mm), .second, .val (.int (p1 &&& (3 : Int32))), .val (.int (0 : Int32)), .unset, .unset, .unset, .unset, .unset] [])) _
            refine XS.iconst X0.here hx rfl (hb hby at_50) ?_
            show Steps p.tables e below (s₁.setTop (mkF m 51 #[.val (.long q0), .second, .val (.int p1), .val (.long mm), .second, .val (.int (p1 &&& (3 : Int32))), .val (.int (0 : Int32)), .unset, .unset, .unset, .unset, .unset] [(.int (1 : Int32))])) _
            refine XS.goto X0.here hx rfl (pc0 := 51) (pc' := 55) rfl (hb hby at_51) (by decide) (by decide) ?_
            show Steps p.tables e below (s₁.setTop (mkF m 55 #[.val (.long q0), .second, .val (.int p1), .val (.long mm), .second, .val (.int (p1 &&& (3 : Int32))), .val (.int (0 : Int32)), .unset, .unset, .unset, .unset, .unset] [(.int (1 : Int32))])) _
            refine XS.istore X0.here hx rfl (hb hby at_55) rfl (l' := #[.val (.long q0), .second, .val (.int p1), .val (.long mm), .second, .val (.int (p1 &&& (3 : Int32))), .val (.int (0 : Int32)), .val (.int (1 : Int32)), .unset, .unset, .unset, .unset]) rfl ?_
            show Steps p.tables e below (s₁.setTop (mkF m 57 #[.val (.long q0), .second, .val (.int p1), .val (.long mm), .second, .val (.int (p1 &&& (3 : Int32))), .val (.int (0 : Int32)), .val (.int (1 : Int32)), .unset, .unset, .unset, .unset] [])) _
            refine XS.iload X0.here hx rfl (hb hby at_57) rfl ?_
            show Steps p.tables e below (s₁.setTop (mkF m 59 #[.val (.long q0), .second, .val (.int p1), .val (.long mm), .second, .val (.int (p1 &&& (3 : Int32))), .val (.int (0 : Int32)), .val (.int (1 : Int32)), .unset, .unset, .unset, .unset] [(.int (0 : Int32))])) _
            refine XS.ifYes X0.here hx rfl (pc0 := 59) (pc' := 66) rfl (hb hby at_59) rfl ((if0 _ _).trans (teq (by decide : (0 : Int32) = (0 : Int32))).1) (by decide) (by decide) ?_
            show Steps p.tables e below (s₁.setTop (mkF m 66 #[.val (.long q0), .second, .val (.int p1), .val (.long mm), .second, .val (.int (p1 &&& (3 : Int32))), .val (.int (0 : Int32)), .val (.int (1 : Int32)), .unset, .unset, .unset, .unset] [])) _
            refine XS.lloadN X0.here hx rfl (hb hby at_66) rfl ?_
            show Steps p.tables e below (s₁.setTop (mkF m 67 #[.val (.long q0), .second, .val (.int p1), .val (.long mm), .second, .val (.int (p1 &&& (3 : Int32))), .val (.int (0 : Int32)), .val (.int (1 : Int32)), .unset, .unset, .unset, .unset] [(.long mm)])) _
            refine XS.lneg X0.here hx rfl (hb hby at_67) rfl ?_
            show Steps p.tables e below (s₁.setTop (mkF m 68 #[.val (.long q0), .second, .val (.int p1), .val (.long mm), .second, .val (.int (p1 &&& (3 : Int32))), .val (.int (0 : Int32)), .val (.int (1 : Int32)), .unset, .unset, .unset, .unset] [(.long (-mm))])) _
            refine XS.lstore X0.here hx rfl (hb hby at_68) rfl (l' := #[.val (.long q0), .second, .val (.int p1), .val (.long mm), .second, .val (.int (p1 &&& (3 : Int32))), .val (.int (0 : Int32)), .val (.int (1 : Int32)), .val (.long (-mm)), .second, .unset, .unset]) rfl ?_
            show Steps p.tables e below (s₁.setTop (mkF m 70 #[.val (.long q0), .second, .val (.int p1), .val (.long mm), .second, .val (.int (p1 &&& (3 : Int32))), .val (.int (0 : Int32)), .val (.int (1 : Int32)), .val (.long (-mm)), .second, .unset, .unset] [])) _
            refine XS.iload X0.here hx rfl (hb hby at_70) rfl ?_
            show Steps p.tables e below (s₁.setTop (mkF m 72 #[.val (.long q0), .second, .val (.int p1), .val (.long mm), .second, .val (.int (p1 &&& (3 : Int32))), .val (.int (0 : Int32)), .val (.int (1 : Int32)), .val (.long (-mm)), .second, .unset, .unset] [(.int (0 : Int32))])) _
            refine XS.ifNo X0.here hx rfl (hb hby at_72) rfl ((if0 _ _).trans (teq (by decide : (0 : Int32) = (0 : Int32))).2) ?_
            show Steps p.tables e below (s₁.setTop (mkF m 75 #[.val (.long q0), .second, .val (.int p1), .val (.long mm), .second, .val (.int (p1 &&& (3 : Int32))), .val (.int (0 : Int32)), .val (.int (1 : Int32)), .val (.long (-mm)), .second, .unset, .unset] [])) _
            refine XS.iload X0.here hx rfl (hb hby at_75) rfl ?_
            show Steps p.tables e below (s₁.setTop (mkF m 77 #[.val (.long q0), .second, .val (.int p1), .val (.long mm), .second, .val (.int (p1 &&& (3 : Int32))), .val (.int (0 : Int32)), .val (.int (1 : Int32)), .val (.long (-mm)), .second, .unset, .unset] [(.int (1 : Int32))])) _
            refine XS.ifNo X0.here hx rfl (hb hby at_77) rfl ((if0 _ _).trans (feq (by decide : ¬ ((1 : Int32) = (0 : Int32)))).1) ?_
            show Steps p.tables e below (s₁.setTop (mkF m 80 #[.val (.long q0), .second, .val (.int p1), .val (.long mm), .second, .val (.int (p1 &&& (3 : Int32))), .val (.int (0 : Int32)), .val (.int (1 : Int32)), .val (.long (-mm)), .second, .unset, .unset] [])) _
            refine XS.bipush X0.here hx rfl (hb hby at_80) ?_
            exact kt
          obtain ⟨T30, h30, k30, X30, e30, E30, A30, st30⟩ := newP X0 hx hZ (hw _ (List.mem_of_getElem? (i := 0) rfl)) e0 (g := (mkF m 82 #[.val (.long q0), .second, .val (.int p1), .val (.long mm), .second, .val (.int (p1 &&& (3 : Int32))), .val (.int (0 : Int32)), .val (.int (1 : Int32)), .val (.long (-mm)), .second, .unset, .unset] [(.int (20 : Int32))])) rfl (hb hby at_82) rfl (by decide) (cap := 20) (by decide) (by decide) (by decide) (by decide)
          obtain ⟨b30, g30⟩ : ∃ z, z = h0.size := ⟨_, rfl⟩
          rw [← g30] at A30 st30
          have g_b30 : n0 ≤ b30 := Nat.le_trans Z0 (Nat.le_of_eq g30.symm)
          have sz_b30 : h0.size ≤ b30 := Nat.le_trans (Keep.refl h0 []).1 (Nat.le_of_eq g30.symm)
          have V30 : Arv Z h30 b30 k30 .char (20 : Int32) [(.int (0 : Int32)), (.int (0 : Int32)), (.int (0 : Int32)), (.int (0 : Int32)), (.int (0 : Int32)), (.int (0 : Int32)), (.int (0 : Int32)), (.int (0 : Int32)), (.int (0 : Int32)), (.int (0 : Int32)), (.int (0 : Int32)), (.int (0 : Int32)), (.int (0 : Int32)), (.int (0 : Int32)), (.int (0 : Int32)), (.int (0 : Int32)), (.int (0 : Int32)), (.int (0 : Int32)), (.int (0 : Int32)), (.int (0 : Int32))] (.int (0 : Int32)) := (Arv.new A30 (by decide)).pad (pad_rep [] (.int (0 : Int32)) 20)
          have c32 : ∀ t, Steps p.tables e below (T30.setTop (mkF m 101 #[.val (.long q0), .second, .val (.int p1), .val (.long mm), .second, .val (.int (p1 &&& (3 : Int32))), .val (.int (0 : Int32)), .val (.int (1 : Int32)), .val (.long (-mm)), .second, .unset, .val (.ref b30)] [(.int (43 : Int32)), (.int (0 : Int32)), (.ref b30)])) t → Steps p.tables e below (T30.setTop (mkF m 84 #[.val (.long q0), .second, .val (.int p1), .val (.long mm), .second, .val (.int (p1 &&& (3 : Int32))), .val (.int (0 : Int32)), .val (.int (1 : Int32)), .val (.long (-mm)), .second, .unset, .unset] [(.ref b30)])) t := by
            intro t kt
            show Steps p.tables e below (T30.setTop (mkF m 84 #[.val (.long q0), .second, .val (.int p1), .val (.long mm), .second, .val (.int (p1 &&& (3 : Int32))), .val (.int (0 : Int32)), .val (.int (1 : Int32)), .val (.long (-mm)), .second, .unset, .unset] [(.ref b30)])) _
            refine XS.astore X30.here hx rfl (hb hby at_84) rfl rfl (l' := #[.val (.long q0), .second, .val (.int p1), .val (.long mm), .second, .val (.int (p1 &&& (3 : Int32))), .val (.int (0 : Int32)), .val (.int (1 : Int32)), .val (.long (-mm)), .second, .unset, .val (.ref b30)]) rfl ?_
            show Steps p.tables e below (T30.setTop (mkF m 86 #[.val (.long q0), .second, .val (.int p1), .val (.long mm), .second, .val (.int (p1 &&& (3 : Int32))), .val (.int (0 : Int32)), .val (.int (1 : Int32)), .val (.long (-mm)), .second, .unset, .val (.ref b30)] [])) _
            refine XS.aload X30.here hx rfl (hb hby at_86) rfl rfl ?_
            show Steps p.tables e below (T30.setTop (mkF m 88 #[.val (.long q0), .second, .val (.int p1), .val (.long mm), .second, .val (.int (p1 &&& (3 : Int32))), .val (.int (0 : Int32)), .val (.int (1 : Int32)), .val (.long (-mm)), .second, .unset, .val (.ref b30)] [(.ref b30)])) _
            refine XS.iconst X30.here hx rfl (hb hby at_88) ?_
            show Steps p.tables e below (T30.setTop (mkF m 89 #[.val (.long q0), .second, .val (.int p1), .val (.long mm), .second, .val (.int (p1 &&& (3 : Int32))), .val (.int (0 : Int32)), .val (.int (1 : Int32)), .val (.long (-mm)), .second, .unset, .val (.ref b30)] [(.int (0 : Int32)), (.ref b30)])) _
            refine XS.iload X30.here hx rfl (hb hby at_89) rfl ?_
            show Steps p.tables e below (T30.setTop (mkF m 91 #[.val (.long q0), .second, .val (.int p1), .val (.long mm), .second, .val (.int (p1 &&& (3 : Int32))), .val (.int (0 : Int32)), .val (.int (1 : Int32)), .val (.long (-mm)), .second, .unset, .val (.ref b30)] [(.int (0 : Int32)), (.int (0 : Int32)), (.ref b30)])) _
            refine XS.ifYes X30.here hx rfl (pc0 := 91) (pc' := 99) rfl (hb hby at_91) rfl ((if0 _ _).trans (teq (by decide : (0 : Int32) = (0 : Int32))).1) (by decide) (by decide) ?_
            show Steps p.tables e below (T30.setTop (mkF m 99 #[.val (.long q0), .second, .val (.int p1), .val (.long mm), .second, .val (.int (p1 &&& (3 : Int32))), .val (.int (0 : Int32)), .val (.int (1 : Int32)), .val (.long (-mm)), .second, .unset, .val (.ref b30)] [(.int (0 : Int32)), (.ref b30)])) _
            refine XS.bipush X30.here hx rfl (hb hby at_99) ?_
            exact kt
          have Vc33 := V30
          obtain ⟨cl33, Ar33, qk33, S33, M33, H33, G33⟩ := Vc33
          have hin33 : ¬ ((0 : Int32) < 0 ∨ cl33.slots.size ≤ ((0 : Int32)).toNatClampNeg) := inb_of S33 ⟨by decide, by decide⟩
          obtain ⟨T34, h34, X34, e34, W34, st34⟩ := stC X30 hx hZ e30 Ar33 (j := (0 : Int32)) hin33 (g := (mkF m 101 #[.val (.long q0), .second, .val (.int p1), .val (.long mm), .second, .val (.int (p1 &&& (3 : Int32))), .val (.int (0 : Int32)), .val (.int (1 : Int32)), .val (.long (-mm)), .second, .unset, .val (.ref b30)] [(.int (43 : Int32)), (.int (0 : Int32)), (.ref b30)])) rfl rfl (hb hby at_101)
          have V34 : Arv Z h34 b30 k30 .char (20 : Int32) [(.int ((43 : Int32).toUInt32.toUInt16.toUInt32.toInt32)), (.int (0 : Int32)), (.int (0 : Int32)), (.int (0 : Int32)), (.int (0 : Int32)), (.int (0 : Int32)), (.int (0 : Int32)), (.int (0 : Int32)), (.int (0 : Int32)), (.int (0 : Int32)), (.int (0 : Int32)), (.int (0 : Int32)), (.int (0 : Int32)), (.int (0 : Int32)), (.int (0 : Int32)), (.int (0 : Int32)), (.int (0 : Int32)), (.int (0 : Int32)), (.int (0 : Int32)), (.int (0 : Int32))] (.int (0 : Int32)) := Arv.set Ar33 qk33 S33 M33 H33 G33 (fits_nar_char _) W34 0 rfl (Nat.le_of_ble_eq_true rfl)
          have N34 := Fr.snoc X34 N0 g_b30
          have c35 : ∀ t, Steps p.tables e below (T34.setTop (mkF m 106 #[.val (.long q0), .second, .val (.int p1), .val (.long mm), .second, .val (.int (p1 &&& (3 : Int32))), .val (.int (0 : Int32)), .val (.int (1 : Int32)), .val (.long (-mm)), .second, .unset, .val (.ref b30)] [(.long mm), (.int (1 : Int32)), (.ref b30)])) t → Steps p.tables e below (T34.setTop (mkF m 102 #[.val (.long q0), .second, .val (.int p1), .val (.long mm), .second, .val (.int (p1 &&& (3 : Int32))), .val (.int (0 : Int32)), .val (.int (1 : Int32)), .val (.long (-mm)), .second, .unset, .val (.ref b30)] [])) t := by
            intro t kt
            show Steps p.tables e below (T34.setTop (mkF m 102 #[.val (.long q0), .second, .val (.int p1), .val (.long mm), .second, .val (.int (p1 &&& (3 : Int32))), .val (.int (0 : Int32)), .val (.int (1 : Int32)), .val (.long (-mm)), .second, .unset, .val (.ref b30)] [])) _
            refine XS.aload X34.here hx rfl (hb hby at_102) rfl rfl ?_
            show Steps p.tables e below (T34.setTop (mkF m 104 #[.val (.long q0), .second, .val (.int p1), .val (.long mm), .second, .val (.int (p1 &&& (3 : Int32))), .val (.int (0 : Int32)), .val (.int (1 : Int32)), .val (.long (-mm)), .second, .unset, .val (.ref b30)] [(.ref b30)])) _
            refine XS.iconst X34.here hx rfl (hb hby at_104) ?_
            show Steps p.tables e below (T34.setTop (mkF m 105 #[.val (.long q0), .second, .val (.int p1), .val (.long mm), .second, .val (.int (p1 &&& (3 : Int32))), .val (.int (0 : Int32)), .val (.int (1 : Int32)), .val (.long (-mm)), .second, .unset, .val (.ref b30)] [(.int (1 : Int32)), (.ref b30)])) _
            refine XS.lloadN X34.here hx rfl (hb hby at_105) rfl ?_
            exact kt
          have f36 := (Nat.le_trans (Nat.le_trans Z0 E30.1) (Keep.of_wr W34).1)
          obtain ⟨_, _, ⟨T37, L37, k37, n37⟩, -, X37, ⟨Lc37, hQ37, l37, y37, z37⟩, st37⟩ := Jvm.LawKit.callS X34 hx (y := (⟨"com/example/sequence_set/sequenceset/cli/DecimalParserAcceptPinLaw", "fill", "([CIJ)V"⟩ : MethodName)) hown (mvT hZ (hw _ (List.mem_of_getElem? (i := 1) rfl))) (mvT hZ (hw _ (List.mem_of_getElem? (i := 2) rfl))) (mvT hZ (hw _ (List.mem_of_getElem? (i := 3) rfl))) (mvT hZ (hw _ (List.mem_of_getElem? (i := 4) rfl))) (by decide) (backOf (W := 0) (rm1_1 l Z a0 hw []  b30 mm k30 ((43 : Int32).toUInt32.toUInt16.toUInt32.toInt32) h34 n0 f36 V34 g_b30) hZ (hw _ (List.mem_of_getElem? (i := 4) rfl)) (hw _ (List.mem_of_getElem? (i := 3) rfl)) (by decide) (by decide)) (g := (mkF m 106 #[.val (.long q0), .second, .val (.int p1), .val (.long mm), .second, .val (.int (p1 &&& (3 : Int32))), .val (.int (0 : Int32)), .val (.int (1 : Int32)), .val (.long (-mm)), .second, .unset, .val (.ref b30)] [(.long mm), (.int (1 : Int32)), (.ref b30)])) rfl (by rw [hml]; rfl) (argsL := [(.ref b30), (.int (1 : Int32)), (.long mm)]) (rest := []) (lenOf pd_11 rfl) rfl (by show 2 * 0 + _ ≤ _; exact Nat.le_of_eq rfl) (hb hby at_106) (fun _ _ => ⟨rfl, e34, (by decide : 1 + 0 ≤ _), (by decide : 20 + 0 ≤ _)⟩)
          dsimp only [Pt.U, Pt.locs, Pt.cells, Pt.slots] at X37 l37 y37 z37 st37 hQ37
          subst l37 y37 z37
          obtain ⟨rfl, N37q, Kq37, Vq37⟩ := hQ37
          have N37 := Fr.app N34 N37q
          obtain ⟨Go37, X37, N37⟩ := own_opq X37 N37
          obtain ⟨T38, h38, X38, e38, E38, A38, D38, U38, st38⟩ := newO X37 hx hZ hown (hw _ (List.mem_of_getElem? (i := 26) rfl)) (hw _ (List.mem_of_getElem? (i := 27) rfl)) (hw _ (List.mem_of_getElem? (i := 28) rfl)) rfl (g := (mkF m 109 #[.val (.long q0), .second, .val (.int p1), .val (.long mm), .second, .val (.int (p1 &&& (3 : Int32))), .val (.int (0 : Int32)), .val (.int (1 : Int32)), .val (.long (-mm)), .second, .unset, .val (.ref b30)] [])) rfl (hb hby at_109) (by decide) (by decide)
          obtain ⟨b38, g38⟩ : ∃ z, z = T37.heap.size := ⟨_, rfl⟩
          rw [← g38] at A38 D38 U38 st38
          have f39 := (Nat.le_trans f36 Kq37.1)
          have f40 := ((((Keep.refl h0 []).ext E30).wr W34 (Or.inr sz_b30)).trans Kq37 (allS (Or.inr sz_b30) all0))
          have g_b38 : n0 ≤ b38 := Nat.le_trans f39 (Nat.le_of_eq g38.symm)
          have sz_b38 : h0.size ≤ b38 := Nat.le_trans f40.1 (Nat.le_of_eq g38.symm)
          have lt_b30_38 := Vq37.lt
          have F38_coder : Fld Z h38 b38 "java/lang/String" "coder" "B" (.int (0 : Int32)) := D38 (Or.inr (hw _ (List.mem_of_getElem? (i := 52) rfl))) (ty := .byte) (by decide)
          have F38_value : Fld Z h38 b38 "java/lang/String" "value" "[B" .null := D38 (Or.inr (hw _ (List.mem_of_getElem? (i := 54) rfl))) (ty := (.array .byte)) (by decide)
          have c41 : ∀ t, Steps p.tables e below (T38.setTop (mkF m 115 #[.val (.long q0), .second, .val (.int p1), .val (.long mm), .second, .val (.int (p1 &&& (3 : Int32))), .val (.int (0 : Int32)), .val (.int (1 : Int32)), .val (.long (-mm)), .second, .unset, .val (.ref b30)] [(.ref b30), (.ref b38), (.ref b38)])) t → Steps p.tables e below (T38.setTop (mkF m 112 #[.val (.long q0), .second, .val (.int p1), .val (.long mm), .second, .val (.int (p1 &&& (3 : Int32))), .val (.int (0 : Int32)), .val (.int (1 : Int32)), .val (.long (-mm)), .second, .unset, .val (.ref b30)] [(.ref b38)])) t := by
            intro t kt
            show Steps p.tables e below (T38.setTop (mkF m 112 #[.val (.long q0), .second, .val (.int p1), .val (.long mm), .second, .val (.int (p1 &&& (3 : Int32))), .val (.int (0 : Int32)), .val (.int (1 : Int32)), .val (.long (-mm)), .second, .unset, .val (.ref b30)] [(.ref b38)])) _
            refine XS.dup X38.here hx rfl (hb hby at_112) rfl rfl ?_
            show Steps p.tables e below (T38.setTop (mkF m 113 #[.val (.long q0), .second, .val (.int p1), .val (.long mm), .second, .val (.int (p1 &&& (3 : Int32))), .val (.int (0 : Int32)), .val (.int (1 : Int32)), .val (.long (-mm)), .second, .unset, .val (.ref b30)] [(.ref b38), (.ref b38)])) _
            refine XS.aload X38.here hx rfl (hb hby at_113) rfl rfl ?_
            exact kt
          have f42 := (Nat.le_trans f39 E38.1)
          have f43 := (Vq37.ext E38)
          have f44 := ((((O0.ext E30).wr W34 g_b30).keep Kq37 (allS g_b30 all0)).ext E38)
          obtain ⟨_, _, ⟨T45, L45, k45, n45⟩, -, X45, ⟨Lc45, hQ45, l45, y45, z45⟩, st45⟩ := X38.specialBack hx (y := (⟨"java/lang/String", "<init>", "([C)V"⟩ : MethodName)) rfl hown (mvT hZ (hw _ (List.mem_of_getElem? (i := 29) rfl))) (mvT hZ (hw _ (List.mem_of_getElem? (i := 30) rfl))) (mvT hZ (hw _ (List.mem_of_getElem? (i := 31) rfl))) (by decide) (StrChars.Road.backV (W := 1) hZ hws (kI := 4) (hw _ (List.mem_of_getElem? (i := 27) rfl)) (cs := (own_c20 ((43 : Int32).toUInt32.toUInt16.toUInt32.toInt32) mm)) (bs := ((own_c20 ((43 : Int32).toUInt32.toUInt16.toUInt32.toInt32) mm)).map (fun c => c.toInt8.toInt32)) (n := 20) g_b38 f42 A38 F38_value F38_coder f43 (SC.ext f44.2) hcs rfl rfl (by decide) (by decide) (own_hp20 _ mm (by decide) hm) rfl (by decide) (by decide)) (g := (mkF m 115 #[.val (.long q0), .second, .val (.int p1), .val (.long mm), .second, .val (.int (p1 &&& (3 : Int32))), .val (.int (0 : Int32)), .val (.int (1 : Int32)), .val (.long (-mm)), .second, .unset, .val (.ref b30)] [(.ref b30), (.ref b38), (.ref b38)])) rfl (by rw [hml]; rfl) (Steps.refl _) (a := b38) (argsL := [(.ref b30)]) (rest := [(.ref b38)]) (lenOf pd_12 rfl) rfl (by show 2 * 0 + _ ≤ _; exact Nat.le_of_eq rfl) (hb hby at_115) (fun _ _ => ⟨rfl, e38, (by decide : 2 + 1 ≤ _), (by decide : 24 + 20 ≤ _)⟩)
          dsimp only [Pt.U, Pt.locs, Pt.cells, Pt.slots] at X45 l45 y45 z45 st45 hQ45
          subst l45 y45 z45
          obtain ⟨rfl, N45q, Kq45, Eq45, Fc45, ot45, kb45, g_ot45, szq45, nt45, Fv45, Vb45⟩ := hQ45
          have N45 := Fr.app N37 N45q
          have lt_b30_45 := f43.lt
          have lt_b38_45 := A38.lt
          have f46 := (f40.ext E38)
          have sz_ot45 : h0.size ≤ ot45 := Nat.le_trans f46.1 szq45
          obtain ⟨Go45, X45, N45⟩ := own_opq X45 N45
          have c47 : ∀ t, Steps p.tables e below (T45.setTop (mkF m 149 #[.val (.long q0), .second, .val (.int p1), .val (.long mm), .second, .val (.int (p1 &&& (3 : Int32))), .val (.int (0 : Int32)), .val (.int (1 : Int32)), .val (.long (-mm)), .second, .val (.ref b38), .val (.ref b30)] [(.ref b38)])) t → Steps p.tables e below (T45.setTop (mkF m 118 #[.val (.long q0), .second, .val (.int p1), .val (.long mm), .second, .val (.int (p1 &&& (3 : Int32))), .val (.int (0 : Int32)), .val (.int (1 : Int32)), .val (.long (-mm)), .second, .unset, .val (.ref b30)] [(.ref b38)])) t := by
            intro t kt
            show Steps p.tables e below (T45.setTop (mkF m 118 #[.val (.long q0), .second, .val (.int p1), .val (.long mm), .second, .val (.int (p1 &&& (3 : Int32))), .val (.int (0 : Int32)), .val (.int (1 : Int32)), .val (.long (-mm)), .second, .unset, .val (.ref b30)] [(.ref b38)])) _
            refine XS.astore X45.here hx rfl (hb hby at_118) rfl rfl (l' := #[.val (.long q0), .second, .val (.int p1), .val (.long mm), .second, .val (.int (p1 &&& (3 : Int32))), .val (.int (0 : Int32)), .val (.int (1 : Int32)), .val (.long (-mm)), .second, .val (.ref b38), .val (.ref b30)]) rfl ?_
            show Steps p.tables e below (T45.setTop (mkF m 120 #[.val (.long q0), .second, .val (.int p1), .val (.long mm), .second, .val (.int (p1 &&& (3 : Int32))), .val (.int (0 : Int32)), .val (.int (1 : Int32)), .val (.long (-mm)), .second, .val (.ref b38), .val (.ref b30)] [])) _
            refine XS.goto X45.here hx rfl (pc0 := 120) (pc' := 147) rfl (hb hby at_120) (by decide) (by decide) ?_
            show Steps p.tables e below (T45.setTop (mkF m 147 #[.val (.long q0), .second, .val (.int p1), .val (.long mm), .second, .val (.int (p1 &&& (3 : Int32))), .val (.int (0 : Int32)), .val (.int (1 : Int32)), .val (.long (-mm)), .second, .val (.ref b38), .val (.ref b30)] [])) _
            refine XS.aload X45.here hx rfl (hb hby at_147) rfl rfl ?_
            exact kt
          have f48 := (Nat.le_trans f42 Kq45.1)
          have hsg : ((43 : Int32).toUInt32.toUInt16.toUInt32.toInt32) = 45 ∨ ((43 : Int32).toUInt32.toUInt16.toUInt32.toInt32) = 43 := by decide
          have f49 := (f44.keep Kq45 (allS g_b38 all0))
          obtain ⟨_, _, ⟨T50, L50, k50, n50⟩, -, X50, ⟨Lc50, hQ50, l50, y50, z50⟩, st50⟩ := Jvm.LawKit.callS X45 hx (y := (⟨"com/example/sequence_set/sequenceset/cli/DecimalParser", "parse", "(Ljava/lang/String;)J"⟩ : MethodName)) hown (mvT hZ (hw _ (List.mem_of_getElem? (i := 55) rfl))) (mvT hZ (hw _ (List.mem_of_getElem? (i := 56) rfl))) (mvT hZ (hw _ (List.mem_of_getElem? (i := 57) rfl))) (mvT hZ (hw _ (List.mem_of_getElem? (i := 58) rfl))) (by decide) (backOf (W := 0) (rm9 l Z a0 hw [] b38 ot45 kb45 (own_c20 ((43 : Int32).toUInt32.toUInt16.toUInt32.toInt32) mm) cs fm (-mm) T45.heap n0 f48 f49 SC hcs SF hfm (by show own_val (own_run (own_c20 ((43 : Int32).toUInt32.toUInt16.toUInt32.toInt32) mm) 20).1 (own_run (own_c20 ((43 : Int32).toUInt32.toUInt16.toUInt32.toInt32) mm) 20).2.1 = _; rw [show own_run (own_c20 ((43 : Int32).toUInt32.toUInt16.toUInt32.toInt32) mm) 20 = _ from (own_e20 _ mm hsg hm)]; exact own_v43 _) Eq45 Fv45 Fc45 Vb45 (Nat.le_of_ble_eq_true rfl) (own_hp20 _ mm (by decide) hm) (own_all20 _ mm hsg hm) (by show ¬ (own_run (own_c20 ((43 : Int32).toUInt32.toUInt16.toUInt32.toInt32) mm) 20).2.2 = 0; rw [show own_run (own_c20 ((43 : Int32).toUInt32.toUInt16.toUInt32.toInt32) mm) 20 = _ from (own_e20 _ mm hsg hm)]; exact own_nz) (by show (own_run (own_c20 ((43 : Int32).toUInt32.toUInt16.toUInt32.toInt32) mm) 20).2.1 = 0 → ¬ (own_run (own_c20 ((43 : Int32).toUInt32.toUInt16.toUInt32.toInt32) mm) 20).1 = (-9223372036854775808 : Int64); rw [show own_run (own_c20 ((43 : Int32).toUInt32.toUInt16.toUInt32.toInt32) mm) 20 = _ from (own_e20 _ mm hsg hm)]; exact fun _ => hc29)) hZ (hw _ (List.mem_of_getElem? (i := 58) rfl)) (hw _ (List.mem_of_getElem? (i := 57) rfl)) (by decide) (by decide)) (g := (mkF m 149 #[.val (.long q0), .second, .val (.int p1), .val (.long mm), .second, .val (.int (p1 &&& (3 : Int32))), .val (.int (0 : Int32)), .val (.int (1 : Int32)), .val (.long (-mm)), .second, .val (.ref b38), .val (.ref b30)] [(.ref b38)])) rfl (by rw [hml]; rfl) (argsL := [(.ref b38)]) (rest := []) (lenOf pd_13 rfl) rfl (by show 2 * 0 + _ ≤ _; exact Nat.le_of_eq rfl) (hb hby at_149) (fun _ _ => ⟨rfl, rfl, (by decide : 3 + 1 ≤ _), (by decide : 44 + 6 ≤ _)⟩)
          dsimp only [Pt.U, Pt.locs, Pt.cells, Pt.slots] at X50 l50 y50 z50 st50 hQ50
          subst l50 y50 z50
          obtain ⟨rfl, N50q, Kq50⟩ := hQ50
          have N50 := Fr.app N45 N50q
          obtain ⟨Go50, X50, N50⟩ := own_opq X50 N50
          have c51 : ∀ t, Steps p.tables e below (T50.setTop (mkF m 163 #[.val (.long q0), .second, .val (.int p1), .val (.long mm), .second, .val (.int (p1 &&& (3 : Int32))), .val (.int (0 : Int32)), .val (.int (1 : Int32)), .val (.long (-mm)), .second, .val (.ref b38), .val (.ref b30)] [(.int (1 : Int32))])) t → Steps p.tables e below (T50.setTop (mkF m 152 #[.val (.long q0), .second, .val (.int p1), .val (.long mm), .second, .val (.int (p1 &&& (3 : Int32))), .val (.int (0 : Int32)), .val (.int (1 : Int32)), .val (.long (-mm)), .second, .val (.ref b38), .val (.ref b30)] [(.long (-mm))])) t := by
            intro t kt
            show Steps p.tables e below (T50.setTop (mkF m 152 #[.val (.long q0), .second, .val (.int p1), .val (.long mm), .second, .val (.int (p1 &&& (3 : Int32))), .val (.int (0 : Int32)), .val (.int (1 : Int32)), .val (.long (-mm)), .second, .val (.ref b38), .val (.ref b30)] [(.long (-mm))])) _
            refine XS.lload X50.here hx rfl (hb hby at_152) rfl ?_
            show Steps p.tables e below (T50.setTop (mkF m 154 #[.val (.long q0), .second, .val (.int p1), .val (.long mm), .second, .val (.int (p1 &&& (3 : Int32))), .val (.int (0 : Int32)), .val (.int (1 : Int32)), .val (.long (-mm)), .second, .val (.ref b38), .val (.ref b30)] [(.long (-mm)), (.long (-mm))])) _
            refine XS.lcmp X50.here hx rfl (hb hby at_154) rfl ?_
            show Steps p.tables e below (T50.setTop (mkF m 155 #[.val (.long q0), .second, .val (.int p1), .val (.long mm), .second, .val (.int (p1 &&& (3 : Int32))), .val (.int (0 : Int32)), .val (.int (1 : Int32)), .val (.long (-mm)), .second, .val (.ref b38), .val (.ref b30)] [(.int (lcmpW (-mm) (-mm)))])) _
            refine XS.ifNo X50.here hx rfl (hb hby at_155) rfl ((if0 _ _).trans (teq ((lw_eq _ _).mpr (rfl : (-mm) = (-mm)))).2) ?_
            show Steps p.tables e below (T50.setTop (mkF m 158 #[.val (.long q0), .second, .val (.int p1), .val (.long mm), .second, .val (.int (p1 &&& (3 : Int32))), .val (.int (0 : Int32)), .val (.int (1 : Int32)), .val (.long (-mm)), .second, .val (.ref b38), .val (.ref b30)] [])) _
            refine XS.iconst X50.here hx rfl (hb hby at_158) ?_
            show Steps p.tables e below (T50.setTop (mkF m 159 #[.val (.long q0), .second, .val (.int p1), .val (.long mm), .second, .val (.int (p1 &&& (3 : Int32))), .val (.int (0 : Int32)), .val (.int (1 : Int32)), .val (.long (-mm)), .second, .val (.ref b38), .val (.ref b30)] [(.int (1 : Int32))])) _
            refine XS.goto X50.here hx rfl (pc0 := 159) (pc' := 163) rfl (hb hby at_159) (by decide) (by decide) ?_
            exact kt
          obtain ⟨fs, hr, hrun, hended, hW, hsame⟩ := X50.leave (v := some (.int (1 : Int32))) (fun h => by rw [Bd.returns] at h; cases h)
          refine ⟨_, _, pre0 _ (c1 _ (c2 _ (c3 _ (c4 _ (c5 _ (c29 _ (c31 _ (st30 _ (c32 _ (st34 _ (c35 _ (st37 _ (st38 _ (c41 _ (st45.trans (c47 _ (st50 _ (c51 _ (?_))))))))))))))))))), hrun, hended, _, _, rfl, ?_, ⟨_, rfl⟩, hW, hsame.mono (by decide) (by decide)⟩
          · show Steps p.tables e below (T50.setTop (mkF m 163 #[.val (.long q0), .second, .val (.int p1), .val (.long mm), .second, .val (.int (p1 &&& (3 : Int32))), .val (.int (0 : Int32)), .val (.int (1 : Int32)), .val (.long (-mm)), .second, .val (.ref b38), .val (.ref b30)] [(.int (1 : Int32))])) _
            exact retN X50 hx (t := .boolean) Bd.returns (by simp) (hb hby at_163) hr
          · show Q0 Z q0 p1 cs fm h0 n0 _ T50.heap _
            exact ⟨congrArg (fun z => some (Value.int z)) (show (1 : Int32) = (1 : Int32) from by rfl), N50⟩
        · -- it isn't
          have c54 : ∀ t, Steps p.tables e below (s₁.setTop (mkF m 125 #[.val (.long q0), .second, .val (.int p1), .val (.long mm), .second, .val (.int (p1 &&& (3 : Int32))), .val (.int (0 : Int32)), .val (.int (0 : Int32)), .val (.long (-mm)), .second, .unset, .unset] [(.int (19 : Int32))])) t → Steps p.tables e below (s₁.setTop (mkF m 47 #[.val (.long q0), .second, .val (.int p1), .val (.long mm), .second, .val (.int (p1 &&& (3 : Int32))), .val (.int (0 : Int32)), .unset, .unset, .unset, .unset, .unset] [(.int (1 : Int32)), (.int (p1 &&& (3 : Int32)))])) t := by
            intro t kt
            show Steps p.tables e below (s₁.setTop (mkF m 47 #[.val (.long q0), .second, .val (.int p1), .val (.long mm), .second, .val (.int (p1 &&& (3 : Int32))), .val (.int (0 : Int32)), .unset, .unset, .unset, .unset, .unset] [(.int (1 : Int32)), (.int (p1 &&& (3 : Int32)))])) _
            refine XS.icmpYes X0.here hx rfl (pc0 := 47) (pc' := 54) rfl (hb hby at_47) rfl (feq hc47).2 (by decide) (by decide) ?_
            show Steps p.tables e below (s₁.setTop (mkF m 54 #[.val (.long q0), .second, .val (.int p1), .val (.long mm), .second, .val (.int (p1 &&& (3 : Int32))), .val (.int (0 : Int32)), .unset, .unset, .unset, .unset, .unset] [])) _
            refine XS.iconst X0.here hx rfl (hb hby at_54) ?_
            show Steps p.tables e below (s₁.setTop (mkF m 55 #[.val (.long q0), .second, .val (.int p1), .val (.long mm), .second, .val (.int (p1 &&& (3 : Int32))), .val (.int (0 : Int32)), .unset, .unset, .unset, .unset, .unset] [(.int (0 : Int32))])) _
            refine XS.istore X0.here hx rfl (hb hby at_55) rfl (l' := #[.val (.long q0), .second, .val (.int p1), .val (.long mm), .second, .val (.int (p1 &&& (3 : Int32))), .val (.int (0 : Int32)), .val (.int (0 : Int32)), .unset, .unset, .unset, .unset]) rfl ?_
            show Steps p.tables e below (s₁.setTop (mkF m 57 #[.val (.long q0), .second, .val (.int p1), .val (.long mm), .second, .val (.int (p1 &&& (3 : Int32))), .val (.int (0 : Int32)), .val (.int (0 : Int32)), .unset, .unset, .unset, .unset] [])) _
            refine XS.iload X0.here hx rfl (hb hby at_57) rfl ?_
            show Steps p.tables e below (s₁.setTop (mkF m 59 #[.val (.long q0), .second, .val (.int p1), .val (.long mm), .second, .val (.int (p1 &&& (3 : Int32))), .val (.int (0 : Int32)), .val (.int (0 : Int32)), .unset, .unset, .unset, .unset] [(.int (0 : Int32))])) _
            refine XS.ifYes X0.here hx rfl (pc0 := 59) (pc' := 66) rfl (hb hby at_59) rfl ((if0 _ _).trans (teq (by decide : (0 : Int32) = (0 : Int32))).1) (by decide) (by decide) ?_
            show Steps p.tables e below (s₁.setTop (mkF m 66 #[.val (.long q0), .second, .val (.int p1), .val (.long mm), .second, .val (.int (p1 &&& (3 : Int32))), .val (.int (0 : Int32)), .val (.int (0 : Int32)), .unset, .unset, .unset, .unset] [])) _
            refine XS.lloadN X0.here hx rfl (hb hby at_66) rfl ?_
            show Steps p.tables e below (s₁.setTop (mkF m 67 #[.val (.long q0), .second, .val (.int p1), .val (.long mm), .second, .val (.int (p1 &&& (3 : Int32))), .val (.int (0 : Int32)), .val (.int (0 : Int32)), .unset, .unset, .unset, .unset] [(.long mm)])) _
            refine XS.lneg X0.here hx rfl (hb hby at_67) rfl ?_
            show Steps p.tables e below (s₁.setTop (mkF m 68 #[.val (.long q0), .second, .val (.int p1), .val (.long mm), .second, .val (.int (p1 &&& (3 : Int32))), .val (.int (0 : Int32)), .val (.int (0 : Int32)), .unset, .unset, .unset, .unset] [(.long (-mm))])) _
            refine XS.lstore X0.here hx rfl (hb hby at_68) rfl (l' := #[.val (.long q0), .second, .val (.int p1), .val (.long mm), .second, .val (.int (p1 &&& (3 : Int32))), .val (.int (0 : Int32)), .val (.int (0 : Int32)), .val (.long (-mm)), .second, .unset, .unset]) rfl ?_
            show Steps p.tables e below (s₁.setTop (mkF m 70 #[.val (.long q0), .second, .val (.int p1), .val (.long mm), .second, .val (.int (p1 &&& (3 : Int32))), .val (.int (0 : Int32)), .val (.int (0 : Int32)), .val (.long (-mm)), .second, .unset, .unset] [])) _
            refine XS.iload X0.here hx rfl (hb hby at_70) rfl ?_
            show Steps p.tables e below (s₁.setTop (mkF m 72 #[.val (.long q0), .second, .val (.int p1), .val (.long mm), .second, .val (.int (p1 &&& (3 : Int32))), .val (.int (0 : Int32)), .val (.int (0 : Int32)), .val (.long (-mm)), .second, .unset, .unset] [(.int (0 : Int32))])) _
            refine XS.ifNo X0.here hx rfl (hb hby at_72) rfl ((if0 _ _).trans (teq (by decide : (0 : Int32) = (0 : Int32))).2) ?_
            show Steps p.tables e below (s₁.setTop (mkF m 75 #[.val (.long q0), .second, .val (.int p1), .val (.long mm), .second, .val (.int (p1 &&& (3 : Int32))), .val (.int (0 : Int32)), .val (.int (0 : Int32)), .val (.long (-mm)), .second, .unset, .unset] [])) _
            refine XS.iload X0.here hx rfl (hb hby at_75) rfl ?_
            show Steps p.tables e below (s₁.setTop (mkF m 77 #[.val (.long q0), .second, .val (.int p1), .val (.long mm), .second, .val (.int (p1 &&& (3 : Int32))), .val (.int (0 : Int32)), .val (.int (0 : Int32)), .val (.long (-mm)), .second, .unset, .unset] [(.int (0 : Int32))])) _
            refine XS.ifYes X0.here hx rfl (pc0 := 77) (pc' := 123) rfl (hb hby at_77) rfl ((if0 _ _).trans (teq (by decide : (0 : Int32) = (0 : Int32))).1) (by decide) (by decide) ?_
            show Steps p.tables e below (s₁.setTop (mkF m 123 #[.val (.long q0), .second, .val (.int p1), .val (.long mm), .second, .val (.int (p1 &&& (3 : Int32))), .val (.int (0 : Int32)), .val (.int (0 : Int32)), .val (.long (-mm)), .second, .unset, .unset] [])) _
            refine XS.bipush X0.here hx rfl (hb hby at_123) ?_
            exact kt
          obtain ⟨T53, h53, k53, X53, e53, E53, A53, st53⟩ := newP X0 hx hZ (hw _ (List.mem_of_getElem? (i := 0) rfl)) e0 (g := (mkF m 125 #[.val (.long q0), .second, .val (.int p1), .val (.long mm), .second, .val (.int (p1 &&& (3 : Int32))), .val (.int (0 : Int32)), .val (.int (0 : Int32)), .val (.long (-mm)), .second, .unset, .unset] [(.int (19 : Int32))])) rfl (hb hby at_125) rfl (by decide) (cap := 19) (by decide) (by decide) (by decide) (by decide)
          obtain ⟨b53, g53⟩ : ∃ z, z = h0.size := ⟨_, rfl⟩
          rw [← g53] at A53 st53
          have g_b53 : n0 ≤ b53 := Nat.le_trans Z0 (Nat.le_of_eq g53.symm)
          have sz_b53 : h0.size ≤ b53 := Nat.le_trans (Keep.refl h0 []).1 (Nat.le_of_eq g53.symm)
          have V53 : Arv Z h53 b53 k53 .char (19 : Int32) [(.int (0 : Int32)), (.int (0 : Int32)), (.int (0 : Int32)), (.int (0 : Int32)), (.int (0 : Int32)), (.int (0 : Int32)), (.int (0 : Int32)), (.int (0 : Int32)), (.int (0 : Int32)), (.int (0 : Int32)), (.int (0 : Int32)), (.int (0 : Int32)), (.int (0 : Int32)), (.int (0 : Int32)), (.int (0 : Int32)), (.int (0 : Int32)), (.int (0 : Int32)), (.int (0 : Int32)), (.int (0 : Int32))] (.int (0 : Int32)) := (Arv.new A53 (by decide)).pad (pad_rep [] (.int (0 : Int32)) 19)
          have c55 : ∀ t, Steps p.tables e below (T53.setTop (mkF m 133 #[.val (.long q0), .second, .val (.int p1), .val (.long mm), .second, .val (.int (p1 &&& (3 : Int32))), .val (.int (0 : Int32)), .val (.int (0 : Int32)), .val (.long (-mm)), .second, .unset, .val (.ref b53)] [(.long mm), (.int (0 : Int32)), (.ref b53)])) t → Steps p.tables e below (T53.setTop (mkF m 127 #[.val (.long q0), .second, .val (.int p1), .val (.long mm), .second, .val (.int (p1 &&& (3 : Int32))), .val (.int (0 : Int32)), .val (.int (0 : Int32)), .val (.long (-mm)), .second, .unset, .unset] [(.ref b53)])) t := by
            intro t kt
            show Steps p.tables e below (T53.setTop (mkF m 127 #[.val (.long q0), .second, .val (.int p1), .val (.long mm), .second, .val (.int (p1 &&& (3 : Int32))), .val (.int (0 : Int32)), .val (.int (0 : Int32)), .val (.long (-mm)), .second, .unset, .unset] [(.ref b53)])) _
            refine XS.astore X53.here hx rfl (hb hby at_127) rfl rfl (l' := #[.val (.long q0), .second, .val (.int p1), .val (.long mm), .second, .val (.int (p1 &&& (3 : Int32))), .val (.int (0 : Int32)), .val (.int (0 : Int32)), .val (.long (-mm)), .second, .unset, .val (.ref b53)]) rfl ?_
            show Steps p.tables e below (T53.setTop (mkF m 129 #[.val (.long q0), .second, .val (.int p1), .val (.long mm), .second, .val (.int (p1 &&& (3 : Int32))), .val (.int (0 : Int32)), .val (.int (0 : Int32)), .val (.long (-mm)), .second, .unset, .val (.ref b53)] [])) _
            refine XS.aload X53.here hx rfl (hb hby at_129) rfl rfl ?_
            show Steps p.tables e below (T53.setTop (mkF m 131 #[.val (.long q0), .second, .val (.int p1), .val (.long mm), .second, .val (.int (p1 &&& (3 : Int32))), .val (.int (0 : Int32)), .val (.int (0 : Int32)), .val (.long (-mm)), .second, .unset, .val (.ref b53)] [(.ref b53)])) _
            refine XS.iconst X53.here hx rfl (hb hby at_131) ?_
            show Steps p.tables e below (T53.setTop (mkF m 132 #[.val (.long q0), .second, .val (.int p1), .val (.long mm), .second, .val (.int (p1 &&& (3 : Int32))), .val (.int (0 : Int32)), .val (.int (0 : Int32)), .val (.long (-mm)), .second, .unset, .val (.ref b53)] [(.int (0 : Int32)), (.ref b53)])) _
            refine XS.lloadN X53.here hx rfl (hb hby at_132) rfl ?_
            exact kt
          have f56 := (Nat.le_trans Z0 E53.1)
          obtain ⟨_, _, ⟨T57, L57, k57, n57⟩, -, X57, ⟨Lc57, hQ57, l57, y57, z57⟩, st57⟩ := Jvm.LawKit.callS X53 hx (y := (⟨"com/example/sequence_set/sequenceset/cli/DecimalParserAcceptPinLaw", "fill", "([CIJ)V"⟩ : MethodName)) hown (mvT hZ (hw _ (List.mem_of_getElem? (i := 1) rfl))) (mvT hZ (hw _ (List.mem_of_getElem? (i := 2) rfl))) (mvT hZ (hw _ (List.mem_of_getElem? (i := 3) rfl))) (mvT hZ (hw _ (List.mem_of_getElem? (i := 4) rfl))) (by decide) (backOf (W := 0) (rm1_0 l Z a0 hw []  b53 mm k53 h53 n0 f56 V53 g_b53) hZ (hw _ (List.mem_of_getElem? (i := 4) rfl)) (hw _ (List.mem_of_getElem? (i := 3) rfl)) (by decide) (by decide)) (g := (mkF m 133 #[.val (.long q0), .second, .val (.int p1), .val (.long mm), .second, .val (.int (p1 &&& (3 : Int32))), .val (.int (0 : Int32)), .val (.int (0 : Int32)), .val (.long (-mm)), .second, .unset, .val (.ref b53)] [(.long mm), (.int (0 : Int32)), (.ref b53)])) rfl (by rw [hml]; rfl) (argsL := [(.ref b53), (.int (0 : Int32)), (.long mm)]) (rest := []) (lenOf pd_11 rfl) rfl (by show 2 * 0 + _ ≤ _; exact Nat.le_of_eq rfl) (hb hby at_133) (fun _ _ => ⟨rfl, e53, (by decide : 1 + 0 ≤ _), (by decide : 19 + 0 ≤ _)⟩)
          dsimp only [Pt.U, Pt.locs, Pt.cells, Pt.slots] at X57 l57 y57 z57 st57 hQ57
          subst l57 y57 z57
          obtain ⟨rfl, N57q, Kq57, Vq57⟩ := hQ57
          have N57 := Fr.app N0 N57q
          obtain ⟨Go57, X57, N57⟩ := own_opq X57 N57
          obtain ⟨T58, h58, X58, e58, E58, A58, D58, U58, st58⟩ := newO X57 hx hZ hown (hw _ (List.mem_of_getElem? (i := 26) rfl)) (hw _ (List.mem_of_getElem? (i := 27) rfl)) (hw _ (List.mem_of_getElem? (i := 28) rfl)) rfl (g := (mkF m 136 #[.val (.long q0), .second, .val (.int p1), .val (.long mm), .second, .val (.int (p1 &&& (3 : Int32))), .val (.int (0 : Int32)), .val (.int (0 : Int32)), .val (.long (-mm)), .second, .unset, .val (.ref b53)] [])) rfl (hb hby at_136) (by decide) (by decide)
          obtain ⟨b58, g58⟩ : ∃ z, z = T57.heap.size := ⟨_, rfl⟩
          rw [← g58] at A58 D58 U58 st58
          have f59 := (Nat.le_trans f56 Kq57.1)
          have f60 := (((Keep.refl h0 []).ext E53).trans Kq57 (allS (Or.inr sz_b53) all0))
          have g_b58 : n0 ≤ b58 := Nat.le_trans f59 (Nat.le_of_eq g58.symm)
          have sz_b58 : h0.size ≤ b58 := Nat.le_trans f60.1 (Nat.le_of_eq g58.symm)
          have lt_b53_58 := Vq57.lt
          have F58_coder : Fld Z h58 b58 "java/lang/String" "coder" "B" (.int (0 : Int32)) := D58 (Or.inr (hw _ (List.mem_of_getElem? (i := 52) rfl))) (ty := .byte) (by decide)
          have F58_value : Fld Z h58 b58 "java/lang/String" "value" "[B" .null := D58 (Or.inr (hw _ (List.mem_of_getElem? (i := 54) rfl))) (ty := (.array .byte)) (by decide)
          have c61 : ∀ t, Steps p.tables e below (T58.setTop (mkF m 142 #[.val (.long q0), .second, .val (.int p1), .val (.long mm), .second, .val (.int (p1 &&& (3 : Int32))), .val (.int (0 : Int32)), .val (.int (0 : Int32)), .val (.long (-mm)), .second, .unset, .val (.ref b53)] [(.ref b53), (.ref b58), (.ref b58)])) t → Steps p.tables e below (T58.setTop (mkF m 139 #[.val (.long q0), .second, .val (.int p1), .val (.long mm), .second, .val (.int (p1 &&& (3 : Int32))), .val (.int (0 : Int32)), .val (.int (0 : Int32)), .val (.long (-mm)), .second, .unset, .val (.ref b53)] [(.ref b58)])) t := by
            intro t kt
            show Steps p.tables e below (T58.setTop (mkF m 139 #[.val (.long q0), .second, .val (.int p1), .val (.long mm), .second, .val (.int (p1 &&& (3 : Int32))), .val (.int (0 : Int32)), .val (.int (0 : Int32)), .val (.long (-mm)), .second, .unset, .val (.ref b53)] [(.ref b58)])) _
            refine XS.dup X58.here hx rfl (hb hby at_139) rfl rfl ?_
            show Steps p.tables e below (T58.setTop (mkF m 140 #[.val (.long q0), .second, .val (.int p1), .val (.long mm), .second, .val (.int (p1 &&& (3 : Int32))), .val (.int (0 : Int32)), .val (.int (0 : Int32)), .val (.long (-mm)), .second, .unset, .val (.ref b53)] [(.ref b58), (.ref b58)])) _
            refine XS.aload X58.here hx rfl (hb hby at_140) rfl rfl ?_
            exact kt
          have f62 := (Nat.le_trans f59 E58.1)
          have f63 := (Vq57.ext E58)
          have f64 := (((O0.ext E53).keep Kq57 (allS g_b53 all0)).ext E58)
          obtain ⟨_, _, ⟨T65, L65, k65, n65⟩, -, X65, ⟨Lc65, hQ65, l65, y65, z65⟩, st65⟩ := X58.specialBack hx (y := (⟨"java/lang/String", "<init>", "([C)V"⟩ : MethodName)) rfl hown (mvT hZ (hw _ (List.mem_of_getElem? (i := 29) rfl))) (mvT hZ (hw _ (List.mem_of_getElem? (i := 30) rfl))) (mvT hZ (hw _ (List.mem_of_getElem? (i := 31) rfl))) (by decide) (StrChars.Road.backV (W := 1) hZ hws (kI := 4) (hw _ (List.mem_of_getElem? (i := 27) rfl)) (cs := (own_c19 mm)) (bs := ((own_c19 mm)).map (fun c => c.toInt8.toInt32)) (n := 19) g_b58 f62 A58 F58_value F58_coder f63 (SC.ext f64.2) hcs rfl rfl (by decide) (by decide) (own_hp19 mm hm) rfl (by decide) (by decide)) (g := (mkF m 142 #[.val (.long q0), .second, .val (.int p1), .val (.long mm), .second, .val (.int (p1 &&& (3 : Int32))), .val (.int (0 : Int32)), .val (.int (0 : Int32)), .val (.long (-mm)), .second, .unset, .val (.ref b53)] [(.ref b53), (.ref b58), (.ref b58)])) rfl (by rw [hml]; rfl) (Steps.refl _) (a := b58) (argsL := [(.ref b53)]) (rest := [(.ref b58)]) (lenOf pd_12 rfl) rfl (by show 2 * 0 + _ ≤ _; exact Nat.le_of_eq rfl) (hb hby at_142) (fun _ _ => ⟨rfl, e58, (by decide : 2 + 1 ≤ _), (by decide : 23 + 19 ≤ _)⟩)
          dsimp only [Pt.U, Pt.locs, Pt.cells, Pt.slots] at X65 l65 y65 z65 st65 hQ65
          subst l65 y65 z65
          obtain ⟨rfl, N65q, Kq65, Eq65, Fc65, ot65, kb65, g_ot65, szq65, nt65, Fv65, Vb65⟩ := hQ65
          have N65 := Fr.app N57 N65q
          have lt_b53_65 := f63.lt
          have lt_b58_65 := A58.lt
          have f66 := (f60.ext E58)
          have sz_ot65 : h0.size ≤ ot65 := Nat.le_trans f66.1 szq65
          obtain ⟨Go65, X65, N65⟩ := own_opq X65 N65
          have c67 : ∀ t, Steps p.tables e below (T65.setTop (mkF m 149 #[.val (.long q0), .second, .val (.int p1), .val (.long mm), .second, .val (.int (p1 &&& (3 : Int32))), .val (.int (0 : Int32)), .val (.int (0 : Int32)), .val (.long (-mm)), .second, .val (.ref b58), .val (.ref b53)] [(.ref b58)])) t → Steps p.tables e below (T65.setTop (mkF m 145 #[.val (.long q0), .second, .val (.int p1), .val (.long mm), .second, .val (.int (p1 &&& (3 : Int32))), .val (.int (0 : Int32)), .val (.int (0 : Int32)), .val (.long (-mm)), .second, .unset, .val (.ref b53)] [(.ref b58)])) t := by
            intro t kt
            show Steps p.tables e below (T65.setTop (mkF m 145 #[.val (.long q0), .second, .val (.int p1), .val (.long mm), .second, .val (.int (p1 &&& (3 : Int32))), .val (.int (0 : Int32)), .val (.int (0 : Int32)), .val (.long (-mm)), .second, .unset, .val (.ref b53)] [(.ref b58)])) _
            refine XS.astore X65.here hx rfl (hb hby at_145) rfl rfl (l' := #[.val (.long q0), .second, .val (.int p1), .val (.long mm), .second, .val (.int (p1 &&& (3 : Int32))), .val (.int (0 : Int32)), .val (.int (0 : Int32)), .val (.long (-mm)), .second, .val (.ref b58), .val (.ref b53)]) rfl ?_
            show Steps p.tables e below (T65.setTop (mkF m 147 #[.val (.long q0), .second, .val (.int p1), .val (.long mm), .second, .val (.int (p1 &&& (3 : Int32))), .val (.int (0 : Int32)), .val (.int (0 : Int32)), .val (.long (-mm)), .second, .val (.ref b58), .val (.ref b53)] [])) _
            refine XS.aload X65.here hx rfl (hb hby at_147) rfl rfl ?_
            exact kt
          have f68 := (Nat.le_trans f62 Kq65.1)
          have f69 := (f64.keep Kq65 (allS g_b58 all0))
          obtain ⟨_, _, ⟨T70, L70, k70, n70⟩, -, X70, ⟨Lc70, hQ70, l70, y70, z70⟩, st70⟩ := Jvm.LawKit.callS X65 hx (y := (⟨"com/example/sequence_set/sequenceset/cli/DecimalParser", "parse", "(Ljava/lang/String;)J"⟩ : MethodName)) hown (mvT hZ (hw _ (List.mem_of_getElem? (i := 55) rfl))) (mvT hZ (hw _ (List.mem_of_getElem? (i := 56) rfl))) (mvT hZ (hw _ (List.mem_of_getElem? (i := 57) rfl))) (mvT hZ (hw _ (List.mem_of_getElem? (i := 58) rfl))) (by decide) (backOf (W := 0) (rm9 l Z a0 hw [] b58 ot65 kb65 (own_c19 mm) cs fm (-mm) T65.heap n0 f68 f69 SC hcs SF hfm (by show own_val (own_run (own_c19 mm) 19).1 (own_run (own_c19 mm) 19).2.1 = _; rw [show own_run (own_c19 mm) 19 = _ from (own_e19 mm hm)]; exact own_v0 _) Eq65 Fv65 Fc65 Vb65 (Nat.le_of_ble_eq_true rfl) (own_hp19 mm hm) (own_all19 mm hm) (by show ¬ (own_run (own_c19 mm) 19).2.2 = 0; rw [show own_run (own_c19 mm) 19 = _ from (own_e19 mm hm)]; exact own_nz) (by show (own_run (own_c19 mm) 19).2.1 = 0 → ¬ (own_run (own_c19 mm) 19).1 = (-9223372036854775808 : Int64); rw [show own_run (own_c19 mm) 19 = _ from (own_e19 mm hm)]; exact fun _ => hc29)) hZ (hw _ (List.mem_of_getElem? (i := 58) rfl)) (hw _ (List.mem_of_getElem? (i := 57) rfl)) (by decide) (by decide)) (g := (mkF m 149 #[.val (.long q0), .second, .val (.int p1), .val (.long mm), .second, .val (.int (p1 &&& (3 : Int32))), .val (.int (0 : Int32)), .val (.int (0 : Int32)), .val (.long (-mm)), .second, .val (.ref b58), .val (.ref b53)] [(.ref b58)])) rfl (by rw [hml]; rfl) (argsL := [(.ref b58)]) (rest := []) (lenOf pd_13 rfl) rfl (by show 2 * 0 + _ ≤ _; exact Nat.le_of_eq rfl) (hb hby at_149) (fun _ _ => ⟨rfl, rfl, (by decide : 3 + 1 ≤ _), (by decide : 42 + 6 ≤ _)⟩)
          dsimp only [Pt.U, Pt.locs, Pt.cells, Pt.slots] at X70 l70 y70 z70 st70 hQ70
          subst l70 y70 z70
          obtain ⟨rfl, N70q, Kq70⟩ := hQ70
          have N70 := Fr.app N65 N70q
          obtain ⟨Go70, X70, N70⟩ := own_opq X70 N70
          have c71 : ∀ t, Steps p.tables e below (T70.setTop (mkF m 163 #[.val (.long q0), .second, .val (.int p1), .val (.long mm), .second, .val (.int (p1 &&& (3 : Int32))), .val (.int (0 : Int32)), .val (.int (0 : Int32)), .val (.long (-mm)), .second, .val (.ref b58), .val (.ref b53)] [(.int (1 : Int32))])) t → Steps p.tables e below (T70.setTop (mkF m 152 #[.val (.long q0), .second, .val (.int p1), .val (.long mm), .second, .val (.int (p1 &&& (3 : Int32))), .val (.int (0 : Int32)), .val (.int (0 : Int32)), .val (.long (-mm)), .second, .val (.ref b58), .val (.ref b53)] [(.long (-mm))])) t := by
            intro t kt
            show Steps p.tables e below (T70.setTop (mkF m 152 #[.val (.long q0), .second, .val (.int p1), .val (.long mm), .second, .val (.int (p1 &&& (3 : Int32))), .val (.int (0 : Int32)), .val (.int (0 : Int32)), .val (.long (-mm)), .second, .val (.ref b58), .val (.ref b53)] [(.long (-mm))])) _
            refine XS.lload X70.here hx rfl (hb hby at_152) rfl ?_
            show Steps p.tables e below (T70.setTop (mkF m 154 #[.val (.long q0), .second, .val (.int p1), .val (.long mm), .second, .val (.int (p1 &&& (3 : Int32))), .val (.int (0 : Int32)), .val (.int (0 : Int32)), .val (.long (-mm)), .second, .val (.ref b58), .val (.ref b53)] [(.long (-mm)), (.long (-mm))])) _
            refine XS.lcmp X70.here hx rfl (hb hby at_154) rfl ?_
            show Steps p.tables e below (T70.setTop (mkF m 155 #[.val (.long q0), .second, .val (.int p1), .val (.long mm), .second, .val (.int (p1 &&& (3 : Int32))), .val (.int (0 : Int32)), .val (.int (0 : Int32)), .val (.long (-mm)), .second, .val (.ref b58), .val (.ref b53)] [(.int (lcmpW (-mm) (-mm)))])) _
            refine XS.ifNo X70.here hx rfl (hb hby at_155) rfl ((if0 _ _).trans (teq ((lw_eq _ _).mpr (rfl : (-mm) = (-mm)))).2) ?_
            show Steps p.tables e below (T70.setTop (mkF m 158 #[.val (.long q0), .second, .val (.int p1), .val (.long mm), .second, .val (.int (p1 &&& (3 : Int32))), .val (.int (0 : Int32)), .val (.int (0 : Int32)), .val (.long (-mm)), .second, .val (.ref b58), .val (.ref b53)] [])) _
            refine XS.iconst X70.here hx rfl (hb hby at_158) ?_
            show Steps p.tables e below (T70.setTop (mkF m 159 #[.val (.long q0), .second, .val (.int p1), .val (.long mm), .second, .val (.int (p1 &&& (3 : Int32))), .val (.int (0 : Int32)), .val (.int (0 : Int32)), .val (.long (-mm)), .second, .val (.ref b58), .val (.ref b53)] [(.int (1 : Int32))])) _
            refine XS.goto X70.here hx rfl (pc0 := 159) (pc' := 163) rfl (hb hby at_159) (by decide) (by decide) ?_
            exact kt
          obtain ⟨fs, hr, hrun, hended, hW, hsame⟩ := X70.leave (v := some (.int (1 : Int32))) (fun h => by rw [Bd.returns] at h; cases h)
          refine ⟨_, _, pre0 _ (c1 _ (c2 _ (c3 _ (c4 _ (c5 _ (c29 _ (c54 _ (st53 _ (c55 _ (st57 _ (st58 _ (c61 _ (st65.trans (c67 _ (st70 _ (c71 _ (?_))))))))))))))))), hrun, hended, _, _, rfl, ?_, ⟨_, rfl⟩, hW, hsame.mono (by decide) (by decide)⟩
          · show Steps p.tables e below (T70.setTop (mkF m 163 #[.val (.long q0), .second, .val (.int p1), .val (.long mm), .second, .val (.int (p1 &&& (3 : Int32))), .val (.int (0 : Int32)), .val (.int (0 : Int32)), .val (.long (-mm)), .second, .val (.ref b58), .val (.ref b53)] [(.int (1 : Int32))])) _
            exact retN X70 hx (t := .boolean) Bd.returns (by simp) (hb hby at_163) hr
          · show Q0 Z q0 p1 cs fm h0 n0 _ T70.heap _
            exact ⟨congrArg (fun z => some (Value.int z)) (show (1 : Int32) = (1 : Int32) from by rfl), N70⟩
    · -- it isn't
      have c74 : ∀ t, Steps p.tables e below (s₁.setTop (mkF m 82 #[.val (.long q0), .second, .val (.int p1), .val (.long mm), .second, .val (.int (p1 &&& (3 : Int32))), .val (.int (1 : Int32)), .val (.int (0 : Int32)), .val (.long mm), .second, .unset, .unset] [(.int (20 : Int32))])) t → Steps p.tables e below (s₁.setTop (mkF m 21 #[.val (.long q0), .second, .val (.int p1), .val (.long mm), .second, .val (.int (p1 &&& (3 : Int32))), .unset, .unset, .unset, .unset, .unset, .unset] [(.int (2 : Int32)), (.int (p1 &&& (3 : Int32)))])) t := by
        intro t kt
        show Steps p.tables e below (s₁.setTop (mkF m 21 #[.val (.long q0), .second, .val (.int p1), .val (.long mm), .second, .val (.int (p1 &&& (3 : Int32))), .unset, .unset, .unset, .unset, .unset, .unset] [(.int (2 : Int32)), (.int (p1 &&& (3 : Int32)))])) _
        refine XS.icmpYes X0.here hx rfl (pc0 := 21) (pc' := 32) rfl (hb hby at_21) rfl (flt hc21).2.1 (by decide) (by decide) ?_
        show Steps p.tables e below (s₁.setTop (mkF m 32 #[.val (.long q0), .second, .val (.int p1), .val (.long mm), .second, .val (.int (p1 &&& (3 : Int32))), .unset, .unset, .unset, .unset, .unset, .unset] [])) _
        refine XS.iconst X0.here hx rfl (hb hby at_32) ?_
        show Steps p.tables e below (s₁.setTop (mkF m 33 #[.val (.long q0), .second, .val (.int p1), .val (.long mm), .second, .val (.int (p1 &&& (3 : Int32))), .unset, .unset, .unset, .unset, .unset, .unset] [(.int (1 : Int32))])) _
        refine XS.goto X0.here hx rfl (pc0 := 33) (pc' := 37) rfl (hb hby at_33) (by decide) (by decide) ?_
        show Steps p.tables e below (s₁.setTop (mkF m 37 #[.val (.long q0), .second, .val (.int p1), .val (.long mm), .second, .val (.int (p1 &&& (3 : Int32))), .unset, .unset, .unset, .unset, .unset, .unset] [(.int (1 : Int32))])) _
        refine XS.istore X0.here hx rfl (hb hby at_37) rfl (l' := #[.val (.long q0), .second, .val (.int p1), .val (.long mm), .second, .val (.int (p1 &&& (3 : Int32))), .val (.int (1 : Int32)), .unset, .unset, .unset, .unset, .unset]) rfl ?_
        show Steps p.tables e below (s₁.setTop (mkF m 39 #[.val (.long q0), .second, .val (.int p1), .val (.long mm), .second, .val (.int (p1 &&& (3 : Int32))), .val (.int (1 : Int32)), .unset, .unset, .unset, .unset, .unset] [])) _
        refine XS.iload X0.here hx rfl (hb hby at_39) rfl ?_
        show Steps p.tables e below (s₁.setTop (mkF m 41 #[.val (.long q0), .second, .val (.int p1), .val (.long mm), .second, .val (.int (p1 &&& (3 : Int32))), .val (.int (1 : Int32)), .unset, .unset, .unset, .unset, .unset] [(.int (1 : Int32))])) _
        refine XS.ifYes X0.here hx rfl (pc0 := 41) (pc' := 54) rfl (hb hby at_41) rfl ((if0 _ _).trans (feq (by decide : ¬ ((1 : Int32) = (0 : Int32)))).2) (by decide) (by decide) ?_
        show Steps p.tables e below (s₁.setTop (mkF m 54 #[.val (.long q0), .second, .val (.int p1), .val (.long mm), .second, .val (.int (p1 &&& (3 : Int32))), .val (.int (1 : Int32)), .unset, .unset, .unset, .unset, .unset] [])) _
        refine XS.iconst X0.here hx rfl (hb hby at_54) ?_
        show Steps p.tables e below (s₁.setTop (mkF m 55 #[.val (.long q0), .second, .val (.int p1), .val (.long mm), .second, .val (.int (p1 &&& (3 : Int32))), .val (.int (1 : Int32)), .unset, .unset, .unset, .unset, .unset] [(.int (0 : Int32))])) _
        refine XS.istore X0.here hx rfl (hb hby at_55) rfl (l' := #[.val (.long q0), .second, .val (.int p1), .val (.long mm), .second, .val (.int (p1 &&& (3 : Int32))), .val (.int (1 : Int32)), .val (.int (0 : Int32)), .unset, .unset, .unset, .unset]) rfl ?_
        show Steps p.tables e below (s₁.setTop (mkF m 57 #[.val (.long q0), .second, .val (.int p1), .val (.long mm), .second, .val (.int (p1 &&& (3 : Int32))), .val (.int (1 : Int32)), .val (.int (0 : Int32)), .unset, .unset, .unset, .unset] [])) _
        refine XS.iload X0.here hx rfl (hb hby at_57) rfl ?_
        show Steps p.tables e below (s₁.setTop (mkF m 59 #[.val (.long q0), .second, .val (.int p1), .val (.long mm), .second, .val (.int (p1 &&& (3 : Int32))), .val (.int (1 : Int32)), .val (.int (0 : Int32)), .unset, .unset, .unset, .unset] [(.int (1 : Int32))])) _
        refine XS.ifNo X0.here hx rfl (hb hby at_59) rfl ((if0 _ _).trans (feq (by decide : ¬ ((1 : Int32) = (0 : Int32)))).1) ?_
        show Steps p.tables e below (s₁.setTop (mkF m 62 #[.val (.long q0), .second, .val (.int p1), .val (.long mm), .second, .val (.int (p1 &&& (3 : Int32))), .val (.int (1 : Int32)), .val (.int (0 : Int32)), .unset, .unset, .unset, .unset] [])) _
        refine XS.lloadN X0.here hx rfl (hb hby at_62) rfl ?_
        show Steps p.tables e below (s₁.setTop (mkF m 63 #[.val (.long q0), .second, .val (.int p1), .val (.long mm), .second, .val (.int (p1 &&& (3 : Int32))), .val (.int (1 : Int32)), .val (.int (0 : Int32)), .unset, .unset, .unset, .unset] [(.long mm)])) _
        refine XS.goto X0.here hx rfl (pc0 := 63) (pc' := 68) rfl (hb hby at_63) (by decide) (by decide) ?_
        show Steps p.tables e below (s₁.setTop (mkF m 68 #[.val (.long q0), .second, .val (.int p1), .val (.long mm), .second, .val (.int (p1 &&& (3 : Int32))), .val (.int (1 : Int32)), .val (.int (0 : Int32)), .unset, .unset, .unset, .unset] [(.long mm)])) _
        refine XS.lstore X0.here hx rfl (hb hby at_68) rfl (l' := #[.val (.long q0), .second, .val (.int p1), .val (.long mm), .second, .val (.int (p1 &&& (3 : Int32))), .val (.int (1 : Int32)), .val (.int (0 : Int32)), .val (.long mm), .second, .unset, .unset]) rfl ?_
        show Steps p.tables e below (s₁.setTop (mkF m 70 #[.val (.long q0), .second, .val (.int p1), .val (.long mm), .second, .val (.int (p1 &&& (3 : Int32))), .val (.int (1 : Int32)), .val (.int (0 : Int32)), .val (.long mm), .second, .unset, .unset] [])) _
        refine XS.iload X0.here hx rfl (hb hby at_70) rfl ?_
        show Steps p.tables e below (s₁.setTop (mkF m 72 #[.val (.long q0), .second, .val (.int p1), .val (.long mm), .second, .val (.int (p1 &&& (3 : Int32))), .val (.int (1 : Int32)), .val (.int (0 : Int32)), .val (.long mm), .second, .unset, .unset] [(.int (1 : Int32))])) _
        refine XS.ifYes X0.here hx rfl (pc0 := 72) (pc' := 80) rfl (hb hby at_72) rfl ((if0 _ _).trans (feq (by decide : ¬ ((1 : Int32) = (0 : Int32)))).2) (by decide) (by decide) ?_
        show Steps p.tables e below (s₁.setTop (mkF m 80 #[.val (.long q0), .second, .val (.int p1), .val (.long mm), .second, .val (.int (p1 &&& (3 : Int32))), .val (.int (1 : Int32)), .val (.int (0 : Int32)), .val (.long mm), .second, .unset, .unset] [])) _
        refine XS.bipush X0.here hx rfl (hb hby at_80) ?_
        exact kt
      obtain ⟨T73, h73, k73, X73, e73, E73, A73, st73⟩ := newP X0 hx hZ (hw _ (List.mem_of_getElem? (i := 0) rfl)) e0 (g := (mkF m 82 #[.val (.long q0), .second, .val (.int p1), .val (.long mm), .second, .val (.int (p1 &&& (3 : Int32))), .val (.int (1 : Int32)), .val (.int (0 : Int32)), .val (.long mm), .second, .unset, .unset] [(.int (20 : Int32))])) rfl (hb hby at_82) rfl (by decide) (cap := 20) (by decide) (by decide) (by decide) (by decide)
      obtain ⟨b73, g73⟩ : ∃ z, z = h0.size := ⟨_, rfl⟩
      rw [← g73] at A73 st73
      have g_b73 : n0 ≤ b73 := Nat.le_trans Z0 (Nat.le_of_eq g73.symm)
      have sz_b73 : h0.size ≤ b73 := Nat.le_trans (Keep.refl h0 []).1 (Nat.le_of_eq g73.symm)
      have V73 : Arv Z h73 b73 k73 .char (20 : Int32) [(.int (0 : Int32)), (.int (0 : Int32)), (.int (0 : Int32)), (.int (0 : Int32)), (.int (0 : Int32)), (.int (0 : Int32)), (.int (0 : Int32)), (.int (0 : Int32)), (.int (0 : Int32)), (.int (0 : Int32)), (.int (0 : Int32)), (.int (0 : Int32)), (.int (0 : Int32)), (.int (0 : Int32)), (.int (0 : Int32)), (.int (0 : Int32)), (.int (0 : Int32)), (.int (0 : Int32)), (.int (0 : Int32)), (.int (0 : Int32))] (.int (0 : Int32)) := (Arv.new A73 (by decide)).pad (pad_rep [] (.int (0 : Int32)) 20)
      have c75 : ∀ t, Steps p.tables e below (T73.setTop (mkF m 101 #[.val (.long q0), .second, .val (.int p1), .val (.long mm), .second, .val (.int (p1 &&& (3 : Int32))), .val (.int (1 : Int32)), .val (.int (0 : Int32)), .val (.long mm), .second, .unset, .val (.ref b73)] [(.int (45 : Int32)), (.int (0 : Int32)), (.ref b73)])) t → Steps p.tables e below (T73.setTop (mkF m 84 #[.val (.long q0), .second, .val (.int p1), .val (.long mm), .second, .val (.int (p1 &&& (3 : Int32))), .val (.int (1 : Int32)), .val (.int (0 : Int32)), .val (.long mm), .second, .unset, .unset] [(.ref b73)])) t := by
        intro t kt
        show Steps p.tables e below (T73.setTop (mkF m 84 #[.val (.long q0), .second, .val (.int p1), .val (.long mm), .second, .val (.int (p1 &&& (3 : Int32))), .val (.int (1 : Int32)), .val (.int (0 : Int32)), .val (.long mm), .second, .unset, .unset] [(.ref b73)])) _
        refine XS.astore X73.here hx rfl (hb hby at_84) rfl rfl (l' := #[.val (.long q0), .second, .val (.int p1), .val (.long mm), .second, .val (.int (p1 &&& (3 : Int32))), .val (.int (1 : Int32)), .val (.int (0 : Int32)), .val (.long mm), .second, .unset, .val (.ref b73)]) rfl ?_
        show Steps p.tables e below (T73.setTop (mkF m 86 #[.val (.long q0), .second, .val (.int p1), .val (.long mm), .second, .val (.int (p1 &&& (3 : Int32))), .val (.int (1 : Int32)), .val (.int (0 : Int32)), .val (.long mm), .second, .unset, .val (.ref b73)] [])) _
        refine XS.aload X73.here hx rfl (hb hby at_86) rfl rfl ?_
        show Steps p.tables e below (T73.setTop (mkF m 88 #[.val (.long q0), .second, .val (.int p1), .val (.long mm), .second, .val (.int (p1 &&& (3 : Int32))), .val (.int (1 : Int32)), .val (.int (0 : Int32)), .val (.long mm), .second, .unset, .val (.ref b73)] [(.ref b73)])) _
        refine XS.iconst X73.here hx rfl (hb hby at_88) ?_
        show Steps p.tables e below (T73.setTop (mkF m 89 #[.val (.long q0), .second, .val (.int p1), .val (.long mm), .second, .val (.int (p1 &&& (3 : Int32))), .val (.int (1 : Int32)), .val (.int (0 : Int32)), .val (.long mm), .second, .unset, .val (.ref b73)] [(.int (0 : Int32)), (.ref b73)])) _
        refine XS.iload X73.here hx rfl (hb hby at_89) rfl ?_
        show Steps p.tables e below (T73.setTop (mkF m 91 #[.val (.long q0), .second, .val (.int p1), .val (.long mm), .second, .val (.int (p1 &&& (3 : Int32))), .val (.int (1 : Int32)), .val (.int (0 : Int32)), .val (.long mm), .second, .unset, .val (.ref b73)] [(.int (1 : Int32)), (.int (0 : Int32)), (.ref b73)])) _
        refine XS.ifNo X73.here hx rfl (hb hby at_91) rfl ((if0 _ _).trans (feq (by decide : ¬ ((1 : Int32) = (0 : Int32)))).1) ?_
        show Steps p.tables e below (T73.setTop (mkF m 94 #[.val (.long q0), .second, .val (.int p1), .val (.long mm), .second, .val (.int (p1 &&& (3 : Int32))), .val (.int (1 : Int32)), .val (.int (0 : Int32)), .val (.long mm), .second, .unset, .val (.ref b73)] [(.int (0 : Int32)), (.ref b73)])) _
        refine XS.bipush X73.here hx rfl (hb hby at_94) ?_
        show Steps p.tables e below (T73.setTop (mkF m 96 #[.val (.long q0), .second, .val (.int p1), .val (.long mm), .second, .val (.int (p1 &&& (3 : Int32))), .val (.int (1 : Int32)), .val (.int (0 : Int32)), .val (.long mm), .second, .unset, .val (.ref b73)] [(.int (45 : Int32)), (.int (0 : Int32)), (.ref b73)])) _
        refine XS.goto X73.here hx rfl (pc0 := 96) (pc' := 101) rfl (hb hby at_96) (by decide) (by decide) ?_
        exact kt
      have Vc76 := V73
      obtain ⟨cl76, Ar76, qk76, S76, M76, H76, G76⟩ := Vc76
      have hin76 : ¬ ((0 : Int32) < 0 ∨ cl76.slots.size ≤ ((0 : Int32)).toNatClampNeg) := inb_of S76 ⟨by decide, by decide⟩
      obtain ⟨T77, h77, X77, e77, W77, st77⟩ := stC X73 hx hZ e73 Ar76 (j := (0 : Int32)) hin76 (g := (mkF m 101 #[.val (.long q0), .second, .val (.int p1), .val (.long mm), .second, .val (.int (p1 &&& (3 : Int32))), .val (.int (1 : Int32)), .val (.int (0 : Int32)), .val (.long mm), .second, .unset, .val (.ref b73)] [(.int (45 : Int32)), (.int (0 : Int32)), (.ref b73)])) rfl rfl (hb hby at_101)
      have V77 : Arv Z h77 b73 k73 .char (20 : Int32) [(.int ((45 : Int32).toUInt32.toUInt16.toUInt32.toInt32)), (.int (0 : Int32)), (.int (0 : Int32)), (.int (0 : Int32)), (.int (0 : Int32)), (.int (0 : Int32)), (.int (0 : Int32)), (.int (0 : Int32)), (.int (0 : Int32)), (.int (0 : Int32)), (.int (0 : Int32)), (.int (0 : Int32)), (.int (0 : Int32)), (.int (0 : Int32)), (.int (0 : Int32)), (.int (0 : Int32)), (.int (0 : Int32)), (.int (0 : Int32)), (.int (0 : Int32)), (.int (0 : Int32))] (.int (0 : Int32)) := Arv.set Ar76 qk76 S76 M76 H76 G76 (fits_nar_char _) W77 0 rfl (Nat.le_of_ble_eq_true rfl)
      have N77 := Fr.snoc X77 N0 g_b73
      have c78 : ∀ t, Steps p.tables e below (T77.setTop (mkF m 106 #[.val (.long q0), .second, .val (.int p1), .val (.long mm), .second, .val (.int (p1 &&& (3 : Int32))), .val (.int (1 : Int32)), .val (.int (0 : Int32)), .val (.long mm), .second, .unset, .val (.ref b73)] [(.long mm), (.int (1 : Int32)), (.ref b73)])) t → Steps p.tables e below (T77.setTop (mkF m 102 #[.val (.long q0), .second, .val (.int p1), .val (.long mm), .second, .val (.int (p1 &&& (3 : Int32))), .val (.int (1 : Int32)), .val (.int (0 : Int32)), .val (.long mm), .second, .unset, .val (.ref b73)] [])) t := by
        intro t kt
        show Steps p.tables e below (T77.setTop (mkF m 102 #[.val (.long q0), .second, .val (.int p1), .val (.long mm), .second, .val (.int (p1 &&& (3 : Int32))), .val (.int (1 : Int32)), .val (.int (0 : Int32)), .val (.long mm), .second, .unset, .val (.ref b73)] [])) _
        refine XS.aload X77.here hx rfl (hb hby at_102) rfl rfl ?_
        show Steps p.tables e below (T77.setTop (mkF m 104 #[.val (.long q0), .second, .val (.int p1), .val (.long mm), .second, .val (.int (p1 &&& (3 : Int32))), .val (.int (1 : Int32)), .val (.int (0 : Int32)), .val (.long mm), .second, .unset, .val (.ref b73)] [(.ref b73)])) _
        refine XS.iconst X77.here hx rfl (hb hby at_104) ?_
        show Steps p.tables e below (T77.setTop (mkF m 105 #[.val (.long q0), .second, .val (.int p1), .val (.long mm), .second, .val (.int (p1 &&& (3 : Int32))), .val (.int (1 : Int32)), .val (.int (0 : Int32)), .val (.long mm), .second, .unset, .val (.ref b73)] [(.int (1 : Int32)), (.ref b73)])) _
        refine XS.lloadN X77.here hx rfl (hb hby at_105) rfl ?_
        exact kt
      have f79 := (Nat.le_trans (Nat.le_trans Z0 E73.1) (Keep.of_wr W77).1)
      obtain ⟨_, _, ⟨T80, L80, k80, n80⟩, -, X80, ⟨Lc80, hQ80, l80, y80, z80⟩, st80⟩ := Jvm.LawKit.callS X77 hx (y := (⟨"com/example/sequence_set/sequenceset/cli/DecimalParserAcceptPinLaw", "fill", "([CIJ)V"⟩ : MethodName)) hown (mvT hZ (hw _ (List.mem_of_getElem? (i := 1) rfl))) (mvT hZ (hw _ (List.mem_of_getElem? (i := 2) rfl))) (mvT hZ (hw _ (List.mem_of_getElem? (i := 3) rfl))) (mvT hZ (hw _ (List.mem_of_getElem? (i := 4) rfl))) (by decide) (backOf (W := 0) (rm1_1 l Z a0 hw []  b73 mm k73 ((45 : Int32).toUInt32.toUInt16.toUInt32.toInt32) h77 n0 f79 V77 g_b73) hZ (hw _ (List.mem_of_getElem? (i := 4) rfl)) (hw _ (List.mem_of_getElem? (i := 3) rfl)) (by decide) (by decide)) (g := (mkF m 106 #[.val (.long q0), .second, .val (.int p1), .val (.long mm), .second, .val (.int (p1 &&& (3 : Int32))), .val (.int (1 : Int32)), .val (.int (0 : Int32)), .val (.long mm), .second, .unset, .val (.ref b73)] [(.long mm), (.int (1 : Int32)), (.ref b73)])) rfl (by rw [hml]; rfl) (argsL := [(.ref b73), (.int (1 : Int32)), (.long mm)]) (rest := []) (lenOf pd_11 rfl) rfl (by show 2 * 0 + _ ≤ _; exact Nat.le_of_eq rfl) (hb hby at_106) (fun _ _ => ⟨rfl, e77, (by decide : 1 + 0 ≤ _), (by decide : 20 + 0 ≤ _)⟩)
      dsimp only [Pt.U, Pt.locs, Pt.cells, Pt.slots] at X80 l80 y80 z80 st80 hQ80
      subst l80 y80 z80
      obtain ⟨rfl, N80q, Kq80, Vq80⟩ := hQ80
      have N80 := Fr.app N77 N80q
      obtain ⟨Go80, X80, N80⟩ := own_opq X80 N80
      obtain ⟨T81, h81, X81, e81, E81, A81, D81, U81, st81⟩ := newO X80 hx hZ hown (hw _ (List.mem_of_getElem? (i := 26) rfl)) (hw _ (List.mem_of_getElem? (i := 27) rfl)) (hw _ (List.mem_of_getElem? (i := 28) rfl)) rfl (g := (mkF m 109 #[.val (.long q0), .second, .val (.int p1), .val (.long mm), .second, .val (.int (p1 &&& (3 : Int32))), .val (.int (1 : Int32)), .val (.int (0 : Int32)), .val (.long mm), .second, .unset, .val (.ref b73)] [])) rfl (hb hby at_109) (by decide) (by decide)
      obtain ⟨b81, g81⟩ : ∃ z, z = T80.heap.size := ⟨_, rfl⟩
      rw [← g81] at A81 D81 U81 st81
      have f82 := (Nat.le_trans f79 Kq80.1)
      have f83 := ((((Keep.refl h0 []).ext E73).wr W77 (Or.inr sz_b73)).trans Kq80 (allS (Or.inr sz_b73) all0))
      have g_b81 : n0 ≤ b81 := Nat.le_trans f82 (Nat.le_of_eq g81.symm)
      have sz_b81 : h0.size ≤ b81 := Nat.le_trans f83.1 (Nat.le_of_eq g81.symm)
      have lt_b73_81 := Vq80.lt
      have F81_coder : Fld Z h81 b81 "java/lang/String" "coder" "B" (.int (0 : Int32)) := D81 (Or.inr (hw _ (List.mem_of_getElem? (i := 52) rfl))) (ty := .byte) (by decide)
      have F81_value : Fld Z h81 b81 "java/lang/String" "value" "[B" .null := D81 (Or.inr (hw _ (List.mem_of_getElem? (i := 54) rfl))) (ty := (.array .byte)) (by decide)
      have c84 : ∀ t, Steps p.tables e below (T81.setTop (mkF m 115 #[.val (.long q0), .second, .val (.int p1), .val (.long mm), .second, .val (.int (p1 &&& (3 : Int32))), .val (.int (1 : Int32)), .val (.int (0 : Int32)), .val (.long mm), .second, .unset, .val (.ref b73)] [(.ref b73), (.ref b81), (.ref b81)])) t → Steps p.tables e below (T81.setTop (mkF m 112 #[.val (.long q0), .second, .val (.int p1), .val (.long mm), .second, .val (.int (p1 &&& (3 : Int32))), .val (.int (1 : Int32)), .val (.int (0 : Int32)), .val (.long mm), .second, .unset, .val (.ref b73)] [(.ref b81)])) t := by
        intro t kt
        show Steps p.tables e below (T81.setTop (mkF m 112 #[.val (.long q0), .second, .val (.int p1), .val (.long mm), .second, .val (.int (p1 &&& (3 : Int32))), .val (.int (1 : Int32)), .val (.int (0 : Int32)), .val (.long mm), .second, .unset, .val (.ref b73)] [(.ref b81)])) _
        refine XS.dup X81.here hx rfl (hb hby at_112) rfl rfl ?_
        show Steps p.tables e below (T81.setTop (mkF m 113 #[.val (.long q0), .second, .val (.int p1), .val (.long mm), .second, .val (.int (p1 &&& (3 : Int32))), .val (.int (1 : Int32)), .val (.int (0 : Int32)), .val (.long mm), .second, .unset, .val (.ref b73)] [(.ref b81), (.ref b81)])) _
        refine XS.aload X81.here hx rfl (hb hby at_113) rfl rfl ?_
        exact kt
      have f85 := (Nat.le_trans f82 E81.1)
      have f86 := (Vq80.ext E81)
      have f87 := ((((O0.ext E73).wr W77 g_b73).keep Kq80 (allS g_b73 all0)).ext E81)
      obtain ⟨_, _, ⟨T88, L88, k88, n88⟩, -, X88, ⟨Lc88, hQ88, l88, y88, z88⟩, st88⟩ := X81.specialBack hx (y := (⟨"java/lang/String", "<init>", "([C)V"⟩ : MethodName)) rfl hown (mvT hZ (hw _ (List.mem_of_getElem? (i := 29) rfl))) (mvT hZ (hw _ (List.mem_of_getElem? (i := 30) rfl))) (mvT hZ (hw _ (List.mem_of_getElem? (i := 31) rfl))) (by decide) (StrChars.Road.backV (W := 1) hZ hws (kI := 4) (hw _ (List.mem_of_getElem? (i := 27) rfl)) (cs := (own_c20 ((45 : Int32).toUInt32.toUInt16.toUInt32.toInt32) mm)) (bs := ((own_c20 ((45 : Int32).toUInt32.toUInt16.toUInt32.toInt32) mm)).map (fun c => c.toInt8.toInt32)) (n := 20) g_b81 f85 A81 F81_value F81_coder f86 (SC.ext f87.2) hcs rfl rfl (by decide) (by decide) (own_hp20 _ mm (by decide) hm) rfl (by decide) (by decide)) (g := (mkF m 115 #[.val (.long q0), .second, .val (.int p1), .val (.long mm), .second, .val (.int (p1 &&& (3 : Int32))), .val (.int (1 : Int32)), .val (.int (0 : Int32)), .val (.long mm), .second, .unset, .val (.ref b73)] [(.ref b73), (.ref b81), (.ref b81)])) rfl (by rw [hml]; rfl) (Steps.refl _) (a := b81) (argsL := [(.ref b73)]) (rest := [(.ref b81)]) (lenOf pd_12 rfl) rfl (by show 2 * 0 + _ ≤ _; exact Nat.le_of_eq rfl) (hb hby at_115) (fun _ _ => ⟨rfl, e81, (by decide : 2 + 1 ≤ _), (by decide : 24 + 20 ≤ _)⟩)
      dsimp only [Pt.U, Pt.locs, Pt.cells, Pt.slots] at X88 l88 y88 z88 st88 hQ88
      subst l88 y88 z88
      obtain ⟨rfl, N88q, Kq88, Eq88, Fc88, ot88, kb88, g_ot88, szq88, nt88, Fv88, Vb88⟩ := hQ88
      have N88 := Fr.app N80 N88q
      have lt_b73_88 := f86.lt
      have lt_b81_88 := A81.lt
      have f89 := (f83.ext E81)
      have sz_ot88 : h0.size ≤ ot88 := Nat.le_trans f89.1 szq88
      obtain ⟨Go88, X88, N88⟩ := own_opq X88 N88
      have c90 : ∀ t, Steps p.tables e below (T88.setTop (mkF m 149 #[.val (.long q0), .second, .val (.int p1), .val (.long mm), .second, .val (.int (p1 &&& (3 : Int32))), .val (.int (1 : Int32)), .val (.int (0 : Int32)), .val (.long mm), .second, .val (.ref b81), .val (.ref b73)] [(.ref b81)])) t → Steps p.tables e below (T88.setTop (mkF m 118 #[.val (.long q0), .second, .val (.int p1), .val (.long mm), .second, .val (.int (p1 &&& (3 : Int32))), .val (.int (1 : Int32)), .val (.int (0 : Int32)), .val (.long mm), .second, .unset, .val (.ref b73)] [(.ref b81)])) t := by
        intro t kt
        show Steps p.tables e below (T88.setTop (mkF m 118 #[.val (.long q0), .second, .val (.int p1), .val (.long mm), .second, .val (.int (p1 &&& (3 : Int32))), .val (.int (1 : Int32)), .val (.int (0 : Int32)), .val (.long mm), .second, .unset, .val (.ref b73)] [(.ref b81)])) _
        refine XS.astore X88.here hx rfl (hb hby at_118) rfl rfl (l' := #[.val (.long q0), .second, .val (.int p1), .val (.long mm), .second, .val (.int (p1 &&& (3 : Int32))), .val (.int (1 : Int32)), .val (.int (0 : Int32)), .val (.long mm), .second, .val (.ref b81), .val (.ref b73)]) rfl ?_
        show Steps p.tables e below (T88.setTop (mkF m 120 #[.val (.long q0), .second, .val (.int p1), .val (.long mm), .second, .val (.int (p1 &&& (3 : Int32))), .val (.int (1 : Int32)), .val (.int (0 : Int32)), .val (.long mm), .second, .val (.ref b81), .val (.ref b73)] [])) _
        refine XS.goto X88.here hx rfl (pc0 := 120) (pc' := 147) rfl (hb hby at_120) (by decide) (by decide) ?_
        show Steps p.tables e below (T88.setTop (mkF m 147 #[.val (.long q0), .second, .val (.int p1), .val (.long mm), .second, .val (.int (p1 &&& (3 : Int32))), .val (.int (1 : Int32)), .val (.int (0 : Int32)), .val (.long mm), .second, .val (.ref b81), .val (.ref b73)] [])) _
        refine XS.aload X88.here hx rfl (hb hby at_147) rfl rfl ?_
        exact kt
      have f91 := (Nat.le_trans f85 Kq88.1)
      have hsg : ((45 : Int32).toUInt32.toUInt16.toUInt32.toInt32) = 45 ∨ ((45 : Int32).toUInt32.toUInt16.toUInt32.toInt32) = 43 := by decide
      have f92 := (f87.keep Kq88 (allS g_b81 all0))
      obtain ⟨_, _, ⟨T93, L93, k93, n93⟩, -, X93, ⟨Lc93, hQ93, l93, y93, z93⟩, st93⟩ := Jvm.LawKit.callS X88 hx (y := (⟨"com/example/sequence_set/sequenceset/cli/DecimalParser", "parse", "(Ljava/lang/String;)J"⟩ : MethodName)) hown (mvT hZ (hw _ (List.mem_of_getElem? (i := 55) rfl))) (mvT hZ (hw _ (List.mem_of_getElem? (i := 56) rfl))) (mvT hZ (hw _ (List.mem_of_getElem? (i := 57) rfl))) (mvT hZ (hw _ (List.mem_of_getElem? (i := 58) rfl))) (by decide) (backOf (W := 0) (rm9 l Z a0 hw [] b81 ot88 kb88 (own_c20 ((45 : Int32).toUInt32.toUInt16.toUInt32.toInt32) mm) cs fm mm T88.heap n0 f91 f92 SC hcs SF hfm (by show own_val (own_run (own_c20 ((45 : Int32).toUInt32.toUInt16.toUInt32.toInt32) mm) 20).1 (own_run (own_c20 ((45 : Int32).toUInt32.toUInt16.toUInt32.toInt32) mm) 20).2.1 = _; rw [show own_run (own_c20 ((45 : Int32).toUInt32.toUInt16.toUInt32.toInt32) mm) 20 = _ from (own_e20 _ mm hsg hm)]; exact own_v45 _) Eq88 Fv88 Fc88 Vb88 (Nat.le_of_ble_eq_true rfl) (own_hp20 _ mm (by decide) hm) (own_all20 _ mm hsg hm) (by show ¬ (own_run (own_c20 ((45 : Int32).toUInt32.toUInt16.toUInt32.toInt32) mm) 20).2.2 = 0; rw [show own_run (own_c20 ((45 : Int32).toUInt32.toUInt16.toUInt32.toInt32) mm) 20 = _ from (own_e20 _ mm hsg hm)]; exact own_nz) (by show (own_run (own_c20 ((45 : Int32).toUInt32.toUInt16.toUInt32.toInt32) mm) 20).2.1 = 0 → ¬ (own_run (own_c20 ((45 : Int32).toUInt32.toUInt16.toUInt32.toInt32) mm) 20).1 = (-9223372036854775808 : Int64); rw [show own_run (own_c20 ((45 : Int32).toUInt32.toUInt16.toUInt32.toInt32) mm) 20 = _ from (own_e20 _ mm hsg hm)]; exact fun q => absurd q own_n45)) hZ (hw _ (List.mem_of_getElem? (i := 58) rfl)) (hw _ (List.mem_of_getElem? (i := 57) rfl)) (by decide) (by decide)) (g := (mkF m 149 #[.val (.long q0), .second, .val (.int p1), .val (.long mm), .second, .val (.int (p1 &&& (3 : Int32))), .val (.int (1 : Int32)), .val (.int (0 : Int32)), .val (.long mm), .second, .val (.ref b81), .val (.ref b73)] [(.ref b81)])) rfl (by rw [hml]; rfl) (argsL := [(.ref b81)]) (rest := []) (lenOf pd_13 rfl) rfl (by show 2 * 0 + _ ≤ _; exact Nat.le_of_eq rfl) (hb hby at_149) (fun _ _ => ⟨rfl, rfl, (by decide : 3 + 1 ≤ _), (by decide : 44 + 6 ≤ _)⟩)
      dsimp only [Pt.U, Pt.locs, Pt.cells, Pt.slots] at X93 l93 y93 z93 st93 hQ93
      subst l93 y93 z93
      obtain ⟨rfl, N93q, Kq93⟩ := hQ93
      have N93 := Fr.app N88 N93q
      obtain ⟨Go93, X93, N93⟩ := own_opq X93 N93
      have c94 : ∀ t, Steps p.tables e below (T93.setTop (mkF m 163 #[.val (.long q0), .second, .val (.int p1), .val (.long mm), .second, .val (.int (p1 &&& (3 : Int32))), .val (.int (1 : Int32)), .val (.int (0 : Int32)), .val (.long mm), .second, .val (.ref b81), .val (.ref b73)] [(.int (1 : Int32))])) t → Steps p.tables e below (T93.setTop (mkF m 152 #[.val (.long q0), .second, .val (.int p1), .val (.long mm), .second, .val (.int (p1 &&& (3 : Int32))), .val (.int (1 : Int32)), .val (.int (0 : Int32)), .val (.long mm), .second, .val (.ref b81), .val (.ref b73)] [(.long mm)])) t := by
        intro t kt
        show Steps p.tables e below (T93.setTop (mkF m 152 #[.val (.long q0), .second, .val (.int p1), .val (.long mm), .second, .val (.int (p1 &&& (3 : Int32))), .val (.int (1 : Int32)), .val (.int (0 : Int32)), .val (.long mm), .second, .val (.ref b81), .val (.ref b73)] [(.long mm)])) _
        refine XS.lload X93.here hx rfl (hb hby at_152) rfl ?_
        show Steps p.tables e below (T93.setTop (mkF m 154 #[.val (.long q0), .second, .val (.int p1), .val (.long mm), .second, .val (.int (p1 &&& (3 : Int32))), .val (.int (1 : Int32)), .val (.int (0 : Int32)), .val (.long mm), .second, .val (.ref b81), .val (.ref b73)] [(.long mm), (.long mm)])) _
        refine XS.lcmp X93.here hx rfl (hb hby at_154) rfl ?_
        show Steps p.tables e below (T93.setTop (mkF m 155 #[.val (.long q0), .second, .val (.int p1), .val (.long mm), .second, .val (.int (p1 &&& (3 : Int32))), .val (.int (1 : Int32)), .val (.int (0 : Int32)), .val (.long mm), .second, .val (.ref b81), .val (.ref b73)] [(.int (lcmpW mm mm))])) _
        refine XS.ifNo X93.here hx rfl (hb hby at_155) rfl ((if0 _ _).trans (teq ((lw_eq _ _).mpr (rfl : mm = mm))).2) ?_
        show Steps p.tables e below (T93.setTop (mkF m 158 #[.val (.long q0), .second, .val (.int p1), .val (.long mm), .second, .val (.int (p1 &&& (3 : Int32))), .val (.int (1 : Int32)), .val (.int (0 : Int32)), .val (.long mm), .second, .val (.ref b81), .val (.ref b73)] [])) _
        refine XS.iconst X93.here hx rfl (hb hby at_158) ?_
        show Steps p.tables e below (T93.setTop (mkF m 159 #[.val (.long q0), .second, .val (.int p1), .val (.long mm), .second, .val (.int (p1 &&& (3 : Int32))), .val (.int (1 : Int32)), .val (.int (0 : Int32)), .val (.long mm), .second, .val (.ref b81), .val (.ref b73)] [(.int (1 : Int32))])) _
        refine XS.goto X93.here hx rfl (pc0 := 159) (pc' := 163) rfl (hb hby at_159) (by decide) (by decide) ?_
        exact kt
      obtain ⟨fs, hr, hrun, hended, hW, hsame⟩ := X93.leave (v := some (.int (1 : Int32))) (fun h => by rw [Bd.returns] at h; cases h)
      refine ⟨_, _, pre0 _ (c1 _ (c2 _ (c3 _ (c4 _ (c74 _ (st73 _ (c75 _ (st77 _ (c78 _ (st80 _ (st81 _ (c84 _ (st88.trans (c90 _ (st93 _ (c94 _ (?_))))))))))))))))), hrun, hended, _, _, rfl, ?_, ⟨_, rfl⟩, hW, hsame.mono (by decide) (by decide)⟩
      · show Steps p.tables e below (T93.setTop (mkF m 163 #[.val (.long q0), .second, .val (.int p1), .val (.long mm), .second, .val (.int (p1 &&& (3 : Int32))), .val (.int (1 : Int32)), .val (.int (0 : Int32)), .val (.long mm), .second, .val (.ref b81), .val (.ref b73)] [(.int (1 : Int32))])) _
        exact retN X93 hx (t := .boolean) Bd.returns (by simp) (hb hby at_163) hr
      · show Q0 Z q0 p1 cs fm h0 n0 _ T93.heap _
        exact ⟨congrArg (fun z => some (Value.int z)) (show (1 : Int32) = (1 : Int32) from by rfl), N93⟩
  · -- it isn't
    have c96 : ∀ t, Steps p.tables e below (s₁.setTop (mkF m 13 #[.val (.long q0), .second, .val (.int p1), .val (.long (-q0)), .second, .unset, .unset, .unset, .unset, .unset, .unset, .unset] [])) t → Steps p.tables e below (s₁.setTop (mkF m 3 #[.val (.long q0), .second, .val (.int p1), .unset, .unset, .unset, .unset, .unset, .unset, .unset, .unset, .unset] [(.int (lcmpW q0 (0 : Int64)))])) t := by
      intro t kt
      show Steps p.tables e below (s₁.setTop (mkF m 3 #[.val (.long q0), .second, .val (.int p1), .unset, .unset, .unset, .unset, .unset, .unset, .unset, .unset, .unset] [(.int (lcmpW q0 (0 : Int64)))])) _
      refine XS.ifYes X0.here hx rfl (pc0 := 3) (pc' := 10) rfl (hb hby at_3) rfl ((if0 _ _).trans (flt (fun q => hc3 ((lw_lt _ _).mp q))).2.1) (by decide) (by decide) ?_
      show Steps p.tables e below (s₁.setTop (mkF m 10 #[.val (.long q0), .second, .val (.int p1), .unset, .unset, .unset, .unset, .unset, .unset, .unset, .unset, .unset] [])) _
      refine XS.lloadN X0.here hx rfl (hb hby at_10) rfl ?_
      show Steps p.tables e below (s₁.setTop (mkF m 11 #[.val (.long q0), .second, .val (.int p1), .unset, .unset, .unset, .unset, .unset, .unset, .unset, .unset, .unset] [(.long q0)])) _
      refine XS.lneg X0.here hx rfl (hb hby at_11) rfl ?_
      show Steps p.tables e below (s₁.setTop (mkF m 12 #[.val (.long q0), .second, .val (.int p1), .unset, .unset, .unset, .unset, .unset, .unset, .unset, .unset, .unset] [(.long (-q0))])) _
      refine XS.lstoreN X0.here hx rfl (hb hby at_12) rfl (l' := #[.val (.long q0), .second, .val (.int p1), .val (.long (-q0)), .second, .unset, .unset, .unset, .unset, .unset, .unset, .unset]) rfl ?_
      exact kt
    obtain ⟨mm, hmm⟩ : ∃ z, z = (-q0) := ⟨_, rfl⟩
    have c97 : ∀ t, Steps p.tables e below (s₁.setTop (mkF m 13 #[.val (.long q0), .second, .val (.int p1), .val (.long mm), .second, .unset, .unset, .unset, .unset, .unset, .unset, .unset] [])) t → Steps p.tables e below (s₁.setTop (mkF m 13 #[.val (.long q0), .second, .val (.int p1), .val (.long (-q0)), .second, .unset, .unset, .unset, .unset, .unset, .unset, .unset] [])) t := fun t kt => by rw [hmm] at kt; exact kt
    have hm : mm.toInt ≤ 0 := by rw [hmm]; exact own_neg _ hc3
    have c98 : ∀ t, Steps p.tables e below (s₁.setTop (mkF m 21 #[.val (.long q0), .second, .val (.int p1), .val (.long mm), .second, .val (.int (p1 &&& (3 : Int32))), .unset, .unset, .unset, .unset, .unset, .unset] [(.int (2 : Int32)), (.int (p1 &&& (3 : Int32)))])) t → Steps p.tables e below (s₁.setTop (mkF m 13 #[.val (.long q0), .second, .val (.int p1), .val (.long mm), .second, .unset, .unset, .unset, .unset, .unset, .unset, .unset] [])) t := by
      intro t kt
      show Steps p.tables e below (s₁.setTop (mkF m 13 #[.val (.long q0), .second, .val (.int p1), .val (.long mm), .second, .unset, .unset, .unset, .unset, .unset, .unset, .unset] [])) _
      refine XS.iloadN X0.here hx rfl (hb hby at_13) rfl ?_
      show Steps p.tables e below (s₁.setTop (mkF m 14 #[.val (.long q0), .second, .val (.int p1), .val (.long mm), .second, .unset, .unset, .unset, .unset, .unset, .unset, .unset] [(.int p1)])) _
      refine XS.iconst X0.here hx rfl (hb hby at_14) ?_
      show Steps p.tables e below (s₁.setTop (mkF m 15 #[.val (.long q0), .second, .val (.int p1), .val (.long mm), .second, .unset, .unset, .unset, .unset, .unset, .unset, .unset] [(.int (3 : Int32)), (.int p1)])) _
      refine XS.iand X0.here hx rfl (hb hby at_15) rfl ?_
      show Steps p.tables e below (s₁.setTop (mkF m 16 #[.val (.long q0), .second, .val (.int p1), .val (.long mm), .second, .unset, .unset, .unset, .unset, .unset, .unset, .unset] [(.int (p1 &&& (3 : Int32)))])) _
      refine XS.istore X0.here hx rfl (hb hby at_16) rfl (l' := #[.val (.long q0), .second, .val (.int p1), .val (.long mm), .second, .val (.int (p1 &&& (3 : Int32))), .unset, .unset, .unset, .unset, .unset, .unset]) rfl ?_
      show Steps p.tables e below (s₁.setTop (mkF m 18 #[.val (.long q0), .second, .val (.int p1), .val (.long mm), .second, .val (.int (p1 &&& (3 : Int32))), .unset, .unset, .unset, .unset, .unset, .unset] [])) _
      refine XS.iload X0.here hx rfl (hb hby at_18) rfl ?_
      show Steps p.tables e below (s₁.setTop (mkF m 20 #[.val (.long q0), .second, .val (.int p1), .val (.long mm), .second, .val (.int (p1 &&& (3 : Int32))), .unset, .unset, .unset, .unset, .unset, .unset] [(.int (p1 &&& (3 : Int32)))])) _
      refine XS.iconst X0.here hx rfl (hb hby at_20) ?_
      exact kt
    by_cases hc21 : (p1 &&& (3 : Int32)) < (2 : Int32)
    · -- it is
      have c99 : ∀ t, Steps p.tables e below (s₁.setTop (mkF m 29 #[.val (.long q0), .second, .val (.int p1), .val (.long mm), .second, .val (.int (p1 &&& (3 : Int32))), .unset, .unset, .unset, .unset, .unset, .unset] [(.int (lcmpW mm (-9223372036854775808 : Int64)))])) t → Steps p.tables e below (s₁.setTop (mkF m 21 #[.val (.long q0), .second, .val (.int p1), .val (.long mm), .second, .val (.int (p1 &&& (3 : Int32))), .unset, .unset, .unset, .unset, .unset, .unset] [(.int (2 : Int32)), (.int (p1 &&& (3 : Int32)))])) t := by
        intro t kt
        show Steps p.tables e below (s₁.setTop (mkF m 21 #[.val (.long q0), .second, .val (.int p1), .val (.long mm), .second, .val (.int (p1 &&& (3 : Int32))), .unset, .unset, .unset, .unset, .unset, .unset] [(.int (2 : Int32)), (.int (p1 &&& (3 : Int32)))])) _
        refine XS.icmpNo X0.here hx rfl (hb hby at_21) rfl (tlt hc21).2.1 ?_
        show Steps p.tables e below (s₁.setTop (mkF m 24 #[.val (.long q0), .second, .val (.int p1), .val (.long mm), .second, .val (.int (p1 &&& (3 : Int32))), .unset, .unset, .unset, .unset, .unset, .unset] [])) _
        refine XS.lloadN X0.here hx rfl (hb hby at_24) rfl ?_
        show Steps p.tables e below (s₁.setTop (mkF m 25 #[.val (.long q0), .second, .val (.int p1), .val (.long mm), .second, .val (.int (p1 &&& (3 : Int32))), .unset, .unset, .unset, .unset, .unset, .unset] [(.long mm)])) _
        refine X0.ldc2Long hx hown (mvT hZ (hw _ (List.mem_of_getElem? (i := 121) rfl))) (g := (mkF m 25 #[.val (.long q0), .second, .val (.int p1), .val (.long mm), .second, .val (.int (p1 &&& (3 : Int32))), .unset, .unset, .unset, .unset, .unset, .unset] [(.long mm)])) rfl (hb hby at_25) _ ?_
        show Steps p.tables e below (s₁.setTop (mkF m 28 #[.val (.long q0), .second, .val (.int p1), .val (.long mm), .second, .val (.int (p1 &&& (3 : Int32))), .unset, .unset, .unset, .unset, .unset, .unset] [(.long (-9223372036854775808 : Int64)), (.long mm)])) _
        refine XS.lcmp X0.here hx rfl (hb hby at_28) rfl ?_
        exact kt
      by_cases hc29 : mm = (-9223372036854775808 : Int64)
      · -- it is
        have c101 : ∀ t, Steps p.tables e below (s₁.setTop (mkF m 82 #[.val (.long q0), .second, .val (.int p1), .val (.long mm), .second, .val (.int (p1 &&& (3 : Int32))), .val (.int (1 : Int32)), .val (.int (0 : Int32)), .val (.long mm), .second, .unset, .unset] [(.int (20 : Int32))])) t → Steps p.tables e below (s₁.setTop (mkF m 29 #[.val (.long q0), .second, .val (.int p1), .val (.long mm), .second, .val (.int (p1 &&& (3 : Int32))), .unset, .unset, .unset, .unset, .unset, .unset] [(.int (lcmpW mm (-9223372036854775808 : Int64)))])) t := by
          intro t kt
          show Steps p.tables e below (s₁.setTop (mkF m 29 #[.val (.long q0), .second, .val (.int p1), .val (.long mm), .second, .val (.int (p1 &&& (3 : Int32))), .unset, .unset, .unset, .unset, .unset, .unset] [(.int (lcmpW mm (-9223372036854775808 : Int64)))])) _
          refine XS.ifNo X0.here hx rfl (hb hby at_29) rfl ((if0 _ _).trans (teq ((lw_eq _ _).mpr hc29)).2) ?_
          show Steps p.tables e below (s₁.setTop (mkF m 32 #[.val (.long q0), .second, .val (.int p1), .val (.long mm), .second, .val (.int (p1 &&& (3 : Int32))), .unset, .unset, .unset, .unset, .unset, .unset] [])) _
          refine XS.iconst X0.here hx rfl (hb hby at_32) ?_
          show Steps p.tables e below (s₁.setTop (mkF m 33 #[.val (.long q0), .second, .val (.int p1), .val (.long mm), .second, .val (.int (p1 &&& (3 : Int32))), .unset, .unset, .unset, .unset, .unset, .unset] [(.int (1 : Int32))])) _
          refine XS.goto X0.here hx rfl (pc0 := 33) (pc' := 37) rfl (hb hby at_33) (by decide) (by decide) ?_
          show Steps p.tables e below (s₁.setTop (mkF m 37 #[.val (.long q0), .second, .val (.int p1), .val (.long mm), .second, .val (.int (p1 &&& (3 : Int32))), .unset, .unset, .unset, .unset, .unset, .unset] [(.int (1 : Int32))])) _
          refine XS.istore X0.here hx rfl (hb hby at_37) rfl (l' := #[.val (.long q0), .second, .val (.int p1), .val (.long mm), .second, .val (.int (p1 &&& (3 : Int32))), .val (.int (1 : Int32)), .unset, .unset, .unset, .unset, .unset]) rfl ?_
          show Steps p.tables e below (s₁.setTop (mkF m 39 #[.val (.long q0), .second, .val (.int p1), .val (.long mm), .second, .val (.int (p1 &&& (3 : Int32))), .val (.int (1 : Int32)), .unset, .unset, .unset, .unset, .unset] [])) _
          refine XS.iload X0.here hx rfl (hb hby at_39) rfl ?_
          show Steps p.tables e below (s₁.setTop (mkF m 41 #[.val (.long q0), .second, .val (.int p1), .val (.long mm), .second, .val (.int (p1 &&& (3 : Int32))), .val (.int (1 : Int32)), .unset, .unset, .unset, .unset, .unset] [(.int (1 : Int32))])) _
          refine XS.ifYes X0.here hx rfl (pc0 := 41) (pc' := 54) rfl (hb hby at_41) rfl ((if0 _ _).trans (feq (by decide : ¬ ((1 : Int32) = (0 : Int32)))).2) (by decide) (by decide) ?_
          show Steps p.tables e below (s₁.setTop (mkF m 54 #[.val (.long q0), .second, .val (.int p1), .val (.long mm), .second, .val (.int (p1 &&& (3 : Int32))), .val (.int (1 : Int32)), .unset, .unset, .unset, .unset, .unset] [])) _
          refine XS.iconst X0.here hx rfl (hb hby at_54) ?_
          show Steps p.tables e below (s₁.setTop (mkF m 55 #[.val (.long q0), .second, .val (.int p1), .val (.long mm), .second, .val (.int (p1 &&& (3 : Int32))), .val (.int (1 : Int32)), .unset, .unset, .unset, .unset, .unset] [(.int (0 : Int32))])) _
          refine XS.istore X0.here hx rfl (hb hby at_55) rfl (l' := #[.val (.long q0), .second, .val (.int p1), .val (.long mm), .second, .val (.int (p1 &&& (3 : Int32))), .val (.int (1 : Int32)), .val (.int (0 : Int32)), .unset, .unset, .unset, .unset]) rfl ?_
          show Steps p.tables e below (s₁.setTop (mkF m 57 #[.val (.long q0), .second, .val (.int p1), .val (.long mm), .second, .val (.int (p1 &&& (3 : Int32))), .val (.int (1 : Int32)), .val (.int (0 : Int32)), .unset, .unset, .unset, .unset] [])) _
          refine XS.iload X0.here hx rfl (hb hby at_57) rfl ?_
          show Steps p.tables e below (s₁.setTop (mkF m 59 #[.val (.long q0), .second, .val (.int p1), .val (.long mm), .second, .val (.int (p1 &&& (3 : Int32))), .val (.int (1 : Int32)), .val (.int (0 : Int32)), .unset, .unset, .unset, .unset] [(.int (1 : Int32))])) _
          refine XS.ifNo X0.here hx rfl (hb hby at_59) rfl ((if0 _ _).trans (feq (by decide : ¬ ((1 : Int32) = (0 : Int32)))).1) ?_
          show Steps p.tables e below (s₁.setTop (mkF m 62 #[.val (.long q0), .second, .val (.int p1), .val (.long mm), .second, .val (.int (p1 &&& (3 : Int32))), .val (.int (1 : Int32)), .val (.int (0 : Int32)), .unset, .unset, .unset, .unset] [])) _
          refine XS.lloadN X0.here hx rfl (hb hby at_62) rfl ?_
          show Steps p.tables e below (s₁.setTop (mkF m 63 #[.val (.long q0), .second, .val (.int p1), .val (.long mm), .second, .val (.int (p1 &&& (3 : Int32))), .val (.int (1 : Int32)), .val (.int (0 : Int32)), .unset, .unset, .unset, .unset] [(.long mm)])) _
          refine XS.goto X0.here hx rfl (pc0 := 63) (pc' := 68) rfl (hb hby at_63) (by decide) (by decide) ?_
          show Steps p.tables e below (s₁.setTop (mkF m 68 #[.val (.long q0), .second, .val (.int p1), .val (.long mm), .second, .val (.int (p1 &&& (3 : Int32))), .val (.int (1 : Int32)), .val (.int (0 : Int32)), .unset, .unset, .unset, .unset] [(.long mm)])) _
          refine XS.lstore X0.here hx rfl (hb hby at_68) rfl (l' := #[.val (.long q0), .second, .val (.int p1), .val (.long mm), .second, .val (.int (p1 &&& (3 : Int32))), .val (.int (1 : Int32)), .val (.int (0 : Int32)), .val (.long mm), .second, .unset, .unset]) rfl ?_
          show Steps p.tables e below (s₁.setTop (mkF m 70 #[.val (.long q0), .second, .val (.int p1), .val (.long mm), .second, .val (.int (p1 &&& (3 : Int32))), .val (.int (1 : Int32)), .val (.int (0 : Int32)), .val (.long mm), .second, .unset, .unset] [])) _
          refine XS.iload X0.here hx rfl (hb hby at_70) rfl ?_
          show Steps p.tables e below (s₁.setTop (mkF m 72 #[.val (.long q0), .second, .val (.int p1), .val (.long mm), .second, .val (.int (p1 &&& (3 : Int32))), .val (.int (1 : Int32)), .val (.int (0 : Int32)), .val (.long mm), .second, .unset, .unset] [(.int (1 : Int32))])) _
          refine XS.ifYes X0.here hx rfl (pc0 := 72) (pc' := 80) rfl (hb hby at_72) rfl ((if0 _ _).trans (feq (by decide : ¬ ((1 : Int32) = (0 : Int32)))).2) (by decide) (by decide) ?_
          show Steps p.tables e below (s₁.setTop (mkF m 80 #[.val (.long q0), .second, .val (.int p1), .val (.long mm), .second, .val (.int (p1 &&& (3 : Int32))), .val (.int (1 : Int32)), .val (.int (0 : Int32)), .val (.long mm), .second, .unset, .unset] [])) _
          refine XS.bipush X0.here hx rfl (hb hby at_80) ?_
          exact kt
        obtain ⟨T100, h100, k100, X100, e100, E100, A100, st100⟩ := newP X0 hx hZ (hw _ (List.mem_of_getElem? (i := 0) rfl)) e0 (g := (mkF m 82 #[.val (.long q0), .second, .val (.int p1), .val (.long mm), .second, .val (.int (p1 &&& (3 : Int32))), .val (.int (1 : Int32)), .val (.int (0 : Int32)), .val (.long mm), .second, .unset, .unset] [(.int (20 : Int32))])) rfl (hb hby at_82) rfl (by decide) (cap := 20) (by decide) (by decide) (by decide) (by decide)
        obtain ⟨b100, g100⟩ : ∃ z, z = h0.size := ⟨_, rfl⟩
        rw [← g100] at A100 st100
        have g_b100 : n0 ≤ b100 := Nat.le_trans Z0 (Nat.le_of_eq g100.symm)
        have sz_b100 : h0.size ≤ b100 := Nat.le_trans (Keep.refl h0 []).1 (Nat.le_of_eq g100.symm)
        have V100 : Arv Z h100 b100 k100 .char (20 : Int32) [(.int (0 : Int32)), (.int (0 : Int32)), (.int (0 : Int32)), (.int (0 : Int32)), (.int (0 : Int32)), (.int (0 : Int32)), (.int (0 : Int32)), (.int (0 : Int32)), (.int (0 : Int32)), (.int (0 : Int32)), (.int (0 : Int32)), (.int (0 : Int32)), (.int (0 : Int32)), (.int (0 : Int32)), (.int (0 : Int32)), (.int (0 : Int32)), (.int (0 : Int32)), (.int (0 : Int32)), (.int (0 : Int32)), (.int (0 : Int32))] (.int (0 : Int32)) := (Arv.new A100 (by decide)).pad (pad_rep [] (.int (0 : Int32)) 20)
        have c102 : ∀ t, Steps p.tables e below (T100.setTop (mkF m 101 #[.val (.long q0), .second, .val (.int p1), .val (.long mm), .second, .val (.int (p1 &&& (3 : Int32))), .val (.int (1 : Int32)), .val (.int (0 : Int32)), .val (.long mm), .second, .unset, .val (.ref b100)] [(.int (45 : Int32)), (.int (0 : Int32)), (.ref b100)])) t → Steps p.tables e below (T100.setTop (mkF m 84 #[.val (.long q0), .second, .val (.int p1), .val (.long mm), .second, .val (.int (p1 &&& (3 : Int32))), .val (.int (1 : Int32)), .val (.int (0 : Int32)), .val (.long mm), .second, .unset, .unset] [(.ref b100)])) t := by
          intro t kt
          show Steps p.tables e below (T100.setTop (mkF m 84 #[.val (.long q0), .second, .val (.int p1), .val (.long mm), .second, .val (.int (p1 &&& (3 : Int32))), .val (.int (1 : Int32)), .val (.int (0 : Int32)), .val (.long mm), .second, .unset, .unset] [(.ref b100)])) _
          refine XS.astore X100.here hx rfl (hb hby at_84) rfl rfl (l' := #[.val (.long q0), .second, .val (.int p1), .val (.long mm), .second, .val (.int (p1 &&& (3 : Int32))), .val (.int (1 : Int32)), .val (.int (0 : Int32)), .val (.long mm), .second, .unset, .val (.ref b100)]) rfl ?_
          show Steps p.tables e below (T100.setTop (mkF m 86 #[.val (.long q0), .second, .val (.int p1), .val (.long mm), .second, .val (.int (p1 &&& (3 : Int32))), .val (.int (1 : Int32)), .val (.int (0 : Int32)), .val (.long mm), .second, .unset, .val (.ref b100)] [])) _
          refine XS.aload X100.here hx rfl (hb hby at_86) rfl rfl ?_
          show Steps p.tables e below (T100.setTop (mkF m 88 #[.val (.long q0), .second, .val (.int p1), .val (.long mm), .second, .val (.int (p1 &&& (3 : Int32))), .val (.int (1 : Int32)), .val (.int (0 : Int32)), .val (.long mm), .second, .unset, .val (.ref b100)] [(.ref b100)])) _
          refine XS.iconst X100.here hx rfl (hb hby at_88) ?_
          show Steps p.tables e below (T100.setTop (mkF m 89 #[.val (.long q0), .second, .val (.int p1), .val (.long mm), .second, .val (.int (p1 &&& (3 : Int32))), .val (.int (1 : Int32)), .val (.int (0 : Int32)), .val (.long mm), .second, .unset, .val (.ref b100)] [(.int (0 : Int32)), (.ref b100)])) _
          refine XS.iload X100.here hx rfl (hb hby at_89) rfl ?_
          show Steps p.tables e below (T100.setTop (mkF m 91 #[.val (.long q0), .second, .val (.int p1), .val (.long mm), .second, .val (.int (p1 &&& (3 : Int32))), .val (.int (1 : Int32)), .val (.int (0 : Int32)), .val (.long mm), .second, .unset, .val (.ref b100)] [(.int (1 : Int32)), (.int (0 : Int32)), (.ref b100)])) _
          refine XS.ifNo X100.here hx rfl (hb hby at_91) rfl ((if0 _ _).trans (feq (by decide : ¬ ((1 : Int32) = (0 : Int32)))).1) ?_
          show Steps p.tables e below (T100.setTop (mkF m 94 #[.val (.long q0), .second, .val (.int p1), .val (.long mm), .second, .val (.int (p1 &&& (3 : Int32))), .val (.int (1 : Int32)), .val (.int (0 : Int32)), .val (.long mm), .second, .unset, .val (.ref b100)] [(.int (0 : Int32)), (.ref b100)])) _
          refine XS.bipush X100.here hx rfl (hb hby at_94) ?_
          show Steps p.tables e below (T100.setTop (mkF m 96 #[.val (.long q0), .second, .val (.int p1), .val (.long mm), .second, .val (.int (p1 &&& (3 : Int32))), .val (.int (1 : Int32)), .val (.int (0 : Int32)), .val (.long mm), .second, .unset, .val (.ref b100)] [(.int (45 : Int32)), (.int (0 : Int32)), (.ref b100)])) _
          refine XS.goto X100.here hx rfl (pc0 := 96) (pc' := 101) rfl (hb hby at_96) (by decide) (by decide) ?_
          exact kt
        have Vc103 := V100
        obtain ⟨cl103, Ar103, qk103, S103, M103, H103, G103⟩ := Vc103
        have hin103 : ¬ ((0 : Int32) < 0 ∨ cl103.slots.size ≤ ((0 : Int32)).toNatClampNeg) := inb_of S103 ⟨by decide, by decide⟩
        obtain ⟨T104, h104, X104, e104, W104, st104⟩ := stC X100 hx hZ e100 Ar103 (j := (0 : Int32)) hin103 (g := (mkF m 101 #[.val (.long q0), .second, .val (.int p1), .val (.long mm), .second, .val (.int (p1 &&& (3 : Int32))), .val (.int (1 : Int32)), .val (.int (0 : Int32)), .val (.long mm), .second, .unset, .val (.ref b100)] [(.int (45 : Int32)), (.int (0 : Int32)), (.ref b100)])) rfl rfl (hb hby at_101)
        have V104 : Arv Z h104 b100 k100 .char (20 : Int32) [(.int ((45 : Int32).toUInt32.toUInt16.toUInt32.toInt32)), (.int (0 : Int32)), (.int (0 : Int32)), (.int (0 : Int32)), (.int (0 : Int32)), (.int (0 : Int32)), (.int (0 : Int32)), (.int (0 : Int32)), (.int (0 : Int32)), (.int (0 : Int32)), (.int (0 : Int32)), (.int (0 : Int32)), (.int (0 : Int32)), (.int (0 : Int32)), (.int (0 : Int32)), (.int (0 : Int32)), (.int (0 : Int32)), (.int (0 : Int32)), (.int (0 : Int32)), (.int (0 : Int32))] (.int (0 : Int32)) := Arv.set Ar103 qk103 S103 M103 H103 G103 (fits_nar_char _) W104 0 rfl (Nat.le_of_ble_eq_true rfl)
        have N104 := Fr.snoc X104 N0 g_b100
        have c105 : ∀ t, Steps p.tables e below (T104.setTop (mkF m 106 #[.val (.long q0), .second, .val (.int p1), .val (.long mm), .second, .val (.int (p1 &&& (3 : Int32))), .val (.int (1 : Int32)), .val (.int (0 : Int32)), .val (.long mm), .second, .unset, .val (.ref b100)] [(.long mm), (.int (1 : Int32)), (.ref b100)])) t → Steps p.tables e below (T104.setTop (mkF m 102 #[.val (.long q0), .second, .val (.int p1), .val (.long mm), .second, .val (.int (p1 &&& (3 : Int32))), .val (.int (1 : Int32)), .val (.int (0 : Int32)), .val (.long mm), .second, .unset, .val (.ref b100)] [])) t := by
          intro t kt
          show Steps p.tables e below (T104.setTop (mkF m 102 #[.val (.long q0), .second, .val (.int p1), .val (.long mm), .second, .val (.int (p1 &&& (3 : Int32))), .val (.int (1 : Int32)), .val (.int (0 : Int32)), .val (.long mm), .second, .unset, .val (.ref b100)] [])) _
          refine XS.aload X104.here hx rfl (hb hby at_102) rfl rfl ?_
          show Steps p.tables e below (T104.setTop (mkF m 104 #[.val (.long q0), .second, .val (.int p1), .val (.long mm), .second, .val (.int (p1 &&& (3 : Int32))), .val (.int (1 : Int32)), .val (.int (0 : Int32)), .val (.long mm), .second, .unset, .val (.ref b100)] [(.ref b100)])) _
          refine XS.iconst X104.here hx rfl (hb hby at_104) ?_
          show Steps p.tables e below (T104.setTop (mkF m 105 #[.val (.long q0), .second, .val (.int p1), .val (.long mm), .second, .val (.int (p1 &&& (3 : Int32))), .val (.int (1 : Int32)), .val (.int (0 : Int32)), .val (.long mm), .second, .unset, .val (.ref b100)] [(.int (1 : Int32)), (.ref b100)])) _
          refine XS.lloadN X104.here hx rfl (hb hby at_105) rfl ?_
          exact kt
        have f106 := (Nat.le_trans (Nat.le_trans Z0 E100.1) (Keep.of_wr W104).1)
        obtain ⟨_, _, ⟨T107, L107, k107, n107⟩, -, X107, ⟨Lc107, hQ107, l107, y107, z107⟩, st107⟩ := Jvm.LawKit.callS X104 hx (y := (⟨"com/example/sequence_set/sequenceset/cli/DecimalParserAcceptPinLaw", "fill", "([CIJ)V"⟩ : MethodName)) hown (mvT hZ (hw _ (List.mem_of_getElem? (i := 1) rfl))) (mvT hZ (hw _ (List.mem_of_getElem? (i := 2) rfl))) (mvT hZ (hw _ (List.mem_of_getElem? (i := 3) rfl))) (mvT hZ (hw _ (List.mem_of_getElem? (i := 4) rfl))) (by decide) (backOf (W := 0) (rm1_1 l Z a0 hw []  b100 mm k100 ((45 : Int32).toUInt32.toUInt16.toUInt32.toInt32) h104 n0 f106 V104 g_b100) hZ (hw _ (List.mem_of_getElem? (i := 4) rfl)) (hw _ (List.mem_of_getElem? (i := 3) rfl)) (by decide) (by decide)) (g := (mkF m 106 #[.val (.long q0), .second, .val (.int p1), .val (.long mm), .second, .val (.int (p1 &&& (3 : Int32))), .val (.int (1 : Int32)), .val (.int (0 : Int32)), .val (.long mm), .second, .unset, .val (.ref b100)] [(.long mm), (.int (1 : Int32)), (.ref b100)])) rfl (by rw [hml]; rfl) (argsL := [(.ref b100), (.int (1 : Int32)), (.long mm)]) (rest := []) (lenOf pd_11 rfl) rfl (by show 2 * 0 + _ ≤ _; exact Nat.le_of_eq rfl) (hb hby at_106) (fun _ _ => ⟨rfl, e104, (by decide : 1 + 0 ≤ _), (by decide : 20 + 0 ≤ _)⟩)
        dsimp only [Pt.U, Pt.locs, Pt.cells, Pt.slots] at X107 l107 y107 z107 st107 hQ107
        subst l107 y107 z107
        obtain ⟨rfl, N107q, Kq107, Vq107⟩ := hQ107
        have N107 := Fr.app N104 N107q
        obtain ⟨Go107, X107, N107⟩ := own_opq X107 N107
        obtain ⟨T108, h108, X108, e108, E108, A108, D108, U108, st108⟩ := newO X107 hx hZ hown (hw _ (List.mem_of_getElem? (i := 26) rfl)) (hw _ (List.mem_of_getElem? (i := 27) rfl)) (hw _ (List.mem_of_getElem? (i := 28) rfl)) rfl (g := (mkF m 109 #[.val (.long q0), .second, .val (.int p1), .val (.long mm), .second, .val (.int (p1 &&& (3 : Int32))), .val (.int (1 : Int32)), .val (.int (0 : Int32)), .val (.long mm), .second, .unset, .val (.ref b100)] [])) rfl (hb hby at_109) (by decide) (by decide)
        obtain ⟨b108, g108⟩ : ∃ z, z = T107.heap.size := ⟨_, rfl⟩
        rw [← g108] at A108 D108 U108 st108
        have f109 := (Nat.le_trans f106 Kq107.1)
        have f110 := ((((Keep.refl h0 []).ext E100).wr W104 (Or.inr sz_b100)).trans Kq107 (allS (Or.inr sz_b100) all0))
        have g_b108 : n0 ≤ b108 := Nat.le_trans f109 (Nat.le_of_eq g108.symm)
        have sz_b108 : h0.size ≤ b108 := Nat.le_trans f110.1 (Nat.le_of_eq g108.symm)
        have lt_b100_108 := Vq107.lt
        have F108_coder : Fld Z h108 b108 "java/lang/String" "coder" "B" (.int (0 : Int32)) := D108 (Or.inr (hw _ (List.mem_of_getElem? (i := 52) rfl))) (ty := .byte) (by decide)
        have F108_value : Fld Z h108 b108 "java/lang/String" "value" "[B" .null := D108 (Or.inr (hw _ (List.mem_of_getElem? (i := 54) rfl))) (ty := (.array .byte)) (by decide)
        have c111 : ∀ t, Steps p.tables e below (T108.setTop (mkF m 115 #[.val (.long q0), .second, .val (.int p1), .val (.long mm), .second, .val (.int (p1 &&& (3 : Int32))), .val (.int (1 : Int32)), .val (.int (0 : Int32)), .val (.long mm), .second, .unset, .val (.ref b100)] [(.ref b100), (.ref b108), (.ref b108)])) t → Steps p.tables e below (T108.setTop (mkF m 112 #[.val (.long q0), .second, .val (.int p1), .val (.long mm), .second, .val (.int (p1 &&& (3 : Int32))), .val (.int (1 : Int32)), .val (.int (0 : Int32)), .val (.long mm), .second, .unset, .val (.ref b100)] [(.ref b108)])) t := by
          intro t kt
          show Steps p.tables e below (T108.setTop (mkF m 112 #[.val (.long q0), .second, .val (.int p1), .val (.long mm), .second, .val (.int (p1 &&& (3 : Int32))), .val (.int (1 : Int32)), .val (.int (0 : Int32)), .val (.long mm), .second, .unset, .val (.ref b100)] [(.ref b108)])) _
          refine XS.dup X108.here hx rfl (hb hby at_112) rfl rfl ?_
          show Steps p.tables e below (T108.setTop (mkF m 113 #[.val (.long q0), .second, .val (.int p1), .val (.long mm), .second, .val (.int (p1 &&& (3 : Int32))), .val (.int (1 : Int32)), .val (.int (0 : Int32)), .val (.long mm), .second, .unset, .val (.ref b100)] [(.ref b108), (.ref b108)])) _
          refine XS.aload X108.here hx rfl (hb hby at_113) rfl rfl ?_
          exact kt
        have f112 := (Nat.le_trans f109 E108.1)
        have f113 := (Vq107.ext E108)
        have f114 := ((((O0.ext E100).wr W104 g_b100).keep Kq107 (allS g_b100 all0)).ext E108)
        obtain ⟨_, _, ⟨T115, L115, k115, n115⟩, -, X115, ⟨Lc115, hQ115, l115, y115, z115⟩, st115⟩ := X108.specialBack hx (y := (⟨"java/lang/String", "<init>", "([C)V"⟩ : MethodName)) rfl hown (mvT hZ (hw _ (List.mem_of_getElem? (i := 29) rfl))) (mvT hZ (hw _ (List.mem_of_getElem? (i := 30) rfl))) (mvT hZ (hw _ (List.mem_of_getElem? (i := 31) rfl))) (by decide) (StrChars.Road.backV (W := 1) hZ hws (kI := 4) (hw _ (List.mem_of_getElem? (i := 27) rfl)) (cs := (own_c20 ((45 : Int32).toUInt32.toUInt16.toUInt32.toInt32) mm)) (bs := ((own_c20 ((45 : Int32).toUInt32.toUInt16.toUInt32.toInt32) mm)).map (fun c => c.toInt8.toInt32)) (n := 20) g_b108 f112 A108 F108_value F108_coder f113 (SC.ext f114.2) hcs rfl rfl (by decide) (by decide) (own_hp20 _ mm (by decide) hm) rfl (by decide) (by decide)) (g := (mkF m 115 #[.val (.long q0), .second, .val (.int p1), .val (.long mm), .second, .val (.int (p1 &&& (3 : Int32))), .val (.int (1 : Int32)), .val (.int (0 : Int32)), .val (.long mm), .second, .unset, .val (.ref b100)] [(.ref b100), (.ref b108), (.ref b108)])) rfl (by rw [hml]; rfl) (Steps.refl _) (a := b108) (argsL := [(.ref b100)]) (rest := [(.ref b108)]) (lenOf pd_12 rfl) rfl (by show 2 * 0 + _ ≤ _; exact Nat.le_of_eq rfl) (hb hby at_115) (fun _ _ => ⟨rfl, e108, (by decide : 2 + 1 ≤ _), (by decide : 24 + 20 ≤ _)⟩)
        dsimp only [Pt.U, Pt.locs, Pt.cells, Pt.slots] at X115 l115 y115 z115 st115 hQ115
        subst l115 y115 z115
        obtain ⟨rfl, N115q, Kq115, Eq115, Fc115, ot115, kb115, g_ot115, szq115, nt115, Fv115, Vb115⟩ := hQ115
        have N115 := Fr.app N107 N115q
        have lt_b100_115 := f113.lt
        have lt_b108_115 := A108.lt
        have f116 := (f110.ext E108)
        have sz_ot115 : h0.size ≤ ot115 := Nat.le_trans f116.1 szq115
        obtain ⟨Go115, X115, N115⟩ := own_opq X115 N115
        have c117 : ∀ t, Steps p.tables e below (T115.setTop (mkF m 149 #[.val (.long q0), .second, .val (.int p1), .val (.long mm), .second, .val (.int (p1 &&& (3 : Int32))), .val (.int (1 : Int32)), .val (.int (0 : Int32)), .val (.long mm), .second, .val (.ref b108), .val (.ref b100)] [(.ref b108)])) t → Steps p.tables e below (T115.setTop (mkF m 118 #[.val (.long q0), .second, .val (.int p1), .val (.long mm), .second, .val (.int (p1 &&& (3 : Int32))), .val (.int (1 : Int32)), .val (.int (0 : Int32)), .val (.long mm), .second, .unset, .val (.ref b100)] [(.ref b108)])) t := by
          intro t kt
          show Steps p.tables e below (T115.setTop (mkF m 118 #[.val (.long q0), .second, .val (.int p1), .val (.long mm), .second, .val (.int (p1 &&& (3 : Int32))), .val (.int (1 : Int32)), .val (.int (0 : Int32)), .val (.long mm), .second, .unset, .val (.ref b100)] [(.ref b108)])) _
          refine XS.astore X115.here hx rfl (hb hby at_118) rfl rfl (l' := #[.val (.long q0), .second, .val (.int p1), .val (.long mm), .second, .val (.int (p1 &&& (3 : Int32))), .val (.int (1 : Int32)), .val (.int (0 : Int32)), .val (.long mm), .second, .val (.ref b108), .val (.ref b100)]) rfl ?_
          show Steps p.tables e below (T115.setTop (mkF m 120 #[.val (.long q0), .second, .val (.int p1), .val (.long mm), .second, .val (.int (p1 &&& (3 : Int32))), .val (.int (1 : Int32)), .val (.int (0 : Int32)), .val (.long mm), .second, .val (.ref b108), .val (.ref b100)] [])) _
          refine XS.goto X115.here hx rfl (pc0 := 120) (pc' := 147) rfl (hb hby at_120) (by decide) (by decide) ?_
          show Steps p.tables e below (T115.setTop (mkF m 147 #[.val (.long q0), .second, .val (.int p1), .val (.long mm), .second, .val (.int (p1 &&& (3 : Int32))), .val (.int (1 : Int32)), .val (.int (0 : Int32)), .val (.long mm), .second, .val (.ref b108), .val (.ref b100)] [])) _
          refine XS.aload X115.here hx rfl (hb hby at_147) rfl rfl ?_
          exact kt
        have f118 := (Nat.le_trans f112 Kq115.1)
        have hsg : ((45 : Int32).toUInt32.toUInt16.toUInt32.toInt32) = 45 ∨ ((45 : Int32).toUInt32.toUInt16.toUInt32.toInt32) = 43 := by decide
        have f119 := (f114.keep Kq115 (allS g_b108 all0))
        obtain ⟨_, _, ⟨T120, L120, k120, n120⟩, -, X120, ⟨Lc120, hQ120, l120, y120, z120⟩, st120⟩ := Jvm.LawKit.callS X115 hx (y := (⟨"com/example/sequence_set/sequenceset/cli/DecimalParser", "parse", "(Ljava/lang/String;)J"⟩ : MethodName)) hown (mvT hZ (hw _ (List.mem_of_getElem? (i := 55) rfl))) (mvT hZ (hw _ (List.mem_of_getElem? (i := 56) rfl))) (mvT hZ (hw _ (List.mem_of_getElem? (i := 57) rfl))) (mvT hZ (hw _ (List.mem_of_getElem? (i := 58) rfl))) (by decide) (backOf (W := 0) (rm9 l Z a0 hw [] b108 ot115 kb115 (own_c20 ((45 : Int32).toUInt32.toUInt16.toUInt32.toInt32) mm) cs fm mm T115.heap n0 f118 f119 SC hcs SF hfm (by show own_val (own_run (own_c20 ((45 : Int32).toUInt32.toUInt16.toUInt32.toInt32) mm) 20).1 (own_run (own_c20 ((45 : Int32).toUInt32.toUInt16.toUInt32.toInt32) mm) 20).2.1 = _; rw [show own_run (own_c20 ((45 : Int32).toUInt32.toUInt16.toUInt32.toInt32) mm) 20 = _ from (own_e20 _ mm hsg hm)]; exact own_v45 _) Eq115 Fv115 Fc115 Vb115 (Nat.le_of_ble_eq_true rfl) (own_hp20 _ mm (by decide) hm) (own_all20 _ mm hsg hm) (by show ¬ (own_run (own_c20 ((45 : Int32).toUInt32.toUInt16.toUInt32.toInt32) mm) 20).2.2 = 0; rw [show own_run (own_c20 ((45 : Int32).toUInt32.toUInt16.toUInt32.toInt32) mm) 20 = _ from (own_e20 _ mm hsg hm)]; exact own_nz) (by show (own_run (own_c20 ((45 : Int32).toUInt32.toUInt16.toUInt32.toInt32) mm) 20).2.1 = 0 → ¬ (own_run (own_c20 ((45 : Int32).toUInt32.toUInt16.toUInt32.toInt32) mm) 20).1 = (-9223372036854775808 : Int64); rw [show own_run (own_c20 ((45 : Int32).toUInt32.toUInt16.toUInt32.toInt32) mm) 20 = _ from (own_e20 _ mm hsg hm)]; exact fun q => absurd q own_n45)) hZ (hw _ (List.mem_of_getElem? (i := 58) rfl)) (hw _ (List.mem_of_getElem? (i := 57) rfl)) (by decide) (by decide)) (g := (mkF m 149 #[.val (.long q0), .second, .val (.int p1), .val (.long mm), .second, .val (.int (p1 &&& (3 : Int32))), .val (.int (1 : Int32)), .val (.int (0 : Int32)), .val (.long mm), .second, .val (.ref b108), .val (.ref b100)] [(.ref b108)])) rfl (by rw [hml]; rfl) (argsL := [(.ref b108)]) (rest := []) (lenOf pd_13 rfl) rfl (by show 2 * 0 + _ ≤ _; exact Nat.le_of_eq rfl) (hb hby at_149) (fun _ _ => ⟨rfl, rfl, (by decide : 3 + 1 ≤ _), (by decide : 44 + 6 ≤ _)⟩)
        dsimp only [Pt.U, Pt.locs, Pt.cells, Pt.slots] at X120 l120 y120 z120 st120 hQ120
        subst l120 y120 z120
        obtain ⟨rfl, N120q, Kq120⟩ := hQ120
        have N120 := Fr.app N115 N120q
        obtain ⟨Go120, X120, N120⟩ := own_opq X120 N120
        have c121 : ∀ t, Steps p.tables e below (T120.setTop (mkF m 163 #[.val (.long q0), .second, .val (.int p1), .val (.long mm), .second, .val (.int (p1 &&& (3 : Int32))), .val (.int (1 : Int32)), .val (.int (0 : Int32)), .val (.long mm), .second, .val (.ref b108), .val (.ref b100)] [(.int (1 : Int32))])) t → Steps p.tables e below (T120.setTop (mkF m 152 #[.val (.long q0), .second, .val (.int p1), .val (.long mm), .second, .val (.int (p1 &&& (3 : Int32))), .val (.int (1 : Int32)), .val (.int (0 : Int32)), .val (.long mm), .second, .val (.ref b108), .val (.ref b100)] [(.long mm)])) t := by
          intro t kt
          show Steps p.tables e below (T120.setTop (mkF m 152 #[.val (.long q0), .second, .val (.int p1), .val (.long mm), .second, .val (.int (p1 &&& (3 : Int32))), .val (.int (1 : Int32)), .val (.int (0 : Int32)), .val (.long mm), .second, .val (.ref b108), .val (.ref b100)] [(.long mm)])) _
          refine XS.lload X120.here hx rfl (hb hby at_152) rfl ?_
          show Steps p.tables e below (T120.setTop (mkF m 154 #[.val (.long q0), .second, .val (.int p1), .val (.long mm), .second, .val (.int (p1 &&& (3 : Int32))), .val (.int (1 : Int32)), .val (.int (0 : Int32)), .val (.long mm), .second, .val (.ref b108), .val (.ref b100)] [(.long mm), (.long mm)])) _
          refine XS.lcmp X120.here hx rfl (hb hby at_154) rfl ?_
          show Steps p.tables e below (T120.setTop (mkF m 155 #[.val (.long q0), .second, .val (.int p1), .val (.long mm), .second, .val (.int (p1 &&& (3 : Int32))), .val (.int (1 : Int32)), .val (.int (0 : Int32)), .val (.long mm), .second, .val (.ref b108), .val (.ref b100)] [(.int (lcmpW mm mm))])) _
          refine XS.ifNo X120.here hx rfl (hb hby at_155) rfl ((if0 _ _).trans (teq ((lw_eq _ _).mpr (rfl : mm = mm))).2) ?_
          show Steps p.tables e below (T120.setTop (mkF m 158 #[.val (.long q0), .second, .val (.int p1), .val (.long mm), .second, .val (.int (p1 &&& (3 : Int32))), .val (.int (1 : Int32)), .val (.int (0 : Int32)), .val (.long mm), .second, .val (.ref b108), .val (.ref b100)] [])) _
          refine XS.iconst X120.here hx rfl (hb hby at_158) ?_
          show Steps p.tables e below (T120.setTop (mkF m 159 #[.val (.long q0), .second, .val (.int p1), .val (.long mm), .second, .val (.int (p1 &&& (3 : Int32))), .val (.int (1 : Int32)), .val (.int (0 : Int32)), .val (.long mm), .second, .val (.ref b108), .val (.ref b100)] [(.int (1 : Int32))])) _
          refine XS.goto X120.here hx rfl (pc0 := 159) (pc' := 163) rfl (hb hby at_159) (by decide) (by decide) ?_
          exact kt
        obtain ⟨fs, hr, hrun, hended, hW, hsame⟩ := X120.leave (v := some (.int (1 : Int32))) (fun h => by rw [Bd.returns] at h; cases h)
        refine ⟨_, _, pre0 _ (c1 _ (c96 _ (c97 _ (c98 _ (c99 _ (c101 _ (st100 _ (c102 _ (st104 _ (c105 _ (st107 _ (st108 _ (c111 _ (st115.trans (c117 _ (st120 _ (c121 _ (?_)))))))))))))))))), hrun, hended, _, _, rfl, ?_, ⟨_, rfl⟩, hW, hsame.mono (by decide) (by decide)⟩
        · show Steps p.tables e below (T120.setTop (mkF m 163 #[.val (.long q0), .second, .val (.int p1), .val (.long mm), .second, .val (.int (p1 &&& (3 : Int32))), .val (.int (1 : Int32)), .val (.int (0 : Int32)), .val (.long mm), .second, .val (.ref b108), .val (.ref b100)] [(.int (1 : Int32))])) _
          exact retN X120 hx (t := .boolean) Bd.returns (by simp) (hb hby at_163) hr
        · show Q0 Z q0 p1 cs fm h0 n0 _ T120.heap _
          exact ⟨congrArg (fun z => some (Value.int z)) (show (1 : Int32) = (1 : Int32) from by rfl), N120⟩
      · -- it isn't
        have c123 : ∀ t, Steps p.tables e below (s₁.setTop (mkF m 47 #[.val (.long q0), .second, .val (.int p1), .val (.long mm), .second, .val (.int (p1 &&& (3 : Int32))), .val (.int (0 : Int32)), .unset, .unset, .unset, .unset, .unset] [(.int (1 : Int32)), (.int (p1 &&& (3 : Int32)))])) t → Steps p.tables e below (s₁.setTop (mkF m 29 #[.val (.long q0), .second, .val (.int p1), .val (.long mm), .second, .val (.int (p1 &&& (3 : Int32))), .unset, .unset, .unset, .unset, .unset, .unset] [(.int (lcmpW mm (-9223372036854775808 : Int64)))])) t := by
          intro t kt
          show Steps p.tables e below (s₁.setTop (mkF m 29 #[.val (.long q0), .second, .val (.int p1), .val (.long mm), .second, .val (.int (p1 &&& (3 : Int32))), .unset, .unset, .unset, .unset, .unset, .unset] [(.int (lcmpW mm (-9223372036854775808 : Int64)))])) _
          refine XS.ifYes X0.here hx rfl (pc0 := 29) (pc' := 36) rfl (hb hby at_29) rfl ((if0 _ _).trans (feq (fun q => hc29 ((lw_eq _ _).mp q))).2) (by decide) (by decide) ?_
          show Steps p.tables e below (s₁.setTop (mkF m 36 #[.val (.long q0), .second, .val (.int p1), .val (.long mm), .second, .val (.int (p1 &&& (3 : Int32))), .unset, .unset, .unset, .unset, .unset, .unset] [])) _
          refine XS.iconst X0.here hx rfl (hb hby at_36) ?_
          show Steps p.tables e below (s₁.setTop (mkF m 37 #[.val (.long q0), .second, .val (.int p1), .val (.long mm), .second, .val (.int (p1 &&& (3 : Int32))), .unset, .unset, .unset, .unset, .unset, .unset] [(.int (0 : Int32))])) _
          refine XS.istore X0.here hx rfl (hb hby at_37) rfl (l' := #[.val (.long q0), .second, .val (.int p1), .val (.long mm), .second, .val (.int (p1 &&& (3 : Int32))), .val (.int (0 : Int32)), .unset, .unset, .unset, .unset, .unset]) rfl ?_
          show Steps p.tables e below (s₁.setTop (mkF m 39 #[.val (.long q0), .second, .val (.int p1), .val (.long mm), .second, .val (.int (p1 &&& (3 : Int32))), .val (.int (0 : Int32)), .unset, .unset, .unset, .unset, .unset] [])) _
          refine XS.iload X0.here hx rfl (hb hby at_39) rfl ?_
          show Steps p.tables e below (s₁.setTop (mkF m 41 #[.val (.long q0), .second, .val (.int p1), .val (.long mm), .second, .val (.int (p1 &&& (3 : Int32))), .val (.int (0 : Int32)), .unset, .unset, .unset, .unset, .unset] [(.int (0 : Int32))])) _
          refine XS.ifNo X0.here hx rfl (hb hby at_41) rfl ((if0 _ _).trans (teq (by decide : (0 : Int32) = (0 : Int32))).2) ?_
          show Steps p.tables e below (s₁.setTop (mkF m 44 #[.val (.long q0), .second, .val (.int p1), .val (.long mm), .second, .val (.int (p1 &&& (3 : Int32))), .val (.int (0 : Int32)), .unset, .unset, .unset, .unset, .unset] [])) _
          refine XS.iload X0.here hx rfl (hb hby at_44) rfl ?_
          show Steps p.tables e below (s₁.setTop (mkF m 46 #[.val (.long q0), .second, .val (.int p1), .val (.long mm), .second, .val (.int (p1 &&& (3 : Int32))), .val (.int (0 : Int32)), .unset, .unset, .unset, .unset, .unset] [(.int (p1 &&& (3 : Int32)))])) _
          refine XS.iconst X0.here hx rfl (hb hby at_46) ?_
          exact kt
        by_cases hc47 : (p1 &&& (3 : Int32)) = (1 : Int32)
        · -- it is
          have c125 : ∀ t, Steps p.tables e below (s₁.setTop (mkF m 82 #[.val (.long q0), .second, .val (.int p1), .val (.long mm), .second, .val (.int (p1 &&& (3 : Int32))), .val (.int (0 : Int32)), .val (.int (1 : Int32)), .val (.long (-mm)), .second, .unset, .unset] [(.int (20 : Int32))])) t → Steps p.tables e below (s₁.setTop (mkF m 47 #[.val (.long q0), .second, .val (.int p1), .val (.long mm), .second, .val (.int (p1 &&& (3 : Int32))), .val (.int (0 : Int32)), .unset, .unset, .unset, .unset, .unset] [(.int (1 : Int32)), (.int (p1 &&& (3 : Int32)))])) t := by
            intro t kt
            show Steps p.tables e below (s₁.setTop (mkF m 47 #[.val (.long q0), .second, .val (.int p1), .val (.long mm), .second, .val (.int (p1 &&& (3 : Int32))), .val (.int (0 : Int32)), .unset, .unset, .unset, .unset, .unset] [(.int (1 : Int32)), (.int (p1 &&& (3 : Int32)))])) _
            refine XS.icmpNo X0.here hx rfl (hb hby at_47) rfl (teq hc47).2 ?_
            show Steps p.tables e below (s₁.setTop (mkF m 50 #[.val (.long q0), .second, .val (.int p1), .val (.long mm), .second, .val (.int (p1 &&& (3 : Int32))), .val (.int (0 : Int32)), .unset, .unset, .unset, .unset, .unset] [])) _
            refine XS.iconst X0.here hx rfl (hb hby at_50) ?_
            show Steps p.tables e below (s₁.setTop (mkF m 51 #[.val (.long q0), .second, .val (.int p1), .val (.long mm), .second, .val (.int (p1 &&& (3 : Int32))), .val (.int (0 : Int32)), .unset, .unset, .unset, .unset, .unset] [(.int (1 : Int32))])) _
            refine XS.goto X0.here hx rfl (pc0 := 51) (pc' := 55) rfl (hb hby at_51) (by decide) (by decide) ?_
            show Steps p.tables e below (s₁.setTop (mkF m 55 #[.val (.long q0), .second, .val (.int p1), .val (.long mm), .second, .val (.int (p1 &&& (3 : Int32))), .val (.int (0 : Int32)), .unset, .unset, .unset, .unset, .unset] [(.int (1 : Int32))])) _
            refine XS.istore X0.here hx rfl (hb hby at_55) rfl (l' := #[.val (.long q0), .second, .val (.int p1), .val (.long mm), .second, .val (.int (p1 &&& (3 : Int32))), .val (.int (0 : Int32)), .val (.int (1 : Int32)), .unset, .unset, .unset, .unset]) rfl ?_
            show Steps p.tables e below (s₁.setTop (mkF m 57 #[.val (.long q0), .second, .val (.int p1), .val (.long mm), .second, .val (.int (p1 &&& (3 : Int32))), .val (.int (0 : Int32)), .val (.int (1 : Int32)), .unset, .unset, .unset, .unset] [])) _
            refine XS.iload X0.here hx rfl (hb hby at_57) rfl ?_
            show Steps p.tables e below (s₁.setTop (mkF m 59 #[.val (.long q0), .second, .val (.int p1), .val (.long mm), .second, .val (.int (p1 &&& (3 : Int32))), .val (.int (0 : Int32)), .val (.int (1 : Int32)), .unset, .unset, .unset, .unset] [(.int (0 : Int32))])) _
            refine XS.ifYes X0.here hx rfl (pc0 := 59) (pc' := 66) rfl (hb hby at_59) rfl ((if0 _ _).trans (teq (by decide : (0 : Int32) = (0 : Int32))).1) (by decide) (by decide) ?_
            show Steps p.tables e below (s₁.setTop (mkF m 66 #[.val (.long q0), .second, .val (.int p1), .val (.long mm), .second, .val (.int (p1 &&& (3 : Int32))), .val (.int (0 : Int32)), .val (.int (1 : Int32)), .unset, .unset, .unset, .unset] [])) _
            refine XS.lloadN X0.here hx rfl (hb hby at_66) rfl ?_
            show Steps p.tables e below (s₁.setTop (mkF m 67 #[.val (.long q0), .second, .val (.int p1), .val (.long mm), .second, .val (.int (p1 &&& (3 : Int32))), .val (.int (0 : Int32)), .val (.int (1 : Int32)), .unset, .unset, .unset, .unset] [(.long mm)])) _
            refine XS.lneg X0.here hx rfl (hb hby at_67) rfl ?_
            show Steps p.tables e below (s₁.setTop (mkF m 68 #[.val (.long q0), .second, .val (.int p1), .val (.long mm), .second, .val (.int (p1 &&& (3 : Int32))), .val (.int (0 : Int32)), .val (.int (1 : Int32)), .unset, .unset, .unset, .unset] [(.long (-mm))])) _
            refine XS.lstore X0.here hx rfl (hb hby at_68) rfl (l' := #[.val (.long q0), .second, .val (.int p1), .val (.long mm), .second, .val (.int (p1 &&& (3 : Int32))), .val (.int (0 : Int32)), .val (.int (1 : Int32)), .val (.long (-mm)), .second, .unset, .unset]) rfl ?_
            show Steps p.tables e below (s₁.setTop (mkF m 70 #[.val (.long q0), .second, .val (.int p1), .val (.long mm), .second, .val (.int (p1 &&& (3 : Int32))), .val (.int (0 : Int32)), .val (.int (1 : Int32)), .val (.long (-mm)), .second, .unset, .unset] [])) _
            refine XS.iload X0.here hx rfl (hb hby at_70) rfl ?_
            show Steps p.tables e below (s₁.setTop (mkF m 72 #[.val (.long q0), .second, .val (.int p1), .val (.long mm), .second, .val (.int (p1 &&& (3 : Int32))), .val (.int (0 : Int32)), .val (.int (1 : Int32)), .val (.long (-mm)), .second, .unset, .unset] [(.int (0 : Int32))])) _
            refine XS.ifNo X0.here hx rfl (hb hby at_72) rfl ((if0 _ _).trans (teq (by decide : (0 : Int32) = (0 : Int32))).2) ?_
            show Steps p.tables e below (s₁.setTop (mkF m 75 #[.val (.long q0), .second, .val (.int p1), .val (.long mm), .second, .val (.int (p1 &&& (3 : Int32))), .val (.int (0 : Int32)), .val (.int (1 : Int32)), .val (.long (-mm)), .second, .unset, .unset] [])) _
            refine XS.iload X0.here hx rfl (hb hby at_75) rfl ?_
            show Steps p.tables e below (s₁.setTop (mkF m 77 #[.val (.long q0), .second, .val (.int p1), .val (.long mm), .second, .val (.int (p1 &&& (3 : Int32))), .val (.int (0 : Int32)), .val (.int (1 : Int32)), .val (.long (-mm)), .second, .unset, .unset] [(.int (1 : Int32))])) _
            refine XS.ifNo X0.here hx rfl (hb hby at_77) rfl ((if0 _ _).trans (feq (by decide : ¬ ((1 : Int32) = (0 : Int32)))).1) ?_
            show Steps p.tables e below (s₁.setTop (mkF m 80 #[.val (.long q0), .second, .val (.int p1), .val (.long mm), .second, .val (.int (p1 &&& (3 : Int32))), .val (.int (0 : Int32)), .val (.int (1 : Int32)), .val (.long (-mm)), .second, .unset, .unset] [])) _
            refine XS.bipush X0.here hx rfl (hb hby at_80) ?_
            exact kt
          obtain ⟨T124, h124, k124, X124, e124, E124, A124, st124⟩ := newP X0 hx hZ (hw _ (List.mem_of_getElem? (i := 0) rfl)) e0 (g := (mkF m 82 #[.val (.long q0), .second, .val (.int p1), .val (.long mm), .second, .val (.int (p1 &&& (3 : Int32))), .val (.int (0 : Int32)), .val (.int (1 : Int32)), .val (.long (-mm)), .second, .unset, .unset] [(.int (20 : Int32))])) rfl (hb hby at_82) rfl (by decide) (cap := 20) (by decide) (by decide) (by decide) (by decide)
          obtain ⟨b124, g124⟩ : ∃ z, z = h0.size := ⟨_, rfl⟩
          rw [← g124] at A124 st124
          have g_b124 : n0 ≤ b124 := Nat.le_trans Z0 (Nat.le_of_eq g124.symm)
          have sz_b124 : h0.size ≤ b124 := Nat.le_trans (Keep.refl h0 []).1 (Nat.le_of_eq g124.symm)
          have V124 : Arv Z h124 b124 k124 .char (20 : Int32) [(.int (0 : Int32)), (.int (0 : Int32)), (.int (0 : Int32)), (.int (0 : Int32)), (.int (0 : Int32)), (.int (0 : Int32)), (.int (0 : Int32)), (.int (0 : Int32)), (.int (0 : Int32)), (.int (0 : Int32)), (.int (0 : Int32)), (.int (0 : Int32)), (.int (0 : Int32)), (.int (0 : Int32)), (.int (0 : Int32)), (.int (0 : Int32)), (.int (0 : Int32)), (.int (0 : Int32)), (.int (0 : Int32)), (.int (0 : Int32))] (.int (0 : Int32)) := (Arv.new A124 (by decide)).pad (pad_rep [] (.int (0 : Int32)) 20)
          have c126 : ∀ t, Steps p.tables e below (T124.setTop (mkF m 101 #[.val (.long q0), .second, .val (.int p1), .val (.long mm), .second, .val (.int (p1 &&& (3 : Int32))), .val (.int (0 : Int32)), .val (.int (1 : Int32)), .val (.long (-mm)), .second, .unset, .val (.ref b124)] [(.int (43 : Int32)), (.int (0 : Int32)), (.ref b124)])) t → Steps p.tables e below (T124.setTop (mkF m 84 #[.val (.long q0), .second, .val (.int p1), .val (.long mm), .second, .val (.int (p1 &&& (3 : Int32))), .val (.int (0 : Int32)), .val (.int (1 : Int32)), .val (.long (-mm)), .second, .unset, .unset] [(.ref b124)])) t := by
            intro t kt
            show Steps p.tables e below (T124.setTop (mkF m 84 #[.val (.long q0), .second, .val (.int p1), .val (.long mm), .second, .val (.int (p1 &&& (3 : Int32))), .val (.int (0 : Int32)), .val (.int (1 : Int32)), .val (.long (-mm)), .second, .unset, .unset] [(.ref b124)])) _
            refine XS.astore X124.here hx rfl (hb hby at_84) rfl rfl (l' := #[.val (.long q0), .second, .val (.int p1), .val (.long mm), .second, .val (.int (p1 &&& (3 : Int32))), .val (.int (0 : Int32)), .val (.int (1 : Int32)), .val (.long (-mm)), .second, .unset, .val (.ref b124)]) rfl ?_
            show Steps p.tables e below (T124.setTop (mkF m 86 #[.val (.long q0), .second, .val (.int p1), .val (.long mm), .second, .val (.int (p1 &&& (3 : Int32))), .val (.int (0 : Int32)), .val (.int (1 : Int32)), .val (.long (-mm)), .second, .unset, .val (.ref b124)] [])) _
            refine XS.aload X124.here hx rfl (hb hby at_86) rfl rfl ?_
            show Steps p.tables e below (T124.setTop (mkF m 88 #[.val (.long q0), .second, .val (.int p1), .val (.long mm), .second, .val (.int (p1 &&& (3 : Int32))), .val (.int (0 : Int32)), .val (.int (1 : Int32)), .val (.long (-mm)), .second, .unset, .val (.ref b124)] [(.ref b124)])) _
            refine XS.iconst X124.here hx rfl (hb hby at_88) ?_
            show Steps p.tables e below (T124.setTop (mkF m 89 #[.val (.long q0), .second, .val (.int p1), .val (.long mm), .second, .val (.int (p1 &&& (3 : Int32))), .val (.int (0 : Int32)), .val (.int (1 : Int32)), .val (.long (-mm)), .second, .unset, .val (.ref b124)] [(.int (0 : Int32)), (.ref b124)])) _
            refine XS.iload X124.here hx rfl (hb hby at_89) rfl ?_
            show Steps p.tables e below (T124.setTop (mkF m 91 #[.val (.long q0), .second, .val (.int p1), .val (.long mm), .second, .val (.int (p1 &&& (3 : Int32))), .val (.int (0 : Int32)), .val (.int (1 : Int32)), .val (.long (-mm)), .second, .unset, .val (.ref b124)] [(.int (0 : Int32)), (.int (0 : Int32)), (.ref b124)])) _
            refine XS.ifYes X124.here hx rfl (pc0 := 91) (pc' := 99) rfl (hb hby at_91) rfl ((if0 _ _).trans (teq (by decide : (0 : Int32) = (0 : Int32))).1) (by decide) (by decide) ?_
            show Steps p.tables e below (T124.setTop (mkF m 99 #[.val (.long q0), .second, .val (.int p1), .val (.long mm), .second, .val (.int (p1 &&& (3 : Int32))), .val (.int (0 : Int32)), .val (.int (1 : Int32)), .val (.long (-mm)), .second, .unset, .val (.ref b124)] [(.int (0 : Int32)), (.ref b124)])) _
            refine XS.bipush X124.here hx rfl (hb hby at_99) ?_
            exact kt
          have Vc127 := V124
          obtain ⟨cl127, Ar127, qk127, S127, M127, H127, G127⟩ := Vc127
          have hin127 : ¬ ((0 : Int32) < 0 ∨ cl127.slots.size ≤ ((0 : Int32)).toNatClampNeg) := inb_of S127 ⟨by decide, by decide⟩
          obtain ⟨T128, h128, X128, e128, W128, st128⟩ := stC X124 hx hZ e124 Ar127 (j := (0 : Int32)) hin127 (g := (mkF m 101 #[.val (.long q0), .second, .val (.int p1), .val (.long mm), .second, .val (.int (p1 &&& (3 : Int32))), .val (.int (0 : Int32)), .val (.int (1 : Int32)), .val (.long (-mm)), .second, .unset, .val (.ref b124)] [(.int (43 : Int32)), (.int (0 : Int32)), (.ref b124)])) rfl rfl (hb hby at_101)
          have V128 : Arv Z h128 b124 k124 .char (20 : Int32) [(.int ((43 : Int32).toUInt32.toUInt16.toUInt32.toInt32)), (.int (0 : Int32)), (.int (0 : Int32)), (.int (0 : Int32)), (.int (0 : Int32)), (.int (0 : Int32)), (.int (0 : Int32)), (.int (0 : Int32)), (.int (0 : Int32)), (.int (0 : Int32)), (.int (0 : Int32)), (.int (0 : Int32)), (.int (0 : Int32)), (.int (0 : Int32)), (.int (0 : Int32)), (.int (0 : Int32)), (.int (0 : Int32)), (.int (0 : Int32)), (.int (0 : Int32)), (.int (0 : Int32))] (.int (0 : Int32)) := Arv.set Ar127 qk127 S127 M127 H127 G127 (fits_nar_char _) W128 0 rfl (Nat.le_of_ble_eq_true rfl)
          have N128 := Fr.snoc X128 N0 g_b124
          have c129 : ∀ t, Steps p.tables e below (T128.setTop (mkF m 106 #[.val (.long q0), .second, .val (.int p1), .val (.long mm), .second, .val (.int (p1 &&& (3 : Int32))), .val (.int (0 : Int32)), .val (.int (1 : Int32)), .val (.long (-mm)), .second, .unset, .val (.ref b124)] [(.long mm), (.int (1 : Int32)), (.ref b124)])) t → Steps p.tables e below (T128.setTop (mkF m 102 #[.val (.long q0), .second, .val (.int p1), .val (.long mm), .second, .val (.int (p1 &&& (3 : Int32))), .val (.int (0 : Int32)), .val (.int (1 : Int32)), .val (.long (-mm)), .second, .unset, .val (.ref b124)] [])) t := by
            intro t kt
            show Steps p.tables e below (T128.setTop (mkF m 102 #[.val (.long q0), .second, .val (.int p1), .val (.long mm), .second, .val (.int (p1 &&& (3 : Int32))), .val (.int (0 : Int32)), .val (.int (1 : Int32)), .val (.long (-mm)), .second, .unset, .val (.ref b124)] [])) _
            refine XS.aload X128.here hx rfl (hb hby at_102) rfl rfl ?_
            show Steps p.tables e below (T128.setTop (mkF m 104 #[.val (.long q0), .second, .val (.int p1), .val (.long mm), .second, .val (.int (p1 &&& (3 : Int32))), .val (.int (0 : Int32)), .val (.int (1 : Int32)), .val (.long (-mm)), .second, .unset, .val (.ref b124)] [(.ref b124)])) _
            refine XS.iconst X128.here hx rfl (hb hby at_104) ?_
            show Steps p.tables e below (T128.setTop (mkF m 105 #[.val (.long q0), .second, .val (.int p1), .val (.long mm), .second, .val (.int (p1 &&& (3 : Int32))), .val (.int (0 : Int32)), .val (.int (1 : Int32)), .val (.long (-mm)), .second, .unset, .val (.ref b124)] [(.int (1 : Int32)), (.ref b124)])) _
            refine XS.lloadN X128.here hx rfl (hb hby at_105) rfl ?_
            exact kt
          have f130 := (Nat.le_trans (Nat.le_trans Z0 E124.1) (Keep.of_wr W128).1)
          obtain ⟨_, _, ⟨T131, L131, k131, n131⟩, -, X131, ⟨Lc131, hQ131, l131, y131, z131⟩, st131⟩ := Jvm.LawKit.callS X128 hx (y := (⟨"com/example/sequence_set/sequenceset/cli/DecimalParserAcceptPinLaw", "fill", "([CIJ)V"⟩ : MethodName)) hown (mvT hZ (hw _ (List.mem_of_getElem? (i := 1) rfl))) (mvT hZ (hw _ (List.mem_of_getElem? (i := 2) rfl))) (mvT hZ (hw _ (List.mem_of_getElem? (i := 3) rfl))) (mvT hZ (hw _ (List.mem_of_getElem? (i := 4) rfl))) (by decide) (backOf (W := 0) (rm1_1 l Z a0 hw []  b124 mm k124 ((43 : Int32).toUInt32.toUInt16.toUInt32.toInt32) h128 n0 f130 V128 g_b124) hZ (hw _ (List.mem_of_getElem? (i := 4) rfl)) (hw _ (List.mem_of_getElem? (i := 3) rfl)) (by decide) (by decide)) (g := (mkF m 106 #[.val (.long q0), .second, .val (.int p1), .val (.long mm), .second, .val (.int (p1 &&& (3 : Int32))), .val (.int (0 : Int32)), .val (.int (1 : Int32)), .val (.long (-mm)), .second, .unset, .val (.ref b124)] [(.long mm), (.int (1 : Int32)), (.ref b124)])) rfl (by rw [hml]; rfl) (argsL := [(.ref b124), (.int (1 : Int32)), (.long mm)]) (rest := []) (lenOf pd_11 rfl) rfl (by show 2 * 0 + _ ≤ _; exact Nat.le_of_eq rfl) (hb hby at_106) (fun _ _ => ⟨rfl, e128, (by decide : 1 + 0 ≤ _), (by decide : 20 + 0 ≤ _)⟩)
          dsimp only [Pt.U, Pt.locs, Pt.cells, Pt.slots] at X131 l131 y131 z131 st131 hQ131
          subst l131 y131 z131
          obtain ⟨rfl, N131q, Kq131, Vq131⟩ := hQ131
          have N131 := Fr.app N128 N131q
          obtain ⟨Go131, X131, N131⟩ := own_opq X131 N131
          obtain ⟨T132, h132, X132, e132, E132, A132, D132, U132, st132⟩ := newO X131 hx hZ hown (hw _ (List.mem_of_getElem? (i := 26) rfl)) (hw _ (List.mem_of_getElem? (i := 27) rfl)) (hw _ (List.mem_of_getElem? (i := 28) rfl)) rfl (g := (mkF m 109 #[.val (.long q0), .second, .val (.int p1), .val (.long mm), .second, .val (.int (p1 &&& (3 : Int32))), .val (.int (0 : Int32)), .val (.int (1 : Int32)), .val (.long (-mm)), .second, .unset, .val (.ref b124)] [])) rfl (hb hby at_109) (by decide) (by decide)
          obtain ⟨b132, g132⟩ : ∃ z, z = T131.heap.size := ⟨_, rfl⟩
          rw [← g132] at A132 D132 U132 st132
          have f133 := (Nat.le_trans f130 Kq131.1)
          have f134 := ((((Keep.refl h0 []).ext E124).wr W128 (Or.inr sz_b124)).trans Kq131 (allS (Or.inr sz_b124) all0))
          have g_b132 : n0 ≤ b132 := Nat.le_trans f133 (Nat.le_of_eq g132.symm)
          have sz_b132 : h0.size ≤ b132 := Nat.le_trans f134.1 (Nat.le_of_eq g132.symm)
          have lt_b124_132 := Vq131.lt
          have F132_coder : Fld Z h132 b132 "java/lang/String" "coder" "B" (.int (0 : Int32)) := D132 (Or.inr (hw _ (List.mem_of_getElem? (i := 52) rfl))) (ty := .byte) (by decide)
          have F132_value : Fld Z h132 b132 "java/lang/String" "value" "[B" .null := D132 (Or.inr (hw _ (List.mem_of_getElem? (i := 54) rfl))) (ty := (.array .byte)) (by decide)
          have c135 : ∀ t, Steps p.tables e below (T132.setTop (mkF m 115 #[.val (.long q0), .second, .val (.int p1), .val (.long mm), .second, .val (.int (p1 &&& (3 : Int32))), .val (.int (0 : Int32)), .val (.int (1 : Int32)), .val (.long (-mm)), .second, .unset, .val (.ref b124)] [(.ref b124), (.ref b132), (.ref b132)])) t → Steps p.tables e below (T132.setTop (mkF m 112 #[.val (.long q0), .second, .val (.int p1), .val (.long mm), .second, .val (.int (p1 &&& (3 : Int32))), .val (.int (0 : Int32)), .val (.int (1 : Int32)), .val (.long (-mm)), .second, .unset, .val (.ref b124)] [(.ref b132)])) t := by
            intro t kt
            show Steps p.tables e below (T132.setTop (mkF m 112 #[.val (.long q0), .second, .val (.int p1), .val (.long mm), .second, .val (.int (p1 &&& (3 : Int32))), .val (.int (0 : Int32)), .val (.int (1 : Int32)), .val (.long (-mm)), .second, .unset, .val (.ref b124)] [(.ref b132)])) _
            refine XS.dup X132.here hx rfl (hb hby at_112) rfl rfl ?_
            show Steps p.tables e below (T132.setTop (mkF m 113 #[.val (.long q0), .second, .val (.int p1), .val (.long mm), .second, .val (.int (p1 &&& (3 : Int32))), .val (.int (0 : Int32)), .val (.int (1 : Int32)), .val (.long (-mm)), .second, .unset, .val (.ref b124)] [(.ref b132), (.ref b132)])) _
            refine XS.aload X132.here hx rfl (hb hby at_113) rfl rfl ?_
            exact kt
          have f136 := (Nat.le_trans f133 E132.1)
          have f137 := (Vq131.ext E132)
          have f138 := ((((O0.ext E124).wr W128 g_b124).keep Kq131 (allS g_b124 all0)).ext E132)
          obtain ⟨_, _, ⟨T139, L139, k139, n139⟩, -, X139, ⟨Lc139, hQ139, l139, y139, z139⟩, st139⟩ := X132.specialBack hx (y := (⟨"java/lang/String", "<init>", "([C)V"⟩ : MethodName)) rfl hown (mvT hZ (hw _ (List.mem_of_getElem? (i := 29) rfl))) (mvT hZ (hw _ (List.mem_of_getElem? (i := 30) rfl))) (mvT hZ (hw _ (List.mem_of_getElem? (i := 31) rfl))) (by decide) (StrChars.Road.backV (W := 1) hZ hws (kI := 4) (hw _ (List.mem_of_getElem? (i := 27) rfl)) (cs := (own_c20 ((43 : Int32).toUInt32.toUInt16.toUInt32.toInt32) mm)) (bs := ((own_c20 ((43 : Int32).toUInt32.toUInt16.toUInt32.toInt32) mm)).map (fun c => c.toInt8.toInt32)) (n := 20) g_b132 f136 A132 F132_value F132_coder f137 (SC.ext f138.2) hcs rfl rfl (by decide) (by decide) (own_hp20 _ mm (by decide) hm) rfl (by decide) (by decide)) (g := (mkF m 115 #[.val (.long q0), .second, .val (.int p1), .val (.long mm), .second, .val (.int (p1 &&& (3 : Int32))), .val (.int (0 : Int32)), .val (.int (1 : Int32)), .val (.long (-mm)), .second, .unset, .val (.ref b124)] [(.ref b124), (.ref b132), (.ref b132)])) rfl (by rw [hml]; rfl) (Steps.refl _) (a := b132) (argsL := [(.ref b124)]) (rest := [(.ref b132)]) (lenOf pd_12 rfl) rfl (by show 2 * 0 + _ ≤ _; exact Nat.le_of_eq rfl) (hb hby at_115) (fun _ _ => ⟨rfl, e132, (by decide : 2 + 1 ≤ _), (by decide : 24 + 20 ≤ _)⟩)
          dsimp only [Pt.U, Pt.locs, Pt.cells, Pt.slots] at X139 l139 y139 z139 st139 hQ139
          subst l139 y139 z139
          obtain ⟨rfl, N139q, Kq139, Eq139, Fc139, ot139, kb139, g_ot139, szq139, nt139, Fv139, Vb139⟩ := hQ139
          have N139 := Fr.app N131 N139q
          have lt_b124_139 := f137.lt
          have lt_b132_139 := A132.lt
          have f140 := (f134.ext E132)
          have sz_ot139 : h0.size ≤ ot139 := Nat.le_trans f140.1 szq139
          obtain ⟨Go139, X139, N139⟩ := own_opq X139 N139
          have c141 : ∀ t, Steps p.tables e below (T139.setTop (mkF m 149 #[.val (.long q0), .second, .val (.int p1), .val (.long mm), .second, .val (.int (p1 &&& (3 : Int32))), .val (.int (0 : Int32)), .val (.int (1 : Int32)), .val (.long (-mm)), .second, .val (.ref b132), .val (.ref b124)] [(.ref b132)])) t → Steps p.tables e below (T139.setTop (mkF m 118 #[.val (.long q0), .second, .val (.int p1), .val (.long mm), .second, .val (.int (p1 &&& (3 : Int32))), .val (.int (0 : Int32)), .val (.int (1 : Int32)), .val (.long (-mm)), .second, .unset, .val (.ref b124)] [(.ref b132)])) t := by
            intro t kt
            show Steps p.tables e below (T139.setTop (mkF m 118 #[.val (.long q0), .second, .val (.int p1), .val (.long mm), .second, .val (.int (p1 &&& (3 : Int32))), .val (.int (0 : Int32)), .val (.int (1 : Int32)), .val (.long (-mm)), .second, .unset, .val (.ref b124)] [(.ref b132)])) _
            refine XS.astore X139.here hx rfl (hb hby at_118) rfl rfl (l' := #[.val (.long q0), .second, .val (.int p1), .val (.long mm), .second, .val (.int (p1 &&& (3 : Int32))), .val (.int (0 : Int32)), .val (.int (1 : Int32)), .val (.long (-mm)), .second, .val (.ref b132), .val (.ref b124)]) rfl ?_
            show Steps p.tables e below (T139.setTop (mkF m 120 #[.val (.long q0), .second, .val (.int p1), .val (.long mm), .second, .val (.int (p1 &&& (3 : Int32))), .val (.int (0 : Int32)), .val (.int (1 : Int32)), .val (.long (-mm)), .second, .val (.ref b132), .val (.ref b124)] [])) _
            refine XS.goto X139.here hx rfl (pc0 := 120) (pc' := 147) rfl (hb hby at_120) (by decide) (by decide) ?_
            show Steps p.tables e below (T139.setTop (mkF m 147 #[.val (.long q0), .second, .val (.int p1), .val (.long mm), .second, .val (.int (p1 &&& (3 : Int32))), .val (.int (0 : Int32)), .val (.int (1 : Int32)), .val (.long (-mm)), .second, .val (.ref b132), .val (.ref b124)] [])) _
            refine XS.aload X139.here hx rfl (hb hby at_147) rfl rfl ?_
            exact kt
          have f142 := (Nat.le_trans f136 Kq139.1)
          have hsg : ((43 : Int32).toUInt32.toUInt16.toUInt32.toInt32) = 45 ∨ ((43 : Int32).toUInt32.toUInt16.toUInt32.toInt32) = 43 := by decide
          have f143 := (f138.keep Kq139 (allS g_b132 all0))
          obtain ⟨_, _, ⟨T144, L144, k144, n144⟩, -, X144, ⟨Lc144, hQ144, l144, y144, z144⟩, st144⟩ := Jvm.LawKit.callS X139 hx (y := (⟨"com/example/sequence_set/sequenceset/cli/DecimalParser", "parse", "(Ljava/lang/String;)J"⟩ : MethodName)) hown (mvT hZ (hw _ (List.mem_of_getElem? (i := 55) rfl))) (mvT hZ (hw _ (List.mem_of_getElem? (i := 56) rfl))) (mvT hZ (hw _ (List.mem_of_getElem? (i := 57) rfl))) (mvT hZ (hw _ (List.mem_of_getElem? (i := 58) rfl))) (by decide) (backOf (W := 0) (rm9 l Z a0 hw [] b132 ot139 kb139 (own_c20 ((43 : Int32).toUInt32.toUInt16.toUInt32.toInt32) mm) cs fm (-mm) T139.heap n0 f142 f143 SC hcs SF hfm (by show own_val (own_run (own_c20 ((43 : Int32).toUInt32.toUInt16.toUInt32.toInt32) mm) 20).1 (own_run (own_c20 ((43 : Int32).toUInt32.toUInt16.toUInt32.toInt32) mm) 20).2.1 = _; rw [show own_run (own_c20 ((43 : Int32).toUInt32.toUInt16.toUInt32.toInt32) mm) 20 = _ from (own_e20 _ mm hsg hm)]; exact own_v43 _) Eq139 Fv139 Fc139 Vb139 (Nat.le_of_ble_eq_true rfl) (own_hp20 _ mm (by decide) hm) (own_all20 _ mm hsg hm) (by show ¬ (own_run (own_c20 ((43 : Int32).toUInt32.toUInt16.toUInt32.toInt32) mm) 20).2.2 = 0; rw [show own_run (own_c20 ((43 : Int32).toUInt32.toUInt16.toUInt32.toInt32) mm) 20 = _ from (own_e20 _ mm hsg hm)]; exact own_nz) (by show (own_run (own_c20 ((43 : Int32).toUInt32.toUInt16.toUInt32.toInt32) mm) 20).2.1 = 0 → ¬ (own_run (own_c20 ((43 : Int32).toUInt32.toUInt16.toUInt32.toInt32) mm) 20).1 = (-9223372036854775808 : Int64); rw [show own_run (own_c20 ((43 : Int32).toUInt32.toUInt16.toUInt32.toInt32) mm) 20 = _ from (own_e20 _ mm hsg hm)]; exact fun _ => hc29)) hZ (hw _ (List.mem_of_getElem? (i := 58) rfl)) (hw _ (List.mem_of_getElem? (i := 57) rfl)) (by decide) (by decide)) (g := (mkF m 149 #[.val (.long q0), .second, .val (.int p1), .val (.long mm), .second, .val (.int (p1 &&& (3 : Int32))), .val (.int (0 : Int32)), .val (.int (1 : Int32)), .val (.long (-mm)), .second, .val (.ref b132), .val (.ref b124)] [(.ref b132)])) rfl (by rw [hml]; rfl) (argsL := [(.ref b132)]) (rest := []) (lenOf pd_13 rfl) rfl (by show 2 * 0 + _ ≤ _; exact Nat.le_of_eq rfl) (hb hby at_149) (fun _ _ => ⟨rfl, rfl, (by decide : 3 + 1 ≤ _), (by decide : 44 + 6 ≤ _)⟩)
          dsimp only [Pt.U, Pt.locs, Pt.cells, Pt.slots] at X144 l144 y144 z144 st144 hQ144
          subst l144 y144 z144
          obtain ⟨rfl, N144q, Kq144⟩ := hQ144
          have N144 := Fr.app N139 N144q
          obtain ⟨Go144, X144, N144⟩ := own_opq X144 N144
          have c145 : ∀ t, Steps p.tables e below (T144.setTop (mkF m 163 #[.val (.long q0), .second, .val (.int p1), .val (.long mm), .second, .val (.int (p1 &&& (3 : Int32))), .val (.int (0 : Int32)), .val (.int (1 : Int32)), .val (.long (-mm)), .second, .val (.ref b132), .val (.ref b124)] [(.int (1 : Int32))])) t → Steps p.tables e below (T144.setTop (mkF m 152 #[.val (.long q0), .second, .val (.int p1), .val (.long mm), .second, .val (.int (p1 &&& (3 : Int32))), .val (.int (0 : Int32)), .val (.int (1 : Int32)), .val (.long (-mm)), .second, .val (.ref b132), .val (.ref b124)] [(.long (-mm))])) t := by
            intro t kt
            show Steps p.tables e below (T144.setTop (mkF m 152 #[.val (.long q0), .second, .val (.int p1), .val (.long mm), .second, .val (.int (p1 &&& (3 : Int32))), .val (.int (0 : Int32)), .val (.int (1 : Int32)), .val (.long (-mm)), .second, .val (.ref b132), .val (.ref b124)] [(.long (-mm))])) _
            refine XS.lload X144.here hx rfl (hb hby at_152) rfl ?_
            show Steps p.tables e below (T144.setTop (mkF m 154 #[.val (.long q0), .second, .val (.int p1), .val (.long mm), .second, .val (.int (p1 &&& (3 : Int32))), .val (.int (0 : Int32)), .val (.int (1 : Int32)), .val (.long (-mm)), .second, .val (.ref b132), .val (.ref b124)] [(.long (-mm)), (.long (-mm))])) _
            refine XS.lcmp X144.here hx rfl (hb hby at_154) rfl ?_
            show Steps p.tables e below (T144.setTop (mkF m 155 #[.val (.long q0), .second, .val (.int p1), .val (.long mm), .second, .val (.int (p1 &&& (3 : Int32))), .val (.int (0 : Int32)), .val (.int (1 : Int32)), .val (.long (-mm)), .second, .val (.ref b132), .val (.ref b124)] [(.int (lcmpW (-mm) (-mm)))])) _
            refine XS.ifNo X144.here hx rfl (hb hby at_155) rfl ((if0 _ _).trans (teq ((lw_eq _ _).mpr (rfl : (-mm) = (-mm)))).2) ?_
            show Steps p.tables e below (T144.setTop (mkF m 158 #[.val (.long q0), .second, .val (.int p1), .val (.long mm), .second, .val (.int (p1 &&& (3 : Int32))), .val (.int (0 : Int32)), .val (.int (1 : Int32)), .val (.long (-mm)), .second, .val (.ref b132), .val (.ref b124)] [])) _
            refine XS.iconst X144.here hx rfl (hb hby at_158) ?_
            show Steps p.tables e below (T144.setTop (mkF m 159 #[.val (.long q0), .second, .val (.int p1), .val (.long mm), .second, .val (.int (p1 &&& (3 : Int32))), .val (.int (0 : Int32)), .val (.int (1 : Int32)), .val (.long (-mm)), .second, .val (.ref b132), .val (.ref b124)] [(.int (1 : Int32))])) _
            refine XS.goto X144.here hx rfl (pc0 := 159) (pc' := 163) rfl (hb hby at_159) (by decide) (by decide) ?_
            exact kt
          obtain ⟨fs, hr, hrun, hended, hW, hsame⟩ := X144.leave (v := some (.int (1 : Int32))) (fun h => by rw [Bd.returns] at h; cases h)
          refine ⟨_, _, pre0 _ (c1 _ (c96 _ (c97 _ (c98 _ (c99 _ (c123 _ (c125 _ (st124 _ (c126 _ (st128 _ (c129 _ (st131 _ (st132 _ (c135 _ (st139.trans (c141 _ (st144 _ (c145 _ (?_))))))))))))))))))), hrun, hended, _, _, rfl, ?_, ⟨_, rfl⟩, hW, hsame.mono (by decide) (by decide)⟩
          · show Steps p.tables e below (T144.setTop (mkF m 163 #[.val (.long q0), .second, .val (.int p1), .val (.long mm), .second, .val (.int (p1 &&& (3 : Int32))), .val (.int (0 : Int32)), .val (.int (1 : Int32)), .val (.long (-mm)), .second, .val (.ref b132), .val (.ref b124)] [(.int (1 : Int32))])) _
            exact retN X144 hx (t := .boolean) Bd.returns (by simp) (hb hby at_163) hr
          · show Q0 Z q0 p1 cs fm h0 n0 _ T144.heap _
            exact ⟨congrArg (fun z => some (Value.int z)) (show (1 : Int32) = (1 : Int32) from by rfl), N144⟩
        · -- it isn't
          have c148 : ∀ t, Steps p.tables e below (s₁.setTop (mkF m 125 #[.val (.long q0), .second, .val (.int p1), .val (.long mm), .second, .val (.int (p1 &&& (3 : Int32))), .val (.int (0 : Int32)), .val (.int (0 : Int32)), .val (.long (-mm)), .second, .unset, .unset] [(.int (19 : Int32))])) t → Steps p.tables e below (s₁.setTop (mkF m 47 #[.val (.long q0), .second, .val (.int p1), .val (.long mm), .second, .val (.int (p1 &&& (3 : Int32))), .val (.int (0 : Int32)), .unset, .unset, .unset, .unset, .unset] [(.int (1 : Int32)), (.int (p1 &&& (3 : Int32)))])) t := by
            intro t kt
            show Steps p.tables e below (s₁.setTop (mkF m 47 #[.val (.long q0), .second, .val (.int p1), .val (.long mm), .second, .val (.int (p1 &&& (3 : Int32))), .val (.int (0 : Int32)), .unset, .unset, .unset, .unset, .unset] [(.int (1 : Int32)), (.int (p1 &&& (3 : Int32)))])) _
            refine XS.icmpYes X0.here hx rfl (pc0 := 47) (pc' := 54) rfl (hb hby at_47) rfl (feq hc47).2 (by decide) (by decide) ?_
            show Steps p.tables e below (s₁.setTop (mkF m 54 #[.val (.long q0), .second, .val (.int p1), .val (.long mm), .second, .val (.int (p1 &&& (3 : Int32))), .val (.int (0 : Int32)), .unset, .unset, .unset, .unset, .unset] [])) _
            refine XS.iconst X0.here hx rfl (hb hby at_54) ?_
            show Steps p.tables e below (s₁.setTop (mkF m 55 #[.val (.long q0), .second, .val (.int p1), .val (.long mm), .second, .val (.int (p1 &&& (3 : Int32))), .val (.int (0 : Int32)), .unset, .unset, .unset, .unset, .unset] [(.int (0 : Int32))])) _
            refine XS.istore X0.here hx rfl (hb hby at_55) rfl (l' := #[.val (.long q0), .second, .val (.int p1), .val (.long mm), .second, .val (.int (p1 &&& (3 : Int32))), .val (.int (0 : Int32)), .val (.int (0 : Int32)), .unset, .unset, .unset, .unset]) rfl ?_
            show Steps p.tables e below (s₁.setTop (mkF m 57 #[.val (.long q0), .second, .val (.int p1), .val (.long mm), .second, .val (.int (p1 &&& (3 : Int32))), .val (.int (0 : Int32)), .val (.int (0 : Int32)), .unset, .unset, .unset, .unset] [])) _
            refine XS.iload X0.here hx rfl (hb hby at_57) rfl ?_
            show Steps p.tables e below (s₁.setTop (mkF m 59 #[.val (.long q0), .second, .val (.int p1), .val (.long mm), .second, .val (.int (p1 &&& (3 : Int32))), .val (.int (0 : Int32)), .val (.int (0 : Int32)), .unset, .unset, .unset, .unset] [(.int (0 : Int32))])) _
            refine XS.ifYes X0.here hx rfl (pc0 := 59) (pc' := 66) rfl (hb hby at_59) rfl ((if0 _ _).trans (teq (by decide : (0 : Int32) = (0 : Int32))).1) (by decide) (by decide) ?_
            show Steps p.tables e below (s₁.setTop (mkF m 66 #[.val (.long q0), .second, .val (.int p1), .val (.long mm), .second, .val (.int (p1 &&& (3 : Int32))), .val (.int (0 : Int32)), .val (.int (0 : Int32)), .unset, .unset, .unset, .unset] [])) _
            refine XS.lloadN X0.here hx rfl (hb hby at_66) rfl ?_
            show Steps p.tables e below (s₁.setTop (mkF m 67 #[.val (.long q0), .second, .val (.int p1), .val (.long mm), .second, .val (.int (p1 &&& (3 : Int32))), .val (.int (0 : Int32)), .val (.int (0 : Int32)), .unset, .unset, .unset, .unset] [(.long mm)])) _
            refine XS.lneg X0.here hx rfl (hb hby at_67) rfl ?_
            show Steps p.tables e below (s₁.setTop (mkF m 68 #[.val (.long q0), .second, .val (.int p1), .val (.long mm), .second, .val (.int (p1 &&& (3 : Int32))), .val (.int (0 : Int32)), .val (.int (0 : Int32)), .unset, .unset, .unset, .unset] [(.long (-mm))])) _
            refine XS.lstore X0.here hx rfl (hb hby at_68) rfl (l' := #[.val (.long q0), .second, .val (.int p1), .val (.long mm), .second, .val (.int (p1 &&& (3 : Int32))), .val (.int (0 : Int32)), .val (.int (0 : Int32)), .val (.long (-mm)), .second, .unset, .unset]) rfl ?_
            show Steps p.tables e below (s₁.setTop (mkF m 70 #[.val (.long q0), .second, .val (.int p1), .val (.long mm), .second, .val (.int (p1 &&& (3 : Int32))), .val (.int (0 : Int32)), .val (.int (0 : Int32)), .val (.long (-mm)), .second, .unset, .unset] [])) _
            refine XS.iload X0.here hx rfl (hb hby at_70) rfl ?_
            show Steps p.tables e below (s₁.setTop (mkF m 72 #[.val (.long q0), .second, .val (.int p1), .val (.long mm), .second, .val (.int (p1 &&& (3 : Int32))), .val (.int (0 : Int32)), .val (.int (0 : Int32)), .val (.long (-mm)), .second, .unset, .unset] [(.int (0 : Int32))])) _
            refine XS.ifNo X0.here hx rfl (hb hby at_72) rfl ((if0 _ _).trans (teq (by decide : (0 : Int32) = (0 : Int32))).2) ?_
            show Steps p.tables e below (s₁.setTop (mkF m 75 #[.val (.long q0), .second, .val (.int p1), .val (.long mm), .second, .val (.int (p1 &&& (3 : Int32))), .val (.int (0 : Int32)), .val (.int (0 : Int32)), .val (.long (-mm)), .second, .unset, .unset] [])) _
            refine XS.iload X0.here hx rfl (hb hby at_75) rfl ?_
            show Steps p.tables e below (s₁.setTop (mkF m 77 #[.val (.long q0), .second, .val (.int p1), .val (.long mm), .second, .val (.int (p1 &&& (3 : Int32))), .val (.int (0 : Int32)), .val (.int (0 : Int32)), .val (.long (-mm)), .second, .unset, .unset] [(.int (0 : Int32))])) _
            refine XS.ifYes X0.here hx rfl (pc0 := 77) (pc' := 123) rfl (hb hby at_77) rfl ((if0 _ _).trans (teq (by decide : (0 : Int32) = (0 : Int32))).1) (by decide) (by decide) ?_
            show Steps p.tables e below (s₁.setTop (mkF m 123 #[.val (.long q0), .second, .val (.int p1), .val (.long mm), .second, .val (.int (p1 &&& (3 : Int32))), .val (.int (0 : Int32)), .val (.int (0 : Int32)), .val (.long (-mm)), .second, .unset, .unset] [])) _
            refine XS.bipush X0.here hx rfl (hb hby at_123) ?_
            exact kt
          obtain ⟨T147, h147, k147, X147, e147, E147, A147, st147⟩ := newP X0 hx hZ (hw _ (List.mem_of_getElem? (i := 0) rfl)) e0 (g := (mkF m 125 #[.val (.long q0), .second, .val (.int p1), .val (.long mm), .second, .val (.int (p1 &&& (3 : Int32))), .val (.int (0 : Int32)), .val (.int (0 : Int32)), .val (.long (-mm)), .second, .unset, .unset] [(.int (19 : Int32))])) rfl (hb hby at_125) rfl (by decide) (cap := 19) (by decide) (by decide) (by decide) (by decide)
          obtain ⟨b147, g147⟩ : ∃ z, z = h0.size := ⟨_, rfl⟩
          rw [← g147] at A147 st147
          have g_b147 : n0 ≤ b147 := Nat.le_trans Z0 (Nat.le_of_eq g147.symm)
          have sz_b147 : h0.size ≤ b147 := Nat.le_trans (Keep.refl h0 []).1 (Nat.le_of_eq g147.symm)
          have V147 : Arv Z h147 b147 k147 .char (19 : Int32) [(.int (0 : Int32)), (.int (0 : Int32)), (.int (0 : Int32)), (.int (0 : Int32)), (.int (0 : Int32)), (.int (0 : Int32)), (.int (0 : Int32)), (.int (0 : Int32)), (.int (0 : Int32)), (.int (0 : Int32)), (.int (0 : Int32)), (.int (0 : Int32)), (.int (0 : Int32)), (.int (0 : Int32)), (.int (0 : Int32)), (.int (0 : Int32)), (.int (0 : Int32)), (.int (0 : Int32)), (.int (0 : Int32))] (.int (0 : Int32)) := (Arv.new A147 (by decide)).pad (pad_rep [] (.int (0 : Int32)) 19)
          have c149 : ∀ t, Steps p.tables e below (T147.setTop (mkF m 133 #[.val (.long q0), .second, .val (.int p1), .val (.long mm), .second, .val (.int (p1 &&& (3 : Int32))), .val (.int (0 : Int32)), .val (.int (0 : Int32)), .val (.long (-mm)), .second, .unset, .val (.ref b147)] [(.long mm), (.int (0 : Int32)), (.ref b147)])) t → Steps p.tables e below (T147.setTop (mkF m 127 #[.val (.long q0), .second, .val (.int p1), .val (.long mm), .second, .val (.int (p1 &&& (3 : Int32))), .val (.int (0 : Int32)), .val (.int (0 : Int32)), .val (.long (-mm)), .second, .unset, .unset] [(.ref b147)])) t := by
            intro t kt
            show Steps p.tables e below (T147.setTop (mkF m 127 #[.val (.long q0), .second, .val (.int p1), .val (.long mm), .second, .val (.int (p1 &&& (3 : Int32))), .val (.int (0 : Int32)), .val (.int (0 : Int32)), .val (.long (-mm)), .second, .unset, .unset] [(.ref b147)])) _
            refine XS.astore X147.here hx rfl (hb hby at_127) rfl rfl (l' := #[.val (.long q0), .second, .val (.int p1), .val (.long mm), .second, .val (.int (p1 &&& (3 : Int32))), .val (.int (0 : Int32)), .val (.int (0 : Int32)), .val (.long (-mm)), .second, .unset, .val (.ref b147)]) rfl ?_
            show Steps p.tables e below (T147.setTop (mkF m 129 #[.val (.long q0), .second, .val (.int p1), .val (.long mm), .second, .val (.int (p1 &&& (3 : Int32))), .val (.int (0 : Int32)), .val (.int (0 : Int32)), .val (.long (-mm)), .second, .unset, .val (.ref b147)] [])) _
            refine XS.aload X147.here hx rfl (hb hby at_129) rfl rfl ?_
            show Steps p.tables e below (T147.setTop (mkF m 131 #[.val (.long q0), .second, .val (.int p1), .val (.long mm), .second, .val (.int (p1 &&& (3 : Int32))), .val (.int (0 : Int32)), .val (.int (0 : Int32)), .val (.long (-mm)), .second, .unset, .val (.ref b147)] [(.ref b147)])) _
            refine XS.iconst X147.here hx rfl (hb hby at_131) ?_
            show Steps p.tables e below (T147.setTop (mkF m 132 #[.val (.long q0), .second, .val (.int p1), .val (.long mm), .second, .val (.int (p1 &&& (3 : Int32))), .val (.int (0 : Int32)), .val (.int (0 : Int32)), .val (.long (-mm)), .second, .unset, .val (.ref b147)] [(.int (0 : Int32)), (.ref b147)])) _
            refine XS.lloadN X147.here hx rfl (hb hby at_132) rfl ?_
            exact kt
          have f150 := (Nat.le_trans Z0 E147.1)
          obtain ⟨_, _, ⟨T151, L151, k151, n151⟩, -, X151, ⟨Lc151, hQ151, l151, y151, z151⟩, st151⟩ := Jvm.LawKit.callS X147 hx (y := (⟨"com/example/sequence_set/sequenceset/cli/DecimalParserAcceptPinLaw", "fill", "([CIJ)V"⟩ : MethodName)) hown (mvT hZ (hw _ (List.mem_of_getElem? (i := 1) rfl))) (mvT hZ (hw _ (List.mem_of_getElem? (i := 2) rfl))) (mvT hZ (hw _ (List.mem_of_getElem? (i := 3) rfl))) (mvT hZ (hw _ (List.mem_of_getElem? (i := 4) rfl))) (by decide) (backOf (W := 0) (rm1_0 l Z a0 hw []  b147 mm k147 h147 n0 f150 V147 g_b147) hZ (hw _ (List.mem_of_getElem? (i := 4) rfl)) (hw _ (List.mem_of_getElem? (i := 3) rfl)) (by decide) (by decide)) (g := (mkF m 133 #[.val (.long q0), .second, .val (.int p1), .val (.long mm), .second, .val (.int (p1 &&& (3 : Int32))), .val (.int (0 : Int32)), .val (.int (0 : Int32)), .val (.long (-mm)), .second, .unset, .val (.ref b147)] [(.long mm), (.int (0 : Int32)), (.ref b147)])) rfl (by rw [hml]; rfl) (argsL := [(.ref b147), (.int (0 : Int32)), (.long mm)]) (rest := []) (lenOf pd_11 rfl) rfl (by show 2 * 0 + _ ≤ _; exact Nat.le_of_eq rfl) (hb hby at_133) (fun _ _ => ⟨rfl, e147, (by decide : 1 + 0 ≤ _), (by decide : 19 + 0 ≤ _)⟩)
          dsimp only [Pt.U, Pt.locs, Pt.cells, Pt.slots] at X151 l151 y151 z151 st151 hQ151
          subst l151 y151 z151
          obtain ⟨rfl, N151q, Kq151, Vq151⟩ := hQ151
          have N151 := Fr.app N0 N151q
          obtain ⟨Go151, X151, N151⟩ := own_opq X151 N151
          obtain ⟨T152, h152, X152, e152, E152, A152, D152, U152, st152⟩ := newO X151 hx hZ hown (hw _ (List.mem_of_getElem? (i := 26) rfl)) (hw _ (List.mem_of_getElem? (i := 27) rfl)) (hw _ (List.mem_of_getElem? (i := 28) rfl)) rfl (g := (mkF m 136 #[.val (.long q0), .second, .val (.int p1), .val (.long mm), .second, .val (.int (p1 &&& (3 : Int32))), .val (.int (0 : Int32)), .val (.int (0 : Int32)), .val (.long (-mm)), .second, .unset, .val (.ref b147)] [])) rfl (hb hby at_136) (by decide) (by decide)
          obtain ⟨b152, g152⟩ : ∃ z, z = T151.heap.size := ⟨_, rfl⟩
          rw [← g152] at A152 D152 U152 st152
          have f153 := (Nat.le_trans f150 Kq151.1)
          have f154 := (((Keep.refl h0 []).ext E147).trans Kq151 (allS (Or.inr sz_b147) all0))
          have g_b152 : n0 ≤ b152 := Nat.le_trans f153 (Nat.le_of_eq g152.symm)
          have sz_b152 : h0.size ≤ b152 := Nat.le_trans f154.1 (Nat.le_of_eq g152.symm)
          have lt_b147_152 := Vq151.lt
          have F152_coder : Fld Z h152 b152 "java/lang/String" "coder" "B" (.int (0 : Int32)) := D152 (Or.inr (hw _ (List.mem_of_getElem? (i := 52) rfl))) (ty := .byte) (by decide)
          have F152_value : Fld Z h152 b152 "java/lang/String" "value" "[B" .null := D152 (Or.inr (hw _ (List.mem_of_getElem? (i := 54) rfl))) (ty := (.array .byte)) (by decide)
          have c155 : ∀ t, Steps p.tables e below (T152.setTop (mkF m 142 #[.val (.long q0), .second, .val (.int p1), .val (.long mm), .second, .val (.int (p1 &&& (3 : Int32))), .val (.int (0 : Int32)), .val (.int (0 : Int32)), .val (.long (-mm)), .second, .unset, .val (.ref b147)] [(.ref b147), (.ref b152), (.ref b152)])) t → Steps p.tables e below (T152.setTop (mkF m 139 #[.val (.long q0), .second, .val (.int p1), .val (.long mm), .second, .val (.int (p1 &&& (3 : Int32))), .val (.int (0 : Int32)), .val (.int (0 : Int32)), .val (.long (-mm)), .second, .unset, .val (.ref b147)] [(.ref b152)])) t := by
            intro t kt
            show Steps p.tables e below (T152.setTop (mkF m 139 #[.val (.long q0), .second, .val (.int p1), .val (.long mm), .second, .val (.int (p1 &&& (3 : Int32))), .val (.int (0 : Int32)), .val (.int (0 : Int32)), .val (.long (-mm)), .second, .unset, .val (.ref b147)] [(.ref b152)])) _
            refine XS.dup X152.here hx rfl (hb hby at_139) rfl rfl ?_
            show Steps p.tables e below (T152.setTop (mkF m 140 #[.val (.long q0), .second, .val (.int p1), .val (.long mm), .second, .val (.int (p1 &&& (3 : Int32))), .val (.int (0 : Int32)), .val (.int (0 : Int32)), .val (.long (-mm)), .second, .unset, .val (.ref b147)] [(.ref b152), (.ref b152)])) _
            refine XS.aload X152.here hx rfl (hb hby at_140) rfl rfl ?_
            exact kt
          have f156 := (Nat.le_trans f153 E152.1)
          have f157 := (Vq151.ext E152)
          have f158 := (((O0.ext E147).keep Kq151 (allS g_b147 all0)).ext E152)
          obtain ⟨_, _, ⟨T159, L159, k159, n159⟩, -, X159, ⟨Lc159, hQ159, l159, y159, z159⟩, st159⟩ := X152.specialBack hx (y := (⟨"java/lang/String", "<init>", "([C)V"⟩ : MethodName)) rfl hown (mvT hZ (hw _ (List.mem_of_getElem? (i := 29) rfl))) (mvT hZ (hw _ (List.mem_of_getElem? (i := 30) rfl))) (mvT hZ (hw _ (List.mem_of_getElem? (i := 31) rfl))) (by decide) (StrChars.Road.backV (W := 1) hZ hws (kI := 4) (hw _ (List.mem_of_getElem? (i := 27) rfl)) (cs := (own_c19 mm)) (bs := ((own_c19 mm)).map (fun c => c.toInt8.toInt32)) (n := 19) g_b152 f156 A152 F152_value F152_coder f157 (SC.ext f158.2) hcs rfl rfl (by decide) (by decide) (own_hp19 mm hm) rfl (by decide) (by decide)) (g := (mkF m 142 #[.val (.long q0), .second, .val (.int p1), .val (.long mm), .second, .val (.int (p1 &&& (3 : Int32))), .val (.int (0 : Int32)), .val (.int (0 : Int32)), .val (.long (-mm)), .second, .unset, .val (.ref b147)] [(.ref b147), (.ref b152), (.ref b152)])) rfl (by rw [hml]; rfl) (Steps.refl _) (a := b152) (argsL := [(.ref b147)]) (rest := [(.ref b152)]) (lenOf pd_12 rfl) rfl (by show 2 * 0 + _ ≤ _; exact Nat.le_of_eq rfl) (hb hby at_142) (fun _ _ => ⟨rfl, e152, (by decide : 2 + 1 ≤ _), (by decide : 23 + 19 ≤ _)⟩)
          dsimp only [Pt.U, Pt.locs, Pt.cells, Pt.slots] at X159 l159 y159 z159 st159 hQ159
          subst l159 y159 z159
          obtain ⟨rfl, N159q, Kq159, Eq159, Fc159, ot159, kb159, g_ot159, szq159, nt159, Fv159, Vb159⟩ := hQ159
          have N159 := Fr.app N151 N159q
          have lt_b147_159 := f157.lt
          have lt_b152_159 := A152.lt
          have f160 := (f154.ext E152)
          have sz_ot159 : h0.size ≤ ot159 := Nat.le_trans f160.1 szq159
          obtain ⟨Go159, X159, N159⟩ := own_opq X159 N159
          have c161 : ∀ t, Steps p.tables e below (T159.setTop (mkF m 149 #[.val (.long q0), .second, .val (.int p1), .val (.long mm), .second, .val (.int (p1 &&& (3 : Int32))), .val (.int (0 : Int32)), .val (.int (0 : Int32)), .val (.long (-mm)), .second, .val (.ref b152), .val (.ref b147)] [(.ref b152)])) t → Steps p.tables e below (T159.setTop (mkF m 145 #[.val (.long q0), .second, .val (.int p1), .val (.long mm), .second, .val (.int (p1 &&& (3 : Int32))), .val (.int (0 : Int32)), .val (.int (0 : Int32)), .val (.long (-mm)), .second, .unset, .val (.ref b147)] [(.ref b152)])) t := by
            intro t kt
            show Steps p.tables e below (T159.setTop (mkF m 145 #[.val (.long q0), .second, .val (.int p1), .val (.long mm), .second, .val (.int (p1 &&& (3 : Int32))), .val (.int (0 : Int32)), .val (.int (0 : Int32)), .val (.long (-mm)), .second, .unset, .val (.ref b147)] [(.ref b152)])) _
            refine XS.astore X159.here hx rfl (hb hby at_145) rfl rfl (l' := #[.val (.long q0), .second, .val (.int p1), .val (.long mm), .second, .val (.int (p1 &&& (3 : Int32))), .val (.int (0 : Int32)), .val (.int (0 : Int32)), .val (.long (-mm)), .second, .val (.ref b152), .val (.ref b147)]) rfl ?_
            show Steps p.tables e below (T159.setTop (mkF m 147 #[.val (.long q0), .second, .val (.int p1), .val (.long mm), .second, .val (.int (p1 &&& (3 : Int32))), .val (.int (0 : Int32)), .val (.int (0 : Int32)), .val (.long (-mm)), .second, .val (.ref b152), .val (.ref b147)] [])) _
            refine XS.aload X159.here hx rfl (hb hby at_147) rfl rfl ?_
            exact kt
          have f162 := (Nat.le_trans f156 Kq159.1)
          have f163 := (f158.keep Kq159 (allS g_b152 all0))
          obtain ⟨_, _, ⟨T164, L164, k164, n164⟩, -, X164, ⟨Lc164, hQ164, l164, y164, z164⟩, st164⟩ := Jvm.LawKit.callS X159 hx (y := (⟨"com/example/sequence_set/sequenceset/cli/DecimalParser", "parse", "(Ljava/lang/String;)J"⟩ : MethodName)) hown (mvT hZ (hw _ (List.mem_of_getElem? (i := 55) rfl))) (mvT hZ (hw _ (List.mem_of_getElem? (i := 56) rfl))) (mvT hZ (hw _ (List.mem_of_getElem? (i := 57) rfl))) (mvT hZ (hw _ (List.mem_of_getElem? (i := 58) rfl))) (by decide) (backOf (W := 0) (rm9 l Z a0 hw [] b152 ot159 kb159 (own_c19 mm) cs fm (-mm) T159.heap n0 f162 f163 SC hcs SF hfm (by show own_val (own_run (own_c19 mm) 19).1 (own_run (own_c19 mm) 19).2.1 = _; rw [show own_run (own_c19 mm) 19 = _ from (own_e19 mm hm)]; exact own_v0 _) Eq159 Fv159 Fc159 Vb159 (Nat.le_of_ble_eq_true rfl) (own_hp19 mm hm) (own_all19 mm hm) (by show ¬ (own_run (own_c19 mm) 19).2.2 = 0; rw [show own_run (own_c19 mm) 19 = _ from (own_e19 mm hm)]; exact own_nz) (by show (own_run (own_c19 mm) 19).2.1 = 0 → ¬ (own_run (own_c19 mm) 19).1 = (-9223372036854775808 : Int64); rw [show own_run (own_c19 mm) 19 = _ from (own_e19 mm hm)]; exact fun _ => hc29)) hZ (hw _ (List.mem_of_getElem? (i := 58) rfl)) (hw _ (List.mem_of_getElem? (i := 57) rfl)) (by decide) (by decide)) (g := (mkF m 149 #[.val (.long q0), .second, .val (.int p1), .val (.long mm), .second, .val (.int (p1 &&& (3 : Int32))), .val (.int (0 : Int32)), .val (.int (0 : Int32)), .val (.long (-mm)), .second, .val (.ref b152), .val (.ref b147)] [(.ref b152)])) rfl (by rw [hml]; rfl) (argsL := [(.ref b152)]) (rest := []) (lenOf pd_13 rfl) rfl (by show 2 * 0 + _ ≤ _; exact Nat.le_of_eq rfl) (hb hby at_149) (fun _ _ => ⟨rfl, rfl, (by decide : 3 + 1 ≤ _), (by decide : 42 + 6 ≤ _)⟩)
          dsimp only [Pt.U, Pt.locs, Pt.cells, Pt.slots] at X164 l164 y164 z164 st164 hQ164
          subst l164 y164 z164
          obtain ⟨rfl, N164q, Kq164⟩ := hQ164
          have N164 := Fr.app N159 N164q
          obtain ⟨Go164, X164, N164⟩ := own_opq X164 N164
          have c165 : ∀ t, Steps p.tables e below (T164.setTop (mkF m 163 #[.val (.long q0), .second, .val (.int p1), .val (.long mm), .second, .val (.int (p1 &&& (3 : Int32))), .val (.int (0 : Int32)), .val (.int (0 : Int32)), .val (.long (-mm)), .second, .val (.ref b152), .val (.ref b147)] [(.int (1 : Int32))])) t → Steps p.tables e below (T164.setTop (mkF m 152 #[.val (.long q0), .second, .val (.int p1), .val (.long mm), .second, .val (.int (p1 &&& (3 : Int32))), .val (.int (0 : Int32)), .val (.int (0 : Int32)), .val (.long (-mm)), .second, .val (.ref b152), .val (.ref b147)] [(.long (-mm))])) t := by
            intro t kt
            show Steps p.tables e below (T164.setTop (mkF m 152 #[.val (.long q0), .second, .val (.int p1), .val (.long mm), .second, .val (.int (p1 &&& (3 : Int32))), .val (.int (0 : Int32)), .val (.int (0 : Int32)), .val (.long (-mm)), .second, .val (.ref b152), .val (.ref b147)] [(.long (-mm))])) _
            refine XS.lload X164.here hx rfl (hb hby at_152) rfl ?_
            show Steps p.tables e below (T164.setTop (mkF m 154 #[.val (.long q0), .second, .val (.int p1), .val (.long mm), .second, .val (.int (p1 &&& (3 : Int32))), .val (.int (0 : Int32)), .val (.int (0 : Int32)), .val (.long (-mm)), .second, .val (.ref b152), .val (.ref b147)] [(.long (-mm)), (.long (-mm))])) _
            refine XS.lcmp X164.here hx rfl (hb hby at_154) rfl ?_
            show Steps p.tables e below (T164.setTop (mkF m 155 #[.val (.long q0), .second, .val (.int p1), .val (.long mm), .second, .val (.int (p1 &&& (3 : Int32))), .val (.int (0 : Int32)), .val (.int (0 : Int32)), .val (.long (-mm)), .second, .val (.ref b152), .val (.ref b147)] [(.int (lcmpW (-mm) (-mm)))])) _
            refine XS.ifNo X164.here hx rfl (hb hby at_155) rfl ((if0 _ _).trans (teq ((lw_eq _ _).mpr (rfl : (-mm) = (-mm)))).2) ?_
            show Steps p.tables e below (T164.setTop (mkF m 158 #[.val (.long q0), .second, .val (.int p1), .val (.long mm), .second, .val (.int (p1 &&& (3 : Int32))), .val (.int (0 : Int32)), .val (.int (0 : Int32)), .val (.long (-mm)), .second, .val (.ref b152), .val (.ref b147)] [])) _
            refine XS.iconst X164.here hx rfl (hb hby at_158) ?_
            show Steps p.tables e below (T164.setTop (mkF m 159 #[.val (.long q0), .second, .val (.int p1), .val (.long mm), .second, .val (.int (p1 &&& (3 : Int32))), .val (.int (0 : Int32)), .val (.int (0 : Int32)), .val (.long (-mm)), .second, .val (.ref b152), .val (.ref b147)] [(.int (1 : Int32))])) _
            refine XS.goto X164.here hx rfl (pc0 := 159) (pc' := 163) rfl (hb hby at_159) (by decide) (by decide) ?_
            exact kt
          obtain ⟨fs, hr, hrun, hended, hW, hsame⟩ := X164.leave (v := some (.int (1 : Int32))) (fun h => by rw [Bd.returns] at h; cases h)
          refine ⟨_, _, pre0 _ (c1 _ (c96 _ (c97 _ (c98 _ (c99 _ (c123 _ (c148 _ (st147 _ (c149 _ (st151 _ (st152 _ (c155 _ (st159.trans (c161 _ (st164 _ (c165 _ (?_))))))))))))))))), hrun, hended, _, _, rfl, ?_, ⟨_, rfl⟩, hW, hsame.mono (by decide) (by decide)⟩
          · show Steps p.tables e below (T164.setTop (mkF m 163 #[.val (.long q0), .second, .val (.int p1), .val (.long mm), .second, .val (.int (p1 &&& (3 : Int32))), .val (.int (0 : Int32)), .val (.int (0 : Int32)), .val (.long (-mm)), .second, .val (.ref b152), .val (.ref b147)] [(.int (1 : Int32))])) _
            exact retN X164 hx (t := .boolean) Bd.returns (by simp) (hb hby at_163) hr
          · show Q0 Z q0 p1 cs fm h0 n0 _ T164.heap _
            exact ⟨congrArg (fun z => some (Value.int z)) (show (1 : Int32) = (1 : Int32) from by rfl), N164⟩
    · -- it isn't
      have c168 : ∀ t, Steps p.tables e below (s₁.setTop (mkF m 82 #[.val (.long q0), .second, .val (.int p1), .val (.long mm), .second, .val (.int (p1 &&& (3 : Int32))), .val (.int (1 : Int32)), .val (.int (0 : Int32)), .val (.long mm), .second, .unset, .unset] [(.int (20 : Int32))])) t → Steps p.tables e below (s₁.setTop (mkF m 21 #[.val (.long q0), .second, .val (.int p1), .val (.long mm), .second, .val (.int (p1 &&& (3 : Int32))), .unset, .unset, .unset, .unset, .unset, .unset] [(.int (2 : Int32)), (.int (p1 &&& (3 : Int32)))])) t := by
        intro t kt
        show Steps p.tables e below (s₁.setTop (mkF m 21 #[.val (.long q0), .second, .val (.int p1), .val (.long mm), .second, .val (.int (p1 &&& (3 : Int32))), .unset, .unset, .unset, .unset, .unset, .unset] [(.int (2 : Int32)), (.int (p1 &&& (3 : Int32)))])) _
        refine XS.icmpYes X0.here hx rfl (pc0 := 21) (pc' := 32) rfl (hb hby at_21) rfl (flt hc21).2.1 (by decide) (by decide) ?_
        show Steps p.tables e below (s₁.setTop (mkF m 32 #[.val (.long q0), .second, .val (.int p1), .val (.long mm), .second, .val (.int (p1 &&& (3 : Int32))), .unset, .unset, .unset, .unset, .unset, .unset] [])) _
        refine XS.iconst X0.here hx rfl (hb hby at_32) ?_
        show Steps p.tables e below (s₁.setTop (mkF m 33 #[.val (.long q0), .second, .val (.int p1), .val (.long mm), .second, .val (.int (p1 &&& (3 : Int32))), .unset, .unset, .unset, .unset, .unset, .unset] [(.int (1 : Int32))])) _
        refine XS.goto X0.here hx rfl (pc0 := 33) (pc' := 37) rfl (hb hby at_33) (by decide) (by decide) ?_
        show Steps p.tables e below (s₁.setTop (mkF m 37 #[.val (.long q0), .second, .val (.int p1), .val (.long mm), .second, .val (.int (p1 &&& (3 : Int32))), .unset, .unset, .unset, .unset, .unset, .unset] [(.int (1 : Int32))])) _
        refine XS.istore X0.here hx rfl (hb hby at_37) rfl (l' := #[.val (.long q0), .second, .val (.int p1), .val (.long mm), .second, .val (.int (p1 &&& (3 : Int32))), .val (.int (1 : Int32)), .unset, .unset, .unset, .unset, .unset]) rfl ?_
        show Steps p.tables e below (s₁.setTop (mkF m 39 #[.val (.long q0), .second, .val (.int p1), .val (.long mm), .second, .val (.int (p1 &&& (3 : Int32))), .val (.int (1 : Int32)), .unset, .unset, .unset, .unset, .unset] [])) _
        refine XS.iload X0.here hx rfl (hb hby at_39) rfl ?_
        show Steps p.tables e below (s₁.setTop (mkF m 41 #[.val (.long q0), .second, .val (.int p1), .val (.long mm), .second, .val (.int (p1 &&& (3 : Int32))), .val (.int (1 : Int32)), .unset, .unset, .unset, .unset, .unset] [(.int (1 : Int32))])) _
        refine XS.ifYes X0.here hx rfl (pc0 := 41) (pc' := 54) rfl (hb hby at_41) rfl ((if0 _ _).trans (feq (by decide : ¬ ((1 : Int32) = (0 : Int32)))).2) (by decide) (by decide) ?_
        show Steps p.tables e below (s₁.setTop (mkF m 54 #[.val (.long q0), .second, .val (.int p1), .val (.long mm), .second, .val (.int (p1 &&& (3 : Int32))), .val (.int (1 : Int32)), .unset, .unset, .unset, .unset, .unset] [])) _
        refine XS.iconst X0.here hx rfl (hb hby at_54) ?_
        show Steps p.tables e below (s₁.setTop (mkF m 55 #[.val (.long q0), .second, .val (.int p1), .val (.long mm), .second, .val (.int (p1 &&& (3 : Int32))), .val (.int (1 : Int32)), .unset, .unset, .unset, .unset, .unset] [(.int (0 : Int32))])) _
        refine XS.istore X0.here hx rfl (hb hby at_55) rfl (l' := #[.val (.long q0), .second, .val (.int p1), .val (.long mm), .second, .val (.int (p1 &&& (3 : Int32))), .val (.int (1 : Int32)), .val (.int (0 : Int32)), .unset, .unset, .unset, .unset]) rfl ?_
        show Steps p.tables e below (s₁.setTop (mkF m 57 #[.val (.long q0), .second, .val (.int p1), .val (.long mm), .second, .val (.int (p1 &&& (3 : Int32))), .val (.int (1 : Int32)), .val (.int (0 : Int32)), .unset, .unset, .unset, .unset] [])) _
        refine XS.iload X0.here hx rfl (hb hby at_57) rfl ?_
        show Steps p.tables e below (s₁.setTop (mkF m 59 #[.val (.long q0), .second, .val (.int p1), .val (.long mm), .second, .val (.int (p1 &&& (3 : Int32))), .val (.int (1 : Int32)), .val (.int (0 : Int32)), .unset, .unset, .unset, .unset] [(.int (1 : Int32))])) _
        refine XS.ifNo X0.here hx rfl (hb hby at_59) rfl ((if0 _ _).trans (feq (by decide : ¬ ((1 : Int32) = (0 : Int32)))).1) ?_
        show Steps p.tables e below (s₁.setTop (mkF m 62 #[.val (.long q0), .second, .val (.int p1), .val (.long mm), .second, .val (.int (p1 &&& (3 : Int32))), .val (.int (1 : Int32)), .val (.int (0 : Int32)), .unset, .unset, .unset, .unset] [])) _
        refine XS.lloadN X0.here hx rfl (hb hby at_62) rfl ?_
        show Steps p.tables e below (s₁.setTop (mkF m 63 #[.val (.long q0), .second, .val (.int p1), .val (.long mm), .second, .val (.int (p1 &&& (3 : Int32))), .val (.int (1 : Int32)), .val (.int (0 : Int32)), .unset, .unset, .unset, .unset] [(.long mm)])) _
        refine XS.goto X0.here hx rfl (pc0 := 63) (pc' := 68) rfl (hb hby at_63) (by decide) (by decide) ?_
        show Steps p.tables e below (s₁.setTop (mkF m 68 #[.val (.long q0), .second, .val (.int p1), .val (.long mm), .second, .val (.int (p1 &&& (3 : Int32))), .val (.int (1 : Int32)), .val (.int (0 : Int32)), .unset, .unset, .unset, .unset] [(.long mm)])) _
        refine XS.lstore X0.here hx rfl (hb hby at_68) rfl (l' := #[.val (.long q0), .second, .val (.int p1), .val (.long mm), .second, .val (.int (p1 &&& (3 : Int32))), .val (.int (1 : Int32)), .val (.int (0 : Int32)), .val (.long mm), .second, .unset, .unset]) rfl ?_
        show Steps p.tables e below (s₁.setTop (mkF m 70 #[.val (.long q0), .second, .val (.int p1), .val (.long mm), .second, .val (.int (p1 &&& (3 : Int32))), .val (.int (1 : Int32)), .val (.int (0 : Int32)), .val (.long mm), .second, .unset, .unset] [])) _
        refine XS.iload X0.here hx rfl (hb hby at_70) rfl ?_
        show Steps p.tables e below (s₁.setTop (mkF m 72 #[.val (.long q0), .second, .val (.int p1), .val (.long mm), .second, .val (.int (p1 &&& (3 : Int32))), .val (.int (1 : Int32)), .val (.int (0 : Int32)), .val (.long mm), .second, .unset, .unset] [(.int (1 : Int32))])) _
        refine XS.ifYes X0.here hx rfl (pc0 := 72) (pc' := 80) rfl (hb hby at_72) rfl ((if0 _ _).trans (feq (by decide : ¬ ((1 : Int32) = (0 : Int32)))).2) (by decide) (by decide) ?_
        show Steps p.tables e below (s₁.setTop (mkF m 80 #[.val (.long q0), .second, .val (.int p1), .val (.long mm), .second, .val (.int (p1 &&& (3 : Int32))), .val (.int (1 : Int32)), .val (.int (0 : Int32)), .val (.long mm), .second, .unset, .unset] [])) _
        refine XS.bipush X0.here hx rfl (hb hby at_80) ?_
        exact kt
      obtain ⟨T167, h167, k167, X167, e167, E167, A167, st167⟩ := newP X0 hx hZ (hw _ (List.mem_of_getElem? (i := 0) rfl)) e0 (g := (mkF m 82 #[.val (.long q0), .second, .val (.int p1), .val (.long mm), .second, .val (.int (p1 &&& (3 : Int32))), .val (.int (1 : Int32)), .val (.int (0 : Int32)), .val (.long mm), .second, .unset, .unset] [(.int (20 : Int32))])) rfl (hb hby at_82) rfl (by decide) (cap := 20) (by decide) (by decide) (by decide) (by decide)
      obtain ⟨b167, g167⟩ : ∃ z, z = h0.size := ⟨_, rfl⟩
      rw [← g167] at A167 st167
      have g_b167 : n0 ≤ b167 := Nat.le_trans Z0 (Nat.le_of_eq g167.symm)
      have sz_b167 : h0.size ≤ b167 := Nat.le_trans (Keep.refl h0 []).1 (Nat.le_of_eq g167.symm)
      have V167 : Arv Z h167 b167 k167 .char (20 : Int32) [(.int (0 : Int32)), (.int (0 : Int32)), (.int (0 : Int32)), (.int (0 : Int32)), (.int (0 : Int32)), (.int (0 : Int32)), (.int (0 : Int32)), (.int (0 : Int32)), (.int (0 : Int32)), (.int (0 : Int32)), (.int (0 : Int32)), (.int (0 : Int32)), (.int (0 : Int32)), (.int (0 : Int32)), (.int (0 : Int32)), (.int (0 : Int32)), (.int (0 : Int32)), (.int (0 : Int32)), (.int (0 : Int32)), (.int (0 : Int32))] (.int (0 : Int32)) := (Arv.new A167 (by decide)).pad (pad_rep [] (.int (0 : Int32)) 20)
      have c169 : ∀ t, Steps p.tables e below (T167.setTop (mkF m 101 #[.val (.long q0), .second, .val (.int p1), .val (.long mm), .second, .val (.int (p1 &&& (3 : Int32))), .val (.int (1 : Int32)), .val (.int (0 : Int32)), .val (.long mm), .second, .unset, .val (.ref b167)] [(.int (45 : Int32)), (.int (0 : Int32)), (.ref b167)])) t → Steps p.tables e below (T167.setTop (mkF m 84 #[.val (.long q0), .second, .val (.int p1), .val (.long mm), .second, .val (.int (p1 &&& (3 : Int32))), .val (.int (1 : Int32)), .val (.int (0 : Int32)), .val (.long mm), .second, .unset, .unset] [(.ref b167)])) t := by
        intro t kt
        show Steps p.tables e below (T167.setTop (mkF m 84 #[.val (.long q0), .second, .val (.int p1), .val (.long mm), .second, .val (.int (p1 &&& (3 : Int32))), .val (.int (1 : Int32)), .val (.int (0 : Int32)), .val (.long mm), .second, .unset, .unset] [(.ref b167)])) _
        refine XS.astore X167.here hx rfl (hb hby at_84) rfl rfl (l' := #[.val (.long q0), .second, .val (.int p1), .val (.long mm), .second, .val (.int (p1 &&& (3 : Int32))), .val (.int (1 : Int32)), .val (.int (0 : Int32)), .val (.long mm), .second, .unset, .val (.ref b167)]) rfl ?_
        show Steps p.tables e below (T167.setTop (mkF m 86 #[.val (.long q0), .second, .val (.int p1), .val (.long mm), .second, .val (.int (p1 &&& (3 : Int32))), .val (.int (1 : Int32)), .val (.int (0 : Int32)), .val (.long mm), .second, .unset, .val (.ref b167)] [])) _
        refine XS.aload X167.here hx rfl (hb hby at_86) rfl rfl ?_
        show Steps p.tables e below (T167.setTop (mkF m 88 #[.val (.long q0), .second, .val (.int p1), .val (.long mm), .second, .val (.int (p1 &&& (3 : Int32))), .val (.int (1 : Int32)), .val (.int (0 : Int32)), .val (.long mm), .second, .unset, .val (.ref b167)] [(.ref b167)])) _
        refine XS.iconst X167.here hx rfl (hb hby at_88) ?_
        show Steps p.tables e below (T167.setTop (mkF m 89 #[.val (.long q0), .second, .val (.int p1), .val (.long mm), .second, .val (.int (p1 &&& (3 : Int32))), .val (.int (1 : Int32)), .val (.int (0 : Int32)), .val (.long mm), .second, .unset, .val (.ref b167)] [(.int (0 : Int32)), (.ref b167)])) _
        refine XS.iload X167.here hx rfl (hb hby at_89) rfl ?_
        show Steps p.tables e below (T167.setTop (mkF m 91 #[.val (.long q0), .second, .val (.int p1), .val (.long mm), .second, .val (.int (p1 &&& (3 : Int32))), .val (.int (1 : Int32)), .val (.int (0 : Int32)), .val (.long mm), .second, .unset, .val (.ref b167)] [(.int (1 : Int32)), (.int (0 : Int32)), (.ref b167)])) _
        refine XS.ifNo X167.here hx rfl (hb hby at_91) rfl ((if0 _ _).trans (feq (by decide : ¬ ((1 : Int32) = (0 : Int32)))).1) ?_
        show Steps p.tables e below (T167.setTop (mkF m 94 #[.val (.long q0), .second, .val (.int p1), .val (.long mm), .second, .val (.int (p1 &&& (3 : Int32))), .val (.int (1 : Int32)), .val (.int (0 : Int32)), .val (.long mm), .second, .unset, .val (.ref b167)] [(.int (0 : Int32)), (.ref b167)])) _
        refine XS.bipush X167.here hx rfl (hb hby at_94) ?_
        show Steps p.tables e below (T167.setTop (mkF m 96 #[.val (.long q0), .second, .val (.int p1), .val (.long mm), .second, .val (.int (p1 &&& (3 : Int32))), .val (.int (1 : Int32)), .val (.int (0 : Int32)), .val (.long mm), .second, .unset, .val (.ref b167)] [(.int (45 : Int32)), (.int (0 : Int32)), (.ref b167)])) _
        refine XS.goto X167.here hx rfl (pc0 := 96) (pc' := 101) rfl (hb hby at_96) (by decide) (by decide) ?_
        exact kt
      have Vc170 := V167
      obtain ⟨cl170, Ar170, qk170, S170, M170, H170, G170⟩ := Vc170
      have hin170 : ¬ ((0 : Int32) < 0 ∨ cl170.slots.size ≤ ((0 : Int32)).toNatClampNeg) := inb_of S170 ⟨by decide, by decide⟩
      obtain ⟨T171, h171, X171, e171, W171, st171⟩ := stC X167 hx hZ e167 Ar170 (j := (0 : Int32)) hin170 (g := (mkF m 101 #[.val (.long q0), .second, .val (.int p1), .val (.long mm), .second, .val (.int (p1 &&& (3 : Int32))), .val (.int (1 : Int32)), .val (.int (0 : Int32)), .val (.long mm), .second, .unset, .val (.ref b167)] [(.int (45 : Int32)), (.int (0 : Int32)), (.ref b167)])) rfl rfl (hb hby at_101)
      have V171 : Arv Z h171 b167 k167 .char (20 : Int32) [(.int ((45 : Int32).toUInt32.toUInt16.toUInt32.toInt32)), (.int (0 : Int32)), (.int (0 : Int32)), (.int (0 : Int32)), (.int (0 : Int32)), (.int (0 : Int32)), (.int (0 : Int32)), (.int (0 : Int32)), (.int (0 : Int32)), (.int (0 : Int32)), (.int (0 : Int32)), (.int (0 : Int32)), (.int (0 : Int32)), (.int (0 : Int32)), (.int (0 : Int32)), (.int (0 : Int32)), (.int (0 : Int32)), (.int (0 : Int32)), (.int (0 : Int32)), (.int (0 : Int32))] (.int (0 : Int32)) := Arv.set Ar170 qk170 S170 M170 H170 G170 (fits_nar_char _) W171 0 rfl (Nat.le_of_ble_eq_true rfl)
      have N171 := Fr.snoc X171 N0 g_b167
      have c172 : ∀ t, Steps p.tables e below (T171.setTop (mkF m 106 #[.val (.long q0), .second, .val (.int p1), .val (.long mm), .second, .val (.int (p1 &&& (3 : Int32))), .val (.int (1 : Int32)), .val (.int (0 : Int32)), .val (.long mm), .second, .unset, .val (.ref b167)] [(.long mm), (.int (1 : Int32)), (.ref b167)])) t → Steps p.tables e below (T171.setTop (mkF m 102 #[.val (.long q0), .second, .val (.int p1), .val (.long mm), .second, .val (.int (p1 &&& (3 : Int32))), .val (.int (1 : Int32)), .val (.int (0 : Int32)), .val (.long mm), .second, .unset, .val (.ref b167)] [])) t := by
        intro t kt
        show Steps p.tables e below (T171.setTop (mkF m 102 #[.val (.long q0), .second, .val (.int p1), .val (.long mm), .second, .val (.int (p1 &&& (3 : Int32))), .val (.int (1 : Int32)), .val (.int (0 : Int32)), .val (.long mm), .second, .unset, .val (.ref b167)] [])) _
        refine XS.aload X171.here hx rfl (hb hby at_102) rfl rfl ?_
        show Steps p.tables e below (T171.setTop (mkF m 104 #[.val (.long q0), .second, .val (.int p1), .val (.long mm), .second, .val (.int (p1 &&& (3 : Int32))), .val (.int (1 : Int32)), .val (.int (0 : Int32)), .val (.long mm), .second, .unset, .val (.ref b167)] [(.ref b167)])) _
        refine XS.iconst X171.here hx rfl (hb hby at_104) ?_
        show Steps p.tables e below (T171.setTop (mkF m 105 #[.val (.long q0), .second, .val (.int p1), .val (.long mm), .second, .val (.int (p1 &&& (3 : Int32))), .val (.int (1 : Int32)), .val (.int (0 : Int32)), .val (.long mm), .second, .unset, .val (.ref b167)] [(.int (1 : Int32)), (.ref b167)])) _
        refine XS.lloadN X171.here hx rfl (hb hby at_105) rfl ?_
        exact kt
      have f173 := (Nat.le_trans (Nat.le_trans Z0 E167.1) (Keep.of_wr W171).1)
      obtain ⟨_, _, ⟨T174, L174, k174, n174⟩, -, X174, ⟨Lc174, hQ174, l174, y174, z174⟩, st174⟩ := Jvm.LawKit.callS X171 hx (y := (⟨"com/example/sequence_set/sequenceset/cli/DecimalParserAcceptPinLaw", "fill", "([CIJ)V"⟩ : MethodName)) hown (mvT hZ (hw _ (List.mem_of_getElem? (i := 1) rfl))) (mvT hZ (hw _ (List.mem_of_getElem? (i := 2) rfl))) (mvT hZ (hw _ (List.mem_of_getElem? (i := 3) rfl))) (mvT hZ (hw _ (List.mem_of_getElem? (i := 4) rfl))) (by decide) (backOf (W := 0) (rm1_1 l Z a0 hw []  b167 mm k167 ((45 : Int32).toUInt32.toUInt16.toUInt32.toInt32) h171 n0 f173 V171 g_b167) hZ (hw _ (List.mem_of_getElem? (i := 4) rfl)) (hw _ (List.mem_of_getElem? (i := 3) rfl)) (by decide) (by decide)) (g := (mkF m 106 #[.val (.long q0), .second, .val (.int p1), .val (.long mm), .second, .val (.int (p1 &&& (3 : Int32))), .val (.int (1 : Int32)), .val (.int (0 : Int32)), .val (.long mm), .second, .unset, .val (.ref b167)] [(.long mm), (.int (1 : Int32)), (.ref b167)])) rfl (by rw [hml]; rfl) (argsL := [(.ref b167), (.int (1 : Int32)), (.long mm)]) (rest := []) (lenOf pd_11 rfl) rfl (by show 2 * 0 + _ ≤ _; exact Nat.le_of_eq rfl) (hb hby at_106) (fun _ _ => ⟨rfl, e171, (by decide : 1 + 0 ≤ _), (by decide : 20 + 0 ≤ _)⟩)
      dsimp only [Pt.U, Pt.locs, Pt.cells, Pt.slots] at X174 l174 y174 z174 st174 hQ174
      subst l174 y174 z174
      obtain ⟨rfl, N174q, Kq174, Vq174⟩ := hQ174
      have N174 := Fr.app N171 N174q
      obtain ⟨Go174, X174, N174⟩ := own_opq X174 N174
      obtain ⟨T175, h175, X175, e175, E175, A175, D175, U175, st175⟩ := newO X174 hx hZ hown (hw _ (List.mem_of_getElem? (i := 26) rfl)) (hw _ (List.mem_of_getElem? (i := 27) rfl)) (hw _ (List.mem_of_getElem? (i := 28) rfl)) rfl (g := (mkF m 109 #[.val (.long q0), .second, .val (.int p1), .val (.long mm), .second, .val (.int (p1 &&& (3 : Int32))), .val (.int (1 : Int32)), .val (.int (0 : Int32)), .val (.long mm), .second, .unset, .val (.ref b167)] [])) rfl (hb hby at_109) (by decide) (by decide)
      obtain ⟨b175, g175⟩ : ∃ z, z = T174.heap.size := ⟨_, rfl⟩
      rw [← g175] at A175 D175 U175 st175
      have f176 := (Nat.le_trans f173 Kq174.1)
      have f177 := ((((Keep.refl h0 []).ext E167).wr W171 (Or.inr sz_b167)).trans Kq174 (allS (Or.inr sz_b167) all0))
      have g_b175 : n0 ≤ b175 := Nat.le_trans f176 (Nat.le_of_eq g175.symm)
      have sz_b175 : h0.size ≤ b175 := Nat.le_trans f177.1 (Nat.le_of_eq g175.symm)
      have lt_b167_175 := Vq174.lt
      have F175_coder : Fld Z h175 b175 "java/lang/String" "coder" "B" (.int (0 : Int32)) := D175 (Or.inr (hw _ (List.mem_of_getElem? (i := 52) rfl))) (ty := .byte) (by decide)
      have F175_value : Fld Z h175 b175 "java/lang/String" "value" "[B" .null := D175 (Or.inr (hw _ (List.mem_of_getElem? (i := 54) rfl))) (ty := (.array .byte)) (by decide)
      have c178 : ∀ t, Steps p.tables e below (T175.setTop (mkF m 115 #[.val (.long q0), .second, .val (.int p1), .val (.long mm), .second, .val (.int (p1 &&& (3 : Int32))), .val (.int (1 : Int32)), .val (.int (0 : Int32)), .val (.long mm), .second, .unset, .val (.ref b167)] [(.ref b167), (.ref b175), (.ref b175)])) t → Steps p.tables e below (T175.setTop (mkF m 112 #[.val (.long q0), .second, .val (.int p1), .val (.long mm), .second, .val (.int (p1 &&& (3 : Int32))), .val (.int (1 : Int32)), .val (.int (0 : Int32)), .val (.long mm), .second, .unset, .val (.ref b167)] [(.ref b175)])) t := by
        intro t kt
        show Steps p.tables e below (T175.setTop (mkF m 112 #[.val (.long q0), .second, .val (.int p1), .val (.long mm), .second, .val (.int (p1 &&& (3 : Int32))), .val (.int (1 : Int32)), .val (.int (0 : Int32)), .val (.long mm), .second, .unset, .val (.ref b167)] [(.ref b175)])) _
        refine XS.dup X175.here hx rfl (hb hby at_112) rfl rfl ?_
        show Steps p.tables e below (T175.setTop (mkF m 113 #[.val (.long q0), .second, .val (.int p1), .val (.long mm), .second, .val (.int (p1 &&& (3 : Int32))), .val (.int (1 : Int32)), .val (.int (0 : Int32)), .val (.long mm), .second, .unset, .val (.ref b167)] [(.ref b175), (.ref b175)])) _
        refine XS.aload X175.here hx rfl (hb hby at_113) rfl rfl ?_
        exact kt
      have f179 := (Nat.le_trans f176 E175.1)
      have f180 := (Vq174.ext E175)
      have f181 := ((((O0.ext E167).wr W171 g_b167).keep Kq174 (allS g_b167 all0)).ext E175)
      obtain ⟨_, _, ⟨T182, L182, k182, n182⟩, -, X182, ⟨Lc182, hQ182, l182, y182, z182⟩, st182⟩ := X175.specialBack hx (y := (⟨"java/lang/String", "<init>", "([C)V"⟩ : MethodName)) rfl hown (mvT hZ (hw _ (List.mem_of_getElem? (i := 29) rfl))) (mvT hZ (hw _ (List.mem_of_getElem? (i := 30) rfl))) (mvT hZ (hw _ (List.mem_of_getElem? (i := 31) rfl))) (by decide) (StrChars.Road.backV (W := 1) hZ hws (kI := 4) (hw _ (List.mem_of_getElem? (i := 27) rfl)) (cs := (own_c20 ((45 : Int32).toUInt32.toUInt16.toUInt32.toInt32) mm)) (bs := ((own_c20 ((45 : Int32).toUInt32.toUInt16.toUInt32.toInt32) mm)).map (fun c => c.toInt8.toInt32)) (n := 20) g_b175 f179 A175 F175_value F175_coder f180 (SC.ext f181.2) hcs rfl rfl (by decide) (by decide) (own_hp20 _ mm (by decide) hm) rfl (by decide) (by decide)) (g := (mkF m 115 #[.val (.long q0), .second, .val (.int p1), .val (.long mm), .second, .val (.int (p1 &&& (3 : Int32))), .val (.int (1 : Int32)), .val (.int (0 : Int32)), .val (.long mm), .second, .unset, .val (.ref b167)] [(.ref b167), (.ref b175), (.ref b175)])) rfl (by rw [hml]; rfl) (Steps.refl _) (a := b175) (argsL := [(.ref b167)]) (rest := [(.ref b175)]) (lenOf pd_12 rfl) rfl (by show 2 * 0 + _ ≤ _; exact Nat.le_of_eq rfl) (hb hby at_115) (fun _ _ => ⟨rfl, e175, (by decide : 2 + 1 ≤ _), (by decide : 24 + 20 ≤ _)⟩)
      dsimp only [Pt.U, Pt.locs, Pt.cells, Pt.slots] at X182 l182 y182 z182 st182 hQ182
      subst l182 y182 z182
      obtain ⟨rfl, N182q, Kq182, Eq182, Fc182, ot182, kb182, g_ot182, szq182, nt182, Fv182, Vb182⟩ := hQ182
      have N182 := Fr.app N174 N182q
      have lt_b167_182 := f180.lt
      have lt_b175_182 := A175.lt
      have f183 := (f177.ext E175)
      have sz_ot182 : h0.size ≤ ot182 := Nat.le_trans f183.1 szq182
      obtain ⟨Go182, X182, N182⟩ := own_opq X182 N182
      have c184 : ∀ t, Steps p.tables e below (T182.setTop (mkF m 149 #[.val (.long q0), .second, .val (.int p1), .val (.long mm), .second, .val (.int (p1 &&& (3 : Int32))), .val (.int (1 : Int32)), .val (.int (0 : Int32)), .val (.long mm), .second, .val (.ref b175), .val (.ref b167)] [(.ref b175)])) t → Steps p.tables e below (T182.setTop (mkF m 118 #[.val (.long q0), .second, .val (.int p1), .val (.long mm), .second, .val (.int (p1 &&& (3 : Int32))), .val (.int (1 : Int32)), .val (.int (0 : Int32)), .val (.long mm), .second, .unset, .val (.ref b167)] [(.ref b175)])) t := by
        intro t kt
        show Steps p.tables e below (T182.setTop (mkF m 118 #[.val (.long q0), .second, .val (.int p1), .val (.long mm), .second, .val (.int (p1 &&& (3 : Int32))), .val (.int (1 : Int32)), .val (.int (0 : Int32)), .val (.long mm), .second, .unset, .val (.ref b167)] [(.ref b175)])) _
        refine XS.astore X182.here hx rfl (hb hby at_118) rfl rfl (l' := #[.val (.long q0), .second, .val (.int p1), .val (.long mm), .second, .val (.int (p1 &&& (3 : Int32))), .val (.int (1 : Int32)), .val (.int (0 : Int32)), .val (.long mm), .second, .val (.ref b175), .val (.ref b167)]) rfl ?_
        show Steps p.tables e below (T182.setTop (mkF m 120 #[.val (.long q0), .second, .val (.int p1), .val (.long mm), .second, .val (.int (p1 &&& (3 : Int32))), .val (.int (1 : Int32)), .val (.int (0 : Int32)), .val (.long mm), .second, .val (.ref b175), .val (.ref b167)] [])) _
        refine XS.goto X182.here hx rfl (pc0 := 120) (pc' := 147) rfl (hb hby at_120) (by decide) (by decide) ?_
        show Steps p.tables e below (T182.setTop (mkF m 147 #[.val (.long q0), .second, .val (.int p1), .val (.long mm), .second, .val (.int (p1 &&& (3 : Int32))), .val (.int (1 : Int32)), .val (.int (0 : Int32)), .val (.long mm), .second, .val (.ref b175), .val (.ref b167)] [])) _
        refine XS.aload X182.here hx rfl (hb hby at_147) rfl rfl ?_
        exact kt
      have f185 := (Nat.le_trans f179 Kq182.1)
      have hsg : ((45 : Int32).toUInt32.toUInt16.toUInt32.toInt32) = 45 ∨ ((45 : Int32).toUInt32.toUInt16.toUInt32.toInt32) = 43 := by decide
      have f186 := (f181.keep Kq182 (allS g_b175 all0))
      obtain ⟨_, _, ⟨T187, L187, k187, n187⟩, -, X187, ⟨Lc187, hQ187, l187, y187, z187⟩, st187⟩ := Jvm.LawKit.callS X182 hx (y := (⟨"com/example/sequence_set/sequenceset/cli/DecimalParser", "parse", "(Ljava/lang/String;)J"⟩ : MethodName)) hown (mvT hZ (hw _ (List.mem_of_getElem? (i := 55) rfl))) (mvT hZ (hw _ (List.mem_of_getElem? (i := 56) rfl))) (mvT hZ (hw _ (List.mem_of_getElem? (i := 57) rfl))) (mvT hZ (hw _ (List.mem_of_getElem? (i := 58) rfl))) (by decide) (backOf (W := 0) (rm9 l Z a0 hw [] b175 ot182 kb182 (own_c20 ((45 : Int32).toUInt32.toUInt16.toUInt32.toInt32) mm) cs fm mm T182.heap n0 f185 f186 SC hcs SF hfm (by show own_val (own_run (own_c20 ((45 : Int32).toUInt32.toUInt16.toUInt32.toInt32) mm) 20).1 (own_run (own_c20 ((45 : Int32).toUInt32.toUInt16.toUInt32.toInt32) mm) 20).2.1 = _; rw [show own_run (own_c20 ((45 : Int32).toUInt32.toUInt16.toUInt32.toInt32) mm) 20 = _ from (own_e20 _ mm hsg hm)]; exact own_v45 _) Eq182 Fv182 Fc182 Vb182 (Nat.le_of_ble_eq_true rfl) (own_hp20 _ mm (by decide) hm) (own_all20 _ mm hsg hm) (by show ¬ (own_run (own_c20 ((45 : Int32).toUInt32.toUInt16.toUInt32.toInt32) mm) 20).2.2 = 0; rw [show own_run (own_c20 ((45 : Int32).toUInt32.toUInt16.toUInt32.toInt32) mm) 20 = _ from (own_e20 _ mm hsg hm)]; exact own_nz) (by show (own_run (own_c20 ((45 : Int32).toUInt32.toUInt16.toUInt32.toInt32) mm) 20).2.1 = 0 → ¬ (own_run (own_c20 ((45 : Int32).toUInt32.toUInt16.toUInt32.toInt32) mm) 20).1 = (-9223372036854775808 : Int64); rw [show own_run (own_c20 ((45 : Int32).toUInt32.toUInt16.toUInt32.toInt32) mm) 20 = _ from (own_e20 _ mm hsg hm)]; exact fun q => absurd q own_n45)) hZ (hw _ (List.mem_of_getElem? (i := 58) rfl)) (hw _ (List.mem_of_getElem? (i := 57) rfl)) (by decide) (by decide)) (g := (mkF m 149 #[.val (.long q0), .second, .val (.int p1), .val (.long mm), .second, .val (.int (p1 &&& (3 : Int32))), .val (.int (1 : Int32)), .val (.int (0 : Int32)), .val (.long mm), .second, .val (.ref b175), .val (.ref b167)] [(.ref b175)])) rfl (by rw [hml]; rfl) (argsL := [(.ref b175)]) (rest := []) (lenOf pd_13 rfl) rfl (by show 2 * 0 + _ ≤ _; exact Nat.le_of_eq rfl) (hb hby at_149) (fun _ _ => ⟨rfl, rfl, (by decide : 3 + 1 ≤ _), (by decide : 44 + 6 ≤ _)⟩)
      dsimp only [Pt.U, Pt.locs, Pt.cells, Pt.slots] at X187 l187 y187 z187 st187 hQ187
      subst l187 y187 z187
      obtain ⟨rfl, N187q, Kq187⟩ := hQ187
      have N187 := Fr.app N182 N187q
      obtain ⟨Go187, X187, N187⟩ := own_opq X187 N187
      have c188 : ∀ t, Steps p.tables e below (T187.setTop (mkF m 163 #[.val (.long q0), .second, .val (.int p1), .val (.long mm), .second, .val (.int (p1 &&& (3 : Int32))), .val (.int (1 : Int32)), .val (.int (0 : Int32)), .val (.long mm), .second, .val (.ref b175), .val (.ref b167)] [(.int (1 : Int32))])) t → Steps p.tables e below (T187.setTop (mkF m 152 #[.val (.long q0), .second, .val (.int p1), .val (.long mm), .second, .val (.int (p1 &&& (3 : Int32))), .val (.int (1 : Int32)), .val (.int (0 : Int32)), .val (.long mm), .second, .val (.ref b175), .val (.ref b167)] [(.long mm)])) t := by
        intro t kt
        show Steps p.tables e below (T187.setTop (mkF m 152 #[.val (.long q0), .second, .val (.int p1), .val (.long mm), .second, .val (.int (p1 &&& (3 : Int32))), .val (.int (1 : Int32)), .val (.int (0 : Int32)), .val (.long mm), .second, .val (.ref b175), .val (.ref b167)] [(.long mm)])) _
        refine XS.lload X187.here hx rfl (hb hby at_152) rfl ?_
        show Steps p.tables e below (T187.setTop (mkF m 154 #[.val (.long q0), .second, .val (.int p1), .val (.long mm), .second, .val (.int (p1 &&& (3 : Int32))), .val (.int (1 : Int32)), .val (.int (0 : Int32)), .val (.long mm), .second, .val (.ref b175), .val (.ref b167)] [(.long mm), (.long mm)])) _
        refine XS.lcmp X187.here hx rfl (hb hby at_154) rfl ?_
        show Steps p.tables e below (T187.setTop (mkF m 155 #[.val (.long q0), .second, .val (.int p1), .val (.long mm), .second, .val (.int (p1 &&& (3 : Int32))), .val (.int (1 : Int32)), .val (.int (0 : Int32)), .val (.long mm), .second, .val (.ref b175), .val (.ref b167)] [(.int (lcmpW mm mm))])) _
        refine XS.ifNo X187.here hx rfl (hb hby at_155) rfl ((if0 _ _).trans (teq ((lw_eq _ _).mpr (rfl : mm = mm))).2) ?_
        show Steps p.tables e below (T187.setTop (mkF m 158 #[.val (.long q0), .second, .val (.int p1), .val (.long mm), .second, .val (.int (p1 &&& (3 : Int32))), .val (.int (1 : Int32)), .val (.int (0 : Int32)), .val (.long mm), .second, .val (.ref b175), .val (.ref b167)] [])) _
        refine XS.iconst X187.here hx rfl (hb hby at_158) ?_
        show Steps p.tables e below (T187.setTop (mkF m 159 #[.val (.long q0), .second, .val (.int p1), .val (.long mm), .second, .val (.int (p1 &&& (3 : Int32))), .val (.int (1 : Int32)), .val (.int (0 : Int32)), .val (.long mm), .second, .val (.ref b175), .val (.ref b167)] [(.int (1 : Int32))])) _
        refine XS.goto X187.here hx rfl (pc0 := 159) (pc' := 163) rfl (hb hby at_159) (by decide) (by decide) ?_
        exact kt
      obtain ⟨fs, hr, hrun, hended, hW, hsame⟩ := X187.leave (v := some (.int (1 : Int32))) (fun h => by rw [Bd.returns] at h; cases h)
      refine ⟨_, _, pre0 _ (c1 _ (c96 _ (c97 _ (c98 _ (c168 _ (st167 _ (c169 _ (st171 _ (c172 _ (st174 _ (st175 _ (c178 _ (st182.trans (c184 _ (st187 _ (c188 _ (?_))))))))))))))))), hrun, hended, _, _, rfl, ?_, ⟨_, rfl⟩, hW, hsame.mono (by decide) (by decide)⟩
      · show Steps p.tables e below (T187.setTop (mkF m 163 #[.val (.long q0), .second, .val (.int p1), .val (.long mm), .second, .val (.int (p1 &&& (3 : Int32))), .val (.int (1 : Int32)), .val (.int (0 : Int32)), .val (.long mm), .second, .val (.ref b175), .val (.ref b167)] [(.int (1 : Int32))])) _
        exact retN X187 hx (t := .boolean) Bd.returns (by simp) (hb hby at_163) hr
      · show Q0 Z q0 p1 cs fm h0 n0 _ T187.heap _
        exact ⟨congrArg (fun z => some (Value.int z)) (show (1 : Int32) = (1 : Int32) from by rfl), N187⟩
set_option maxRecDepth 65536 in
set_option maxHeartbeats 40000000 in
theorem comes_1 {Post : Tables → Env → Array Value → State → Outcome → State → Prop} (hpost : ∀ tb e args s v u, (limb_1_1.after args s (.returned v) u = true ∧ limb_1_2.after args s (.returned v) u = true ∧ True) → FrameEnd s (.returned v) u (Jvm.fieldLocs frame_1_writes args s ++ Jvm.arrayLocs frame_1_arrays args s ++ Jvm.staticLocs frame_1_statics s) 16 192 → Post tb e args s (.returned v) u) :
    ArmFor flags0 classFile x code maxLocals ret World_1 tables_1 room_1 Calls_1 rest_1 Pre_1 Post := by
  intro l hfl _ _ p e ha hc hk s m args below hf hA hF happ hP
  obtain ⟨hcalls, hrest, hpre⟩ := hP
  obtain ⟨-, -, -, hnamed, -, -, -, hat⟩ := (Spec.applies_iff hf).mp happ
  obtain ⟨hg, hn⟩ := and_e (Cond.before_iff.mp (show (Jvm.Cond.and given_1 narrow_1).before args s = true from hpre))
  obtain ⟨g1, g2⟩ := and_e hg
  obtain ⟨g3, g4⟩ := and_e g2
  obtain ⟨w0, w1, rfl⟩ : ∃ w0 w1 : Value, args = #[w0, w1] := by
    have hs : args.size = 2 := by simpa [Cond.value, given_1] using g1
    obtain ⟨L⟩ := args
    match L, hs with
    | [w0, w1], _ => exact ⟨w0, w1, rfl⟩
  have hw := fun d (hd : d ∈ tables_1) => atoms_spec (ws := Jvm.Cond.code x code maxLocals ret :: tables_1) hat d (List.mem_cons_of_mem _ hd)
  have hfit : Fit s := fun {y c} hc i hi => by
    obtain ⟨ha, rfl⟩ := Array.getElem?_eq_some_iff.mp hc
    have q := List.all_eq_true.mp ((Array.all_eq_true_iff_forall_mem.mp hF) _ (Array.getElem_mem ha)) i (List.mem_range.mpr hi)
    simpa [Array.getElem?_eq_getElem hi] using q
  obtain ⟨hsets, hown0⟩ := atoms_of _ (rest_1_c_eq ▸ (show rest_1_c.before _ s = true from hrest))
  have hr0 := Cond.before_iff.mp hown0
  obtain ⟨i0, ei0⟩ := isL_v g3
  obtain rfl : w0 = (.long i0) := Option.some.inj ei0
  obtain ⟨i1, ei1⟩ := is_v g4
  obtain rfl : w1 = (.int i1) := Option.some.inj ei1
  have n3 := not_v (Cond.before_iff.mp (hsets _ (List.mem_of_getElem? (i := 2) rfl)))
  obtain ⟨cs, ecs⟩ := is_v (Cond.before_iff.mp (hsets _ (List.mem_of_getElem? (i := 1) rfl)))
  have SC : Sta s s.heap "java/lang/String" "COMPACT_STRINGS" "Z" (.int cs) := Sta.start ecs (Or.inl (hsets _ (List.mem_of_getElem? (i := 0) rfl)))
  have hcs : ¬ (cs = (0 : Int32)) := gotF (Cond.eq_ints ecs (Term.int_eval (0))) n3
  obtain ⟨fm, efm, hfm⟩ := isR_v (Cond.before_iff.mp (hsets _ (List.mem_of_getElem? (i := 8) rfl)))
  have SF : Sta s s.heap "jdk/internal/util/Preconditions" "SIOOBE_FORMATTER" "Ljava/util/function/BiFunction;" fm := Sta.start efm (Or.inl (hsets _ (List.mem_of_getElem? (i := 7) rfl)))
  obtain ⟨n, o, h1, h2, h3, _, L, rfl, ⟨rfl, N⟩, hq⟩ := rm0 l s _ hw tables_1 i0 i1 cs fm s.heap s.heap.size (Nat.le_refl _) (Old.start s) SC hcs SF hfm p e ha hc hk s m _ below hf ((Spec.applies_iff_loose hf).mp happ).1 ⟨rfl, State.Warmed39.refl s, rfl⟩ trivial
  refine ⟨n, _, h1, h2, h3, hpost _ _ _ _ _ _ ⟨Cond.after_iff.mpr rfl, Cond.after_iff.mpr (eq_i res_at (Term.int_eval (1)) rfl), trivial⟩ ⟨hq.1, hq.2.1, (hq.2.2.sift fun y hy => Or.inr (N y hy)).mono (by decide) (by decide)⟩⟩
theorem main_1_1 : Claimed_1_1 := comes_1 fun _ _ _ _ _ _ h hF => ⟨h.1, hF⟩
theorem main_1_2 : Claimed_1_2 := comes_1 fun _ _ _ _ _ _ h hF => ⟨h.2.1, hF⟩
end Jvm.Pilot.@@N@@
namespace Jvm.Pilot.@@N@@
open Jvm Jvm.ClassFile Sem Op Lib Jvm.Free Jvm.Stand Jvm.Pilot.@@N@@.Jvm.D
/-! MADE BY PROGRAM (witnessworld.py) out of the Statement's table words and the real class files: 20 classes; the members and pool entries that the words name. The judged class is class 1, her method 3. -/
namespace start1
open Jvm.ClassFile
def u (s : String) : CpInfo := .utf8 (stringToUtf16 s)
/-- a pool by its gaps: so many unusable entries, then the entry; so many at the end -/
def gap : Nat → List CpInfo → List CpInfo
  | 0, r => r
  | n + 1, r => .unusable :: gap n r
def poolList (es : List (Nat × CpInfo)) (last : Nat) : List CpInfo := es.foldr (fun e r => gap e.1 (e.2 :: r)) (gap last [])
def pool (es : List (Nat × CpInfo)) (last : Nat) : Array CpInfo := ⟨poolList es last⟩
def fileOf (pool : Array CpInfo) (this : Nat) (attrs : Array Attribute := #[]) (ms : Array MethodInfo := #[]) (fl : Nat := 33) (sup : Nat := 0) (ifs : Array Nat := #[]) (fds : Array FieldInfo := #[]) : ClassFile where
  minorVersion := 0
  majorVersion := 65
  constantPool := pool
  accessFlags := fl
  thisClass := this
  superClass := sup
  interfaces := ifs
  fields := fds
  methods := ms
  attributes := attrs
def plain (name : String) (sup : Option ClassId) : Class where
  name := name
  kind := .ordinary
  loader := none
  accessFlags := 33
  super := sup
  interfaces := #[]
  cf := none
  fields := #[]
  methods := #[]
  instanceTypes := #[]
  staticTypes := #[]
  resolved := #[]
  callSites := []
  init := .initialized
  statics := none
  mirror := none

def pool0 : Array CpInfo := pool [(5, u "<init>"), (0, u "()V"), (1, .class_ 10), (1, u "java/lang/Object")] 113

def k0c0 : Code := { maxStack := 0, maxLocals := 1, code := object_method_1_code, exceptionTable := #[], attributes := #[] }
def k0m0 : Method := { name := "<init>", desc := "()V", sig := { parameters := [], returnType := none }, accessFlags := 1, code := some k0c0 }
/-- java/lang/Object -/
def k0 : Class := { plain "java/lang/Object" none with
  accessFlags := 33
  interfaces := #[]
  cf := some (fileOf pool0 8 #[] #[{ accessFlags := 1, nameIndex := 5, descriptorIndex := 6, attributes := #[] }] 33 0 #[] #[])
  fields := #[]
  methods := #[k0m0]
  instanceTypes := #[]
  staticTypes := #[]
  resolved := Array.replicate 124 none
  statics := none }

def pool1 : Array CpInfo := pool [(2, .class_ 4), (1, u "java/lang/Object"), (0, u "<init>"), (0, u "()V"), (0, .long 10), (1, .long 1000000000000000000), (1, .methodref 12 13), (0, .class_ 14), (0, .nameAndType 15 16), (0, u "com/example/sequence_set/sequenceset/cli/DecimalParserAcceptPinLaw"), (0, u "d"), (0, u "(JJ)C"), (0, .long 100000000000000000), (1, .long 10000000000000000), (1, .long 1000000000000000), (1, .long 100000000000000), (1, .long 10000000000000), (1, .long 1000000000000), (1, .long 100000000000), (1, .long 10000000000), (1, .long 1000000000), (1, .long 100000000), (1, .long 10000000), (1, .long 1000000), (1, .long 100000), (1, .long 10000), (1, .long 1000), (1, .long 100), (3, .long 9223372036854775808), (1, .methodref 12 54), (0, .nameAndType 55 56), (0, u "fill"), (0, u "([CIJ)V"), (0, .class_ 58), (0, u "java/lang/String"), (0, .methodref 57 60), (0, .nameAndType 5 61), (0, u "([C)V"), (0, .methodref 63 64), (0, .class_ 65), (0, .nameAndType 66 67), (0, u "com/example/sequence_set/sequenceset/cli/DecimalParser"), (0, u "parse"), (0, u "(Ljava/lang/String;)J"), (2, u "law"), (0, u "(JI)Z")] 5

def k1m0 : Method := { name := "<init>", desc := "()V", sig := { parameters := [], returnType := none }, accessFlags := 1, code := none }
def k1c1 : Code := { maxStack := 5, maxLocals := 4, code := method_2_code, exceptionTable := #[], attributes := #[] }
def k1m1 : Method := { name := "d", desc := "(JJ)C", sig := { parameters := [.long, .long], returnType := some .char }, accessFlags := 10, code := some k1c1 }
def k1c2 : Code := { maxStack := 6, maxLocals := 4, code := method_3_code, exceptionTable := #[], attributes := #[] }
def k1m2 : Method := { name := "fill", desc := "([CIJ)V", sig := { parameters := [(.array .char), .int, .long], returnType := none }, accessFlags := 10, code := some k1c2 }
def k1c3 : Code := { maxStack := 4, maxLocals := 12, code := code, exceptionTable := #[], attributes := #[] }
def k1m3 : Method := { name := "law", desc := "(JI)Z", sig := { parameters := [.long, .int], returnType := some .boolean }, accessFlags := 9, code := some k1c3 }
/-- com/example/sequence_set/sequenceset/cli/DecimalParserAcceptPinLaw -/
def k1 : Class := { plain "com/example/sequence_set/sequenceset/cli/DecimalParserAcceptPinLaw" (some 0) with
  accessFlags := 49
  interfaces := #[]
  cf := some (fileOf pool1 12 #[] #[{ accessFlags := 1, nameIndex := 5, descriptorIndex := 6, attributes := #[] }, { accessFlags := 10, nameIndex := 15, descriptorIndex := 16, attributes := #[] }, { accessFlags := 10, nameIndex := 55, descriptorIndex := 56, attributes := #[] }, { accessFlags := 9, nameIndex := 70, descriptorIndex := 71, attributes := #[] }] 49 2 #[] #[])
  fields := #[]
  methods := #[k1m0, k1m1, k1m2, k1m3]
  instanceTypes := #[]
  staticTypes := #[]
  resolved := Array.replicate 77 none
  statics := none }

def pool2 : Array CpInfo := pool [(1, .class_ 2), (0, u "java/io/Serializable"), (0, .class_ 4), (0, u "java/lang/Object")] 2

/-- java/io/Serializable -/
def k2 : Class := { plain "java/io/Serializable" (some 0) with
  accessFlags := 1537
  interfaces := #[]
  cf := some (fileOf pool2 1 #[] #[] 1537 3 #[] #[])
  fields := #[]
  methods := #[]
  instanceTypes := #[]
  staticTypes := #[]
  resolved := Array.replicate 7 none
  statics := none }

def pool3 : Array CpInfo := pool [(1, .class_ 2), (0, u "java/lang/Comparable"), (0, .class_ 4), (0, u "java/lang/Object")] 7

/-- java/lang/Comparable -/
def k3 : Class := { plain "java/lang/Comparable" (some 0) with
  accessFlags := 1537
  interfaces := #[]
  cf := some (fileOf pool3 1 #[] #[] 1537 3 #[] #[])
  fields := #[]
  methods := #[]
  instanceTypes := #[]
  staticTypes := #[]
  resolved := Array.replicate 12 none
  statics := none }

def pool4 : Array CpInfo := pool [(2, .class_ 4), (1, u "java/lang/CharSequence"), (42, .class_ 48), (0, u "java/lang/CharSequence$1CodePointIterator"), (10, .class_ 60), (0, u "java/lang/CharSequence$1CharIterator"), (5, .class_ 67), (0, u "java/lang/Object")] 63

/-- java/lang/CharSequence -/
def k4 : Class := { plain "java/lang/CharSequence" (some 0) with
  accessFlags := 1537
  interfaces := #[]
  cf := some (fileOf pool4 2 #[.nestMembers #[47, 59]] #[] 1537 66 #[] #[])
  fields := #[]
  methods := #[]
  instanceTypes := #[]
  staticTypes := #[]
  resolved := Array.replicate 131 none
  statics := none }

def pool5 : Array CpInfo := pool [(1, .class_ 2), (0, u "java/lang/constant/Constable"), (0, .class_ 4), (0, u "java/lang/Object")] 6

/-- java/lang/constant/Constable -/
def k5 : Class := { plain "java/lang/constant/Constable" (some 0) with
  accessFlags := 1537
  interfaces := #[]
  cf := some (fileOf pool5 1 #[] #[] 1537 3 #[] #[])
  fields := #[]
  methods := #[]
  instanceTypes := #[]
  staticTypes := #[]
  resolved := Array.replicate 11 none
  statics := none }

def pool6 : Array CpInfo := pool [(1, .class_ 2), (0, u "java/lang/constant/ConstantDesc"), (0, .class_ 4), (0, u "java/lang/Object")] 32

/-- java/lang/constant/ConstantDesc -/
def k6 : Class := { plain "java/lang/constant/ConstantDesc" (some 0) with
  accessFlags := 1537
  interfaces := #[]
  cf := some (fileOf pool6 1 #[] #[] 1537 3 #[] #[])
  fields := #[]
  methods := #[]
  instanceTypes := #[]
  staticTypes := #[]
  resolved := Array.replicate 37 none
  statics := none }

def pool7 : Array CpInfo := pool [(1, .methodref 2 3), (0, .class_ 4), (0, .nameAndType 5 6), (0, u "java/lang/Object"), (0, u "<init>"), (0, u "()V"), (2, .fieldref 10 11), (0, .class_ 12), (0, .nameAndType 13 14), (0, u "java/lang/String"), (0, u "value"), (0, u "[B"), (0, .fieldref 10 16), (0, .nameAndType 17 18), (0, u "coder"), (0, u "B"), (2, u "hash"), (0, u "I"), (2, u "hashIsZero"), (0, u "Z"), (0, .methodref 10 28), (0, .nameAndType 5 29), (0, u "([CIILjava/lang/Void;)V"), (8, .fieldref 10 39), (0, .nameAndType 40 26), (0, u "COMPACT_STRINGS"), (1, .class_ 44), (1, u "java/lang/StringUTF16"), (0, u "compress"), (1, .methodref 42 48), (0, .nameAndType 49 50), (0, u "coderFromArrayLen"), (0, u "([BI)B"), (56, .class_ 109), (1, u "java/lang/StringLatin1"), (32, u "()Z"), (34, .methodref 42 178), (0, .nameAndType 45 179), (0, u "([CII)[B"), (154, u "()I"), (0, .methodref 10 336), (0, .nameAndType 17 337), (0, u "()B"), (25, u "([BI)C"), (27, u "(II)V"), (35, u "(I)C"), (64, .methodref 10 493), (0, .nameAndType 494 142), (0, u "isLatin1"), (0, .methodref 107 496), (0, .nameAndType 497 363), (0, u "charAt"), (3, u "checkIndex"), (5, u "length"), (67, .class_ 576), (0, u "java/lang/CharSequence"), (22, u "CASE_INSENSITIVE_ORDER"), (0, u "Ljava/util/Comparator;"), (409, u "([C)V"), (42, .fieldref 1054 1055), (0, .class_ 1056), (0, .nameAndType 1057 1058), (0, u "jdk/internal/util/Preconditions"), (0, u "SIOOBE_FORMATTER"), (0, u "Ljava/util/function/BiFunction;"), (0, .methodref 1054 1060), (0, .nameAndType 501 1061), (0, u "(IILjava/util/function/BiFunction;)I"), (39, u "serialPersistentFields"), (0, u "[Ljava/io/ObjectStreamField;"), (0, .class_ 1104), (0, u "java/lang/String$CaseInsensitiveComparator"), (1, .class_ 1107), (0, u "java/io/Serializable"), (0, .class_ 1109), (0, u "java/lang/Comparable"), (0, .class_ 1111), (0, u "java/lang/constant/Constable"), (0, .class_ 1113), (0, u "java/lang/constant/ConstantDesc"), (2, u "serialVersionUID"), (0, u "J"), (3, u "REPL"), (0, u "C"), (2, u "LATIN1"), (1, u "UTF16")] 323

def k7m0 : Method := { name := "<init>", desc := "()V", sig := { parameters := [], returnType := none }, accessFlags := 1, code := none }
def k7c1 : Code := { maxStack := 5, maxLocals := 2, code := jdk_42_method_3_code, exceptionTable := #[], attributes := #[] }
def k7m1 : Method := { name := "<init>", desc := "([C)V", sig := { parameters := [(.array .char)], returnType := none }, accessFlags := 1, code := some k7c1 }
def k7c2 : Code := { maxStack := 2, maxLocals := 1, code := jdk_42_method_54_code, exceptionTable := #[], attributes := #[] }
def k7m2 : Method := { name := "length", desc := "()I", sig := { parameters := [], returnType := some .int }, accessFlags := 1, code := some k7c2 }
def k7c3 : Code := { maxStack := 2, maxLocals := 2, code := jdk_42_method_56_code, exceptionTable := #[], attributes := #[] }
def k7m3 : Method := { name := "charAt", desc := "(I)C", sig := { parameters := [.int], returnType := some .char }, accessFlags := 1, code := some k7c3 }
def k7c4 : Code := { maxStack := 4, maxLocals := 6, code := jdk_42_method_149_code, exceptionTable := #[], attributes := #[] }
def k7m4 : Method := { name := "<init>", desc := "([CIILjava/lang/Void;)V", sig := { parameters := [(.array .char), .int, .int, (.object "java/lang/Void")], returnType := none }, accessFlags := 2, code := some k7c4 }
def k7c5 : Code := { maxStack := 1, maxLocals := 1, code := jdk_42_method_152_code, exceptionTable := #[], attributes := #[] }
def k7m5 : Method := { name := "coder", desc := "()B", sig := { parameters := [], returnType := some .byte }, accessFlags := 0, code := some k7c5 }
def k7c6 : Code := { maxStack := 1, maxLocals := 1, code := jdk_42_method_154_code, exceptionTable := #[], attributes := #[] }
def k7m6 : Method := { name := "isLatin1", desc := "()Z", sig := { parameters := [], returnType := some .boolean }, accessFlags := 0, code := some k7c6 }
def k7c7 : Code := { maxStack := 3, maxLocals := 2, code := jdk_42_method_155_code, exceptionTable := #[], attributes := #[] }
def k7m7 : Method := { name := "checkIndex", desc := "(II)V", sig := { parameters := [.int, .int], returnType := none }, accessFlags := 8, code := some k7c7 }
/-- java/lang/String -/
def k7 : Class := { plain "java/lang/String" (some 0) with
  accessFlags := 49
  interfaces := #[2, 3, 4, 5, 6]
  cf := some (fileOf pool7 10 #[.nestMembers #[1103]] #[{ accessFlags := 1, nameIndex := 5, descriptorIndex := 6, attributes := #[] }, { accessFlags := 1, nameIndex := 5, descriptorIndex := 1010, attributes := #[] }, { accessFlags := 1, nameIndex := 507, descriptorIndex := 334, attributes := #[] }, { accessFlags := 1, nameIndex := 497, descriptorIndex := 427, attributes := #[] }, { accessFlags := 2, nameIndex := 5, descriptorIndex := 29, attributes := #[] }, { accessFlags := 0, nameIndex := 17, descriptorIndex := 337, attributes := #[] }, { accessFlags := 0, nameIndex := 494, descriptorIndex := 142, attributes := #[] }, { accessFlags := 8, nameIndex := 501, descriptorIndex := 391, attributes := #[] }] 49 2 #[1106, 1108, 575, 1110, 1112] #[{ accessFlags := 18, nameIndex := 13, descriptorIndex := 14, attributes := #[] }, { accessFlags := 18, nameIndex := 17, descriptorIndex := 18, attributes := #[] }, { accessFlags := 2, nameIndex := 21, descriptorIndex := 22, attributes := #[] }, { accessFlags := 2, nameIndex := 25, descriptorIndex := 26, attributes := #[] }, { accessFlags := 26, nameIndex := 1116, descriptorIndex := 1117, attributes := #[] }, { accessFlags := 24, nameIndex := 40, descriptorIndex := 26, attributes := #[] }, { accessFlags := 26, nameIndex := 1101, descriptorIndex := 1102, attributes := #[] }, { accessFlags := 26, nameIndex := 1121, descriptorIndex := 1122, attributes := #[] }, { accessFlags := 25, nameIndex := 599, descriptorIndex := 600, attributes := #[] }, { accessFlags := 24, nameIndex := 1125, descriptorIndex := 18, attributes := #[] }, { accessFlags := 24, nameIndex := 1127, descriptorIndex := 18, attributes := #[] }])
  fields := #[{ name := "value", type := (.array .byte), accessFlags := 18, slot := 0, constantValue := 0 }, { name := "coder", type := .byte, accessFlags := 18, slot := 1, constantValue := 0 }, { name := "hash", type := .int, accessFlags := 2, slot := 2, constantValue := 0 }, { name := "hashIsZero", type := .boolean, accessFlags := 2, slot := 3, constantValue := 0 }, { name := "serialVersionUID", type := .long, accessFlags := 26, slot := 0, constantValue := 0 }, { name := "COMPACT_STRINGS", type := .boolean, accessFlags := 24, slot := 1, constantValue := 0 }, { name := "serialPersistentFields", type := (.array (.object "java/io/ObjectStreamField")), accessFlags := 26, slot := 2, constantValue := 0 }, { name := "REPL", type := .char, accessFlags := 26, slot := 3, constantValue := 0 }, { name := "CASE_INSENSITIVE_ORDER", type := (.object "java/util/Comparator"), accessFlags := 25, slot := 4, constantValue := 0 }, { name := "LATIN1", type := .byte, accessFlags := 24, slot := 5, constantValue := 0 }, { name := "UTF16", type := .byte, accessFlags := 24, slot := 6, constantValue := 0 }]
  methods := #[k7m0, k7m1, k7m2, k7m3, k7m4, k7m5, k7m6, k7m7]
  instanceTypes := #[(.array .byte), .byte, .int, .boolean]
  staticTypes := #[.long, .boolean, (.array (.object "java/io/ObjectStreamField")), .char, (.object "java/util/Comparator"), .byte, .byte]
  resolved := Array.replicate 1451 none
  statics := some 0 }

def pool8 : Array CpInfo := pool [(6, .class_ 8), (1, u "java/lang/Object"), (0, u "<init>"), (0, u "()V"), (1, .class_ 14), (1, u "java/lang/StringUTF16"), (31, u "$assertionsDisabled"), (0, u "Z"), (13, u "HI_BYTE_SHIFT"), (0, u "I"), (2, u "LO_BYTE_SHIFT"), (49, .methodref 12 116), (0, .nameAndType 117 118), (0, u "compress"), (0, u "([CI[BII)I"), (3, u "([CII)[B"), (138, u "coderFromArrayLen"), (0, u "([BI)B"), (106, .class_ 371), (1, u "java/lang/StringUTF16$LinesSpliterator"), (58, u "MAX_LENGTH"), (196, .class_ 628), (0, u "java/lang/StringUTF16$CodePointsSpliterator"), (0, .class_ 630), (0, u "java/lang/StringUTF16$CharsSpliterator")] 4

def k8m0 : Method := { name := "<init>", desc := "()V", sig := { parameters := [], returnType := none }, accessFlags := 0, code := none }
def k8c1 : Code := { maxStack := 2, maxLocals := 2, code := jdk_52_method_15_code, exceptionTable := #[], attributes := #[] }
def k8m1 : Method := { name := "coderFromArrayLen", desc := "([BI)B", sig := { parameters := [(.array .byte), .int], returnType := some .byte }, accessFlags := 8, code := some k8c1 }
def k8c2 : Code := { maxStack := 5, maxLocals := 6, code := jdk_52_method_16_code, exceptionTable := #[], attributes := #[] }
def k8m2 : Method := { name := "compress", desc := "([CII)[B", sig := { parameters := [(.array .char), .int, .int], returnType := some (.array .byte) }, accessFlags := 9, code := some k8c2 }
def k8c3 : Code := { maxStack := 3, maxLocals := 7, code := jdk_52_method_21_code, exceptionTable := #[], attributes := #[] }
def k8m3 : Method := { name := "compress", desc := "([CI[BII)I", sig := { parameters := [(.array .char), .int, (.array .byte), .int, .int], returnType := some .int }, accessFlags := 9, code := some k8c3 }
/-- java/lang/StringUTF16 -/
def k8 : Class := { plain "java/lang/StringUTF16" (some 0) with
  accessFlags := 48
  interfaces := #[]
  cf := some (fileOf pool8 12 #[.nestMembers #[627, 629, 369]] #[{ accessFlags := 0, nameIndex := 9, descriptorIndex := 10, attributes := #[] }, { accessFlags := 8, nameIndex := 261, descriptorIndex := 262, attributes := #[] }, { accessFlags := 9, nameIndex := 117, descriptorIndex := 122, attributes := #[] }, { accessFlags := 9, nameIndex := 117, descriptorIndex := 118, attributes := #[] }] 48 6 #[] #[{ accessFlags := 26, nameIndex := 61, descriptorIndex := 62, attributes := #[] }, { accessFlags := 26, nameIndex := 65, descriptorIndex := 62, attributes := #[] }, { accessFlags := 24, nameIndex := 430, descriptorIndex := 62, attributes := #[] }, { accessFlags := 4120, nameIndex := 46, descriptorIndex := 47, attributes := #[] }])
  fields := #[{ name := "HI_BYTE_SHIFT", type := .int, accessFlags := 26, slot := 0, constantValue := 0 }, { name := "LO_BYTE_SHIFT", type := .int, accessFlags := 26, slot := 1, constantValue := 0 }, { name := "MAX_LENGTH", type := .int, accessFlags := 24, slot := 2, constantValue := 0 }, { name := "$assertionsDisabled", type := .boolean, accessFlags := 4120, slot := 3, constantValue := 0 }]
  methods := #[k8m0, k8m1, k8m2, k8m3]
  instanceTypes := #[]
  staticTypes := #[.int, .int, .int, .boolean]
  resolved := Array.replicate 635 none
  statics := none }

def pool9 : Array CpInfo := pool [(1, .methodref 2 3), (0, .class_ 4), (0, .nameAndType 5 6), (0, u "java/lang/Object"), (0, u "<init>"), (0, u "()V"), (0, .fieldref 8 9), (0, .class_ 10), (0, .nameAndType 11 12), (0, u "com/example/sequence_set/sequenceset/cli/DecimalParser"), (0, u "wellFormed"), (0, u "Z"), (0, .fieldref 8 14), (0, .nameAndType 15 12), (0, u "inRange"), (0, .methodref 8 3), (0, .methodref 18 19), (0, .class_ 20), (0, .nameAndType 21 22), (0, u "java/lang/String"), (0, u "length"), (0, u "()I"), (0, .methodref 18 24), (0, .nameAndType 25 26), (0, u "charAt"), (0, u "(I)C"), (0, .methodref 8 28), (0, .nameAndType 29 30), (0, u "accept"), (0, u "(I)V"), (0, .methodref 8 32), (0, .nameAndType 33 34), (0, u "value"), (0, u "()J"), (2, u "parse"), (0, u "(Ljava/lang/String;)J"), (16, .fieldref 8 56), (0, .nameAndType 57 58), (0, u "negated"), (0, u "J"), (0, .fieldref 8 60), (0, .nameAndType 61 12), (0, u "negative"), (0, .fieldref 8 63), (0, .nameAndType 64 65), (0, u "characters"), (0, u "I"), (0, .fieldref 8 67), (0, .nameAndType 68 65), (0, u "digits"), (2, .long 9223372036854775808), (1, .long 10), (8, u "NOT_DECIMAL"), (0, u "Ljava/lang/String;"), (1, u "OUT_OF_RANGE")] 24

def k9c0 : Code := { maxStack := 2, maxLocals := 1, code := prog_17_method_1_code, exceptionTable := #[], attributes := #[] }
def k9m0 : Method := { name := "<init>", desc := "()V", sig := { parameters := [], returnType := none }, accessFlags := 0, code := some k9c0 }
def k9c1 : Code := { maxStack := 3, maxLocals := 3, code := prog_17_method_2_code, exceptionTable := #[], attributes := #[] }
def k9m1 : Method := { name := "parse", desc := "(Ljava/lang/String;)J", sig := { parameters := [(.object "java/lang/String")], returnType := some .long }, accessFlags := 8, code := some k9c1 }
def k9c2 : Code := { maxStack := 6, maxLocals := 3, code := prog_17_method_5_code, exceptionTable := #[], attributes := #[] }
def k9m2 : Method := { name := "accept", desc := "(I)V", sig := { parameters := [.int], returnType := none }, accessFlags := 0, code := some k9c2 }
def k9c3 : Code := { maxStack := 4, maxLocals := 1, code := prog_17_method_6_code, exceptionTable := #[], attributes := #[] }
def k9m3 : Method := { name := "value", desc := "()J", sig := { parameters := [], returnType := some .long }, accessFlags := 0, code := some k9c3 }
/-- com/example/sequence_set/sequenceset/cli/DecimalParser -/
def k9 : Class := { plain "com/example/sequence_set/sequenceset/cli/DecimalParser" (some 0) with
  accessFlags := 48
  interfaces := #[]
  cf := some (fileOf pool9 8 #[] #[{ accessFlags := 0, nameIndex := 5, descriptorIndex := 6, attributes := #[] }, { accessFlags := 8, nameIndex := 37, descriptorIndex := 38, attributes := #[] }, { accessFlags := 0, nameIndex := 29, descriptorIndex := 30, attributes := #[] }, { accessFlags := 0, nameIndex := 33, descriptorIndex := 34, attributes := #[] }] 48 2 #[] #[{ accessFlags := 24, nameIndex := 82, descriptorIndex := 83, attributes := #[] }, { accessFlags := 24, nameIndex := 85, descriptorIndex := 83, attributes := #[] }, { accessFlags := 2, nameIndex := 57, descriptorIndex := 58, attributes := #[] }, { accessFlags := 2, nameIndex := 61, descriptorIndex := 12, attributes := #[] }, { accessFlags := 2, nameIndex := 64, descriptorIndex := 65, attributes := #[] }, { accessFlags := 2, nameIndex := 68, descriptorIndex := 65, attributes := #[] }, { accessFlags := 2, nameIndex := 11, descriptorIndex := 12, attributes := #[] }, { accessFlags := 2, nameIndex := 15, descriptorIndex := 12, attributes := #[] }])
  fields := #[{ name := "NOT_DECIMAL", type := (.object "java/lang/String"), accessFlags := 24, slot := 0, constantValue := 0 }, { name := "OUT_OF_RANGE", type := (.object "java/lang/String"), accessFlags := 24, slot := 1, constantValue := 0 }, { name := "negated", type := .long, accessFlags := 2, slot := 0, constantValue := 0 }, { name := "negative", type := .boolean, accessFlags := 2, slot := 1, constantValue := 0 }, { name := "characters", type := .int, accessFlags := 2, slot := 2, constantValue := 0 }, { name := "digits", type := .int, accessFlags := 2, slot := 3, constantValue := 0 }, { name := "wellFormed", type := .boolean, accessFlags := 2, slot := 4, constantValue := 0 }, { name := "inRange", type := .boolean, accessFlags := 2, slot := 5, constantValue := 0 }]
  methods := #[k9m0, k9m1, k9m2, k9m3]
  instanceTypes := #[.long, .boolean, .int, .int, .boolean, .boolean]
  staticTypes := #[(.object "java/lang/String"), (.object "java/lang/String")]
  resolved := Array.replicate 110 none
  statics := none }

def pool10 : Array CpInfo := pool [(1, .class_ 2), (0, u "java/lang/String"), (1, .class_ 6), (1, u "java/lang/Object"), (0, u "<init>"), (0, u "()V"), (0, .methodref 1 10), (0, .nameAndType 11 12), (0, u "checkIndex"), (0, u "(II)V"), (1, .class_ 16), (1, u "java/lang/StringLatin1"), (36, u "([BI)C"), (67, u "$assertionsDisabled"), (0, u "Z"), (98, .class_ 223), (1, u "java/lang/StringLatin1$LinesSpliterator"), (28, u "charAt"), (137, .class_ 391), (0, u "java/lang/StringLatin1$CharsSpliterator")] 3

def k10m0 : Method := { name := "<init>", desc := "()V", sig := { parameters := [], returnType := none }, accessFlags := 0, code := none }
def k10c1 : Code := { maxStack := 2, maxLocals := 2, code := jdk_43_method_2_code, exceptionTable := #[], attributes := #[] }
def k10m1 : Method := { name := "charAt", desc := "([BI)C", sig := { parameters := [(.array .byte), .int], returnType := some .char }, accessFlags := 9, code := some k10c1 }
/-- java/lang/StringLatin1 -/
def k10 : Class := { plain "java/lang/StringLatin1" (some 0) with
  accessFlags := 48
  interfaces := #[]
  cf := some (fileOf pool10 14 #[.nestMembers #[390, 221]] #[{ accessFlags := 0, nameIndex := 7, descriptorIndex := 8, attributes := #[] }, { accessFlags := 9, nameIndex := 252, descriptorIndex := 53, attributes := #[] }] 48 4 #[] #[{ accessFlags := 4120, nameIndex := 121, descriptorIndex := 122, attributes := #[] }])
  fields := #[{ name := "$assertionsDisabled", type := .boolean, accessFlags := 4120, slot := 0, constantValue := 0 }]
  methods := #[k10m0, k10m1]
  instanceTypes := #[]
  staticTypes := #[.boolean]
  resolved := Array.replicate 395 none
  statics := none }

def pool11 : Array CpInfo := pool [(2, .class_ 4), (1, u "java/lang/Object"), (0, u "<init>"), (0, u "()V"), (17, .class_ 26), (1, u "jdk/internal/util/Preconditions"), (6, u "checkIndex"), (21, .class_ 56), (0, u "jdk/internal/util/Preconditions$4"), (57, .class_ 115), (0, u "jdk/internal/util/Preconditions$1"), (7, u "SIOOBE_FORMATTER"), (0, u "Ljava/util/function/BiFunction;"), (0, .class_ 126), (0, u "jdk/internal/util/Preconditions$2"), (3, u "AIOOBE_FORMATTER"), (0, .class_ 132), (0, u "jdk/internal/util/Preconditions$3"), (3, u "IOOBE_FORMATTER"), (41, u "(IILjava/util/function/BiFunction;)I")] 15

def k11m0 : Method := { name := "<init>", desc := "()V", sig := { parameters := [], returnType := none }, accessFlags := 1, code := none }
def k11c1 : Code := { maxStack := 3, maxLocals := 3, code := jdk_41_method_11_code, exceptionTable := #[], attributes := #[] }
def k11m1 : Method := { name := "checkIndex", desc := "(IILjava/util/function/BiFunction;)I", sig := { parameters := [.int, .int, (.object "java/util/function/BiFunction")], returnType := some .int }, accessFlags := 9, code := some k11c1 }
/-- jdk/internal/util/Preconditions -/
def k11 : Class := { plain "jdk/internal/util/Preconditions" (some 0) with
  accessFlags := 33
  interfaces := #[]
  cf := some (fileOf pool11 24 #[.nestMembers #[55, 131, 125, 114]] #[{ accessFlags := 1, nameIndex := 5, descriptorIndex := 6, attributes := #[] }, { accessFlags := 9, nameIndex := 33, descriptorIndex := 178, attributes := #[] }] 33 2 #[] #[{ accessFlags := 25, nameIndex := 123, descriptorIndex := 124, attributes := #[] }, { accessFlags := 25, nameIndex := 130, descriptorIndex := 124, attributes := #[] }, { accessFlags := 25, nameIndex := 136, descriptorIndex := 124, attributes := #[] }])
  fields := #[{ name := "SIOOBE_FORMATTER", type := (.object "java/util/function/BiFunction"), accessFlags := 25, slot := 0, constantValue := 0 }, { name := "AIOOBE_FORMATTER", type := (.object "java/util/function/BiFunction"), accessFlags := 25, slot := 1, constantValue := 0 }, { name := "IOOBE_FORMATTER", type := (.object "java/util/function/BiFunction"), accessFlags := 25, slot := 2, constantValue := 0 }]
  methods := #[k11m0, k11m1]
  instanceTypes := #[]
  staticTypes := #[(.object "java/util/function/BiFunction"), (.object "java/util/function/BiFunction"), (.object "java/util/function/BiFunction")]
  resolved := Array.replicate 194 none
  statics := some 1 }

def pool12 : Array CpInfo := pool [(9, u "<init>"), (6, .class_ 18), (1, u "java/lang/Object"), (0, u "()V"), (1, .class_ 23), (1, u "jdk/internal/util/ArraysSupport"), (0, u "LOG2_ARRAY_LONG_INDEX_SCALE"), (0, u "I"), (2, u "U"), (0, u "Ljdk/internal/misc/Unsafe;"), (8, u "BIG_ENDIAN"), (0, u "Z"), (8, u "LOG2_BYTE_BIT_SIZE"), (4, u "LOG2_ARRAY_INT_INDEX_SCALE"), (54, u "JLA"), (0, u "Ljdk/internal/access/JavaLangAccess;"), (11, u "LOG2_ARRAY_BOOLEAN_INDEX_SCALE"), (9, u "LOG2_ARRAY_BYTE_INDEX_SCALE"), (5, u "LOG2_ARRAY_CHAR_INDEX_SCALE"), (5, u "LOG2_ARRAY_SHORT_INDEX_SCALE"), (18, u "LOG2_ARRAY_FLOAT_INDEX_SCALE"), (24, u "LOG2_ARRAY_DOUBLE_INDEX_SCALE"), (89, u "T_BOOLEAN"), (2, u "T_CHAR"), (1, u "T_FLOAT"), (1, u "T_DOUBLE"), (1, u "T_BYTE"), (1, u "T_SHORT"), (1, u "T_INT"), (1, u "T_LONG"), (1, u "SOFT_MAX_ARRAY_LENGTH")] 83

def k12m0 : Method := { name := "<init>", desc := "()V", sig := { parameters := [], returnType := none }, accessFlags := 2, code := none }
/-- jdk/internal/util/ArraysSupport -/
def k12 : Class := { plain "jdk/internal/util/ArraysSupport" (some 0) with
  accessFlags := 33
  interfaces := #[]
  cf := some (fileOf pool12 21 #[] #[{ accessFlags := 2, nameIndex := 9, descriptorIndex := 19, attributes := #[] }] 33 16 #[] #[{ accessFlags := 24, nameIndex := 28, descriptorIndex := 29, attributes := #[] }, { accessFlags := 26, nameIndex := 38, descriptorIndex := 39, attributes := #[] }, { accessFlags := 25, nameIndex := 121, descriptorIndex := 25, attributes := #[] }, { accessFlags := 25, nameIndex := 131, descriptorIndex := 25, attributes := #[] }, { accessFlags := 25, nameIndex := 137, descriptorIndex := 25, attributes := #[] }, { accessFlags := 25, nameIndex := 143, descriptorIndex := 25, attributes := #[] }, { accessFlags := 25, nameIndex := 53, descriptorIndex := 25, attributes := #[] }, { accessFlags := 25, nameIndex := 24, descriptorIndex := 25, attributes := #[] }, { accessFlags := 25, nameIndex := 162, descriptorIndex := 25, attributes := #[] }, { accessFlags := 25, nameIndex := 187, descriptorIndex := 25, attributes := #[] }, { accessFlags := 26, nameIndex := 48, descriptorIndex := 25, attributes := #[] }, { accessFlags := 25, nameIndex := 277, descriptorIndex := 25, attributes := #[] }, { accessFlags := 25, nameIndex := 280, descriptorIndex := 25, attributes := #[] }, { accessFlags := 25, nameIndex := 282, descriptorIndex := 25, attributes := #[] }, { accessFlags := 25, nameIndex := 284, descriptorIndex := 25, attributes := #[] }, { accessFlags := 25, nameIndex := 286, descriptorIndex := 25, attributes := #[] }, { accessFlags := 25, nameIndex := 288, descriptorIndex := 25, attributes := #[] }, { accessFlags := 25, nameIndex := 290, descriptorIndex := 25, attributes := #[] }, { accessFlags := 25, nameIndex := 292, descriptorIndex := 25, attributes := #[] }, { accessFlags := 26, nameIndex := 108, descriptorIndex := 109, attributes := #[] }, { accessFlags := 25, nameIndex := 294, descriptorIndex := 25, attributes := #[] }])
  fields := #[{ name := "U", type := (.object "jdk/internal/misc/Unsafe"), accessFlags := 24, slot := 0, constantValue := 0 }, { name := "BIG_ENDIAN", type := .boolean, accessFlags := 26, slot := 1, constantValue := 0 }, { name := "LOG2_ARRAY_BOOLEAN_INDEX_SCALE", type := .int, accessFlags := 25, slot := 2, constantValue := 0 }, { name := "LOG2_ARRAY_BYTE_INDEX_SCALE", type := .int, accessFlags := 25, slot := 3, constantValue := 0 }, { name := "LOG2_ARRAY_CHAR_INDEX_SCALE", type := .int, accessFlags := 25, slot := 4, constantValue := 0 }, { name := "LOG2_ARRAY_SHORT_INDEX_SCALE", type := .int, accessFlags := 25, slot := 5, constantValue := 0 }, { name := "LOG2_ARRAY_INT_INDEX_SCALE", type := .int, accessFlags := 25, slot := 6, constantValue := 0 }, { name := "LOG2_ARRAY_LONG_INDEX_SCALE", type := .int, accessFlags := 25, slot := 7, constantValue := 0 }, { name := "LOG2_ARRAY_FLOAT_INDEX_SCALE", type := .int, accessFlags := 25, slot := 8, constantValue := 0 }, { name := "LOG2_ARRAY_DOUBLE_INDEX_SCALE", type := .int, accessFlags := 25, slot := 9, constantValue := 0 }, { name := "LOG2_BYTE_BIT_SIZE", type := .int, accessFlags := 26, slot := 10, constantValue := 0 }, { name := "T_BOOLEAN", type := .int, accessFlags := 25, slot := 11, constantValue := 0 }, { name := "T_CHAR", type := .int, accessFlags := 25, slot := 12, constantValue := 0 }, { name := "T_FLOAT", type := .int, accessFlags := 25, slot := 13, constantValue := 0 }, { name := "T_DOUBLE", type := .int, accessFlags := 25, slot := 14, constantValue := 0 }, { name := "T_BYTE", type := .int, accessFlags := 25, slot := 15, constantValue := 0 }, { name := "T_SHORT", type := .int, accessFlags := 25, slot := 16, constantValue := 0 }, { name := "T_INT", type := .int, accessFlags := 25, slot := 17, constantValue := 0 }, { name := "T_LONG", type := .int, accessFlags := 25, slot := 18, constantValue := 0 }, { name := "JLA", type := (.object "jdk/internal/access/JavaLangAccess"), accessFlags := 26, slot := 19, constantValue := 0 }, { name := "SOFT_MAX_ARRAY_LENGTH", type := .int, accessFlags := 25, slot := 20, constantValue := 0 }]
  methods := #[k12m0]
  instanceTypes := #[]
  staticTypes := #[(.object "jdk/internal/misc/Unsafe"), .boolean, .int, .int, .int, .int, .int, .int, .int, .int, .int, .int, .int, .int, .int, .int, .int, .int, .int, (.object "jdk/internal/access/JavaLangAccess"), .int]
  resolved := Array.replicate 378 none
  statics := none }

def pool13 : Array CpInfo := pool [(1, u "java/lang/Cloneable"), (0, .class_ 1), (0, u "java/lang/Object"), (0, .class_ 3)] 3

/-- java/lang/Cloneable -/
def k13 : Class := { plain "java/lang/Cloneable" (some 0) with
  accessFlags := 1537
  interfaces := #[]
  cf := some (fileOf pool13 2 #[] #[] 1537 4 #[] #[])
  fields := #[]
  methods := #[]
  instanceTypes := #[]
  staticTypes := #[]
  resolved := Array.replicate 8 none
  statics := none }

/-- the primitive byte -/
def k14 : Class := { plain "byte" none with kind := .primitive 'B', accessFlags := 0x411 }
/-- [B -/
def k15 : Class := { plain "[B" (some 0) with kind := .array 14 .byte, interfaces := #[13, 2], accessFlags := 1041 }

/-- the primitive char -/
def k16 : Class := { plain "char" none with kind := .primitive 'C', accessFlags := 0x411 }
/-- [C -/
def k17 : Class := { plain "[C" (some 0) with kind := .array 16 .char, interfaces := #[13, 2], accessFlags := 1041 }

/-- the primitive int -/
def k18 : Class := { plain "int" none with kind := .primitive 'I', accessFlags := 0x411 }
/-- [I -/
def k19 : Class := { plain "[I" (some 0) with kind := .array 18 .int, interfaces := #[13, 2], accessFlags := 1041 }

def heap : Heap := #[{ cls := 7, slots := #[.long 0, .int 1, .null, .int 0, .null, .int 0, .int 0], vm := .statics 7 },
  { cls := 11, slots := #[.null, .null, .null], vm := .statics 11 }]
def classes : Array Class := #[k0, k1, k2, k3, k4, k5, k6, k7, k8, k9, k10, k11, k12, k13, k14, k15, k16, k17, k18, k19]
def interned : List (Array UInt16 × Addr) := []
def slotsUsed : Nat := 10
def theMethod : MethodId := ⟨1, 3⟩
def args0 : Array Value := #[.long 5, .int 5]
def aboutOver (below : List Frame) : State where
  vm := { classes := classes, interned := interned.toArray }
  heap := heap
  slotsUsed := slotsUsed
  threads := #[{ frames := .invoking theMethod args0 :: below }]
def below0 : List Frame := [.native { method := ⟨0, 0⟩, args := #[] }]
def about1 : State := aboutOver below0
def p0 : Program := .bare "" "" ""
def e0 : Env := launch0.env 0 0 0
theorem w_frames : about1.frames = Frame.invoking theMethod args0 :: below0 := rfl
set_option maxRecDepth 65536 in
theorem w_args : argsFit about1.vm theMethod args0 = true := by decide +kernel
set_option maxRecDepth 65536 in
theorem w_heap : heapFits about1 = true := by decide +kernel
set_option maxRecDepth 65536 in
theorem w_runnable : about1.curStatus? = some .runnable := by decide +kernel
set_option maxRecDepth 65536 in
theorem w_alone : about1.alone = true := by decide +kernel
set_option maxRecDepth 65536 in
theorem w_named : about1.methodNamed? x = some theMethod := by decide +kernel
set_option maxRecDepth 65536 in
theorem w_hears : about1.hears theMethod below0 = true := by decide +kernel
set_option maxRecDepth 65536 in
theorem w_ripe : about1.ripe theMethod args0 below0 = true := by decide +kernel
theorem w_running : about1.status = .running := rfl
set_option maxRecDepth 65536 in
theorem w_room : about1.hasRoom e0.platform room_1 = true :=
  launch0.hasRoom_least _ room_1 (by decide +kernel) (by decide +kernel) (by decide +kernel) (by decide +kernel) (by decide +kernel) (by decide +kernel)
theorem allAtoms_all (ts : List Jvm.Cond) (a : Array Jvm.Value) (st : Jvm.State) : (allAtoms ts).before a st = ts.all (fun c => c.before a st) := by
  induction ts with
  | nil => rfl
  | cons c t ih =>
    show (Jvm.Cond.and c (allAtoms t)).before a st = _
    rw [Jvm.Cond.before_and, ih, List.all_cons]
def words1 : List Jvm.Cond := Jvm.Cond.code x code maxLocals ret :: tables_1
/-- a 'code' word, met by the world's own term for the bytes: nothing is compared byte by byte -/
theorem code_word {y : MethodName} {bytes : ByteArray} {mx : Nat} {rt : Option FieldType} {a : Array Value} {s : State} {m : MethodId} {meth : Method} {c : Code} (h1 : s.methodNamed? y = some m) (h2 : s.vm.method? m = some meth) (h3 : meth.code = some c) (h4 : c.code = bytes)
    (h5 : (c.maxLocals == mx && c.exceptionTable.isEmpty && decide (c.maxStack ≤ mostOperands) && decide (meth.sig.returnType = rt) && !meth.locks && decide (parseMethodDescriptor y.desc = some meth.sig)) = true) : (Jvm.Cond.code y bytes mx rt).before a s = true := by
  simp only [Bool.and_eq_true, beq_iff_eq, Bool.not_eq_true', decide_eq_true_eq] at h5
  obtain ⟨⟨⟨⟨⟨g1, g2⟩, g3⟩, g4⟩, g5⟩, g6⟩ := h5
  simp [Cond.before, Cond.holds, Cond.value, h1, h2, h3, h4, g1, g2, g3, g4, g5, g6]
def isCode : Jvm.Cond → Bool
  | .code _ _ _ _ => true
  | _ => false
theorem all_split {L : List Jvm.Cond} {P : Jvm.Cond → Bool} (h1 : L.all (fun c => isCode c || P c) = true) (h2 : ∀ c ∈ L.filter isCode, P c = true) : L.all P = true := by
  refine List.all_eq_true.mpr fun c hc => ?_
  have h := List.all_eq_true.mp h1 c hc
  rcases Bool.eq_false_or_eq_true (isCode c) with hi | hi
  · exact h2 c (List.mem_filter.mpr ⟨hc, hi⟩)
  · simpa [hi] using h
set_option maxRecDepth 65536 in
theorem w_c0 : (Jvm.Cond.code x code maxLocals ret).before args0 about1 = true := code_word (m := ⟨1, 3⟩) (meth := k1m3) (c := k1c3) (by decide +kernel) rfl rfl rfl (by decide +kernel)
set_option maxRecDepth 65536 in
theorem w_c1 : (Jvm.Cond.code ({ cls := "com/example/sequence_set/sequenceset/cli/DecimalParserAcceptPinLaw", name := "fill", desc := "([CIJ)V" } : Jvm.MethodName) method_3_code (4 : Nat) (Option.none : Option Jvm.ClassFile.FieldType)).before args0 about1 = true := code_word (m := ⟨1, 2⟩) (meth := k1m2) (c := k1c2) (by decide +kernel) rfl rfl rfl (by decide +kernel)
set_option maxRecDepth 65536 in
theorem w_c2 : (Jvm.Cond.code ({ cls := "com/example/sequence_set/sequenceset/cli/DecimalParserAcceptPinLaw", name := "d", desc := "(JJ)C" } : Jvm.MethodName) method_2_code (4 : Nat) (Option.some Jvm.ClassFile.FieldType.char)).before args0 about1 = true := code_word (m := ⟨1, 1⟩) (meth := k1m1) (c := k1c1) (by decide +kernel) rfl rfl rfl (by decide +kernel)
set_option maxRecDepth 65536 in
theorem w_c3 : (Jvm.Cond.code ({ cls := "java/lang/String", name := "<init>", desc := "([C)V" } : Jvm.MethodName) jdk_42_method_3_code (2 : Nat) (Option.none : Option Jvm.ClassFile.FieldType)).before args0 about1 = true := code_word (m := ⟨7, 1⟩) (meth := k7m1) (c := k7c1) (by decide +kernel) rfl rfl rfl (by decide +kernel)
set_option maxRecDepth 65536 in
theorem w_c4 : (Jvm.Cond.code ({ cls := "java/lang/String", name := "<init>", desc := "([CIILjava/lang/Void;)V" } : Jvm.MethodName) jdk_42_method_149_code (6 : Nat) (Option.none : Option Jvm.ClassFile.FieldType)).before args0 about1 = true := code_word (m := ⟨7, 4⟩) (meth := k7m4) (c := k7c4) (by decide +kernel) rfl rfl rfl (by decide +kernel)
set_option maxRecDepth 65536 in
theorem w_c5 : (Jvm.Cond.code ({ cls := "java/lang/Object", name := "<init>", desc := "()V" } : Jvm.MethodName) object_method_1_code (1 : Nat) (Option.none : Option Jvm.ClassFile.FieldType)).before args0 about1 = true := code_word (m := ⟨0, 0⟩) (meth := k0m0) (c := k0c0) (by decide +kernel) rfl rfl rfl (by decide +kernel)
set_option maxRecDepth 65536 in
theorem w_c6 : (Jvm.Cond.code ({ cls := "java/lang/StringUTF16", name := "compress", desc := "([CII)[B" } : Jvm.MethodName) jdk_52_method_16_code (6 : Nat) (Option.some (Jvm.ClassFile.FieldType.array Jvm.ClassFile.FieldType.byte))).before args0 about1 = true := code_word (m := ⟨8, 2⟩) (meth := k8m2) (c := k8c2) (by decide +kernel) rfl rfl rfl (by decide +kernel)
set_option maxRecDepth 65536 in
theorem w_c7 : (Jvm.Cond.code ({ cls := "java/lang/StringUTF16", name := "compress", desc := "([CI[BII)I" } : Jvm.MethodName) jdk_52_method_21_code (7 : Nat) (Option.some Jvm.ClassFile.FieldType.int)).before args0 about1 = true := code_word (m := ⟨8, 3⟩) (meth := k8m3) (c := k8c3) (by decide +kernel) rfl rfl rfl (by decide +kernel)
set_option maxRecDepth 65536 in
theorem w_c8 : (Jvm.Cond.code ({ cls := "java/lang/StringUTF16", name := "coderFromArrayLen", desc := "([BI)B" } : Jvm.MethodName) jdk_52_method_15_code (2 : Nat) (Option.some Jvm.ClassFile.FieldType.byte)).before args0 about1 = true := code_word (m := ⟨8, 1⟩) (meth := k8m1) (c := k8c1) (by decide +kernel) rfl rfl rfl (by decide +kernel)
set_option maxRecDepth 65536 in
theorem w_c9 : (Jvm.Cond.code ({ cls := "com/example/sequence_set/sequenceset/cli/DecimalParser", name := "parse", desc := "(Ljava/lang/String;)J" } : Jvm.MethodName) prog_17_method_2_code (3 : Nat) (Option.some Jvm.ClassFile.FieldType.long)).before args0 about1 = true := code_word (m := ⟨9, 1⟩) (meth := k9m1) (c := k9c1) (by decide +kernel) rfl rfl rfl (by decide +kernel)
set_option maxRecDepth 65536 in
theorem w_c10 : (Jvm.Cond.code ({ cls := "com/example/sequence_set/sequenceset/cli/DecimalParser", name := "<init>", desc := "()V" } : Jvm.MethodName) prog_17_method_1_code (1 : Nat) (Option.none : Option Jvm.ClassFile.FieldType)).before args0 about1 = true := code_word (m := ⟨9, 0⟩) (meth := k9m0) (c := k9c0) (by decide +kernel) rfl rfl rfl (by decide +kernel)
set_option maxRecDepth 65536 in
theorem w_c11 : (Jvm.Cond.code ({ cls := "java/lang/String", name := "length", desc := "()I" } : Jvm.MethodName) jdk_42_method_54_code (1 : Nat) (Option.some Jvm.ClassFile.FieldType.int)).before args0 about1 = true := code_word (m := ⟨7, 2⟩) (meth := k7m2) (c := k7c2) (by decide +kernel) rfl rfl rfl (by decide +kernel)
set_option maxRecDepth 65536 in
theorem w_c12 : (Jvm.Cond.code ({ cls := "java/lang/String", name := "coder", desc := "()B" } : Jvm.MethodName) jdk_42_method_152_code (1 : Nat) (Option.some Jvm.ClassFile.FieldType.byte)).before args0 about1 = true := code_word (m := ⟨7, 5⟩) (meth := k7m5) (c := k7c5) (by decide +kernel) rfl rfl rfl (by decide +kernel)
set_option maxRecDepth 65536 in
theorem w_c13 : (Jvm.Cond.code ({ cls := "java/lang/String", name := "charAt", desc := "(I)C" } : Jvm.MethodName) jdk_42_method_56_code (2 : Nat) (Option.some Jvm.ClassFile.FieldType.char)).before args0 about1 = true := code_word (m := ⟨7, 3⟩) (meth := k7m3) (c := k7c3) (by decide +kernel) rfl rfl rfl (by decide +kernel)
set_option maxRecDepth 65536 in
theorem w_c14 : (Jvm.Cond.code ({ cls := "java/lang/String", name := "isLatin1", desc := "()Z" } : Jvm.MethodName) jdk_42_method_154_code (1 : Nat) (Option.some Jvm.ClassFile.FieldType.boolean)).before args0 about1 = true := code_word (m := ⟨7, 6⟩) (meth := k7m6) (c := k7c6) (by decide +kernel) rfl rfl rfl (by decide +kernel)
set_option maxRecDepth 65536 in
theorem w_c15 : (Jvm.Cond.code ({ cls := "java/lang/StringLatin1", name := "charAt", desc := "([BI)C" } : Jvm.MethodName) jdk_43_method_2_code (2 : Nat) (Option.some Jvm.ClassFile.FieldType.char)).before args0 about1 = true := code_word (m := ⟨10, 1⟩) (meth := k10m1) (c := k10c1) (by decide +kernel) rfl rfl rfl (by decide +kernel)
set_option maxRecDepth 65536 in
theorem w_c16 : (Jvm.Cond.code ({ cls := "java/lang/String", name := "checkIndex", desc := "(II)V" } : Jvm.MethodName) jdk_42_method_155_code (2 : Nat) (Option.none : Option Jvm.ClassFile.FieldType)).before args0 about1 = true := code_word (m := ⟨7, 7⟩) (meth := k7m7) (c := k7c7) (by decide +kernel) rfl rfl rfl (by decide +kernel)
set_option maxRecDepth 65536 in
theorem w_c17 : (Jvm.Cond.code ({ cls := "jdk/internal/util/Preconditions", name := "checkIndex", desc := "(IILjava/util/function/BiFunction;)I" } : Jvm.MethodName) jdk_41_method_11_code (3 : Nat) (Option.some Jvm.ClassFile.FieldType.int)).before args0 about1 = true := code_word (m := ⟨11, 1⟩) (meth := k11m1) (c := k11c1) (by decide +kernel) rfl rfl rfl (by decide +kernel)
set_option maxRecDepth 65536 in
theorem w_c18 : (Jvm.Cond.code ({ cls := "com/example/sequence_set/sequenceset/cli/DecimalParser", name := "accept", desc := "(I)V" } : Jvm.MethodName) prog_17_method_5_code (3 : Nat) (Option.none : Option Jvm.ClassFile.FieldType)).before args0 about1 = true := code_word (m := ⟨9, 2⟩) (meth := k9m2) (c := k9c2) (by decide +kernel) rfl rfl rfl (by decide +kernel)
set_option maxRecDepth 65536 in
theorem w_c19 : (Jvm.Cond.code ({ cls := "com/example/sequence_set/sequenceset/cli/DecimalParser", name := "value", desc := "()J" } : Jvm.MethodName) prog_17_method_6_code (1 : Nat) (Option.some Jvm.ClassFile.FieldType.long)).before args0 about1 = true := code_word (m := ⟨9, 3⟩) (meth := k9m3) (c := k9c3) (by decide +kernel) rfl rfl rfl (by decide +kernel)
def codes1 : List Jvm.Cond := [Jvm.Cond.code x code maxLocals ret, Jvm.Cond.code ({ cls := "com/example/sequence_set/sequenceset/cli/DecimalParserAcceptPinLaw", name := "fill", desc := "([CIJ)V" } : Jvm.MethodName) method_3_code (4 : Nat) (Option.none : Option Jvm.ClassFile.FieldType), Jvm.Cond.code ({ cls := "com/example/sequence_set/sequenceset/cli/DecimalParserAcceptPinLaw", name := "d", desc := "(JJ)C" } : Jvm.MethodName) method_2_code (4 : Nat) (Option.some Jvm.ClassFile.FieldType.char), Jvm.Cond.code ({ cls := "java/lang/String", name := "<init>", desc := "([C)V" } : Jvm.MethodName) jdk_42_method_3_code (2 : Nat) (Option.none : Option Jvm.ClassFile.FieldType), Jvm.Cond.code ({ cls := "java/lang/String", name := "<init>", desc := "([CIILjava/lang/Void;)V" } : Jvm.MethodName) jdk_42_method_149_code (6 : Nat) (Option.none : Option Jvm.ClassFile.FieldType), Jvm.Cond.code ({ cls := "java/lang/Object", name := "<init>", desc := "()V" } : Jvm.MethodName) object_method_1_code (1 : Nat) (Option.none : Option Jvm.ClassFile.FieldType), Jvm.Cond.code ({ cls := "java/lang/StringUTF16", name := "compress", desc := "([CII)[B" } : Jvm.MethodName) jdk_52_method_16_code (6 : Nat) (Option.some (Jvm.ClassFile.FieldType.array Jvm.ClassFile.FieldType.byte)), Jvm.Cond.code ({ cls := "java/lang/StringUTF16", name := "compress", desc := "([CI[BII)I" } : Jvm.MethodName) jdk_52_method_21_code (7 : Nat) (Option.some Jvm.ClassFile.FieldType.int), Jvm.Cond.code ({ cls := "java/lang/StringUTF16", name := "coderFromArrayLen", desc := "([BI)B" } : Jvm.MethodName) jdk_52_method_15_code (2 : Nat) (Option.some Jvm.ClassFile.FieldType.byte), Jvm.Cond.code ({ cls := "com/example/sequence_set/sequenceset/cli/DecimalParser", name := "parse", desc := "(Ljava/lang/String;)J" } : Jvm.MethodName) prog_17_method_2_code (3 : Nat) (Option.some Jvm.ClassFile.FieldType.long), Jvm.Cond.code ({ cls := "com/example/sequence_set/sequenceset/cli/DecimalParser", name := "<init>", desc := "()V" } : Jvm.MethodName) prog_17_method_1_code (1 : Nat) (Option.none : Option Jvm.ClassFile.FieldType), Jvm.Cond.code ({ cls := "java/lang/String", name := "length", desc := "()I" } : Jvm.MethodName) jdk_42_method_54_code (1 : Nat) (Option.some Jvm.ClassFile.FieldType.int), Jvm.Cond.code ({ cls := "java/lang/String", name := "coder", desc := "()B" } : Jvm.MethodName) jdk_42_method_152_code (1 : Nat) (Option.some Jvm.ClassFile.FieldType.byte), Jvm.Cond.code ({ cls := "java/lang/String", name := "charAt", desc := "(I)C" } : Jvm.MethodName) jdk_42_method_56_code (2 : Nat) (Option.some Jvm.ClassFile.FieldType.char), Jvm.Cond.code ({ cls := "java/lang/String", name := "isLatin1", desc := "()Z" } : Jvm.MethodName) jdk_42_method_154_code (1 : Nat) (Option.some Jvm.ClassFile.FieldType.boolean), Jvm.Cond.code ({ cls := "java/lang/StringLatin1", name := "charAt", desc := "([BI)C" } : Jvm.MethodName) jdk_43_method_2_code (2 : Nat) (Option.some Jvm.ClassFile.FieldType.char), Jvm.Cond.code ({ cls := "java/lang/String", name := "checkIndex", desc := "(II)V" } : Jvm.MethodName) jdk_42_method_155_code (2 : Nat) (Option.none : Option Jvm.ClassFile.FieldType), Jvm.Cond.code ({ cls := "jdk/internal/util/Preconditions", name := "checkIndex", desc := "(IILjava/util/function/BiFunction;)I" } : Jvm.MethodName) jdk_41_method_11_code (3 : Nat) (Option.some Jvm.ClassFile.FieldType.int), Jvm.Cond.code ({ cls := "com/example/sequence_set/sequenceset/cli/DecimalParser", name := "accept", desc := "(I)V" } : Jvm.MethodName) prog_17_method_5_code (3 : Nat) (Option.none : Option Jvm.ClassFile.FieldType), Jvm.Cond.code ({ cls := "com/example/sequence_set/sequenceset/cli/DecimalParser", name := "value", desc := "()J" } : Jvm.MethodName) prog_17_method_6_code (1 : Nat) (Option.some Jvm.ClassFile.FieldType.long)]
set_option maxRecDepth 65536 in
theorem codes_eq : words1.filter isCode = codes1 := rfl
theorem w_codes : ∀ c ∈ words1.filter isCode, c.before args0 about1 = true := by
  rw [codes_eq]
  intro c hc
  simp only [codes1, List.mem_cons, List.not_mem_nil, or_false] at hc
  rcases hc with rfl | rfl | rfl | rfl | rfl | rfl | rfl | rfl | rfl | rfl | rfl | rfl | rfl | rfl | rfl | rfl | rfl | rfl | rfl | rfl
  · exact w_c0
  · exact w_c1
  · exact w_c2
  · exact w_c3
  · exact w_c4
  · exact w_c5
  · exact w_c6
  · exact w_c7
  · exact w_c8
  · exact w_c9
  · exact w_c10
  · exact w_c11
  · exact w_c12
  · exact w_c13
  · exact w_c14
  · exact w_c15
  · exact w_c16
  · exact w_c17
  · exact w_c18
  · exact w_c19
set_option maxRecDepth 65536 in
theorem w_t1 : (words1.take 24).all (fun c => isCode c || c.before args0 about1) = true := by decide +kernel
set_option maxRecDepth 65536 in
theorem w_t2 : ((words1.drop 24).take 24).all (fun c => isCode c || c.before args0 about1) = true := by decide +kernel
set_option maxRecDepth 65536 in
theorem w_t3 : (((words1.drop 24).drop 24).take 24).all (fun c => isCode c || c.before args0 about1) = true := by decide +kernel
set_option maxRecDepth 65536 in
theorem w_t4 : ((((words1.drop 24).drop 24).drop 24).take 24).all (fun c => isCode c || c.before args0 about1) = true := by decide +kernel
set_option maxRecDepth 65536 in
theorem w_t5 : (((((words1.drop 24).drop 24).drop 24).drop 24).take 24).all (fun c => isCode c || c.before args0 about1) = true := by decide +kernel
set_option maxRecDepth 65536 in
theorem w_t6 : (((((words1.drop 24).drop 24).drop 24).drop 24).drop 24).all (fun c => isCode c || c.before args0 about1) = true := by decide +kernel
theorem w_tables : (allAtoms (Jvm.Cond.code x code maxLocals ret :: tables_1)).before args0 about1 = true := by
  rw [allAtoms_all]
  show words1.all (fun c => c.before args0 about1) = true
  refine all_split ?_ w_codes
  rw [← List.take_append_drop 24 words1, List.all_append, w_t1, ← List.take_append_drop 24 (words1.drop 24), List.all_append, w_t2, ← List.take_append_drop 24 ((words1.drop 24).drop 24), List.all_append, w_t3, ← List.take_append_drop 24 (((words1.drop 24).drop 24).drop 24), List.all_append, w_t4, ← List.take_append_drop 24 ((((words1.drop 24).drop 24).drop 24).drop 24), List.all_append, w_t5, w_t6]
  rfl
set_option maxRecDepth 65536 in
theorem w_rest : rest_1_c.before args0 about1 = true := by decide +kernel
set_option maxRecDepth 65536 in
theorem w_case : (Jvm.Cond.and given_1 narrow_1).before args0 about1 = true := by decide +kernel
theorem w_applies : (headSpec (Jvm.Cond.code x code maxLocals ret :: tables_1) room_1).applies x e0.platform about1 = true :=
  (Spec.applies_iff w_frames).mpr ⟨w_running, w_runnable, w_alone, w_named, w_hears, w_ripe, w_room, w_tables⟩
theorem atStart : AtStart classFile x code maxLocals ret World_1 tables_1 room_1 Calls_1 rest_1 Pre_1 launch0 p0 e0 about1 theMethod args0 below0 :=
  ⟨lists_1, trivial, launch0.admits_env _ _ _, launch0.least_env, fairChoices_fair.cas, fairChoices_fair.clock, w_frames, w_args, w_heap, w_applies, trivial, w_rest, w_case⟩
end start1
theorem witness_1 : WitnessClaimed_1 := ⟨start1.p0, start1.e0, start1.about1, start1.theMethod, start1.args0, start1.below0, start1.atStart⟩
end Jvm.Pilot.@@N@@
