import JvmDerived
import JvmDerived.Pilot.@@N@@Statement
import JvmDerived.Pilot.@@N@@Code
set_option linter.unusedVariables false
set_option linter.unusedSimpArgs false

namespace Jvm.RoadKit
open Sem ClassFile Op Lib Jvm.Stand Jvm.Free Jvm.LawKit
section New
variable {p : Program} {l : Launch} {e : Env} {R : Room} {s : State} {m : MethodId} {args : Array Value} {below : List Frame} {meth : Method} {c : Code} {T : State} {locs : List Loc} {cells slots : Nat}
theorem retI (X : Stand p l e R s m args below meth c T locs cells slots) (hx : p.tables.exec = Jvm.exec) {pc : Nat} {Ls : Array Slot} {z : Int32} {rest : List Value} (hret : meth.sig.returnType = some .int) (hd : decode c.code pc = .ok (.ireturn, 1)) {fs : List Frame}
    (hl : ∀ (f : JFrame) (acts : List Action), f.method = m → f.locked = none → f.entered = [] → (doReturn e (T.setTop f) acts (some (.int z))).1 = T.setFrames fs) : Steps p.tables e below (T.setTop (mkF m pc Ls (.int z :: rest))) (T.setFrames fs) := by
  have hm' : T.vm.method? m = some meth := X.method'
  have hn : narrow .int (.int z) = .int z := rfl
  show Steps p.tables e below (T.setTop { method := m, pc := pc, locals := Ls, stack := _ :: rest, locked := none }) _
  jvm_step X.here [X.here.top, hx, hd, hm', hret, hn]
  first | (intro acts; rw [hl _ acts rfl rfl rfl]) | rw [hl _ _ rfl rfl rfl]
  exact Steps.refl _
theorem own_lrem {g : JFrame} {target : State} (X : Stand p l e R s m args below meth c T locs cells slots) (hx : p.tables.exec = Jvm.exec) (hg : g.method = m) {x y : Int64} {rest : List Value} (hd : decode c.code g.pc = .ok (.lrem, 1)) (hs : g.stack = .long y :: .long x :: rest) (hy : y ≠ 0)
    (hr : Steps p.tables e below (T.setTop { g with pc := g.pc + 1, stack := .long (x % y) :: rest }) target) : Steps p.tables e below (T.setTop g) target := by
  have q : x - x / y * y = x % y := lrem_mod x y
  exact XS.lrem X.here hx hg hd hs hy (by rw [q]; exact hr)
end New
end Jvm.RoadKit
/- laws to paste: Road.backV (cut by pick.py; bodies as the Statement names them) -/
namespace Jvm.Pilot.@@N@@
namespace StrChars
open Jvm Sem ClassFile Op Lib Jvm.Stand Jvm.Free.XT Jvm.Free.ALB Jvm.Free.JM Jvm.Free
open Jvm.Lib.Cold (StaticIs)
/-- a char array whose places are chars -/
def Ch (a : Addr) (A : Cell) (U : State) : Prop := Arr .char a A U ∧ Typed .char A
theorem Ch.mv {a : Addr} {A : Cell} {U U' : State} (h : Ch a A U) (hal : U.vm.Alike U'.vm) (hh : U'.heap = U.heap) : Ch a A U' := ⟨h.1.mv hal hh, h.2⟩
theorem Ch.keep {a : Addr} {A : Cell} {U U' : State} (h : Ch a A U) (hal : U.vm.Alike U'.vm) (hk : U'.heap[a]? = some A) : Ch a A U' := ⟨h.1.keep hal hk, h.2⟩
/-- what place i of a char[]'s cell holds -/
def cv (A : Cell) (i : Nat) : Int32 := match A.slots[i]? with | some (.int x) => x | _ => 0
theorem Ch.get {a : Addr} {A : Cell} {U : State} (h : Ch a A U) {i : Nat} (hi : i < A.slots.size) : A.slots[i]? = some (.int (cv A i)) := by
  have e := Array.getElem?_eq_getElem hi
  have f := h.2 i _ e
  unfold cv; rw [e]
  generalize A.slots[i] = v at f
  cases v <;> simp [fits] at f ⊢
/-- the byte that i2b leaves of a char -/
def lo8 (x : Int32) : Int32 := x.toInt8.toInt32
theorem fits_lo8 (y : Int32) : fits .byte (.int (lo8 y)) = true := by
  have h1 := y.toInt8.le_toInt
  have h2 := y.toInt8.toInt_lt
  simp only [lo8, fits, Bool.and_eq_true, decide_eq_true_eq, Int32.le_iff_toInt_le, Int8.toInt_toInt32, show (-128 : Int32).toInt = -128 from by decide, show (127 : Int32).toInt = 127 from by decide]
  omega
/-- A' is A but that each place j of lo .. hi - 1 holds f j -/
def Laid (A A' : Cell) (lo hi : Nat) (f : Nat → Value) : Prop := A'.cls = A.cls ∧ A'.vm = A.vm ∧ A'.slots.size = A.slots.size ∧ ∀ i, A'.slots[i]? = if lo ≤ i ∧ i < hi then some (f i) else A.slots[i]?
theorem Laid.zero (A : Cell) (lo : Nat) (f : Nat → Value) : Laid A A lo (lo + 0) f := ⟨rfl, rfl, rfl, fun i => by rw [if_neg (by omega)]⟩
theorem Laid.step {A Ak : Cell} {lo k : Nat} {f : Nat → Value} {v : Value} (h : Laid A Ak lo k f) (hlo : lo ≤ k) (hk : k < Ak.slots.size) (hv : v = f k) : Laid A (Ak.setSlot k v) lo (k + 1) f := by
  refine ⟨h.1, h.2.1, by simpa [Cell.setSlot] using h.2.2.1, fun i => ?_⟩
  by_cases e : k = i
  · subst e; rw [Cell.slots_setSlot_self v hk, if_pos (by omega), hv]
  · rw [Cell.slots_setSlot_ne v e, h.2.2.2 i]
    by_cases q : lo ≤ i ∧ i < k
    · rw [if_pos q, if_pos (by omega)]
    · rw [if_neg q, if_neg (by omega)]
def U16 : String := "java/lang/StringUTF16"
namespace Cmp5
def yN : MethodName := ⟨"java/lang/StringUTF16", "compress", "([CI[BII)I"⟩
abbrev yB : ByteArray := jdk_52_method_21_code
theorem d0 : decode yB 0 = .ok (.iconst 0, 1) := by decide +kernel
theorem d1 : decode yB 1 = .ok (.istore 5, 2) := by decide +kernel
theorem d3 : decode yB 3 = .ok (.iload 5, 2) := by decide +kernel
theorem d5 : decode yB 5 = .ok (.iload 4, 2) := by decide +kernel
theorem d7 : decode yB 7 = .ok (.if_icmp (.ge) 37, 3) := by decide +kernel
theorem d10 : decode yB 10 = .ok (.aload_n 0, 1) := by decide +kernel
theorem d11 : decode yB 11 = .ok (.iload_n 1, 1) := by decide +kernel
theorem d12 : decode yB 12 = .ok (.caload, 1) := by decide +kernel
theorem d13 : decode yB 13 = .ok (.istore 6, 2) := by decide +kernel
theorem d15 : decode yB 15 = .ok (.iload 6, 2) := by decide +kernel
theorem d17 : decode yB 17 = .ok (.sipush 255, 3) := by decide +kernel
theorem d20 : decode yB 20 = .ok (.if_icmp (.le) 6, 3) := by decide +kernel
theorem d26 : decode yB 26 = .ok (.aload_n 2, 1) := by decide +kernel
theorem d27 : decode yB 27 = .ok (.iload_n 3, 1) := by decide +kernel
theorem d28 : decode yB 28 = .ok (.iload 6, 2) := by decide +kernel
theorem d30 : decode yB 30 = .ok (.i2b, 1) := by decide +kernel
theorem d31 : decode yB 31 = .ok (.bastore, 1) := by decide +kernel
theorem d32 : decode yB 32 = .ok (.iinc 1 1, 3) := by decide +kernel
theorem d35 : decode yB 35 = .ok (.iinc 3 1, 3) := by decide +kernel
theorem d38 : decode yB 38 = .ok (.iinc 5 1, 3) := by decide +kernel
theorem d41 : decode yB 41 = .ok (.goto (-38), 3) := by decide +kernel
theorem d44 : decode yB 44 = .ok (.iload 4, 2) := by decide +kernel
theorem d46 : decode yB 46 = .ok (.ireturn, 1) := by decide +kernel
def site : List Cond := []
def tab : Cond := tabOf yN yB 7 (some .int) site
def P (b : Addr) (A : Cell) (d : Addr) (B : Cell) (o q len : Nat) (args : Array Value) (s : State) : Prop := args = #[.ref b, .int (Int32.ofNat o), .ref d, .int (Int32.ofNat q), .int (Int32.ofNat len)] ∧ Ch b A s ∧ Arr .byte d B s ∧ b ≠ d ∧ o + len ≤ A.slots.size ∧ q + len ≤ B.slots.size ∧ ∀ i, i < len → ¬ 255 < cv A (o + i)
def E (b : Addr) (A : Cell) (d : Addr) (B : Cell) (o q len : Nat) (r : Option Value) (s u : State) : Prop := r = some (.int (Int32.ofNat len)) ∧ ∃ B', Put d B' s u ∧ Laid B B' q (q + len) (fun j => Value.int (lo8 (cv A (o + (j - q)))))
/-- no char of the range above 255: len; the places written hold each char's low byte -/
theorem law (l : Launch) (b : Addr) (A : Cell) (d : Addr) (B : Cell) (o q len : Nat) : Law l yN 5 5 0 0 yB 7 (some .int) site (P b A d B o q len) (E b A d B o q len) (copyLocs d q len) 0 0 := by
  refine Law.of_walk (plainFor_of_name (by decide +kernel)) (by decide +kernel) (by decide +kernel) (by decide) (fun _ _ h => by rw [h.1]; rfl) (fun _ U U' hal hh h => ⟨h.1, h.2.1.mv hal hh, h.2.2.1.mv hal hh, h.2.2.2⟩) (fun r U U' V V' h1 hal h2 h => ⟨h.1, h.2.elim fun B' q => ⟨B', q.1.mv h1 h2, q.2⟩⟩) ?_
  intro p e s m args below meth c s₁ X0 hexec hbytes hml hret hlk hnm hown hh0 W hP
  obtain ⟨rfl, hA, hB, hne, l1, l2, hp⟩ := hP
  have c1 : Steps p.tables e below (s₁.setTop (entryFrame m #[.ref b, .int (Int32.ofNat o), .ref d, .int (Int32.ofNat q), .int (Int32.ofNat len)] 7)) (s₁.setTop (mkF m 0 #[.val (.ref b), .val (.int (Int32.ofNat o)), .val (.ref d), .val (.int (Int32.ofNat q)), .val (.int (Int32.ofNat len)), .unset, .unset] [])) := entry rfl
  have hA0 := hA.1.mv X0.warmed.alike hh0
  have hB0 := hB.mv X0.warmed.alike hh0
  have a31 := hA.1.2.2.2
  have c2 : Steps p.tables e below (s₁.setTop (entryFrame m #[.ref b, .int (Int32.ofNat o), .ref d, .int (Int32.ofNat q), .int (Int32.ofNat len)] 7)) (s₁.setTop (mkF m 3 #[.val (.ref b), .val (.int (Int32.ofNat o)), .val (.ref d), .val (.int (Int32.ofNat q)), .val (.int (Int32.ofNat len)), .val (.int 0), .unset] [])) := c1.trans (by
    refine iconstV X0.here hexec rfl 0 (hb hbytes d0) (by decide) ?_
    refine XS.istore X0.here hexec rfl (hb hbytes d1) rfl rfl ?_
    exact Steps.refl _)
  have loop : ∀ (r i : Nat), i + r = len → ∀ (z : Slot), (z = .unset ∨ ∃ w, z = .val w ∧ w.category = 1) → ∀ (Tl : State) (Bk : Cell), Stand p l e { frames := 0, locals := 0, cells := 0, slots := 0 } s m #[.ref b, .int (Int32.ofNat o), .ref d, .int (Int32.ofNat q), .int (Int32.ofNat len)] below meth c Tl ([] ++ copyLocs d q i) 0 0 → Put d Bk s₁ Tl → Laid B Bk q (q + i) (fun j => Value.int (lo8 (cv A (o + (j - q))))) →
      Steps p.tables e below (s₁.setTop (entryFrame m #[.ref b, .int (Int32.ofNat o), .ref d, .int (Int32.ofNat q), .int (Int32.ofNat len)] 7)) (Tl.setTop (mkF m 3 #[.val (.ref b), .val (.int (Int32.ofNat (o + i))), .val (.ref d), .val (.int (Int32.ofNat (q + i))), .val (.int (Int32.ofNat len)), .val (.int (Int32.ofNat i)), z] [])) → ∃ (T' : State) (B' : Cell) (z' : Slot), Stand p l e { frames := 0, locals := 0, cells := 0, slots := 0 } s m #[.ref b, .int (Int32.ofNat o), .ref d, .int (Int32.ofNat q), .int (Int32.ofNat len)] below meth c T' ([] ++ copyLocs d q len) 0 0 ∧ Put d B' s₁ T' ∧ Laid B B' q (q + len) (fun j => Value.int (lo8 (cv A (o + (j - q))))) ∧
      Steps p.tables e below (s₁.setTop (entryFrame m #[.ref b, .int (Int32.ofNat o), .ref d, .int (Int32.ofNat q), .int (Int32.ofNat len)] 7)) (T'.setTop (mkF m 3 #[.val (.ref b), .val (.int (Int32.ofNat (o + len))), .val (.ref d), .val (.int (Int32.ofNat (q + len))), .val (.int (Int32.ofNat len)), .val (.int (Int32.ofNat len)), z'] [])) := by
    intro r
    induction r with
    | zero =>
      intro i hi z hz Tl Bk Xl pl fl cl
      have hil : i = len := by omega
      rw [hil] at Xl fl cl
      exact ⟨Tl, Bk, z, Xl, pl, fl, cl⟩
    | succ r ih =>
      intro i hi z hz Tl Bk Xl pl fl cl
      have all := X0.warmed.alike.symm.trans Xl.warmed.alike
      have hAl := hA0.keep all (pl.other hne hA0.1)
      have hBk := hB0.like all pl.1 fl.1 fl.2.1 fl.2.2.1
      have hlt : q + i < Bk.slots.size := by rw [fl.2.2.1]; omega
      have c3 : Steps p.tables e below (s₁.setTop (entryFrame m #[.ref b, .int (Int32.ofNat o), .ref d, .int (Int32.ofNat q), .int (Int32.ofNat len)] 7)) (Tl.setTop (mkF m 12 #[.val (.ref b), .val (.int (Int32.ofNat (o + i))), .val (.ref d), .val (.int (Int32.ofNat (q + i))), .val (.int (Int32.ofNat len)), .val (.int (Int32.ofNat i)), z] [.int (Int32.ofNat (o + i)), .ref b])) := cl.trans (by
        refine XS.iload Xl.here hexec rfl (hb hbytes d3) rfl ?_
        refine XS.iload Xl.here hexec rfl (hb hbytes d5) rfl ?_
        refine XS.icmpNo Xl.here hexec rfl (hb hbytes d7) rfl (ii_ge_f (lt32 (by omega) (by omega))) ?_
        refine XS.aloadN Xl.here hexec rfl (hb hbytes d10) rfl rfl ?_
        refine XS.iloadN Xl.here hexec rfl (hb hbytes d11) rfl ?_
        exact Steps.refl _)
      have c4 : Steps p.tables e below (s₁.setTop (entryFrame m #[.ref b, .int (Int32.ofNat o), .ref d, .int (Int32.ofNat q), .int (Int32.ofNat len)] 7)) (Tl.setTop (mkF m 13 #[.val (.ref b), .val (.int (Int32.ofNat (o + i))), .val (.ref d), .val (.int (Int32.ofNat (q + i))), .val (.int (Int32.ofNat len)), .val (.int (Int32.ofNat i)), z] [.int (cv A (o + i))])) := c3.trans (by
        refine Xl.aget hexec hAl rfl (hA.get (i := o + i) (by omega)) rfl rfl (hb hbytes d12) ?_
        exact Steps.refl _)
      have c5 : Steps p.tables e below (s₁.setTop (entryFrame m #[.ref b, .int (Int32.ofNat o), .ref d, .int (Int32.ofNat q), .int (Int32.ofNat len)] 7)) (Tl.setTop (mkF m 15 #[.val (.ref b), .val (.int (Int32.ofNat (o + i))), .val (.ref d), .val (.int (Int32.ofNat (q + i))), .val (.int (Int32.ofNat len)), .val (.int (Int32.ofNat i)), .val (.int (cv A (o + i)))] [])) := c4.trans (by
        refine XS.istoreS Xl.here hexec rfl (hb hbytes d13) rfl rfl hz ?_
        exact Steps.refl _)
      have c6 : Steps p.tables e below (s₁.setTop (entryFrame m #[.ref b, .int (Int32.ofNat o), .ref d, .int (Int32.ofNat q), .int (Int32.ofNat len)] 7)) (Tl.setTop (mkF m 31 #[.val (.ref b), .val (.int (Int32.ofNat (o + i))), .val (.ref d), .val (.int (Int32.ofNat (q + i))), .val (.int (Int32.ofNat len)), .val (.int (Int32.ofNat i)), .val (.int (cv A (o + i)))] [.int (lo8 (cv A (o + i))), .int (Int32.ofNat (q + i)), .ref d])) := c5.trans (by
        refine XS.iload Xl.here hexec rfl (hb hbytes d15) rfl ?_
        refine sipushV Xl.here hexec rfl 255 (hb hbytes d17) (by decide) ?_
        refine XS.icmpYes Xl.here hexec rfl (pc0 := 20) rfl (hb hbytes d20) rfl (ii_le_t (hp i (by omega))) (by decide) rfl ?_
        refine XS.aloadN Xl.here hexec rfl (hb hbytes d26) rfl rfl ?_
        refine XS.iloadN Xl.here hexec rfl (hb hbytes d27) rfl ?_
        refine XS.iload Xl.here hexec rfl (hb hbytes d28) rfl ?_
        refine i2b Xl.here hexec rfl (hb hbytes d30) rfl ?_
        exact Steps.refl _)
      obtain ⟨T7, X7, p7, st7⟩ := Xl.aput hexec hBk rfl hlt rfl (fits_lo8 (cv A (o + i))) (g := (mkF m 31 #[.val (.ref b), .val (.int (Int32.ofNat (o + i))), .val (.ref d), .val (.int (Int32.ofNat (q + i))), .val (.int (Int32.ofNat len)), .val (.int (Int32.ofNat i)), .val (.int (cv A (o + i)))] [.int (lo8 (cv A (o + i))), .int (Int32.ofNat (q + i)), .ref d])) rfl (rest := []) rfl (hb hbytes d31)
      have c8 : Steps p.tables e below (s₁.setTop (entryFrame m #[.ref b, .int (Int32.ofNat o), .ref d, .int (Int32.ofNat q), .int (Int32.ofNat len)] 7)) (T7.setTop (mkF m 32 #[.val (.ref b), .val (.int (Int32.ofNat (o + i))), .val (.ref d), .val (.int (Int32.ofNat (q + i))), .val (.int (Int32.ofNat len)), .val (.int (Int32.ofNat i)), .val (.int (cv A (o + i)))] [])) := c6.trans (st7 _ (Steps.refl _))
      have c9 : Steps p.tables e below (s₁.setTop (entryFrame m #[.ref b, .int (Int32.ofNat o), .ref d, .int (Int32.ofNat q), .int (Int32.ofNat len)] 7)) (T7.setTop (mkF m 3 #[.val (.ref b), .val (.int (Int32.ofNat (o + i) + 1)), .val (.ref d), .val (.int (Int32.ofNat (q + i) + 1)), .val (.int (Int32.ofNat len)), .val (.int (Int32.ofNat i + 1)), .val (.int (cv A (o + i)))] [])) := c8.trans (by
        refine iincV X7.here hexec rfl 1 (hb hbytes d32) (by decide) rfl rfl ?_
        refine iincV X7.here hexec rfl 1 (hb hbytes d35) (by decide) rfl rfl ?_
        refine iincV X7.here hexec rfl 1 (hb hbytes d38) (by decide) rfl rfl ?_
        refine XS.goto X7.here hexec rfl (pc0 := 41) rfl (hb hbytes d41) (by decide) rfl ?_
        exact Steps.refl _)
      have c10 : Steps p.tables e below (s₁.setTop (entryFrame m #[.ref b, .int (Int32.ofNat o), .ref d, .int (Int32.ofNat q), .int (Int32.ofNat len)] 7)) (T7.setTop (mkF m 3 #[.val (.ref b), .val (.int (Int32.ofNat (o + (i + 1)))), .val (.ref d), .val (.int (Int32.ofNat (q + (i + 1)))), .val (.int (Int32.ofNat len)), .val (.int (Int32.ofNat (i + 1))), .val (.int (cv A (o + i)))] [])) := by
        have := c9
        rw [succ32, succ32, succ32] at this
        exact this
      exact ih (i + 1) (by omega) _ (Or.inr ⟨_, rfl, rfl⟩) T7 _ (by rw [copyLocs_step, ← List.append_assoc]; exact X7) (pl.trans p7) (fl.step (by omega) hlt (by simp)) c10
  obtain ⟨T9, B9, z9, X9, p9, f9, g9⟩ := loop len 0 (by omega) .unset (Or.inl rfl) s₁ B (by simpa [copyLocs] using X0) ⟨hB0.1, fun _ _ => rfl, rfl⟩ (Laid.zero _ _ _) c2
  have c11 : Steps p.tables e below (s₁.setTop (entryFrame m #[.ref b, .int (Int32.ofNat o), .ref d, .int (Int32.ofNat q), .int (Int32.ofNat len)] 7)) (T9.setTop (mkF m 46 #[.val (.ref b), .val (.int (Int32.ofNat (o + len))), .val (.ref d), .val (.int (Int32.ofNat (q + len))), .val (.int (Int32.ofNat len)), .val (.int (Int32.ofNat len)), z9] [.int (Int32.ofNat len)])) := g9.trans (by
    refine XS.iload X9.here hexec rfl (hb hbytes d3) rfl ?_
    refine XS.iload X9.here hexec rfl (hb hbytes d5) rfl ?_
    refine XS.icmpYes X9.here hexec rfl (pc0 := 7) rfl (hb hbytes d7) rfl (ii_ge_t (nlt32 (by omega) (Nat.le_refl _))) (by decide) rfl ?_
    refine XS.iload X9.here hexec rfl (hb hbytes d44) rfl ?_
    exact Steps.refl _)
  exact ⟨T9, some (.int (Int32.ofNat len)), _, _, _, X9, by simp, rfl, rfl, (fun h => by cases h), ⟨rfl, B9, p9.from hh0, f9⟩, fun fs hl => c11.trans (X9.ireturnOut hexec hret rfl (Or.inl rfl) (hb hbytes d46) hl)⟩
end Cmp5
namespace Cmp3
def yN : MethodName := ⟨"java/lang/StringUTF16", "compress", "([CII)[B"⟩
abbrev yB : ByteArray := jdk_52_method_16_code
theorem d0 : decode yB 0 = .ok (.iload_n 2, 1) := by decide +kernel
theorem d1 : decode yB 1 = .ok (.newarray .byte, 2) := by decide +kernel
theorem d3 : decode yB 3 = .ok (.astore_n 3, 1) := by decide +kernel
theorem d4 : decode yB 4 = .ok (.aload_n 0, 1) := by decide +kernel
theorem d5 : decode yB 5 = .ok (.iload_n 1, 1) := by decide +kernel
theorem d6 : decode yB 6 = .ok (.aload_n 3, 1) := by decide +kernel
theorem d7 : decode yB 7 = .ok (.iconst 0, 1) := by decide +kernel
theorem d8 : decode yB 8 = .ok (.iload_n 2, 1) := by decide +kernel
theorem d9 : decode yB 9 = .ok (.invokestatic 115, 3) := by decide +kernel
theorem d12 : decode yB 12 = .ok (.istore 4, 2) := by decide +kernel
theorem d14 : decode yB 14 = .ok (.iload 4, 2) := by decide +kernel
theorem d16 : decode yB 16 = .ok (.iload_n 2, 1) := by decide +kernel
theorem d17 : decode yB 17 = .ok (.if_icmp (.eq) 40, 3) := by decide +kernel
theorem d57 : decode yB 57 = .ok (.aload_n 3, 1) := by decide +kernel
theorem d58 : decode yB 58 = .ok (.areturn, 1) := by decide +kernel
def site : List Cond := [.arrayClass .byte, Cmp5.tab] ++ staticW U16 115 Cmp5.yN
def tab : Cond := tabOf yN yB 6 (some (.array .byte)) site
def P (b : Addr) (A : Cell) (o len : Nat) (args : Array Value) (s : State) : Prop := args = #[.ref b, .int (Int32.ofNat o), .int (Int32.ofNat len)] ∧ Ch b A s ∧ o + len ≤ A.slots.size ∧ len ≤ 536870912 ∧ ∀ i, i < len → ¬ 255 < cv A (o + i)
def E (b : Addr) (A : Cell) (o len : Nat) (r : Option Value) (s u : State) : Prop := NewArr .byte "[B" len (fun j => .int (lo8 (cv A (o + j)))) r s u ∧ u.heap.size = s.heap.size + 1
/-- no char of the range above 255: a new byte[] of their low bytes -/
theorem law (l : Launch) (b : Addr) (A : Cell) (o len : Nat) : Law l yN 3 3 1 18 yB 6 (some (.array .byte)) site (P b A o len) (E b A o len) [] 1 len := by
  refine Law.of_walk (plainFor_of_name (by decide +kernel)) (by decide +kernel) (by decide +kernel) (by decide) (fun _ _ h => by rw [h.1]; rfl) (fun _ U U' hal hh h => ⟨h.1, h.2.1.mv hal hh, h.2.2⟩) (fun r U U' V V' h1 hal h2 h => ⟨NewArr.mv r U U' V V' h1 hal h2 h.1, by rw [h1, h2]; exact h.2⟩) ?_
  intro p e s m args below meth c s₁ X0 hexec hbytes hml hret hlk hnm hown hh0 W hP
  obtain ⟨rfl, hA, l1, l2, hp⟩ := hP
  have a31 := hA.1.2.2.2
  have c1 : Steps p.tables e below (s₁.setTop (entryFrame m #[.ref b, .int (Int32.ofNat o), .int (Int32.ofNat len)] 6)) (s₁.setTop (mkF m 0 #[.val (.ref b), .val (.int (Int32.ofNat o)), .val (.int (Int32.ofNat len)), .unset, .unset, .unset] [])) := entry rfl
  have c2 : Steps p.tables e below (s₁.setTop (entryFrame m #[.ref b, .int (Int32.ofNat o), .int (Int32.ofNat len)] 6)) (s₁.setTop (mkF m 1 #[.val (.ref b), .val (.int (Int32.ofNat o)), .val (.int (Int32.ofNat len)), .unset, .unset, .unset] [.int (Int32.ofNat len)])) := c1.trans (by
    refine XS.iloadN X0.here hexec rfl (hb hbytes d0) rfl ?_
    exact Steps.refl _)
  obtain ⟨T3, B3, X3, ba3, bs3, bv3, bh3, bf3, st3⟩ := X0.anew hexec (atype := .byte) (wk W (.arrayClass .byte)) rfl (by show len * 1 ≤ _; omega) (by omega) (g := (mkF m 1 #[.val (.ref b), .val (.int (Int32.ofNat o)), .val (.int (Int32.ofNat len)), .unset, .unset, .unset] [.int (Int32.ofNat len)])) rfl (hb hbytes d1) (rest := []) rfl (Nat.le_refl _) (by show 0 + len ≤ len; omega)
  rw [hh0] at ba3 st3
  have kp3 : XT.Kept s T3 := (XT.Kept.of_eq hh0).push bh3
  have hA3 := hA.keep X3.warmed.alike (kp3 _ _ hA.1.1)
  have hne : b ≠ s.heap.size := hA.1.ne
  have c4 : Steps p.tables e below (s₁.setTop (entryFrame m #[.ref b, .int (Int32.ofNat o), .int (Int32.ofNat len)] 6)) (T3.setTop (mkF m 3 #[.val (.ref b), .val (.int (Int32.ofNat o)), .val (.int (Int32.ofNat len)), .unset, .unset, .unset] [.ref s.heap.size])) := c2.trans (st3 _ (Steps.refl _))
  have c5 : Steps p.tables e below (s₁.setTop (entryFrame m #[.ref b, .int (Int32.ofNat o), .int (Int32.ofNat len)] 6)) (T3.setTop (mkF m 9 #[.val (.ref b), .val (.int (Int32.ofNat o)), .val (.int (Int32.ofNat len)), .val (.ref s.heap.size), .unset, .unset] [.int (Int32.ofNat len), .int 0, .ref s.heap.size, .int (Int32.ofNat o), .ref b])) := c4.trans (by
    refine XS.astoreN X3.here hexec rfl (hb hbytes d3) rfl rfl rfl ?_
    refine XS.aloadN X3.here hexec rfl (hb hbytes d4) rfl rfl ?_
    refine XS.iloadN X3.here hexec rfl (hb hbytes d5) rfl ?_
    refine XS.aloadN X3.here hexec rfl (hb hbytes d6) rfl rfl ?_
    refine iconstV X3.here hexec rfl 0 (hb hbytes d7) (by decide) ?_
    refine XS.iloadN X3.here hexec rfl (hb hbytes d8) rfl ?_
    exact Steps.refl _)
  obtain ⟨v6, T6, X6, E6, g6⟩ := X3.callS hexec (Cmp5.law l b A s.heap.size B3 o 0 len) hown (wks W (staticW U16 115 Cmp5.yN)) (wk W Cmp5.tab) (W := 0) (Nat.le_of_ble_eq_true rfl) (Nat.le_of_ble_eq_true rfl) (Nat.le_refl _) (by show 0 + len + 0 ≤ len; omega) (g := (mkF m 9 #[.val (.ref b), .val (.int (Int32.ofNat o)), .val (.int (Int32.ofNat len)), .val (.ref s.heap.size), .unset, .unset] [.int (Int32.ofNat len), .int (Int32.ofNat 0), .ref s.heap.size, .int (Int32.ofNat o), .ref b])) rfl (by rw [hml]; rfl) c5 (argsL := [.ref b, .int (Int32.ofNat o), .ref s.heap.size, .int (Int32.ofNat 0), .int (Int32.ofNat len)]) (rest := []) rfl rfl (by show 2 * 0 + 0 ≤ _; decide) (hb hbytes d9) (⟨rfl, hA3, ba3, hne, l1, by rw [bs3]; simp, hp⟩)
  obtain ⟨rfl, B6, p6, f6⟩ := E6
  have c7 : Steps p.tables e below (s₁.setTop (entryFrame m #[.ref b, .int (Int32.ofNat o), .int (Int32.ofNat len)] 6)) (T6.setTop (mkF m 12 #[.val (.ref b), .val (.int (Int32.ofNat o)), .val (.int (Int32.ofNat len)), .val (.ref s.heap.size), .unset, .unset] [.int (Int32.ofNat len)])) := g6
  have c8 : Steps p.tables e below (s₁.setTop (entryFrame m #[.ref b, .int (Int32.ofNat o), .int (Int32.ofNat len)] 6)) (T6.setTop (mkF m 58 #[.val (.ref b), .val (.int (Int32.ofNat o)), .val (.int (Int32.ofNat len)), .val (.ref s.heap.size), .val (.int (Int32.ofNat len)), .unset] [.ref s.heap.size])) := c7.trans (by
    refine XS.istore X6.here hexec rfl (hb hbytes d12) rfl rfl ?_
    refine XS.iload X6.here hexec rfl (hb hbytes d14) rfl ?_
    refine XS.iloadN X6.here hexec rfl (hb hbytes d16) rfl ?_
    refine XS.icmpYes X6.here hexec rfl (pc0 := 17) rfl (hb hbytes d17) rfl (ii_eq_t rfl) (by decide) rfl ?_
    refine XS.aloadN X6.here hexec rfl (hb hbytes d57) rfl rfl ?_
    exact Steps.refl _)
  have X8 := X6.wide (L' := []) (cells' := 1) (slots' := len) (fun x hx hlt => by
    simp only [List.nil_append, copyLocs, List.mem_map, List.mem_range] at hx
    obtain ⟨i, -, rfl⟩ := hx
    exact absurd hlt (Nat.lt_irrefl _)) (Nat.le_refl _) (by omega)
  exact ⟨T6, some (.ref s.heap.size), _, _, _, X8, rfl, rfl, rfl, (fun h => by cases h), ⟨⟨rfl, B6, ba3.like (X3.warmed.alike.symm.trans X6.warmed.alike) p6.1 f6.1 f6.2.1 f6.2.2.1, f6.2.1.trans bv3, by rw [X6.warmed.alike.findClass, f6.1]; exact bf3, by rw [f6.2.2.1, bs3]; simp, fun j hj => by rw [f6.2.2.2 j, if_pos (by omega)]; rfl, kp3.put p6 (Nat.le_refl _)⟩, by rw [p6.2.2, bh3, hh0]; simp⟩, fun fs hl => c8.trans (X8.areturnOut hexec rfl hret rfl (hb hbytes d58) hl)⟩
end Cmp3
namespace CodL
def yN : MethodName := ⟨"java/lang/StringUTF16", "coderFromArrayLen", "([BI)B"⟩
abbrev yB : ByteArray := jdk_52_method_15_code
theorem d0 : decode yB 0 = .ok (.iload_n 1, 1) := by decide +kernel
theorem d1 : decode yB 1 = .ok (.aload_n 0, 1) := by decide +kernel
theorem d2 : decode yB 2 = .ok (.arraylength, 1) := by decide +kernel
theorem d3 : decode yB 3 = .ok (.isub, 1) := by decide +kernel
theorem d4 : decode yB 4 = .ok (.bipush 31, 2) := by decide +kernel
theorem d6 : decode yB 6 = .ok (.iushr, 1) := by decide +kernel
theorem d7 : decode yB 7 = .ok (.i2b, 1) := by decide +kernel
theorem d8 : decode yB 8 = .ok (.ireturn, 1) := by decide +kernel
def site : List Cond := []
def tab : Cond := tabOf yN yB 2 (some .byte) site
def P (d : Addr) (B : Cell) (args : Array Value) (s : State) : Prop := args = #[.ref d, .int (Int32.ofNat B.slots.size)] ∧ Arr .byte d B s
def E (r : Option Value) (s u : State) : Prop := XT.PureE (some (.int 0)) r s u
/-- an array as long as the number of chars: LATIN1 -/
theorem law (l : Launch) (d : Addr) (B : Cell) : Law l yN 2 2 0 0 yB 2 (some .byte) site (P d B) E [] 0 0 := by
  refine Law.of_walk (plainFor_of_name (by decide +kernel)) (by decide +kernel) (by decide +kernel) (by decide) (fun _ _ h => by rw [h.1]; rfl) (fun _ U U' hal hh h => ⟨h.1, h.2.mv hal hh⟩) (fun r U U' V V' h1 hal h2 h => XT.PureE.mv r U U' V V' h1 hal h2 h) ?_
  intro p e s m args below meth c s₁ X0 hexec hbytes hml hret hlk hnm hown hh0 W hP
  obtain ⟨rfl, hB⟩ := hP
  have hB0 := hB.mv X0.warmed.alike hh0
  have c1 : Steps p.tables e below (s₁.setTop (entryFrame m #[.ref d, .int (Int32.ofNat B.slots.size)] 2)) (s₁.setTop (mkF m 0 #[.val (.ref d), .val (.int (Int32.ofNat B.slots.size))] [])) := entry rfl
  have c2 : Steps p.tables e below (s₁.setTop (entryFrame m #[.ref d, .int (Int32.ofNat B.slots.size)] 2)) (s₁.setTop (mkF m 2 #[.val (.ref d), .val (.int (Int32.ofNat B.slots.size))] [.ref d, .int (Int32.ofNat B.slots.size)])) := c1.trans (by
    refine XS.iloadN X0.here hexec rfl (hb hbytes d0) rfl ?_
    refine XS.aloadN X0.here hexec rfl (hb hbytes d1) rfl rfl ?_
    exact Steps.refl _)
  have c3 : Steps p.tables e below (s₁.setTop (entryFrame m #[.ref d, .int (Int32.ofNat B.slots.size)] 2)) (s₁.setTop (mkF m 8 #[.val (.ref d), .val (.int (Int32.ofNat B.slots.size))] [.int (lo8 (ushr (Int32.ofNat B.slots.size - Int32.ofNat B.slots.size) 31))])) := c2.trans (by
    refine X0.alen hexec hB0 rfl rfl (hb hbytes d2) ?_
    refine XS.isub X0.here hexec rfl (hb hbytes d3) rfl ?_
    refine bipushV X0.here hexec rfl 31 (hb hbytes d4) (by decide) ?_
    refine iushr X0.here hexec rfl (hb hbytes d6) rfl ?_
    refine i2b X0.here hexec rfl (hb hbytes d7) rfl ?_
    exact Steps.refl _)
  have e0 : lo8 (ushr (Int32.ofNat B.slots.size - Int32.ofNat B.slots.size) 31) = 0 := by rw [Int32.sub_self]; decide
  rw [e0] at c3
  exact ⟨s₁, some (.int 0), _, _, _, X0, rfl, rfl, rfl, (fun h => by cases h), ⟨rfl, hh0⟩, fun fs hl => c3.trans (X0.ireturnOut hexec hret rfl (Or.inr (Or.inr (Or.inl rfl))) (hb hbytes d8) hl)⟩
end CodL
/-- the String at a is Latin-1 over a new byte[] (the heap's one new cell): the low bytes of the len chars of A from o on; every cell but a is kept -/
def Got (a : Addr) (D : Cell) (fV fC : Field) (A : Cell) (o len : Nat) (r : Option Value) (s u : State) : Prop := r = none ∧ ∃ D' V : Cell, Blank "java/lang/String" a D' u ∧ Same D D' [fV.slot, fC.slot] ∧ D'.slots[fV.slot]? = some (.ref s.heap.size) ∧ D'.slots[fC.slot]? = some (.int 0) ∧ Arr .byte s.heap.size V u ∧ V.vm = .none ∧ u.vm.findClass "[B" = some V.cls ∧ V.slots.size = len ∧ (∀ j, j < len → V.slots[j]? = some (.int (lo8 (cv A (o + j))))) ∧ (∀ (y : Addr) (c : Cell), y ≠ a → s.heap[y]? = some c → u.heap[y]? = some c) ∧ u.heap.size = s.heap.size + 1
theorem Got.mv {a : Addr} {D A : Cell} {fV fC : Field} {o len : Nat} : ∀ r (U U' V V' : State), U'.heap = U.heap → V.vm.Alike V'.vm → V'.heap = V.heap → Got a D fV fC A o len r U V → Got a D fV fC A o len r U' V' :=
  fun r U U' V V' h1 hal h2 ⟨e0, D', X, a1, a2, a3, a4, a5, a6, a7, a8, a9, a10, a11⟩ => ⟨e0, D', X, a1.mv hal h2, a2, by rw [h1]; exact a3, a4, by rw [h1]; exact a5.mv hal h2, a6, by rw [hal.findClass]; exact a7, a8, a9, by rw [h1, h2]; exact a10, by rw [h1, h2]; exact a11⟩
namespace New4
def yN : MethodName := ⟨"java/lang/String", "<init>", "([CIILjava/lang/Void;)V"⟩
abbrev yB : ByteArray := jdk_42_method_149_code
theorem d0 : decode yB 0 = .ok (.aload_n 0, 1) := by decide +kernel
theorem d1 : decode yB 1 = .ok (.invokespecial 1, 3) := by decide +kernel
theorem d4 : decode yB 4 = .ok (.iload_n 3, 1) := by decide +kernel
theorem d5 : decode yB 5 = .ok (.ifCond (.ne) 22, 3) := by decide +kernel
theorem d27 : decode yB 27 = .ok (.getstatic 38, 3) := by decide +kernel
theorem d30 : decode yB 30 = .ok (.ifCond (.eq) 28, 3) := by decide +kernel
theorem d33 : decode yB 33 = .ok (.aload_n 1, 1) := by decide +kernel
theorem d34 : decode yB 34 = .ok (.iload_n 2, 1) := by decide +kernel
theorem d35 : decode yB 35 = .ok (.iload_n 3, 1) := by decide +kernel
theorem d36 : decode yB 36 = .ok (.invokestatic 177, 3) := by decide +kernel
theorem d39 : decode yB 39 = .ok (.astore 5, 2) := by decide +kernel
theorem d41 : decode yB 41 = .ok (.aload_n 0, 1) := by decide +kernel
theorem d42 : decode yB 42 = .ok (.aload 5, 2) := by decide +kernel
theorem d44 : decode yB 44 = .ok (.iload_n 3, 1) := by decide +kernel
theorem d45 : decode yB 45 = .ok (.invokestatic 47, 3) := by decide +kernel
theorem d48 : decode yB 48 = .ok (.putfield 15, 3) := by decide +kernel
theorem d51 : decode yB 51 = .ok (.aload_n 0, 1) := by decide +kernel
theorem d52 : decode yB 52 = .ok (.aload 5, 2) := by decide +kernel
theorem d54 : decode yB 54 = .ok (.putfield 9, 3) := by decide +kernel
theorem d57 : decode yB 57 = .ok (.return_, 1) := by decide +kernel
def site : List Cond := [.fieldLink "java/lang/String" 38 "java/lang/String" "COMPACT_STRINGS" "Z", Cmp3.tab, CodL.tab, .laysFinal "java/lang/String" "java/lang/String" "value" "[B", .fieldLink "java/lang/String" 9 "java/lang/String" "value" "[B", .laysFinal "java/lang/String" "java/lang/String" "coder" "B", .fieldLink "java/lang/String" 15 "java/lang/String" "coder" "B"] ++ objW "java/lang/String" 1 ++ staticW "java/lang/String" 177 Cmp3.yN ++ staticW "java/lang/String" 47 CodL.yN
def tab : Cond := tabOf yN yB 6 none site
def P (a : Addr) (D : Cell) (fV fC : Field) (b : Addr) (A : Cell) (z : Int32) (o len : Nat) (args : Array Value) (s : State) : Prop := args = #[.ref a, .ref b, .int (Int32.ofNat o), .int (Int32.ofNat len), .null] ∧ Blank "java/lang/String" a D s ∧ Found "java/lang/String" "value" "[B" fV s ∧ Found "java/lang/String" "coder" "B" fC s ∧ Ch b A s ∧ StaticIs s "java/lang/String" "COMPACT_STRINGS" "Z" (.int z) ∧ ¬ z = 0 ∧ 0 < len ∧ o + len ≤ A.slots.size ∧ len ≤ 536870912 ∧ ∀ i, i < len → ¬ 255 < cv A (o + i)
def E (a : Addr) (D : Cell) (fV fC : Field) (A : Cell) (o len : Nat) (r : Option Value) (s u : State) : Prop := Got a D fV fC A o len r s u
/-- len > 0, no char of the range above 255: a Latin-1 String of their low bytes -/
theorem law (l : Launch) (a : Addr) (D : Cell) (fV fC : Field) (b : Addr) (A : Cell) (z : Int32) (o len : Nat) : Law l yN 5 4 2 35 yB 6 none site (P a D fV fC b A z o len) (E a D fV fC A o len) [⟨a, fC.slot⟩, ⟨a, fV.slot⟩] 1 len := by
  refine Law.of_walk (plainFor_of_name (by decide +kernel)) (by decide +kernel) (by decide +kernel) (by decide) (fun _ _ h => by rw [h.1]; rfl) (fun _ U U' hal hh h => ⟨h.1, h.2.1.mv hal hh, h.2.2.1.al hal, h.2.2.2.1.al hal, h.2.2.2.2.1.mv hal hh, h.2.2.2.2.2.1.there hal hh, h.2.2.2.2.2.2⟩) (fun r U U' V V' h1 hal h2 h => Got.mv r U U' V V' h1 hal h2 h) ?_
  intro p e s m args below meth c s₁ X0 hexec hbytes hml hret hlk hnm hown hh0 W hP
  obtain ⟨rfl, hB, f1, f2, hA, s1, hz, l0, l1, l2, hp⟩ := hP
  have a31 := hA.1.2.2.2
  have c1 : Steps p.tables e below (s₁.setTop (entryFrame m #[.ref a, .ref b, .int (Int32.ofNat o), .int (Int32.ofNat len), .null] 6)) (s₁.setTop (mkF m 0 #[.val (.ref a), .val (.ref b), .val (.int (Int32.ofNat o)), .val (.int (Int32.ofNat len)), .val .null, .unset] [])) := entry rfl
  have c2 : Steps p.tables e below (s₁.setTop (entryFrame m #[.ref a, .ref b, .int (Int32.ofNat o), .int (Int32.ofNat len), .null] 6)) (s₁.setTop (mkF m 1 #[.val (.ref a), .val (.ref b), .val (.int (Int32.ofNat o)), .val (.int (Int32.ofNat len)), .val .null, .unset] [.ref a])) := c1.trans (by
    refine XS.aloadN X0.here hexec rfl (hb hbytes d0) rfl rfl ?_
    exact Steps.refl _)
  obtain ⟨T3, X3, q3, st3⟩ := X0.oinit hexec hown (wks W (objW "java/lang/String" 1)) (g := (mkF m 1 #[.val (.ref a), .val (.ref b), .val (.int (Int32.ofNat o)), .val (.int (Int32.ofNat len)), .val .null, .unset] [.ref a])) rfl (by rw [hml]; rfl) (rest := []) rfl (hb hbytes d1) (W := 0) (by show 2 * 0 + 0 ≤ _; decide) (Nat.le_of_ble_eq_true rfl) (Nat.le_of_ble_eq_true rfl)
  have hh3 := q3.trans hh0
  have c4 : Steps p.tables e below (s₁.setTop (entryFrame m #[.ref a, .ref b, .int (Int32.ofNat o), .int (Int32.ofNat len), .null] 6)) (T3.setTop (mkF m 27 #[.val (.ref a), .val (.ref b), .val (.int (Int32.ofNat o)), .val (.int (Int32.ofNat len)), .val .null, .unset] [])) := (c2.trans (st3 _ (Steps.refl _))).trans (by
    refine XS.iloadN X3.here hexec rfl (hb hbytes d4) rfl ?_
    refine XS.ifYes X3.here hexec rfl (pc0 := 5) rfl (hb hbytes d5) rfl (i0_ne_t (nz32 (by omega) l0)) (by decide) rfl ?_
    exact Steps.refl _)
  obtain ⟨T5, X5, q5, st5⟩ := X3.sget hexec hown (wk W (.fieldLink "java/lang/String" 38 "java/lang/String" "COMPACT_STRINGS" "Z")) s1 (fun _ _ h => by rw [hh3]; exact h) (g := (mkF m 27 #[.val (.ref a), .val (.ref b), .val (.int (Int32.ofNat o)), .val (.int (Int32.ofNat len)), .val .null, .unset] [])) rfl (hb hbytes d27)
  have hh5 := q5.trans hh3
  have c6 : Steps p.tables e below (s₁.setTop (entryFrame m #[.ref a, .ref b, .int (Int32.ofNat o), .int (Int32.ofNat len), .null] 6)) (T5.setTop (mkF m 30 #[.val (.ref a), .val (.ref b), .val (.int (Int32.ofNat o)), .val (.int (Int32.ofNat len)), .val .null, .unset] [.int z])) := c4.trans (st5 _ (Steps.refl _))
  have c7 : Steps p.tables e below (s₁.setTop (entryFrame m #[.ref a, .ref b, .int (Int32.ofNat o), .int (Int32.ofNat len), .null] 6)) (T5.setTop (mkF m 36 #[.val (.ref a), .val (.ref b), .val (.int (Int32.ofNat o)), .val (.int (Int32.ofNat len)), .val .null, .unset] [.int (Int32.ofNat len), .int (Int32.ofNat o), .ref b])) := c6.trans (by
    refine XS.ifNo X5.here hexec rfl (hb hbytes d30) rfl (i0_eq_f hz) ?_
    refine XS.aloadN X5.here hexec rfl (hb hbytes d33) rfl rfl ?_
    refine XS.iloadN X5.here hexec rfl (hb hbytes d34) rfl ?_
    refine XS.iloadN X5.here hexec rfl (hb hbytes d35) rfl ?_
    exact Steps.refl _)
  obtain ⟨v8, T8, X8, E8, g8⟩ := X5.callS hexec (Cmp3.law l b A o len) hown (wks W (staticW "java/lang/String" 177 Cmp3.yN)) (wk W Cmp3.tab) (W := 0) (Nat.le_of_ble_eq_true rfl) (Nat.le_of_ble_eq_true rfl) (Nat.le_refl _) (by show 0 + len ≤ len; omega) (g := (mkF m 36 #[.val (.ref a), .val (.ref b), .val (.int (Int32.ofNat o)), .val (.int (Int32.ofNat len)), .val .null, .unset] [.int (Int32.ofNat len), .int (Int32.ofNat o), .ref b])) rfl (by rw [hml]; rfl) c7 (argsL := [.ref b, .int (Int32.ofNat o), .int (Int32.ofNat len)]) (rest := []) rfl rfl (by show 2 * 0 + 0 ≤ _; decide) (hb hbytes d36) (⟨rfl, hA.mv X5.warmed.alike hh5, l1, l2, hp⟩)
  obtain ⟨e8, z8⟩ := E8
  obtain ⟨rfl, N, n1, n2, n3, n4, n5, n6⟩ := NewArr.mv _ T5 s _ _ hh5.symm (Vm.Alike.refl _) rfl e8
  rw [hh5] at z8
  have hB1 := hB.keep X8.warmed.alike (n6 _ _ hB.1)
  have hne : s.heap.size ≠ a := (Nat.ne_of_lt (Array.getElem?_eq_some_iff.mp hB.1).1).symm
  have c9 : Steps p.tables e below (s₁.setTop (entryFrame m #[.ref a, .ref b, .int (Int32.ofNat o), .int (Int32.ofNat len), .null] 6)) (T8.setTop (mkF m 39 #[.val (.ref a), .val (.ref b), .val (.int (Int32.ofNat o)), .val (.int (Int32.ofNat len)), .val .null, .unset] [.ref s.heap.size])) := g8
  have c10 : Steps p.tables e below (s₁.setTop (entryFrame m #[.ref a, .ref b, .int (Int32.ofNat o), .int (Int32.ofNat len), .null] 6)) (T8.setTop (mkF m 45 #[.val (.ref a), .val (.ref b), .val (.int (Int32.ofNat o)), .val (.int (Int32.ofNat len)), .val .null, .val (.ref s.heap.size)] [.int (Int32.ofNat N.slots.size), .ref s.heap.size, .ref a])) := by
    have hc : Steps p.tables e below (s₁.setTop (entryFrame m #[.ref a, .ref b, .int (Int32.ofNat o), .int (Int32.ofNat len), .null] 6)) (T8.setTop (mkF m 45 #[.val (.ref a), .val (.ref b), .val (.int (Int32.ofNat o)), .val (.int (Int32.ofNat len)), .val .null, .val (.ref s.heap.size)] [.int (Int32.ofNat len), .ref s.heap.size, .ref a])) := c9.trans (by
      refine XS.astore X8.here hexec rfl (hb hbytes d39) rfl rfl rfl ?_
      refine XS.aloadN X8.here hexec rfl (hb hbytes d41) rfl rfl ?_
      refine XS.aload X8.here hexec rfl (hb hbytes d42) rfl rfl ?_
      refine XS.iloadN X8.here hexec rfl (hb hbytes d44) rfl ?_
      exact Steps.refl _)
    rw [n4]; exact hc
  obtain ⟨v11, T11, X11, E11, g11⟩ := X8.callS hexec (CodL.law l s.heap.size N) hown (wks W (staticW "java/lang/String" 47 CodL.yN)) (wk W CodL.tab) (W := 1) (Nat.le_of_ble_eq_true rfl) (Nat.le_of_ble_eq_true rfl) (Nat.le_refl _) (by show 0 + len + 0 ≤ len; omega) (g := (mkF m 45 #[.val (.ref a), .val (.ref b), .val (.int (Int32.ofNat o)), .val (.int (Int32.ofNat len)), .val .null, .val (.ref s.heap.size)] [.int (Int32.ofNat N.slots.size), .ref s.heap.size, .ref a])) rfl (by rw [hml]; rfl) c10 (argsL := [.ref s.heap.size, .int (Int32.ofNat N.slots.size)]) (rest := [.ref a]) rfl rfl (by show 2 * 0 + (1 + 0) ≤ _; decide) (hb hbytes d45) (⟨rfl, n1⟩)
  obtain ⟨rfl, q11⟩ := E11
  have hB11 := hB1.mv (X8.warmed.alike.symm.trans X11.warmed.alike) q11
  have c12 : Steps p.tables e below (s₁.setTop (entryFrame m #[.ref a, .ref b, .int (Int32.ofNat o), .int (Int32.ofNat len), .null] 6)) (T11.setTop (mkF m 48 #[.val (.ref a), .val (.ref b), .val (.int (Int32.ofNat o)), .val (.int (Int32.ofNat len)), .val .null, .val (.ref s.heap.size)] [.int 0, .ref a])) := g11
  obtain ⟨T13, X13, p13, bl13, sl13, st13⟩ := X11.finit hexec hown (wk W (.fieldLink "java/lang/String" 15 "java/lang/String" "coder" "B")) (Or.inr ⟨_, (wk W (.laysFinal "java/lang/String" "java/lang/String" "coder" "B"))⟩) (Or.inl ⟨rfl, hnm⟩) f2 (Or.inl rfl) hB11 (t := .byte) (by decide +kernel) rfl (g := (mkF m 48 #[.val (.ref a), .val (.ref b), .val (.int (Int32.ofNat o)), .val (.int (Int32.ofNat len)), .val .null, .val (.ref s.heap.size)] [.int 0, .ref a])) rfl (rest := []) rfl (hb hbytes d48)
  have c14 : Steps p.tables e below (s₁.setTop (entryFrame m #[.ref a, .ref b, .int (Int32.ofNat o), .int (Int32.ofNat len), .null] 6)) (T13.setTop (mkF m 54 #[.val (.ref a), .val (.ref b), .val (.int (Int32.ofNat o)), .val (.int (Int32.ofNat len)), .val .null, .val (.ref s.heap.size)] [.ref s.heap.size, .ref a])) := (c12.trans (st13 _ (Steps.refl _))).trans (by
    refine XS.aloadN X13.here hexec rfl (hb hbytes d51) rfl rfl ?_
    refine XS.aload X13.here hexec rfl (hb hbytes d52) rfl rfl ?_
    exact Steps.refl _)
  obtain ⟨T15, X15, p15, bl15, sl15, st15⟩ := X13.finit hexec hown (wk W (.fieldLink "java/lang/String" 9 "java/lang/String" "value" "[B")) (Or.inr ⟨_, (wk W (.laysFinal "java/lang/String" "java/lang/String" "value" "[B"))⟩) (Or.inl ⟨rfl, hnm⟩) f1 (Or.inl rfl) bl13 (t := (.array .byte)) (by decide +kernel) rfl (g := (mkF m 54 #[.val (.ref a), .val (.ref b), .val (.int (Int32.ofNat o)), .val (.int (Int32.ofNat len)), .val .null, .val (.ref s.heap.size)] [.ref s.heap.size, .ref a])) rfl (rest := []) rfl (hb hbytes d54)
  have c16 : Steps p.tables e below (s₁.setTop (entryFrame m #[.ref a, .ref b, .int (Int32.ofNat o), .int (Int32.ofNat len), .null] 6)) (T15.setTop (mkF m 57 #[.val (.ref a), .val (.ref b), .val (.int (Int32.ofNat o)), .val (.int (Int32.ofNat len)), .val .null, .val (.ref s.heap.size)] [])) := c14.trans (st15 _ (Steps.refl _))
  have ap := apart (Or.inr ⟨_, (wk W (.laysFinal "java/lang/String" "java/lang/String" "value" "[B"))⟩) (Or.inr ⟨_, (wk W (.laysFinal "java/lang/String" "java/lang/String" "coder" "B"))⟩) f1 f2 (t₁ := .array .byte) (t₂ := .byte) (by decide +kernel) (by decide +kernel) (by decide)
  have al := X8.warmed.alike.symm.trans X15.warmed.alike
  have n7 : T11.heap[s.heap.size]? = some N := by rw [q11]; exact n1.1
  exact ⟨T15, none, _, _, _, X15, by simp, rfl, by omega, (fun _ => rfl), ⟨rfl, _, N, bl15, ((Same.refl D _).set _ (by simp)).set _ (by simp), sl15, (Cell.slots_setSlot_ne _ ap).trans sl13, n1.keep al (p15.other hne (p13.other hne n7)), n2, by rw [al.findClass]; exact n3, n4, n5, fun y c h1 h2 => p15.other h1 (p13.other h1 (by rw [q11]; exact n6 y c h2)), by rw [p15.2.2, p13.2.2, q11]; exact z8⟩, fun fs hl => c16.trans (X15.returnOut hexec hret (hb hbytes d57) hl)⟩
end New4
namespace New1
def yN : MethodName := ⟨"java/lang/String", "<init>", "([C)V"⟩
abbrev yB : ByteArray := jdk_42_method_3_code
theorem d0 : decode yB 0 = .ok (.aload_n 0, 1) := by decide +kernel
theorem d1 : decode yB 1 = .ok (.aload_n 1, 1) := by decide +kernel
theorem d2 : decode yB 2 = .ok (.iconst 0, 1) := by decide +kernel
theorem d3 : decode yB 3 = .ok (.aload_n 1, 1) := by decide +kernel
theorem d4 : decode yB 4 = .ok (.arraylength, 1) := by decide +kernel
theorem d5 : decode yB 5 = .ok (.aconst_null, 1) := by decide +kernel
theorem d6 : decode yB 6 = .ok (.invokespecial 27, 3) := by decide +kernel
theorem d9 : decode yB 9 = .ok (.return_, 1) := by decide +kernel
def site : List Cond := [New4.tab] ++ initW "java/lang/String" 27 New4.yN
def tab : Cond := tabOf yN yB 2 none site
def P (a : Addr) (D : Cell) (fV fC : Field) (b : Addr) (A : Cell) (z : Int32) (args : Array Value) (s : State) : Prop := args = #[.ref a, .ref b] ∧ Blank "java/lang/String" a D s ∧ Found "java/lang/String" "value" "[B" fV s ∧ Found "java/lang/String" "coder" "B" fC s ∧ Ch b A s ∧ StaticIs s "java/lang/String" "COMPACT_STRINGS" "Z" (.int z) ∧ ¬ z = 0 ∧ 0 < A.slots.size ∧ A.slots.size ≤ 536870912 ∧ ∀ i, i < A.slots.size → ¬ 255 < cv A i
def E (a : Addr) (D : Cell) (fV fC : Field) (A : Cell) (r : Option Value) (s u : State) : Prop := Got a D fV fC A 0 A.slots.size r s u
/-- new String(chars), not empty, no char above 255: a Latin-1 String of their low bytes -/
theorem law (l : Launch) (a : Addr) (D : Cell) (fV fC : Field) (b : Addr) (A : Cell) (z : Int32) : Law l yN 2 1 3 52 yB 2 none site (P a D fV fC b A z) (E a D fV fC A) [⟨a, fC.slot⟩, ⟨a, fV.slot⟩] 1 A.slots.size := by
  refine Law.of_walk (plainFor_of_name (by decide +kernel)) (by decide +kernel) (by decide +kernel) (by decide) (fun _ _ h => by rw [h.1]; rfl) (fun _ U U' hal hh h => ⟨h.1, h.2.1.mv hal hh, h.2.2.1.al hal, h.2.2.2.1.al hal, h.2.2.2.2.1.mv hal hh, h.2.2.2.2.2.1.there hal hh, h.2.2.2.2.2.2⟩) (fun r U U' V V' h1 hal h2 h => Got.mv r U U' V V' h1 hal h2 h) ?_
  intro p e s m args below meth c s₁ X0 hexec hbytes hml hret hlk hnm hown hh0 W hP
  obtain ⟨rfl, hB, f1, f2, hA, s1, hz, l0, l2, hp⟩ := hP
  have c1 : Steps p.tables e below (s₁.setTop (entryFrame m #[.ref a, .ref b] 2)) (s₁.setTop (mkF m 0 #[.val (.ref a), .val (.ref b)] [])) := entry rfl
  have c2 : Steps p.tables e below (s₁.setTop (entryFrame m #[.ref a, .ref b] 2)) (s₁.setTop (mkF m 6 #[.val (.ref a), .val (.ref b)] [.null, .int (Int32.ofNat A.slots.size), .int 0, .ref b, .ref a])) := c1.trans (by
    refine XS.aloadN X0.here hexec rfl (hb hbytes d0) rfl rfl ?_
    refine XS.aloadN X0.here hexec rfl (hb hbytes d1) rfl rfl ?_
    refine iconstV X0.here hexec rfl 0 (hb hbytes d2) (by decide) ?_
    refine XS.aloadN X0.here hexec rfl (hb hbytes d3) rfl rfl ?_
    refine X0.alen hexec (hA.1.mv X0.warmed.alike hh0) rfl rfl (hb hbytes d4) ?_
    refine XS.aconstNull X0.here hexec rfl (hb hbytes d5) ?_
    exact Steps.refl _)
  obtain ⟨v3, T3, X3, E3, g3⟩ := X0.callN hexec (New4.law l a D fV fC b A z 0 A.slots.size) rfl hown (wks W (initW "java/lang/String" 27 New4.yN)) (W New4.tab (by simp only [site, List.mem_cons, List.mem_append, true_or, or_true])) (W := 0) (Nat.le_of_ble_eq_true rfl) (Nat.le_of_ble_eq_true rfl) (Nat.le_refl _) (by show 0 + A.slots.size ≤ A.slots.size; omega) (g := (mkF m 6 #[.val (.ref a), .val (.ref b)] [.null, .int (Int32.ofNat A.slots.size), .int (Int32.ofNat 0), .ref b, .ref a])) rfl (by rw [hml]; rfl) c2 (argsL := [.ref b, .int (Int32.ofNat 0), .int (Int32.ofNat A.slots.size), .null]) (rest := []) rfl rfl (by show 2 * 0 + 0 ≤ _; decide) (hb hbytes d6) (⟨rfl, hB.mv X0.warmed.alike hh0, f1.al X0.warmed.alike, f2.al X0.warmed.alike, hA.mv X0.warmed.alike hh0, s1.there X0.warmed.alike hh0, hz, l0, by omega, l2, fun i hi => by rw [Nat.zero_add]; exact hp i hi⟩)
  have e0 := Got.mv _ s₁ s _ _ hh0.symm (Vm.Alike.refl _) rfl E3
  obtain rfl := e0.1
  have c4 : Steps p.tables e below (s₁.setTop (entryFrame m #[.ref a, .ref b] 2)) (T3.setTop (mkF m 9 #[.val (.ref a), .val (.ref b)] [])) := g3
  exact ⟨T3, none, _, _, _, X3, by simp, rfl, by omega, (fun _ => rfl), e0, fun fs hl => c4.trans (X3.returnOut hexec hret (hb hbytes d9) hl)⟩
theorem pays {l : Launch} {R : Room} {p : Program} {e : Env} {below : List Frame} {s : State} {sargs : Array Value} {len W : Nat} (a : Addr) (D : Cell) (fV fC : Field) (b : Addr) (A : Cell) (z : Int32) (htab : tab.before sargs s = true) (hfr : 4 ≤ R.frames) (hlo : W + 65 ≤ R.locals) :
    Back l R p e below s sargs yN len W (fun A₁ a₁ => A₁.cells + 1 ≤ R.cells ∧ A₁.slots + A.slots.size ≤ R.slots ∧ P a D fV fC b A z a₁ A₁.U) (fun A₁ _ v₁ B₁ => E a D fV fC A v₁ A₁.U B₁.U ∧ B₁.locs = A₁.locs ++ [⟨a, fC.slot⟩, ⟨a, fV.slot⟩] ∧ B₁.cells = A₁.cells + 1 ∧ B₁.slots = A₁.slots + A.slots.size) :=
  (law l a D fV fC b A z).pays htab hfr (by omega)
end New1
end StrChars
namespace StrChars.Road
open Jvm Sem ClassFile Op Lib Jvm.Stand Jvm.Free Jvm.Free.XT
open Jvm.Lib.Cold (StaticIs)
abbrev ST : String := "java/lang/String"
/-- every table word that New1's law asks, flat -/
abbrev words : List Jvm.Cond := [.code New1.yN New1.yB 2 none, .initialized ST, .methodLink ST 27 New4.yN, .instanceMethod New4.yN,
  .code New4.yN New4.yB 6 none, .fieldLink ST 38 ST "COMPACT_STRINGS" "Z", .laysFinal ST ST "value" "[B", .fieldLink ST 9 ST "value" "[B", .laysFinal ST ST "coder" "B", .fieldLink ST 15 ST "coder" "B",
  .methodLink ST 1 Lib.objectInit, .instanceMethod Lib.objectInit, .code Lib.objectInit ⟨#[0xb1]⟩ 1 none, .methodLink ST 177 Cmp3.yN, .static Cmp3.yN, .methodLink ST 47 CodL.yN, .static CodL.yN,
  .code Cmp3.yN Cmp3.yB 6 (some (.array .byte)), .initialized U16, .arrayClass .byte, .methodLink U16 115 Cmp5.yN, .static Cmp5.yN, .code Cmp5.yN Cmp5.yB 7 (some .int), .code CodL.yN CodL.yB 2 (some .byte)]
theorem tab_of {a : Array Value} {s : State} (h : ∀ w ∈ words, w.before a s = true) : New1.tab.before a s = true := by
  have h5 : Cmp5.tab.before a s = true := unparts (wk h (.code Cmp5.yN Cmp5.yB 7 (some .int))) (wks h (.initialized Cmp5.yN.cls :: Cmp5.site))
  have hc : CodL.tab.before a s = true := unparts (wk h (.code CodL.yN CodL.yB 2 (some .byte))) (wks h (.initialized CodL.yN.cls :: CodL.site))
  have q5 : ∀ w ∈ Cmp5.tab :: words, w.before a s = true := fun w hw => (List.mem_cons.mp hw).elim (fun e => e ▸ h5) (h w)
  have h3 : Cmp3.tab.before a s = true := unparts (wk q5 (.code Cmp3.yN Cmp3.yB 6 (some (.array .byte)))) (wks q5 (.initialized Cmp3.yN.cls :: Cmp3.site))
  have q3 : ∀ w ∈ Cmp3.tab :: CodL.tab :: words, w.before a s = true := fun w hw => (List.mem_cons.mp hw).elim (fun e => e ▸ h3) fun hw => (List.mem_cons.mp hw).elim (fun e => e ▸ hc) (h w)
  have h4 : New4.tab.before a s = true := unparts (wk q3 (.code New4.yN New4.yB 6 none)) (wks q3 (.initialized New4.yN.cls :: New4.site))
  have q4 : ∀ w ∈ New4.tab :: words, w.before a s = true := fun w hw => (List.mem_cons.mp hw).elim (fun e => e ▸ h4) (h w)
  exact unparts (wk q4 (.code New1.yN New1.yB 2 none)) (wks q4 (.initialized New1.yN.cls :: New1.site))
/-- the words ride from the start Z to the walk's own state -/
theorem moved {Z s : State} {a0 args : Array Value} (hZ : Z.Warmed39 s.vm) (hw : ∀ d ∈ words, d.before a0 Z = true) : ∀ d ∈ words, d.before args s = true := fun d hd => by
  have q := hw d hd
  have t : ∀ d ∈ words, d = .arrayClass .byte ∨ (d.onTables && d.keepsFace) = true := by decide +kernel
  rcases t d hd with rfl | t
  · exact RoadKit.mvA hZ q
  · exact RoadKit.mv hZ q t
/-- WHAT COMES BACK, over the tables of the start Z: h the heap at the call, h' behind it -/
def Q (Z : State) (x : Addr) (A : Cell) (h : Heap) (v : Option Value) (h' : Heap) (L : List Loc) : Prop := v = none ∧ (∀ y ∈ L, y.base = x) ∧ RoadKit.Keep h h' [x] ∧ h'.size = h.size + 1 ∧ RoadKit.Exa Z h' x ST ∧ RoadKit.Fld Z h' x ST "value" "[B" (.ref h.size) ∧ RoadKit.Fld Z h' x ST "coder" "B" (.int 0) ∧
  (∃ V : Cell, RoadKit.Arr Z h' h.size V .byte ∧ V.vm = .none ∧ Z.vm.findClass "[B" = some V.cls ∧ V.slots.size = A.slots.size ∧ ∀ j, j < A.slots.size → V.slots[j]? = some (.int (lo8 (cv A j)))) ∧
  ∀ (O n d : String) (w : Value), RoadKit.Fld Z h x O n d w → RoadKit.slotOf Z O n d ≠ RoadKit.slotOf Z ST "value" "[B" → RoadKit.slotOf Z O n d ≠ RoadKit.slotOf Z ST "coder" "B" → RoadKit.Fld Z h' x O n d w
/-- **new String(chars) AT A CALL, IN THE ROAD'S FORM**: for specialBack behind newO: x the fresh String, b the char[] with the cell A -/
theorem back {p : Program} {l : Launch} {e : Env} {R : Room} {s : State} {args : Array Value} {below : List Frame} {len W : Nat} {Z : State} {a0 : Array Value} {h : Heap} (hZ : Z.Warmed39 s.vm) (hw : ∀ d ∈ words, d.before a0 Z = true) {kI : Nat} (wi : (Jvm.Cond.instantiable ST kI).before a0 Z = true)
    {x b : Addr} {A : Cell} {z : Int32} {v0 c0 : Value} (E : RoadKit.Exa Z h x ST) (V : RoadKit.Fld Z h x ST "value" "[B" v0) (C : RoadKit.Fld Z h x ST "coder" "B" c0) (K : RoadKit.Arr Z h b A .char) (hty : Typed .char A) (S : RoadKit.Sta Z h ST "COMPACT_STRINGS" "Z" (.int z)) (hz : ¬ z = 0)
    (l0 : 0 < A.slots.size) (l2 : A.slots.size ≤ 536870912) (hp : ∀ i, i < A.slots.size → ¬ 255 < cv A i) (hfr : 4 ≤ R.frames) (hlo : W + 65 ≤ R.locals) :
    Back l R p e below s args New1.yN len W (fun P a => a = #[.ref x, .ref b] ∧ P.U.heap = h ∧ P.cells + 1 ≤ R.cells ∧ P.slots + A.slots.size ≤ R.slots)
      (fun P _ v B => ∃ L, Q Z x A h v B.U.heap L ∧ B.locs = P.locs ++ L ∧ B.cells = P.cells + 1 ∧ B.slots = P.slots + A.slots.size) := by
  intro m meth c P g ig mk a X hg hsize hdg hW hn hp'
  obtain ⟨rfl, rfl, r1, r2⟩ := hp'
  have al : Z.vm.Alike P.U.vm := hZ.alike.trans X.warmed.alike
  obtain ⟨D, cfV, kV, iV, fV, hD, gV, stV, knV, obV, asV, slV⟩ := id V
  obtain ⟨D', cfC, kC, iC, fC, hD', gC, stC, -, -, asC, slC⟩ := id C
  cases hD.symm.trans hD'
  obtain ⟨D2, kD, e1, e2, e3, e4, e5⟩ := id E
  cases hD.symm.trans e1
  obtain ⟨c2, k2, i1, i2, i3, -⟩ := Cond.instantiable_spec wi
  cases e2.symm.trans i1
  cases e3.symm.trans i2
  obtain ⟨kU, u1, u2⟩ := al.2.2 _ _ e3
  have hB : Blank ST x D P.U := ⟨hD, ⟨knV, fun q hq => by rw [hq] at obV; cases obV⟩, by rw [al.findClass]; exact e2, kU, u1, by rw [u2]; exact i3, by rw [u2]; exact e5 i3⟩
  have F1 : Found ST "value" "[B" fV P.U := ⟨SBG.found_only al ⟨cfV, kV, iV, gV⟩, stV⟩
  have F2 : Found ST "coder" "B" fC P.U := ⟨SBG.found_only al ⟨cfC, kC, iC, gC⟩, stC⟩
  have hA : Ch b A P.U := ⟨⟨K.1, State.isArrayOf_alike al K.2.1, K.2.2, by omega⟩, hty⟩
  have hS : StaticIs P.U ST "COMPACT_STRINGS" "Z" (.int z) := by
    obtain ⟨cfS, iS, kS, fS, st, cS, t1, t2, t3, t4, t5, t6, t7⟩ := S
    exact StaticIs.there (s := { Z with heap := P.U.heap }) ⟨cfS, iS, kS, fS, st, cS, t1, t2, t3, t4, t5, (fun q => by rw [q] at t6; cases t6), t7⟩ al rfl
  obtain ⟨v, B, X', ⟨⟨hv, E', V', q1, q2, q3, q4, q5, q6, q7, q8, q9, q10, q11⟩, hl, hc, hs⟩, st⟩ := New1.pays x D fV fC b A z (tab_of (moved hZ hw)) hfr hlo m meth c P g ig mk _ X hg hsize hdg hW hn ⟨r1, r2, rfl, hB, F1, F2, hA, hS, hz, l0, l2, hp⟩
  have al' : Z.vm.Alike B.U.vm := hZ.alike.trans X'.warmed.alike
  have hsz : E'.slots.size = D.slots.size := by
    obtain ⟨-, -, -, kB, w1, w2, w3⟩ := q1
    obtain ⟨kB', y1, y2⟩ := al'.2.2 _ _ e3
    rw [q2.2.1] at w1
    cases w1.symm.trans y1
    rw [w3, e5 i3, y2]
  refine ⟨v, B, X', ⟨_, ⟨hv, ?_, ⟨by omega, fun y cy hy hn' => q10 y cy (by simpa using hn') hy, fun y cy hy => ?_⟩, q11, ⟨E', _, q1.1, by rw [q2.2.1]; exact e2, by rw [q2.2.1]; exact e3, by rw [q2.1]; exact obV, fun _ => by rw [hsz]; exact e5 i3⟩,
    ⟨E', cfV, kV, iV, fV, q1.1, gV, stV, by rw [q2.1]; exact knV, by rw [q2.1]; exact obV, by rw [q2.2.1]; exact asV, q3⟩, ⟨E', cfC, kC, iC, fC, q1.1, gC, stC, by rw [q2.1]; exact knV, by rw [q2.1]; exact obV, by rw [q2.2.1]; exact asC, q4⟩,
    ⟨V', ⟨q5.1, State.isArrayOf_alike al'.symm q5.2.1, q5.2.2.1⟩, q6, by rw [← al'.findClass]; exact q7, q8, fun j hj => by have := q9 j hj; rwa [Nat.zero_add] at this⟩, fun O n d w F n1 n2 => ?_⟩, hl, hc, hs⟩, st⟩
  · intro y hy
    simp only [List.mem_cons, List.not_mem_nil, or_false] at hy
    rcases hy with rfl | rfl <;> rfl
  · by_cases q : y = x
    · subst q
      cases hD.symm.trans hy
      exact ⟨E', q1.1, q2.2.1, q2.1, hsz⟩
    · exact ⟨cy, q10 y cy q hy, rfl, rfl, rfl⟩
  · obtain ⟨D3, cf, k, i, f, g1, g2, g3, g4, g5, g6, g7⟩ := F
    cases hD.symm.trans g1
    simp only [RoadKit.slotOf, g2, gV, gC, Option.map_some, Option.getD_some] at n1 n2
    exact ⟨E', cf, k, i, f, q1.1, g2, g3, by rw [q2.1]; exact g4, by rw [q2.1]; exact g5, by rw [q2.2.1]; exact g6, by rw [q2.2.2 f.slot (by simp [n1, n2])]; exact g7⟩
end StrChars.Road
namespace StrChars.Road
open Jvm Sem ClassFile Op Lib Jvm.Stand Jvm.Free Jvm.Free.XT
/-- WHAT COMES BACK, the byte[] as a list of values -/
def QA (Z : State) (x : Addr) (zn : Int32) (cs : List Int32) (h : Heap) (v : Option Value) (h' : Heap) (L : List Loc) : Prop := v = none ∧ (∀ y ∈ L, y.base = x) ∧ RoadKit.Keep h h' [x] ∧ h'.size = h.size + 1 ∧ RoadKit.Exa Z h' x ST ∧ RoadKit.Fld Z h' x ST "value" "[B" (.ref h.size) ∧ RoadKit.Fld Z h' x ST "coder" "B" (.int 0) ∧
  (∃ kb, Z.vm.findClass "[B" = some kb ∧ RoadKit.Arv Z h' h.size kb .byte zn (cs.map fun c => .int (lo8 c)) (.int 0)) ∧
  ∀ (O n d : String) (w : Value), RoadKit.Fld Z h x O n d w → RoadKit.slotOf Z O n d ≠ RoadKit.slotOf Z ST "value" "[B" → RoadKit.slotOf Z O n d ≠ RoadKit.slotOf Z ST "coder" "B" → RoadKit.Fld Z h' x O n d w
/-- **new String(chars) AT A CALL, THE ARRAYS AS LISTS**: the char[] at b holds cs, not empty, no char above 255 -/
theorem backArv {p : Program} {l : Launch} {e : Env} {R : Room} {s : State} {args : Array Value} {below : List Frame} {len W : Nat} {Z : State} {a0 : Array Value} {h : Heap} (hZ : Z.Warmed39 s.vm) (hw : ∀ d ∈ words, d.before a0 Z = true) {kI : Nat} (wi : (Jvm.Cond.instantiable ST kI).before a0 Z = true)
    {x b : Addr} {k : ClassId} {zn z : Int32} {cs : List Int32} {dv v0 c0 : Value} (E : RoadKit.Exa Z h x ST) (V : RoadKit.Fld Z h x ST "value" "[B" v0) (C : RoadKit.Fld Z h x ST "coder" "B" c0) (K : RoadKit.Arv Z h b k .char zn (cs.map Value.int) dv) (S : RoadKit.Sta Z h ST "COMPACT_STRINGS" "Z" (.int z)) (hz : ¬ z = 0)
    (hlen : zn.toNatClampNeg = cs.length) (h0 : 0 < cs.length) (hbig : cs.length ≤ 536870912) (hall : ∀ c ∈ cs, ¬ 255 < c) (hfr : 4 ≤ R.frames) (hlo : W + 65 ≤ R.locals) :
    Back l R p e below s args New1.yN len W (fun P a => a = #[.ref x, .ref b] ∧ P.U.heap = h ∧ P.cells + 1 ≤ R.cells ∧ P.slots + cs.length ≤ R.slots)
      (fun P _ v B => ∃ L, QA Z x zn cs h v B.U.heap L ∧ B.locs = P.locs ++ L ∧ B.cells = P.cells + 1 ∧ B.slots = P.slots + cs.length) := by
  obtain ⟨A, K1, K2, K3, K4, K5, K6⟩ := K
  have e : A.slots.size = cs.length := K3.trans hlen
  have hat : ∀ (i : Nat) (hi : i < cs.length), A.slots[i]? = some (.int cs[i]) := fun i hi => by rw [K5 i (by omega)]; simp [List.getD_eq_getElem?_getD, hi]
  have hcv : ∀ (i : Nat) (hi : i < cs.length), cv A i = cs[i] := fun i hi => by unfold cv; rw [hat i hi]
  have hty : Typed .char A := fun i v hv => by
    have hi : i < A.slots.size := (Array.getElem?_eq_some_iff.mp hv).1
    have q := K5 i hi
    rw [hv] at q
    rw [Option.some.inj q]
    exact K6 i hi
  refine Back.mono (back hZ hw wi E V C K1 hty S hz (by omega) (by omega) (fun i hi => by rw [hcv i (by omega)]; exact hall _ (List.getElem_mem _)) hfr hlo) (fun P a hp => ⟨hp.1, hp.2.1, hp.2.2.1, by rw [e]; exact hp.2.2.2⟩) (fun P a v B hp hq => ?_)
  obtain ⟨L, ⟨q1, q2, q3, q4, q5, q6, q7, ⟨V', v1, v2, v3, v4, v5⟩, q9⟩, hl, hc, hs⟩ := hq
  refine ⟨L, ⟨q1, q2, q3, q4, q5, q6, q7, ⟨V'.cls, v3, V', v1, rfl, by rw [v4, e, hlen], K4, fun i hi => ?_, fun i hi => ?_⟩, q9⟩, hl, hc, by rw [hs, e]⟩
  · have hi' : i < cs.length := by omega
    rw [v5 i (by omega), hcv i hi']; simp [List.getD_eq_getElem?_getD, hi']
  · have hi' : i < cs.length := by omega
    simp only [List.getD_eq_getElem?_getD, List.getElem?_map, List.getElem?_eq_getElem hi', Option.map_some, Option.getD_some]
    exact fits_lo8 _
end StrChars.Road
namespace StrChars.Road
open Jvm Sem ClassFile Op Lib Jvm.Stand Jvm.Free Jvm.Free.XT
/-- WHAT COMES BACK, in the writer's own shape -/
def QV (Z : State) (x : Addr) (N : Int32) (bs : List Int32) (h : Heap) (n0 : Nat) (v : Option Value) (h' : Heap) (L : List Loc) : Prop := v = none ∧ RoadKit.Fr n0 L ∧ RoadKit.Keep h h' [x] ∧ RoadKit.Exa Z h' x ST ∧ RoadKit.Fld Z h' x ST "coder" "B" (.int 0) ∧
  ∃ (t : Addr) (kb : ClassId), n0 ≤ t ∧ h.size ≤ t ∧ ¬ t = x ∧ RoadKit.Fld Z h' x ST "value" "[B" (.ref t) ∧ RoadKit.Arv Z h' t kb .byte N (bs.map Value.int) (.int 0)
/-- **new String(chars) AT A CALL, FOR THE WRITER**: a char[] of n known ints, each 0 to 255 -/
theorem backV {p : Program} {l : Launch} {e : Env} {R : Room} {s : State} {args : Array Value} {below : List Frame} {len W : Nat} {Z : State} {a0 : Array Value} {h : Heap} (hZ : Z.Warmed39 s.vm) (hw : ∀ d ∈ words, d.before a0 Z = true) {kI : Nat} (wi : (Jvm.Cond.instantiable ST kI).before a0 Z = true)
    {x b : Addr} {kC : ClassId} {cs bs : List Int32} {d v0 c0 : Value} {z N : Int32} {n n0 : Nat} (hx0 : n0 ≤ x) (hh0 : n0 ≤ h.size) (E : RoadKit.Exa Z h x ST) (V : RoadKit.Fld Z h x ST "value" "[B" v0) (C : RoadKit.Fld Z h x ST "coder" "B" c0) (K : RoadKit.Arv Z h b kC .char N (cs.map Value.int) d) (S : RoadKit.Sta Z h ST "COMPACT_STRINGS" "Z" (.int z)) (hz : ¬ z = 0)
    (hn : cs.length = n) (hN : N = Int32.ofNat n) (l0 : 0 < n) (l2 : n ≤ 4000) (hp : ∀ c ∈ cs, ¬ c < 0 ∧ ¬ (255 : Int32) < c) (hb : bs = cs.map (fun c => c.toInt8.toInt32)) (hfr : 4 ≤ R.frames) (hlo : W + 65 ≤ R.locals) :
    Back l R p e below s args (⟨"java/lang/String", "<init>", "([C)V"⟩ : MethodName) len W (fun P a => a = #[.ref x, .ref b] ∧ P.U.heap = h ∧ P.cells + 1 ≤ R.cells ∧ P.slots + n ≤ R.slots)
      (fun P _ v B => ∃ L, QV Z x N bs h n0 v B.U.heap L ∧ B.locs = P.locs ++ L ∧ B.cells = P.cells + 1 ∧ B.slots = P.slots + n) := by
  subst hn hN hb
  refine Back.mono (backArv hZ hw wi E V C K S hz (n32 (by omega)) l0 (by omega) (fun c hc => (hp c hc).2) hfr hlo) (fun P a hp => hp) (fun P a v B hp hq => ?_)
  obtain ⟨L, ⟨q1, q2, q3, q4, q5, q6, q7, ⟨kb, v1, v2⟩, q9⟩, hl, hc, hs⟩ := hq
  exact ⟨L, ⟨q1, fun y hy => by rw [q2 y hy]; exact hx0, q3, q5, q7, h.size, kb, hh0, Nat.le_refl _, Nat.ne_of_gt E.lt, q6, by rw [List.map_map]; exact v2⟩, hl, hc, hs⟩
end StrChars.Road
end Jvm.Pilot.@@N@@

namespace Jvm.Pilot.@@N@@
open Jvm Jvm.ClassFile Sem Op Lib Jvm.Free Jvm.Stand Jvm.LawKit Jvm.RoadKit Bundle Jvm.Pilot.@@N@@.Jvm.D
abbrev oi (x : Int32) : Slot := .val (.int x)
abbrev oa (x : Addr) : Slot := .val (.ref x)
abbrev oS {p : Program} {e : Env} {b : List Frame} (T : State) (f : JFrame) (t : State) : Prop := Steps p.tables e b (T.setTop f) t
abbrev own_S (p : Program) (e : Env) (b : List Frame) (T : State) (f : JFrame) (t : State) : Prop := Steps p.tables e b (T.setTop f) t
abbrev own_G (p : Program) (e : Env) (b : List Frame) (T : State) (f g : JFrame) : Prop := ∀ t, own_S p e b T f t → own_S p e b T g t
theorem own_t {a0 : Array Value} {Z : State} {d : Jvm.Cond} (hw : ∀ d ∈ tables_1, d.before a0 Z = true) (i : Nat) (h : tables_1[i]? = some d) : d.before a0 Z = true := hw _ (List.mem_of_getElem? h)
theorem own_opq {p : Program} {l : Launch} {e : Env} {R : Room} {s : State} {m : MethodId} {args : Array Value} {below : List Frame} {meth : Method} {c : Code} {T : State} {locs : List Loc} {cells slots n0 : Nat} (X : Stand p l e R s m args below meth c T locs cells slots) (N : Fr n0 locs) : ∃ G, Stand p l e R s m args below meth c T G cells slots ∧ Fr n0 G := ⟨_, X, N⟩
def own_ch (w : Int32) : Int32 := (((w &&& (255 : Int32)).toUInt32.toUInt16.toUInt32.toInt32).toUInt32.toUInt16.toUInt32.toInt32)
def own_cc (w : Int32) : Int32 := ((own_ch w).toUInt32.toUInt16.toUInt32.toInt32)
theorem own_ccv (c : Int32) (h0 : ¬ c < 0) (h1 : ¬ (255 : Int32) < c) : own_cc (c.toInt8.toInt32) = c := by
  have a := c_i2b c
  have b := c_mask (c.toInt8.toInt32) 255 8 (by decide) (by decide)
  have d := c_i2c ((c.toInt8.toInt32) &&& (255 : Int32))
  have e := c_i2c (((c.toInt8.toInt32) &&& (255 : Int32)).toUInt32.toUInt16.toUInt32.toInt32)
  have f := c_i2c ((((c.toInt8.toInt32) &&& (255 : Int32)).toUInt32.toUInt16.toUInt32.toInt32).toUInt32.toUInt16.toUInt32.toInt32)
  unfold own_cc own_ch
  simp only [Int32.lt_iff_toInt_lt, ← Int32.toInt_inj, Int32.reduceToInt, show ((2 ^ 8 : Nat) : Int) = 256 from rfl] at *
  omega
theorem own_shr0 (x : Int32) : x >>> ((0 : Int32) &&& 31) = x := by
  have a := c_ishr x 0 0 (by decide)
  rw [← Int32.toInt_inj, a]; simp
def own_dig (d : Int32) : Int32 := (((((48 : Int32) + d).toUInt32.toUInt16.toUInt32.toInt32)).toUInt32.toUInt16.toUInt32.toInt32)
def own_dc (d : Int32) : Int32 := ((own_dig d).toUInt32.toUInt16.toUInt32.toInt32)
def own_isd (d : Int32) : Prop := ¬ d < (48 : Int32) ∧ ¬ (57 : Int32) < d
def own_r (d : Int32) : Prop := ¬ d < 0 ∧ ¬ (255 : Int32) < d
theorem own_dr {d : Int32} (h : own_isd d) : own_r d := by
  unfold own_isd at h; unfold own_r
  simp only [Int32.lt_iff_toInt_lt, Int32.reduceToInt] at *; omega
theorem own_dcv (d : Int32) (h0 : 0 ≤ d.toInt) (h1 : d.toInt ≤ 9) : (own_dc d).toInt = 48 + d.toInt := by
  have a := c_iadd 48 d
  have r := rng32 ((48 : Int32) + d)
  have f1 := c_i2c ((48 : Int32) + d)
  have f2 := c_i2c (((48 : Int32) + d).toUInt32.toUInt16.toUInt32.toInt32)
  have f3 := c_i2c ((((48 : Int32) + d).toUInt32.toUInt16.toUInt32.toInt32).toUInt32.toUInt16.toUInt32.toInt32)
  unfold own_dc own_dig
  simp only [Int32.reduceToInt] at a
  omega
theorem own_dd (d : Int32) (h0 : 0 ≤ d.toInt) (h1 : d.toInt ≤ 9) : own_isd (own_dc d) := by
  have q := own_dcv d h0 h1
  unfold own_isd
  simp only [Int32.lt_iff_toInt_lt, Int32.reduceToInt]; omega
theorem own_m (x : Int32) : 0 ≤ ((x.toUInt32 >>> ((8 : Int32) &&& 31).toUInt32).toInt32).toInt := by
  have q := c_iushr x 8 8 (by decide) (by decide)
  rw [q]; exact Int.ediv_nonneg (Int.emod_nonneg _ (by decide)) (by decide)
theorem own_mod (m : Int32) (h : 0 ≤ m.toInt) : 0 ≤ (m % (10 : Int32)).toInt ∧ (m % (10 : Int32)).toInt ≤ 9 := by
  have q := (c_irem m 10 10 rfl).1 h
  omega
theorem own_div (m : Int32) (h : 0 ≤ m.toInt) : 0 ≤ (m / (10 : Int32)).toInt := by
  have q := (c_idiv m 10 10 rfl (by decide)).1 h
  rw [q]; omega
theorem own_d0 (x : Int32) : own_isd (own_dc ((x.toUInt32 >>> ((8 : Int32) &&& 31).toUInt32).toInt32 % (10 : Int32))) := own_dd _ (own_mod _ (own_m x)).1 (own_mod _ (own_m x)).2
theorem own_d1 (x : Int32) : own_isd (own_dc (((x.toUInt32 >>> ((8 : Int32) &&& 31).toUInt32).toInt32 / (10 : Int32)) % (10 : Int32))) := own_dd _ (own_mod _ (own_div _ (own_m x))).1 (own_mod _ (own_div _ (own_m x))).2
theorem own_d9 (m : Int32) (h : 0 ≤ m.toInt) : own_isd (own_dc ((1 : Int32) + (m % (9 : Int32)))) ∧ ¬ own_dc ((1 : Int32) + (m % (9 : Int32))) = (48 : Int32) := by
  have q := (c_irem m 9 9 rfl).1 h
  have a := c_iadd 1 (m % (9 : Int32))
  have r := rng32 ((1 : Int32) + (m % (9 : Int32)))
  simp only [Int32.reduceToInt] at a
  have z := own_dcv ((1 : Int32) + (m % (9 : Int32))) (by omega) (by omega)
  refine ⟨own_dd _ (by omega) (by omega), fun e => ?_⟩
  rw [e] at z
  simp only [Int32.reduceToInt] at z; omega
theorem own_de (x : Int32) : own_isd (own_dc ((1 : Int32) + (((x.toUInt32 >>> ((8 : Int32) &&& 31).toUInt32).toInt32 % (10 : Int32)) % (9 : Int32)))) ∧ ¬ own_dc ((1 : Int32) + (((x.toUInt32 >>> ((8 : Int32) &&& 31).toUInt32).toInt32 % (10 : Int32)) % (9 : Int32))) = (48 : Int32) := own_d9 _ (own_mod _ (own_m x)).1
def own_low (v : Int32) : Int32 := if v = (0 : Int32) then 0 else 1
def own_num (tx : List Int32) : Prop := (∃ d, tx = [d] ∧ own_isd d) ∨ (∃ d, tx = [45, d] ∧ own_isd d) ∨ (∃ d e, tx = [d, e] ∧ own_isd d ∧ own_isd e ∧ ¬ d = (48 : Int32)) ∨ (∃ d e, tx = [d, 46, e] ∧ own_isd d ∧ own_isd e) ∨ (∃ d e, tx = [d, 101, e] ∧ own_isd d ∧ own_isd e) ∨ (∃ d e, tx = [d, 69, e] ∧ own_isd d ∧ own_isd e)
def own_l3 (tx : List Int32) : Prop := (∃ a, tx = [a] ∧ own_r a) ∨ (∃ a b, tx = [a, b] ∧ own_r a ∧ own_r b) ∨ (∃ a b c, tx = [a, b, c] ∧ own_r a ∧ own_r b ∧ own_r c)
theorem own_nl {tx : List Int32} (h : own_num tx) : own_l3 tx := by
  rcases h with ⟨d, e, a⟩ | ⟨d, e, a⟩ | ⟨d, f, e, a, b, -⟩ | ⟨d, f, e, a, b⟩ | ⟨d, f, e, a, b⟩ | ⟨d, f, e, a, b⟩
  · exact Or.inl ⟨_, e, own_dr a⟩
  · exact Or.inr (Or.inl ⟨_, _, e, by unfold own_r; decide, own_dr a⟩)
  · exact Or.inr (Or.inl ⟨_, _, e, own_dr a, own_dr b⟩)
  · exact Or.inr (Or.inr ⟨_, _, _, e, own_dr a, by unfold own_r; decide, own_dr b⟩)
  · exact Or.inr (Or.inr ⟨_, _, _, e, own_dr a, by unfold own_r; decide, own_dr b⟩)
  · exact Or.inr (Or.inr ⟨_, _, _, e, own_dr a, by unfold own_r; decide, own_dr b⟩)
def own_same (tx ty : List Int32) : Int32 := if tx = ty then 1 else 0
theorem own_same1 {tx ty : List Int32} (h : ¬ own_same tx ty = (0 : Int32)) : (1 : Int32) = own_same tx ty := by
  unfold own_same at *
  by_cases q : tx = ty
  · rw [if_pos q]
  · rw [if_neg q] at h; exact absurd rfl h
theorem own_sameC (tx ty : List Int32) : own_same tx ty = own_same ty tx := by
  unfold own_same
  by_cases q : tx = ty
  · rw [if_pos q, if_pos q.symm]
  · rw [if_neg q, if_neg (fun z => q z.symm)]
theorem own_b8 {u v : Int32} (hu : own_r u) (hv : own_r v) : (u.toInt8.toInt32 = v.toInt8.toInt32) = (u = v) := by
  have a := c_i2b u
  have b := c_i2b v
  unfold own_r at hu hv
  simp only [Int32.lt_iff_toInt_lt, ← Int32.toInt_inj, Int32.reduceToInt] at *
  exact propext ⟨fun h => by omega, fun h => by omega⟩
def own_mm (w : Int32) : Int32 := if w = (45 : Int32) then -1 else 0
def own_sw (w : Int32) : Int32 := if own_mm w < 0 then 1 else 0
theorem own_swd {d : Int32} (h : own_isd d) : ((own_sw (d.toInt8.toInt32)) &&& 1) = (0 : Int32) := by
  have n : ¬ d.toInt8.toInt32 = (45 : Int32) := by
    intro e
    have a := c_i2b d
    unfold own_isd at h
    simp only [Int32.lt_iff_toInt_lt, ← Int32.toInt_inj, Int32.reduceToInt] at *
    omega
  unfold own_sw own_mm
  rw [if_neg n]; decide
theorem own_dne {d k : Int32} (h : own_isd d) (hk : k < (48 : Int32)) : ¬ d = k := by
  intro e; subst e; exact h.1 hk
theorem own_no {Z : State} {a0 : Array Value} {C S K : String} {n : Nat} (w : (Cond.superclass C S).before a0 Z = true) (w0 : (Cond.noSuperclass S).before a0 Z = true) (wk : (Cond.instantiable K n).before a0 Z = true) (h1 : C ≠ K) (h2 : S ≠ K) : ∃ c t, Z.vm.findClass C = some c ∧ Z.vm.findClass K = some t ∧ Z.vm.assignable c t = false := by
  obtain ⟨t, kt, g1, g2, g3, g4, -, -⟩ := Cond.instantiable_spec wk
  obtain ⟨o, ko, o1, o2, o3, -, -⟩ := Cond.noSuperclass_spec w0
  obtain ⟨c, h0⟩ := found_sup w
  obtain ⟨p, k, kp, q1, q2, q3, q4, q5, -, -⟩ := Cond.superclass_spec h0 w
  cases o1.symm.trans q1
  have ne := ids_ne h0 g1 h1
  have ne2 := ids_ne o1 g1 h2
  have gi : kt.isInterface = false := by
    cases hI : kt.isInterface with
    | false => rfl
    | true => rw [hI] at g4; simp at g4
  refine ⟨c, t, h0, g1, ?_⟩
  have n3 : ∀ fuel, Z.vm.isSubclassAux fuel c t = false := by
    intro fuel
    cases fuel with
    | zero => rfl
    | succ f =>
      cases f with
      | zero => simp [Vm.isSubclassAux, ne, q2, q4]
      | succ g => simp [Vm.isSubclassAux, ne, q2, q4, ne2, o2, o3]
  show Z.vm.assignableAux (255 + 1) c t = false
  simp [Vm.assignableAux, ne, q2, g2, q5, g3, gi, Vm.isSubclass, n3]
theorem own_rall {tx : List Int32} (h : own_l3 tx) : ∀ c ∈ tx, ¬ c < 0 ∧ ¬ (255 : Int32) < c := by
  rcases h with ⟨a, rfl, ha⟩ | ⟨a, b, rfl, ha, hb⟩ | ⟨a, b, c, rfl, ha, hb, hc⟩
  · intro q hq; simp only [List.mem_cons, List.not_mem_nil, or_false] at hq; subst hq; exact ha
  · intro q hq; simp only [List.mem_cons, List.not_mem_nil, or_false] at hq; rcases hq with rfl | rfl; exact ha; exact hb
  · intro q hq; simp only [List.mem_cons, List.not_mem_nil, or_false] at hq; rcases hq with rfl | rfl | rfl; exact ha; exact hb; exact hc
abbrev yy_0 : MethodName := (⟨"jdk/internal/util/Preconditions", "checkIndex", "(IILjava/util/function/BiFunction;)I"⟩ : MethodName)
abbrev yy_1 : MethodName := (⟨"java/lang/String", "checkIndex", "(II)V"⟩ : MethodName)
abbrev yy_2 : MethodName := (⟨"java/lang/StringLatin1", "charAt", "([BI)C"⟩ : MethodName)
abbrev yy_3 : MethodName := (⟨"java/lang/String", "isLatin1", "()Z"⟩ : MethodName)
abbrev yy_4 : MethodName := (⟨"java/lang/String", "charAt", "(I)C"⟩ : MethodName)
abbrev yy_5 : MethodName := (⟨"java/lang/String", "coder", "()B"⟩ : MethodName)
abbrev yy_6 : MethodName := (⟨"java/lang/String", "length", "()I"⟩ : MethodName)
abbrev yy_7 : MethodName := (⟨"jdk/internal/util/ArraysSupport", "mismatch", "([BI[BII)I"⟩ : MethodName)
abbrev yy_8 : MethodName := (⟨"java/lang/String", "startsWith", "(Ljava/lang/String;I)Z"⟩ : MethodName)
abbrev yy_9 : MethodName := (⟨"java/lang/String", "startsWith", "(Ljava/lang/String;)Z"⟩ : MethodName)
abbrev yy_10 : MethodName := (⟨"com/example/millrace/millrace/model/FieldType", "skipDigits", "(Ljava/lang/String;I)I"⟩ : MethodName)
abbrev yy_11 : MethodName := (⟨"com/example/millrace/millrace/model/Numeral", "isJsonNumber", "(Ljava/lang/String;)Z"⟩ : MethodName)
abbrev yy_12 : MethodName := (⟨"java/util/Objects", "requireNonNull", "(Ljava/lang/Object;Ljava/lang/String;)Ljava/lang/Object;"⟩ : MethodName)
abbrev yy_13 : MethodName := (⟨"com/example/millrace/millrace/model/Numeral", "<init>", "(Ljava/lang/String;)V"⟩ : MethodName)
abbrev yy_14 : MethodName := (⟨"com/example/millrace/millrace/model/NumeralEqualsPinLaw", "digit", "(I)C"⟩ : MethodName)
abbrev yy_15 : MethodName := (⟨"java/lang/String", "<init>", "([C)V"⟩ : MethodName)
abbrev yy_16 : MethodName := (⟨"com/example/millrace/millrace/model/NumeralEqualsPinLaw", "make", "(I)Ljava/lang/String;"⟩ : MethodName)
abbrev yy_17 : MethodName := (⟨"com/example/millrace/millrace/model/NumeralEqualsPinLaw", "sameText", "(Ljava/lang/String;Ljava/lang/String;)Z"⟩ : MethodName)
abbrev yy_18 : MethodName := (⟨"java/lang/StringLatin1", "equals", "([B[B)Z"⟩ : MethodName)
abbrev yy_19 : MethodName := (⟨"java/lang/String", "equals", "(Ljava/lang/Object;)Z"⟩ : MethodName)
abbrev yy_20 : MethodName := (⟨"com/example/millrace/millrace/model/Numeral", "equals", "(Ljava/lang/Object;)Z"⟩ : MethodName)
theorem pd_0 : parseMethodDescriptor "(IILjava/util/function/BiFunction;)I" = some ⟨[.int, .int, (.object "java/util/function/BiFunction")], some .int⟩ := by decide +kernel
theorem pd_1 : parseMethodDescriptor "(II)V" = some ⟨[.int, .int], none⟩ := by decide +kernel
theorem pd_2 : parseMethodDescriptor "()Z" = some ⟨[], some .boolean⟩ := by decide +kernel
theorem pd_3 : parseMethodDescriptor "([BI)C" = some ⟨[(.array .byte), .int], some .char⟩ := by decide +kernel
theorem pd_4 : parseMethodDescriptor "()B" = some ⟨[], some .byte⟩ := by decide +kernel
theorem pd_5 : parseMethodDescriptor "()I" = some ⟨[], some .int⟩ := by decide +kernel
theorem pd_6 : parseMethodDescriptor "([BI[BII)I" = some ⟨[(.array .byte), .int, (.array .byte), .int, .int], some .int⟩ := by decide +kernel
theorem pd_7 : parseMethodDescriptor "(Ljava/lang/String;I)Z" = some ⟨[(.object "java/lang/String"), .int], some .boolean⟩ := by decide +kernel
theorem pd_8 : parseMethodDescriptor "(I)C" = some ⟨[.int], some .char⟩ := by decide +kernel
theorem pd_9 : parseMethodDescriptor "(Ljava/lang/String;)Z" = some ⟨[(.object "java/lang/String")], some .boolean⟩ := by decide +kernel
theorem pd_10 : parseMethodDescriptor "(Ljava/lang/String;I)I" = some ⟨[(.object "java/lang/String"), .int], some .int⟩ := by decide +kernel
theorem pd_11 : parseMethodDescriptor "(Ljava/lang/Object;Ljava/lang/String;)Ljava/lang/Object;" = some ⟨[(.object "java/lang/Object"), (.object "java/lang/String")], some (.object "java/lang/Object")⟩ := by decide +kernel
theorem pd_12 : parseMethodDescriptor "([C)V" = some ⟨[(.array .char)], none⟩ := by decide +kernel
theorem pd_13 : parseMethodDescriptor "([B[B)Z" = some ⟨[(.array .byte), (.array .byte)], some .boolean⟩ := by decide +kernel
theorem pd_14 : parseMethodDescriptor "(Ljava/lang/Object;)Z" = some ⟨[(.object "java/lang/Object")], some .boolean⟩ := by decide +kernel
theorem pd_15 : parseMethodDescriptor "(I)Ljava/lang/String;" = some ⟨[.int], some (.object "java/lang/String")⟩ := by decide +kernel
theorem pd_16 : parseMethodDescriptor "(Ljava/lang/String;)V" = some ⟨[(.object "java/lang/String")], none⟩ := by decide +kernel
theorem pd_17 : parseMethodDescriptor "(Ljava/lang/String;Ljava/lang/String;)Z" = some ⟨[(.object "java/lang/String"), (.object "java/lang/String")], some .boolean⟩ := by decide +kernel
theorem d22_0 : decode jdk_41_method_11_code 0 = .ok (.iload_n 0, 1) := by decide +kernel
theorem d22_1 : decode jdk_41_method_11_code 1 = .ok (.ifCond .lt 8, 3) := by decide +kernel
theorem d22_4 : decode jdk_41_method_11_code 4 = .ok (.iload_n 0, 1) := by decide +kernel
theorem d22_5 : decode jdk_41_method_11_code 5 = .ok (.iload_n 1, 1) := by decide +kernel
theorem d22_6 : decode jdk_41_method_11_code 6 = .ok (.if_icmp .lt 10, 3) := by decide +kernel
theorem d22_16 : decode jdk_41_method_11_code 16 = .ok (.iload_n 0, 1) := by decide +kernel
theorem d22_17 : decode jdk_41_method_11_code 17 = .ok (.ireturn, 1) := by decide +kernel
theorem pn_22 : plainName "jdk/internal/util/Preconditions" = true := by first | (simp [plainName, overriddenIn]; done) | decide +kernel
theorem ef_22n (m : MethodId) (x0 : Int32) (x1 : Int32) : entryFrame m #[(.int x0), (.int x1), .null] 3 = mkF m 0 #[.val (.int x0), .val (.int x1), .val .null] [] := by first | (simp [entryFrame, mkF, argsToLocals, Value.category]; done) | rfl
def Q22n (Z : State) (p0 : Int32) (p1 : Int32) (h0 : Heap) (n0 : Nat) (v : Option Value) (h : Heap) (L : List Loc) : Prop := v = some (.int p0) ∧ Fr n0 L ∧ h = h0
set_option maxRecDepth 65536 in
set_option maxHeartbeats 40000000 in
theorem rm22n (l : Launch) (Z : State) (a0 : Array Value) (hw : ∀ d ∈ tables_1, d.before a0 Z = true) (ws : List Jvm.Cond) (p0 : Int32) (p1 : Int32)  (h0 : Heap) (n0 : Nat) (Z0 : n0 ≤ h0.size) (hp0 : ¬ p0 < (0 : Int32)) (hp1 : p0 < p1) :
    MetFree l yy_0 (head1 (Jvm.Cond.code yy_0 jdk_41_method_11_code 3 (some .int) :: ws) ({ frames := 0, cells := 0, slots := 0, locals := 0 } : Room)) (fun a U => a = #[(.int p0), (.int p1), .null] ∧ Z.Warmed39 U.vm ∧ U.heap = h0) (fun _ _ _ _ _ => True) (fun _ U o U' => ∃ v L, o = .returned v ∧ Q22n Z p0 p1 h0 n0 v U'.heap L ∧ FrameEnd U o U' L ({ frames := 0, cells := 0, slots := 0, locals := 0 } : Room).cells ({ frames := 0, cells := 0, slots := 0, locals := 0 } : Room).slots) := by
  refine MetFree.of_bodySF (plainFor_of_name pn_22) hisR ?_
  intro p e s m args below meth c s₁ Bd hml0 hP hK
  obtain ⟨rfl, hZ, hh⟩ := hP
  have hx := Bd.exec
  have hby := Bd.bytes
  have hml : c.maxLocals = 3 := hml0
  have hown : s.vm.findClass "jdk/internal/util/Preconditions" = some m.cls := findClass_of_methodNamed Bd.named
  have hnm := (name_of_methodNamed Bd.named Bd.method).1
  have X0 : Stand p l e ({ frames := 0, cells := 0, slots := 0, locals := 0 } : Room) s m #[(.int p0), (.int p1), .null] below meth c s₁ [] 0 0 := Stand.of_body Bd
  have e0 : s₁.heap = h0 := by rw [← hh, Bd.state]; rfl
  have N0 := Fr.nil n0
  have pre0 : ∀ t, Steps p.tables e below (s₁.setTop (mkF m 0 #[oi p0, oi p1, .val .null] [])) t → Steps p.tables e below (s₁.setTop (entryFrame m #[(.int p0), (.int p1), .null] 3)) t := fun t k => castTop (ef_22n m p0 p1) k
  have c2 : own_G p e below s₁ (mkF m 1 #[oi p0, oi p1, .val .null] [(.int p0)]) (mkF m 0 #[oi p0, oi p1, .val .null] []) := by
    intro t kt
    show oS s₁ (mkF m 0 #[oi p0, oi p1, .val .null] []) _
    refine XS.iloadN X0.here hx rfl (hb hby d22_0) rfl ?_
    exact kt
  have hd1 : ¬ (p0 < (0 : Int32)) := hp0
  have c4 : own_G p e below s₁ (mkF m 6 #[oi p0, oi p1, .val .null] [(.int p1), (.int p0)]) (mkF m 1 #[oi p0, oi p1, .val .null] [(.int p0)]) := by
    intro t kt
    show oS s₁ (mkF m 1 #[oi p0, oi p1, .val .null] [(.int p0)]) _
    refine XS.ifNo X0.here hx rfl (hb hby d22_1) rfl ((if0 _ _).trans (flt hd1).1) ?_
    show oS s₁ (mkF m 4 #[oi p0, oi p1, .val .null] []) _
    refine XS.iloadN X0.here hx rfl (hb hby d22_4) rfl ?_
    show oS s₁ (mkF m 5 #[oi p0, oi p1, .val .null] [(.int p0)]) _
    refine XS.iloadN X0.here hx rfl (hb hby d22_5) rfl ?_
    exact kt
  have hd3 : p0 < p1 := hp1
  have c5 : own_G p e below s₁ (mkF m 17 #[oi p0, oi p1, .val .null] [(.int p0)]) (mkF m 6 #[oi p0, oi p1, .val .null] [(.int p1), (.int p0)]) := by
    intro t kt
    show oS s₁ (mkF m 6 #[oi p0, oi p1, .val .null] [(.int p1), (.int p0)]) _
    refine XS.icmpYes X0.here hx rfl (pc0 := 6) (pc' := 16) rfl (hb hby d22_6) rfl (tlt hd3).1 (by decide) (by decide) ?_
    show oS s₁ (mkF m 16 #[oi p0, oi p1, .val .null] []) _
    refine XS.iloadN X0.here hx rfl (hb hby d22_16) rfl ?_
    exact kt
  obtain ⟨fs, hr, hrun, hended, hW, hsame⟩ := X0.leave (v := some (.int p0)) (fun h => by rw [Bd.returns] at h; cases h)
  refine ⟨_, _, pre0 _ (c2 _ (c4 _ (c5 _ (?_)))), hrun, hended, _, _, rfl, ?_, ⟨_, rfl⟩, hW, hsame.mono (by decide) (by decide)⟩
  · show Steps p.tables e below (s₁.setTop (mkF m 17 #[oi p0, oi p1, .val .null] [(.int p0)])) _
    exact retI X0 hx Bd.returns (hb hby d22_17) hr
  · show Q22n Z p0 p1 h0 n0 _ s₁.heap _
    rw [e0]
    exact ⟨congrArg (fun z => some (Value.int z)) (show p0 = p0 from by rfl), N0, rfl⟩
theorem ef_22 (m : MethodId) (x0 : Int32) (x1 : Int32) (x2 : Addr) : entryFrame m #[(.int x0), (.int x1), (.ref x2)] 3 = mkF m 0 #[.val (.int x0), .val (.int x1), .val (.ref x2)] [] := by first | (simp [entryFrame, mkF, argsToLocals, Value.category]; done) | rfl
def Q22r (Z : State) (p0 : Int32) (p1 : Int32) (r2 : Addr) (h0 : Heap) (n0 : Nat) (v : Option Value) (h : Heap) (L : List Loc) : Prop := v = some (.int p0) ∧ Fr n0 L ∧ h = h0
set_option maxRecDepth 65536 in
set_option maxHeartbeats 40000000 in
theorem rm22r (l : Launch) (Z : State) (a0 : Array Value) (hw : ∀ d ∈ tables_1, d.before a0 Z = true) (ws : List Jvm.Cond) (p0 : Int32) (p1 : Int32) (r2 : Addr)  (h0 : Heap) (n0 : Nat) (Z0 : n0 ≤ h0.size) (hp0 : ¬ p0 < (0 : Int32)) (hp1 : p0 < p1) :
    MetFree l yy_0 (head1 (Jvm.Cond.code yy_0 jdk_41_method_11_code 3 (some .int) :: ws) ({ frames := 0, cells := 0, slots := 0, locals := 0 } : Room)) (fun a U => a = #[(.int p0), (.int p1), (.ref r2)] ∧ Z.Warmed39 U.vm ∧ U.heap = h0) (fun _ _ _ _ _ => True) (fun _ U o U' => ∃ v L, o = .returned v ∧ Q22r Z p0 p1 r2 h0 n0 v U'.heap L ∧ FrameEnd U o U' L ({ frames := 0, cells := 0, slots := 0, locals := 0 } : Room).cells ({ frames := 0, cells := 0, slots := 0, locals := 0 } : Room).slots) := by
  refine MetFree.of_bodySF (plainFor_of_name pn_22) hisR ?_
  intro p e s m args below meth c s₁ Bd hml0 hP hK
  obtain ⟨rfl, hZ, hh⟩ := hP
  have hx := Bd.exec
  have hby := Bd.bytes
  have hml : c.maxLocals = 3 := hml0
  have hown : s.vm.findClass "jdk/internal/util/Preconditions" = some m.cls := findClass_of_methodNamed Bd.named
  have hnm := (name_of_methodNamed Bd.named Bd.method).1
  have X0 : Stand p l e ({ frames := 0, cells := 0, slots := 0, locals := 0 } : Room) s m #[(.int p0), (.int p1), (.ref r2)] below meth c s₁ [] 0 0 := Stand.of_body Bd
  have e0 : s₁.heap = h0 := by rw [← hh, Bd.state]; rfl
  have N0 := Fr.nil n0
  have pre0 : ∀ t, Steps p.tables e below (s₁.setTop (mkF m 0 #[oi p0, oi p1, oa r2] [])) t → Steps p.tables e below (s₁.setTop (entryFrame m #[(.int p0), (.int p1), (.ref r2)] 3)) t := fun t k => castTop (ef_22 m p0 p1 r2) k
  have c2 : own_G p e below s₁ (mkF m 1 #[oi p0, oi p1, oa r2] [(.int p0)]) (mkF m 0 #[oi p0, oi p1, oa r2] []) := by
    intro t kt
    show oS s₁ (mkF m 0 #[oi p0, oi p1, oa r2] []) _
    refine XS.iloadN X0.here hx rfl (hb hby d22_0) rfl ?_
    exact kt
  have hd1 : ¬ (p0 < (0 : Int32)) := hp0
  have c4 : own_G p e below s₁ (mkF m 6 #[oi p0, oi p1, oa r2] [(.int p1), (.int p0)]) (mkF m 1 #[oi p0, oi p1, oa r2] [(.int p0)]) := by
    intro t kt
    show oS s₁ (mkF m 1 #[oi p0, oi p1, oa r2] [(.int p0)]) _
    refine XS.ifNo X0.here hx rfl (hb hby d22_1) rfl ((if0 _ _).trans (flt hd1).1) ?_
    show oS s₁ (mkF m 4 #[oi p0, oi p1, oa r2] []) _
    refine XS.iloadN X0.here hx rfl (hb hby d22_4) rfl ?_
    show oS s₁ (mkF m 5 #[oi p0, oi p1, oa r2] [(.int p0)]) _
    refine XS.iloadN X0.here hx rfl (hb hby d22_5) rfl ?_
    exact kt
  have hd3 : p0 < p1 := hp1
  have c5 : own_G p e below s₁ (mkF m 17 #[oi p0, oi p1, oa r2] [(.int p0)]) (mkF m 6 #[oi p0, oi p1, oa r2] [(.int p1), (.int p0)]) := by
    intro t kt
    show oS s₁ (mkF m 6 #[oi p0, oi p1, oa r2] [(.int p1), (.int p0)]) _
    refine XS.icmpYes X0.here hx rfl (pc0 := 6) (pc' := 16) rfl (hb hby d22_6) rfl (tlt hd3).1 (by decide) (by decide) ?_
    show oS s₁ (mkF m 16 #[oi p0, oi p1, oa r2] []) _
    refine XS.iloadN X0.here hx rfl (hb hby d22_16) rfl ?_
    exact kt
  obtain ⟨fs, hr, hrun, hended, hW, hsame⟩ := X0.leave (v := some (.int p0)) (fun h => by rw [Bd.returns] at h; cases h)
  refine ⟨_, _, pre0 _ (c2 _ (c4 _ (c5 _ (?_)))), hrun, hended, _, _, rfl, ?_, ⟨_, rfl⟩, hW, hsame.mono (by decide) (by decide)⟩
  · show Steps p.tables e below (s₁.setTop (mkF m 17 #[oi p0, oi p1, oa r2] [(.int p0)])) _
    exact retI X0 hx Bd.returns (hb hby d22_17) hr
  · show Q22r Z p0 p1 r2 h0 n0 _ s₁.heap _
    rw [e0]
    exact ⟨congrArg (fun z => some (Value.int z)) (show p0 = p0 from by rfl), N0, rfl⟩
theorem d21_0 : decode jdk_42_method_155_code 0 = .ok (.iload_n 0, 1) := by decide +kernel
theorem d21_1 : decode jdk_42_method_155_code 1 = .ok (.iload_n 1, 1) := by decide +kernel
theorem d21_2 : decode jdk_42_method_155_code 2 = .ok (.getstatic 1053, 3) := by decide +kernel
theorem d21_5 : decode jdk_42_method_155_code 5 = .ok (.invokestatic 1059, 3) := by decide +kernel
theorem d21_8 : decode jdk_42_method_155_code 8 = .ok (.pop, 1) := by decide +kernel
theorem d21_9 : decode jdk_42_method_155_code 9 = .ok (.return_, 1) := by decide +kernel
theorem pn_21 : plainName "java/lang/String" = true := by first | (simp [plainName, overriddenIn]; done) | decide +kernel
theorem ef_21 (m : MethodId) (x0 : Int32) (x1 : Int32) : entryFrame m #[(.int x0), (.int x1)] 2 = mkF m 0 #[.val (.int x0), .val (.int x1)] [] := by first | (simp [entryFrame, mkF, argsToLocals, Value.category]; done) | rfl
def Q21 (Z : State) (p0 : Int32) (p1 : Int32) (fm : Value) (h0 : Heap) (n0 : Nat) (v : Option Value) (h : Heap) (L : List Loc) : Prop := v = none ∧ Fr n0 L ∧ h = h0
set_option maxRecDepth 65536 in
set_option maxHeartbeats 40000000 in
theorem rm21 (l : Launch) (Z : State) (a0 : Array Value) (hw : ∀ d ∈ tables_1, d.before a0 Z = true) (ws : List Jvm.Cond) (p0 : Int32) (p1 : Int32) (fm : Value) (h0 : Heap) (n0 : Nat) (Z0 : n0 ≤ h0.size) (hp0 : ¬ p0 < (0 : Int32)) (hp1 : p0 < p1) (SF : Sta Z h0 "jdk/internal/util/Preconditions" "SIOOBE_FORMATTER" "Ljava/util/function/BiFunction;" fm) (hfm : fm.isRef = true) :
    MetFree l yy_1 (head1 (Jvm.Cond.code yy_1 jdk_42_method_155_code 2 none :: ws) ({ frames := 1, cells := 0, slots := 0, locals := 14 } : Room)) (fun a U => a = #[(.int p0), (.int p1)] ∧ Z.Warmed39 U.vm ∧ U.heap = h0) (fun _ _ _ _ _ => True) (fun _ U o U' => ∃ v L, o = .returned v ∧ Q21 Z p0 p1 fm h0 n0 v U'.heap L ∧ FrameEnd U o U' L ({ frames := 1, cells := 0, slots := 0, locals := 14 } : Room).cells ({ frames := 1, cells := 0, slots := 0, locals := 14 } : Room).slots) := by
  refine MetFree.of_bodySF (plainFor_of_name pn_21) hisR ?_
  intro p e s m args below meth c s₁ Bd hml0 hP hK
  obtain ⟨rfl, hZ, hh⟩ := hP
  have hx := Bd.exec
  have hby := Bd.bytes
  have hml : c.maxLocals = 2 := hml0
  have hown : s.vm.findClass "java/lang/String" = some m.cls := findClass_of_methodNamed Bd.named
  have hnm := (name_of_methodNamed Bd.named Bd.method).1
  have X0 : Stand p l e ({ frames := 1, cells := 0, slots := 0, locals := 14 } : Room) s m #[(.int p0), (.int p1)] below meth c s₁ [] 0 0 := Stand.of_body Bd
  have e0 : s₁.heap = h0 := by rw [← hh, Bd.state]; rfl
  have N0 := Fr.nil n0
  have pre0 : ∀ t, Steps p.tables e below (s₁.setTop (mkF m 0 #[oi p0, oi p1] [])) t → Steps p.tables e below (s₁.setTop (entryFrame m #[(.int p0), (.int p1)] 2)) t := fun t k => castTop (ef_21 m p0 p1) k
  rcases ref_cases hfm with rfl | ⟨fa, rfl⟩
  · skip
    have c2 : own_G p e below s₁ (mkF m 2 #[oi p0, oi p1] [(.int p1), (.int p0)]) (mkF m 0 #[oi p0, oi p1] []) := by
      intro t kt
      show oS s₁ (mkF m 0 #[oi p0, oi p1] []) _
      refine XS.iloadN X0.here hx rfl (hb hby d21_0) rfl ?_
      show oS s₁ (mkF m 1 #[oi p0, oi p1] [(.int p0)]) _
      refine XS.iloadN X0.here hx rfl (hb hby d21_1) rfl ?_
      exact kt
    obtain ⟨T1, X1, e1, st1⟩ := getS2 X0 hx hZ hown (host := "") (Or.inl (own_t hw 102 rfl)) Via.refl e0 SF (g := (mkF m 2 #[oi p0, oi p1] [(.int p1), (.int p0)])) rfl (hb hby d21_2)
    obtain ⟨_, _, ⟨T3, L3, k3, n3⟩, -, X3, ⟨Lc3, hQ3, l3, y3, z3⟩, st3⟩ := Jvm.LawKit.callS X1 hx (y := yy_0) hown (mvT hZ (own_t hw 104 rfl)) (mvT hZ (own_t hw 105 rfl)) (mvT hZ (own_t hw 103 rfl)) (mvT hZ (own_t hw 106 rfl)) (by decide) (backOf (W := 0) (rm22n l Z a0 hw [] p0 p1  h0 n0 Z0 hp0 hp1) hZ (own_t hw 106 rfl) (own_t hw 103 rfl) (by decide) (by decide)) (g := (mkF m 5 #[oi p0, oi p1] [.null, (.int p1), (.int p0)])) rfl (by rw [hml]; rfl) (argsL := [(.int p0), (.int p1), .null]) (rest := []) (lenOf pd_0 rfl) rfl (by show 2 * 0 + _ ≤ _; exact Nat.le_of_eq rfl) (hb hby d21_5) (fun _ _ => ⟨rfl, e1, (by decide : 0 + 0 ≤ _), (by decide : 0 + 0 ≤ _)⟩)
    dsimp only [Pt.U, Pt.locs, Pt.cells, Pt.slots] at X3 l3 y3 z3 st3 hQ3
    subst l3 y3 z3
    obtain ⟨rfl, N3q, e3⟩ := hQ3
    have N3 := Fr.app N0 N3q
    have c4 : own_G p e below T3 (mkF m 9 #[oi p0, oi p1] []) (mkF m 8 #[oi p0, oi p1] [(.int p0)]) := by
      intro t kt
      show oS T3 (mkF m 8 #[oi p0, oi p1] [(.int p0)]) _
      refine XS.pop X3.here hx rfl (hb hby d21_8) rfl rfl ?_
      exact kt
    obtain ⟨fs, hr, hrun, hended, hW, hsame⟩ := X3.leave (v := none) (fun _ => rfl)
    refine ⟨_, _, pre0 _ (c2 _ (st1 _ (st3 _ (c4 _ (?_))))), hrun, hended, _, _, rfl, ?_, ⟨_, rfl⟩, hW, hsame.mono (by decide) (by decide)⟩
    · show Steps p.tables e below (T3.setTop (mkF m 9 #[oi p0, oi p1] [])) _
      exact X3.returnOut hx Bd.returns (hb hby d21_9) hr
    · show Q21 Z p0 p1 _ h0 n0 _ T3.heap _
      rw [e3]
      exact ⟨rfl, N3, rfl⟩
  · skip
    have c7 : own_G p e below s₁ (mkF m 2 #[oi p0, oi p1] [(.int p1), (.int p0)]) (mkF m 0 #[oi p0, oi p1] []) := by
      intro t kt
      show oS s₁ (mkF m 0 #[oi p0, oi p1] []) _
      refine XS.iloadN X0.here hx rfl (hb hby d21_0) rfl ?_
      show oS s₁ (mkF m 1 #[oi p0, oi p1] [(.int p0)]) _
      refine XS.iloadN X0.here hx rfl (hb hby d21_1) rfl ?_
      exact kt
    obtain ⟨T6, X6, e6, st6⟩ := getS2 X0 hx hZ hown (host := "") (Or.inl (own_t hw 102 rfl)) Via.refl e0 SF (g := (mkF m 2 #[oi p0, oi p1] [(.int p1), (.int p0)])) rfl (hb hby d21_2)
    obtain ⟨_, _, ⟨T8, L8, k8, n8⟩, -, X8, ⟨Lc8, hQ8, l8, y8, z8⟩, st8⟩ := Jvm.LawKit.callS X6 hx (y := yy_0) hown (mvT hZ (own_t hw 104 rfl)) (mvT hZ (own_t hw 105 rfl)) (mvT hZ (own_t hw 103 rfl)) (mvT hZ (own_t hw 106 rfl)) (by decide) (backOf (W := 0) (rm22r l Z a0 hw [] p0 p1 fa  h0 n0 Z0 hp0 hp1) hZ (own_t hw 106 rfl) (own_t hw 103 rfl) (by decide) (by decide)) (g := (mkF m 5 #[oi p0, oi p1] [(.ref fa), (.int p1), (.int p0)])) rfl (by rw [hml]; rfl) (argsL := [(.int p0), (.int p1), (.ref fa)]) (rest := []) (lenOf pd_0 rfl) rfl (by show 2 * 0 + _ ≤ _; exact Nat.le_of_eq rfl) (hb hby d21_5) (fun _ _ => ⟨rfl, e6, (by decide : 0 + 0 ≤ _), (by decide : 0 + 0 ≤ _)⟩)
    dsimp only [Pt.U, Pt.locs, Pt.cells, Pt.slots] at X8 l8 y8 z8 st8 hQ8
    subst l8 y8 z8
    obtain ⟨rfl, N8q, e8⟩ := hQ8
    have N8 := Fr.app N0 N8q
    have c9 : own_G p e below T8 (mkF m 9 #[oi p0, oi p1] []) (mkF m 8 #[oi p0, oi p1] [(.int p0)]) := by
      intro t kt
      show oS T8 (mkF m 8 #[oi p0, oi p1] [(.int p0)]) _
      refine XS.pop X8.here hx rfl (hb hby d21_8) rfl rfl ?_
      exact kt
    obtain ⟨fs, hr, hrun, hended, hW, hsame⟩ := X8.leave (v := none) (fun _ => rfl)
    refine ⟨_, _, pre0 _ (c7 _ (st6 _ (st8 _ (c9 _ (?_))))), hrun, hended, _, _, rfl, ?_, ⟨_, rfl⟩, hW, hsame.mono (by decide) (by decide)⟩
    · show Steps p.tables e below (T8.setTop (mkF m 9 #[oi p0, oi p1] [])) _
      exact X8.returnOut hx Bd.returns (hb hby d21_9) hr
    · show Q21 Z p0 p1 _ h0 n0 _ T8.heap _
      rw [e8]
      exact ⟨rfl, N8, rfl⟩
theorem d20_0 : decode jdk_43_method_2_code 0 = .ok (.iload_n 1, 1) := by decide +kernel
theorem d20_1 : decode jdk_43_method_2_code 1 = .ok (.aload_n 0, 1) := by decide +kernel
theorem d20_2 : decode jdk_43_method_2_code 2 = .ok (.arraylength, 1) := by decide +kernel
theorem d20_3 : decode jdk_43_method_2_code 3 = .ok (.invokestatic 9, 3) := by decide +kernel
theorem d20_6 : decode jdk_43_method_2_code 6 = .ok (.aload_n 0, 1) := by decide +kernel
theorem d20_7 : decode jdk_43_method_2_code 7 = .ok (.iload_n 1, 1) := by decide +kernel
theorem d20_8 : decode jdk_43_method_2_code 8 = .ok (.baload, 1) := by decide +kernel
theorem d20_9 : decode jdk_43_method_2_code 9 = .ok (.sipush 255, 3) := by decide +kernel
theorem d20_12 : decode jdk_43_method_2_code 12 = .ok (.iand, 1) := by decide +kernel
theorem d20_13 : decode jdk_43_method_2_code 13 = .ok (.i2c, 1) := by decide +kernel
theorem d20_14 : decode jdk_43_method_2_code 14 = .ok (.ireturn, 1) := by decide +kernel
theorem pn_20 : plainName "java/lang/StringLatin1" = true := by first | (simp [plainName, overriddenIn]; done) | decide +kernel
theorem ef_20 (m : MethodId) (x0 : Addr) (x1 : Int32) : entryFrame m #[(.ref x0), (.int x1)] 2 = mkF m 0 #[.val (.ref x0), .val (.int x1)] [] := by first | (simp [entryFrame, mkF, argsToLocals, Value.category]; done) | rfl
def Q20 (Z : State) (r0 : Addr) (p1 : Int32) (kk : ClassId) (zz : Int32) (vs : List Value) (dv : Value) (w0 : Int32) (fm : Value) (h0 : Heap) (n0 : Nat) (v : Option Value) (h : Heap) (L : List Loc) : Prop := v = some (.int (own_ch w0)) ∧ Fr n0 L ∧ h = h0
set_option maxRecDepth 65536 in
set_option maxHeartbeats 40000000 in
theorem rm20 (l : Launch) (Z : State) (a0 : Array Value) (hw : ∀ d ∈ tables_1, d.before a0 Z = true) (ws : List Jvm.Cond) (r0 : Addr) (p1 : Int32) (kk : ClassId) (zz : Int32) (vs : List Value) (dv : Value) (w0 : Int32) (fm : Value) (h0 : Heap) (n0 : Nat) (Z0 : n0 ≤ h0.size) (V : Arv Z h0 r0 kk .byte zz vs dv) (hi0 : ¬ p1 < 0 ∧ p1 < zz) (ha0 : vs.getD p1.toNatClampNeg dv = .int w0) (SF : Sta Z h0 "jdk/internal/util/Preconditions" "SIOOBE_FORMATTER" "Ljava/util/function/BiFunction;" fm) (hfm : fm.isRef = true) :
    MetFree l yy_2 (head1 (Jvm.Cond.code yy_2 jdk_43_method_2_code 2 (some .char) :: ws) ({ frames := 2, cells := 0, slots := 0, locals := 27 } : Room)) (fun a U => a = #[(.ref r0), (.int p1)] ∧ Z.Warmed39 U.vm ∧ U.heap = h0) (fun _ _ _ _ _ => True) (fun _ U o U' => ∃ v L, o = .returned v ∧ Q20 Z r0 p1 kk zz vs dv w0 fm h0 n0 v U'.heap L ∧ FrameEnd U o U' L ({ frames := 2, cells := 0, slots := 0, locals := 27 } : Room).cells ({ frames := 2, cells := 0, slots := 0, locals := 27 } : Room).slots) := by
  refine MetFree.of_bodySF (plainFor_of_name pn_20) hisR ?_
  intro p e s m args below meth c s₁ Bd hml0 hP hK
  obtain ⟨rfl, hZ, hh⟩ := hP
  have hx := Bd.exec
  have hby := Bd.bytes
  have hml : c.maxLocals = 2 := hml0
  have hown : s.vm.findClass "java/lang/StringLatin1" = some m.cls := findClass_of_methodNamed Bd.named
  have hnm := (name_of_methodNamed Bd.named Bd.method).1
  have X0 : Stand p l e ({ frames := 2, cells := 0, slots := 0, locals := 27 } : Room) s m #[(.ref r0), (.int p1)] below meth c s₁ [] 0 0 := Stand.of_body Bd
  have e0 : s₁.heap = h0 := by rw [← hh, Bd.state]; rfl
  have N0 := Fr.nil n0
  have pre0 : ∀ t, Steps p.tables e below (s₁.setTop (mkF m 0 #[oa r0, oi p1] [])) t → Steps p.tables e below (s₁.setTop (entryFrame m #[(.ref r0), (.int p1)] 2)) t := fun t k => castTop (ef_20 m r0 p1) k
  have Vc1 := V
  obtain ⟨cl1, Ar1, qk1, S1, M1, H1, G1⟩ := Vc1
  have c2 : own_G p e below s₁ (mkF m 3 #[oa r0, oi p1] [(.int zz), (.int p1)]) (mkF m 0 #[oa r0, oi p1] []) := by
    intro t kt
    show oS s₁ (mkF m 0 #[oa r0, oi p1] []) _
    refine XS.iloadN X0.here hx rfl (hb hby d20_0) rfl ?_
    show oS s₁ (mkF m 1 #[oa r0, oi p1] [(.int p1)]) _
    refine XS.aloadN X0.here hx rfl (hb hby d20_1) rfl rfl ?_
    show oS s₁ (mkF m 2 #[oa r0, oi p1] [(.ref r0), (.int p1)]) _
    refine X0.arraylength hx (by rw [e0]; exact Ar1.1) (State.isArrayOf_alike hZ.alike Ar1.2.1) (g := (mkF m 2 #[oa r0, oi p1] [(.ref r0), (.int p1)])) rfl rfl (hb hby d20_2) _ ?_
    rw [len_of S1 M1]
    exact kt
  obtain ⟨_, _, ⟨T3, L3, k3, n3⟩, -, X3, ⟨Lc3, hQ3, l3, y3, z3⟩, st3⟩ := Jvm.LawKit.callS X0 hx (y := yy_1) hown (mvT hZ (own_t hw 99 rfl)) (mvT hZ (own_t hw 100 rfl)) (mvT hZ (own_t hw 7 rfl)) (mvT hZ (own_t hw 101 rfl)) (by decide) (backOf (W := 0) (rm21 l Z a0 hw [] p1 zz fm h0 n0 Z0 hi0.1 hi0.2 SF hfm) hZ (own_t hw 101 rfl) (own_t hw 7 rfl) (by decide) (by decide)) (g := (mkF m 3 #[oa r0, oi p1] [(.int zz), (.int p1)])) rfl (by rw [hml]; rfl) (argsL := [(.int p1), (.int zz)]) (rest := []) (lenOf pd_1 rfl) rfl (by show 2 * 0 + _ ≤ _; exact Nat.le_of_eq rfl) (hb hby d20_3) (fun _ _ => ⟨rfl, e0, (by decide : 0 + 0 ≤ _), (by decide : 0 + 0 ≤ _)⟩)
  dsimp only [Pt.U, Pt.locs, Pt.cells, Pt.slots] at X3 l3 y3 z3 st3 hQ3
  subst l3 y3 z3
  obtain ⟨rfl, N3q, e3⟩ := hQ3
  have N3 := Fr.app N0 N3q
  have Vc4 := V
  obtain ⟨cl4, Ar4, qk4, S4, M4, H4, G4⟩ := Vc4
  have hin4 : ¬ (p1 < 0 ∨ cl4.slots.size ≤ (p1).toNatClampNeg) := inb_of S4 hi0
  have hat4 : cl4.slots[(p1).toNatClampNeg]? = some (.int w0) := H4.at hin4 ha0
  have c5 : own_G p e below T3 (mkF m 14 #[oa r0, oi p1] [(.int ((w0 &&& (255 : Int32)).toUInt32.toUInt16.toUInt32.toInt32))]) (mkF m 6 #[oa r0, oi p1] []) := by
    intro t kt
    show oS T3 (mkF m 6 #[oa r0, oi p1] []) _
    refine XS.aloadN X3.here hx rfl (hb hby d20_6) rfl rfl ?_
    show oS T3 (mkF m 7 #[oa r0, oi p1] [(.ref r0)]) _
    refine XS.iloadN X3.here hx rfl (hb hby d20_7) rfl ?_
    show oS T3 (mkF m 8 #[oa r0, oi p1] [(.int p1), (.ref r0)]) _
    refine X3.baloadBytes hx (j := p1) (v := (.int w0)) (by rw [e3]; exact Ar4.1) (State.isArrayOf_alike hZ.alike Ar4.2.1) Ar4.2.2 hin4 hat4 (g := (mkF m 8 #[oa r0, oi p1] [(.int p1), (.ref r0)])) rfl rfl (hb hby d20_8) _ ?_
    show oS T3 (mkF m 9 #[oa r0, oi p1] [(.int w0)]) _
    refine XS.sipush X3.here hx rfl (hb hby d20_9) ?_
    show oS T3 (mkF m 12 #[oa r0, oi p1] [(.int (255 : Int32)), (.int w0)]) _
    refine XS.iand X3.here hx rfl (hb hby d20_12) rfl ?_
    show oS T3 (mkF m 13 #[oa r0, oi p1] [(.int (w0 &&& (255 : Int32)))]) _
    refine XS.i2c X3.here hx rfl (hb hby d20_13) rfl ?_
    exact kt
  obtain ⟨fs, hr, hrun, hended, hW, hsame⟩ := X3.leave (v := some (.int (((w0 &&& (255 : Int32)).toUInt32.toUInt16.toUInt32.toInt32).toUInt32.toUInt16.toUInt32.toInt32))) (fun h => by rw [Bd.returns] at h; cases h)
  refine ⟨_, _, pre0 _ (c2 _ (st3 _ (c5 _ (?_)))), hrun, hended, _, _, rfl, ?_, ⟨_, rfl⟩, hW, hsame.mono (by decide) (by decide)⟩
  · show Steps p.tables e below (T3.setTop (mkF m 14 #[oa r0, oi p1] [(.int ((w0 &&& (255 : Int32)).toUInt32.toUInt16.toUInt32.toInt32))])) _
    exact retN X3 hx (t := .char) Bd.returns (by simp) (hb hby d20_14) hr
  · show Q20 Z r0 p1 kk zz vs dv w0 fm h0 n0 _ T3.heap _
    rw [e3]
    exact ⟨congrArg (fun z => some (Value.int z)) (show (((w0 &&& (255 : Int32)).toUInt32.toUInt16.toUInt32.toInt32).toUInt32.toUInt16.toUInt32.toInt32) = (own_ch w0) from by rfl), N3, rfl⟩
theorem d19_0 : decode jdk_42_method_154_code 0 = .ok (.getstatic 38, 3) := by decide +kernel
theorem d19_3 : decode jdk_42_method_154_code 3 = .ok (.ifCond .eq 14, 3) := by decide +kernel
theorem d19_6 : decode jdk_42_method_154_code 6 = .ok (.aload_n 0, 1) := by decide +kernel
theorem d19_7 : decode jdk_42_method_154_code 7 = .ok (.getfield 15, 3) := by decide +kernel
theorem d19_10 : decode jdk_42_method_154_code 10 = .ok (.ifCond .ne 7, 3) := by decide +kernel
theorem d19_13 : decode jdk_42_method_154_code 13 = .ok (.iconst 1, 1) := by decide +kernel
theorem d19_14 : decode jdk_42_method_154_code 14 = .ok (.goto 4, 3) := by decide +kernel
theorem d19_18 : decode jdk_42_method_154_code 18 = .ok (.ireturn, 1) := by decide +kernel
theorem pn_19 : plainName "java/lang/String" = true := by first | (simp [plainName, overriddenIn]; done) | decide +kernel
theorem ef_19 (m : MethodId) (x0 : Addr) : entryFrame m #[(.ref x0)] 1 = mkF m 0 #[.val (.ref x0)] [] := by first | (simp [entryFrame, mkF, argsToLocals, Value.category]; done) | rfl
def Q19 (Z : State) (r0 : Addr) (cs : Int32) (h0 : Heap) (n0 : Nat) (v : Option Value) (h : Heap) (L : List Loc) : Prop := v = some (.int (1 : Int32)) ∧ Fr n0 L ∧ h = h0
set_option maxRecDepth 65536 in
set_option maxHeartbeats 40000000 in
theorem rm19 (l : Launch) (Z : State) (a0 : Array Value) (hw : ∀ d ∈ tables_1, d.before a0 Z = true) (ws : List Jvm.Cond) (r0 : Addr) (cs : Int32) (h0 : Heap) (n0 : Nat) (Z0 : n0 ≤ h0.size) (SC : Sta Z h0 "java/lang/String" "COMPACT_STRINGS" "Z" (.int cs)) (hcs : ¬ cs = (0 : Int32)) (C0 : Fld Z h0 r0 "java/lang/String" "coder" "B" (.int (0 : Int32))) :
    MetFree l yy_3 (head1 (Jvm.Cond.code yy_3 jdk_42_method_154_code 1 (some .boolean) :: ws) ({ frames := 0, cells := 0, slots := 0, locals := 0 } : Room)) (fun a U => a = #[(.ref r0)] ∧ Z.Warmed39 U.vm ∧ U.heap = h0) (fun _ _ _ _ _ => True) (fun _ U o U' => ∃ v L, o = .returned v ∧ Q19 Z r0 cs h0 n0 v U'.heap L ∧ FrameEnd U o U' L ({ frames := 0, cells := 0, slots := 0, locals := 0 } : Room).cells ({ frames := 0, cells := 0, slots := 0, locals := 0 } : Room).slots) := by
  refine MetFree.of_bodySF (plainFor_of_name pn_19) hisR ?_
  intro p e s m args below meth c s₁ Bd hml0 hP hK
  obtain ⟨rfl, hZ, hh⟩ := hP
  have hx := Bd.exec
  have hby := Bd.bytes
  have hml : c.maxLocals = 1 := hml0
  have hown : s.vm.findClass "java/lang/String" = some m.cls := findClass_of_methodNamed Bd.named
  have hnm := (name_of_methodNamed Bd.named Bd.method).1
  have X0 : Stand p l e ({ frames := 0, cells := 0, slots := 0, locals := 0 } : Room) s m #[(.ref r0)] below meth c s₁ [] 0 0 := Stand.of_body Bd
  have e0 : s₁.heap = h0 := by rw [← hh, Bd.state]; rfl
  have N0 := Fr.nil n0
  have pre0 : ∀ t, Steps p.tables e below (s₁.setTop (mkF m 0 #[oa r0] [])) t → Steps p.tables e below (s₁.setTop (entryFrame m #[(.ref r0)] 1)) t := fun t k => castTop (ef_19 m r0) k
  obtain ⟨T1, X1, e1, st1⟩ := getS2 X0 hx hZ hown (host := "") (Or.inl (own_t hw 22 rfl)) Via.refl e0 SC (g := (mkF m 0 #[oa r0] [])) rfl (hb hby d19_0)
  have hd2 : ¬ (cs = (0 : Int32)) := hcs
  have c4 : own_G p e below T1 (mkF m 7 #[oa r0] [(.ref r0)]) (mkF m 3 #[oa r0] [(.int cs)]) := by
    intro t kt
    show oS T1 (mkF m 3 #[oa r0] [(.int cs)]) _
    refine XS.ifNo X1.here hx rfl (hb hby d19_3) rfl ((if0 _ _).trans (feq hd2).1) ?_
    show oS T1 (mkF m 6 #[oa r0] []) _
    refine XS.aloadN X1.here hx rfl (hb hby d19_6) rfl rfl ?_
    exact kt
  obtain ⟨T3, X3, e3, st3⟩ := getF X1 hx hZ hown (host := "") (Or.inl (own_t hw 34 rfl)) Via.refl e1 C0 (g := (mkF m 7 #[oa r0] [(.ref r0)])) rfl rfl (hb hby d19_7)
  have c5 : own_G p e below T3 (mkF m 18 #[oa r0] [(.int (1 : Int32))]) (mkF m 10 #[oa r0] [(.int (0 : Int32))]) := by
    intro t kt
    show oS T3 (mkF m 10 #[oa r0] [(.int (0 : Int32))]) _
    refine XS.ifNo X3.here hx rfl (hb hby d19_10) rfl ((if0 _ _).trans (teq (by decide : (0 : Int32) = (0 : Int32))).2) ?_
    show oS T3 (mkF m 13 #[oa r0] []) _
    refine XS.iconst X3.here hx rfl (hb hby d19_13) ?_
    show oS T3 (mkF m 14 #[oa r0] [(.int (1 : Int32))]) _
    refine XS.goto X3.here hx rfl (pc0 := 14) (pc' := 18) rfl (hb hby d19_14) (by decide) (by decide) ?_
    exact kt
  obtain ⟨fs, hr, hrun, hended, hW, hsame⟩ := X3.leave (v := some (.int (1 : Int32))) (fun h => by rw [Bd.returns] at h; cases h)
  refine ⟨_, _, pre0 _ (st1 _ (c4 _ (st3 _ (c5 _ (?_))))), hrun, hended, _, _, rfl, ?_, ⟨_, rfl⟩, hW, hsame.mono (by decide) (by decide)⟩
  · show Steps p.tables e below (T3.setTop (mkF m 18 #[oa r0] [(.int (1 : Int32))])) _
    exact retN X3 hx (t := .boolean) Bd.returns (by simp) (hb hby d19_18) hr
  · show Q19 Z r0 cs h0 n0 _ T3.heap _
    rw [e3]
    exact ⟨congrArg (fun z => some (Value.int z)) (show (1 : Int32) = (1 : Int32) from by rfl), N0, rfl⟩
theorem d18_0 : decode jdk_42_method_56_code 0 = .ok (.aload_n 0, 1) := by decide +kernel
theorem d18_1 : decode jdk_42_method_56_code 1 = .ok (.invokevirtual 492, 3) := by decide +kernel
theorem d18_4 : decode jdk_42_method_56_code 4 = .ok (.ifCond .eq 12, 3) := by decide +kernel
theorem d18_7 : decode jdk_42_method_56_code 7 = .ok (.aload_n 0, 1) := by decide +kernel
theorem d18_8 : decode jdk_42_method_56_code 8 = .ok (.getfield 9, 3) := by decide +kernel
theorem d18_11 : decode jdk_42_method_56_code 11 = .ok (.iload_n 1, 1) := by decide +kernel
theorem d18_12 : decode jdk_42_method_56_code 12 = .ok (.invokestatic 495, 3) := by decide +kernel
theorem d18_15 : decode jdk_42_method_56_code 15 = .ok (.ireturn, 1) := by decide +kernel
theorem pn_18 : plainName "java/lang/String" = true := by first | (simp [plainName, overriddenIn]; done) | decide +kernel
theorem ef_18 (m : MethodId) (x0 : Addr) (x1 : Int32) : entryFrame m #[(.ref x0), (.int x1)] 2 = mkF m 0 #[.val (.ref x0), .val (.int x1)] [] := by first | (simp [entryFrame, mkF, argsToLocals, Value.category]; done) | rfl
def Q18 (Z : State) (r0 : Addr) (p1 : Int32) (rb : Addr) (kk : ClassId) (zz : Int32) (vs : List Value) (dv : Value) (w0 : Int32) (fm : Value) (cs : Int32) (h0 : Heap) (n0 : Nat) (v : Option Value) (h : Heap) (L : List Loc) : Prop := v = some (.int (own_cc w0)) ∧ Fr n0 L ∧ h = h0
set_option maxRecDepth 65536 in
set_option maxHeartbeats 40000000 in
theorem rm18 (l : Launch) (Z : State) (a0 : Array Value) (hw : ∀ d ∈ tables_1, d.before a0 Z = true) (ws : List Jvm.Cond) (r0 : Addr) (p1 : Int32) (rb : Addr) (kk : ClassId) (zz : Int32) (vs : List Value) (dv : Value) (w0 : Int32) (fm : Value) (cs : Int32) (h0 : Heap) (n0 : Nat) (Z0 : n0 ≤ h0.size) (E0 : Exa Z h0 r0 "java/lang/String") (F0 : Fld Z h0 r0 "java/lang/String" "value" "[B" (.ref rb)) (V : Arv Z h0 rb kk .byte zz vs dv) (hi0 : ¬ p1 < 0 ∧ p1 < zz) (ha0 : vs.getD p1.toNatClampNeg dv = .int w0) (SF : Sta Z h0 "jdk/internal/util/Preconditions" "SIOOBE_FORMATTER" "Ljava/util/function/BiFunction;" fm) (hfm : fm.isRef = true) (SC : Sta Z h0 "java/lang/String" "COMPACT_STRINGS" "Z" (.int cs)) (hcs : ¬ cs = (0 : Int32)) (C0 : Fld Z h0 r0 "java/lang/String" "coder" "B" (.int (0 : Int32))) :
    MetFree l yy_4 (head1 (Jvm.Cond.code yy_4 jdk_42_method_56_code 2 (some .char) :: ws) ({ frames := 3, cells := 0, slots := 0, locals := 40 } : Room)) (fun a U => a = #[(.ref r0), (.int p1)] ∧ Z.Warmed39 U.vm ∧ U.heap = h0) (fun _ _ _ _ _ => True) (fun _ U o U' => ∃ v L, o = .returned v ∧ Q18 Z r0 p1 rb kk zz vs dv w0 fm cs h0 n0 v U'.heap L ∧ FrameEnd U o U' L ({ frames := 3, cells := 0, slots := 0, locals := 40 } : Room).cells ({ frames := 3, cells := 0, slots := 0, locals := 40 } : Room).slots) := by
  refine MetFree.of_bodySF (plainFor_of_name pn_18) hisR ?_
  intro p e s m args below meth c s₁ Bd hml0 hP hK
  obtain ⟨rfl, hZ, hh⟩ := hP
  have hx := Bd.exec
  have hby := Bd.bytes
  have hml : c.maxLocals = 2 := hml0
  have hown : s.vm.findClass "java/lang/String" = some m.cls := findClass_of_methodNamed Bd.named
  have hnm := (name_of_methodNamed Bd.named Bd.method).1
  have X0 : Stand p l e ({ frames := 3, cells := 0, slots := 0, locals := 40 } : Room) s m #[(.ref r0), (.int p1)] below meth c s₁ [] 0 0 := Stand.of_body Bd
  have e0 : s₁.heap = h0 := by rw [← hh, Bd.state]; rfl
  have N0 := Fr.nil n0
  have pre0 : ∀ t, Steps p.tables e below (s₁.setTop (mkF m 0 #[oa r0, oi p1] [])) t → Steps p.tables e below (s₁.setTop (entryFrame m #[(.ref r0), (.int p1)] 2)) t := fun t k => castTop (ef_18 m r0 p1) k
  have c1 : own_G p e below s₁ (mkF m 1 #[oa r0, oi p1] [(.ref r0)]) (mkF m 0 #[oa r0, oi p1] []) := by
    intro t kt
    show oS s₁ (mkF m 0 #[oa r0, oi p1] []) _
    refine XS.aloadN X0.here hx rfl (hb hby d18_0) rfl rfl ?_
    exact kt
  obtain ⟨cq2, kq2, q2a, q2b, q2c⟩ := isOf hZ e0 E0
  obtain ⟨_, _, ⟨T3, L3, k3, n3⟩, -, X3, ⟨Lc3, hQ3, l3, y3, z3⟩, st3⟩ := X0.virtualBack hx (y := yy_3) (z := yy_3) hown (mvT hZ (own_t hw 90 rfl)) (mvT hZ (own_t hw 91 rfl)) (notFace_of_selects (args := #[]) (mvT hZ (own_t hw 93 rfl))) (mvT hZ (own_t hw 93 rfl)) (mvT hZ (own_t hw 92 rfl)) (by decide) (backOf (W := 0) (rm19 l Z a0 hw [] r0 cs h0 n0 Z0 SC hcs C0) hZ (own_t hw 94 rfl) (own_t hw 7 rfl) (by decide) (by decide)) q2a q2c (g := (mkF m 1 #[oa r0, oi p1] [(.ref r0)])) rfl (by rw [hml]; rfl) (Steps.refl _) (argsL := []) (rest := []) (lenOf pd_2 rfl) rfl (by show 2 * 0 + _ ≤ _; exact Nat.le_of_eq rfl) (hb hby d18_1) (fun _ _ => ⟨rfl, e0, (by decide : 0 + 0 ≤ _), (by decide : 0 + 0 ≤ _)⟩)
  dsimp only [Pt.U, Pt.locs, Pt.cells, Pt.slots] at X3 l3 y3 z3 st3 hQ3
  subst l3 y3 z3
  obtain ⟨rfl, N3q, e3⟩ := hQ3
  have N3 := Fr.app N0 N3q
  have c5 : own_G p e below T3 (mkF m 8 #[oa r0, oi p1] [(.ref r0)]) (mkF m 4 #[oa r0, oi p1] [(.int (1 : Int32))]) := by
    intro t kt
    show oS T3 (mkF m 4 #[oa r0, oi p1] [(.int (1 : Int32))]) _
    refine XS.ifNo X3.here hx rfl (hb hby d18_4) rfl ((if0 _ _).trans (feq (by decide : ¬ ((1 : Int32) = (0 : Int32)))).1) ?_
    show oS T3 (mkF m 7 #[oa r0, oi p1] []) _
    refine XS.aloadN X3.here hx rfl (hb hby d18_7) rfl rfl ?_
    exact kt
  obtain ⟨T4, X4, e4, st4⟩ := getF X3 hx hZ hown (host := "") (Or.inl (own_t hw 36 rfl)) Via.refl e3 F0 (g := (mkF m 8 #[oa r0, oi p1] [(.ref r0)])) rfl rfl (hb hby d18_8)
  have c6 : own_G p e below T4 (mkF m 12 #[oa r0, oi p1] [(.int p1), (.ref rb)]) (mkF m 11 #[oa r0, oi p1] [(.ref rb)]) := by
    intro t kt
    show oS T4 (mkF m 11 #[oa r0, oi p1] [(.ref rb)]) _
    refine XS.iloadN X4.here hx rfl (hb hby d18_11) rfl ?_
    exact kt
  obtain ⟨_, _, ⟨T7, L7, k7, n7⟩, -, X7, ⟨Lc7, hQ7, l7, y7, z7⟩, st7⟩ := Jvm.LawKit.callS X4 hx (y := yy_2) hown (mvT hZ (own_t hw 95 rfl)) (mvT hZ (own_t hw 96 rfl)) (mvT hZ (own_t hw 97 rfl)) (mvT hZ (own_t hw 98 rfl)) (by decide) (backOf (W := 0) (rm20 l Z a0 hw [] rb p1 kk zz vs dv w0 fm h0 n0 Z0 V hi0 ha0 SF hfm) hZ (own_t hw 98 rfl) (own_t hw 97 rfl) (by decide) (by decide)) (g := (mkF m 12 #[oa r0, oi p1] [(.int p1), (.ref rb)])) rfl (by rw [hml]; rfl) (argsL := [(.ref rb), (.int p1)]) (rest := []) (lenOf pd_3 rfl) rfl (by show 2 * 0 + _ ≤ _; exact Nat.le_of_eq rfl) (hb hby d18_12) (fun _ _ => ⟨rfl, e4, (by decide : 0 + 0 ≤ _), (by decide : 0 + 0 ≤ _)⟩)
  dsimp only [Pt.U, Pt.locs, Pt.cells, Pt.slots] at X7 l7 y7 z7 st7 hQ7
  subst l7 y7 z7
  obtain ⟨rfl, N7q, e7⟩ := hQ7
  have N7 := Fr.app N3 N7q
  obtain ⟨fs, hr, hrun, hended, hW, hsame⟩ := X7.leave (v := some (.int ((own_ch w0).toUInt32.toUInt16.toUInt32.toInt32))) (fun h => by rw [Bd.returns] at h; cases h)
  refine ⟨_, _, pre0 _ (c1 _ (st3.trans (c5 _ (st4 _ (c6 _ (st7 _ (?_))))))), hrun, hended, _, _, rfl, ?_, ⟨_, rfl⟩, hW, hsame.mono (by decide) (by decide)⟩
  · show Steps p.tables e below (T7.setTop (mkF m 15 #[oa r0, oi p1] [(.int (own_ch w0))])) _
    exact retN X7 hx (t := .char) Bd.returns (by simp) (hb hby d18_15) hr
  · show Q18 Z r0 p1 rb kk zz vs dv w0 fm cs h0 n0 _ T7.heap _
    rw [e7]
    exact ⟨congrArg (fun z => some (Value.int z)) (show ((own_ch w0).toUInt32.toUInt16.toUInt32.toInt32) = (own_cc w0) from by rfl), N7, rfl⟩
theorem d15_0 : decode jdk_42_method_152_code 0 = .ok (.getstatic 38, 3) := by decide +kernel
theorem d15_3 : decode jdk_42_method_152_code 3 = .ok (.ifCond .eq 10, 3) := by decide +kernel
theorem d15_6 : decode jdk_42_method_152_code 6 = .ok (.aload_n 0, 1) := by decide +kernel
theorem d15_7 : decode jdk_42_method_152_code 7 = .ok (.getfield 15, 3) := by decide +kernel
theorem d15_10 : decode jdk_42_method_152_code 10 = .ok (.goto 4, 3) := by decide +kernel
theorem d15_14 : decode jdk_42_method_152_code 14 = .ok (.ireturn, 1) := by decide +kernel
theorem pn_15 : plainName "java/lang/String" = true := by first | (simp [plainName, overriddenIn]; done) | decide +kernel
theorem ef_15 (m : MethodId) (x0 : Addr) : entryFrame m #[(.ref x0)] 1 = mkF m 0 #[.val (.ref x0)] [] := by first | (simp [entryFrame, mkF, argsToLocals, Value.category]; done) | rfl
def Q15 (Z : State) (r0 : Addr) (cs : Int32) (h0 : Heap) (n0 : Nat) (v : Option Value) (h : Heap) (L : List Loc) : Prop := v = some (.int (0 : Int32)) ∧ Fr n0 L ∧ h = h0
set_option maxRecDepth 65536 in
set_option maxHeartbeats 40000000 in
theorem rm15 (l : Launch) (Z : State) (a0 : Array Value) (hw : ∀ d ∈ tables_1, d.before a0 Z = true) (ws : List Jvm.Cond) (r0 : Addr) (cs : Int32) (h0 : Heap) (n0 : Nat) (Z0 : n0 ≤ h0.size) (SC : Sta Z h0 "java/lang/String" "COMPACT_STRINGS" "Z" (.int cs)) (hcs : ¬ cs = (0 : Int32)) (C0 : Fld Z h0 r0 "java/lang/String" "coder" "B" (.int (0 : Int32))) :
    MetFree l yy_5 (head1 (Jvm.Cond.code yy_5 jdk_42_method_152_code 1 (some .byte) :: ws) ({ frames := 0, cells := 0, slots := 0, locals := 0 } : Room)) (fun a U => a = #[(.ref r0)] ∧ Z.Warmed39 U.vm ∧ U.heap = h0) (fun _ _ _ _ _ => True) (fun _ U o U' => ∃ v L, o = .returned v ∧ Q15 Z r0 cs h0 n0 v U'.heap L ∧ FrameEnd U o U' L ({ frames := 0, cells := 0, slots := 0, locals := 0 } : Room).cells ({ frames := 0, cells := 0, slots := 0, locals := 0 } : Room).slots) := by
  refine MetFree.of_bodySF (plainFor_of_name pn_15) hisR ?_
  intro p e s m args below meth c s₁ Bd hml0 hP hK
  obtain ⟨rfl, hZ, hh⟩ := hP
  have hx := Bd.exec
  have hby := Bd.bytes
  have hml : c.maxLocals = 1 := hml0
  have hown : s.vm.findClass "java/lang/String" = some m.cls := findClass_of_methodNamed Bd.named
  have hnm := (name_of_methodNamed Bd.named Bd.method).1
  have X0 : Stand p l e ({ frames := 0, cells := 0, slots := 0, locals := 0 } : Room) s m #[(.ref r0)] below meth c s₁ [] 0 0 := Stand.of_body Bd
  have e0 : s₁.heap = h0 := by rw [← hh, Bd.state]; rfl
  have N0 := Fr.nil n0
  have pre0 : ∀ t, Steps p.tables e below (s₁.setTop (mkF m 0 #[oa r0] [])) t → Steps p.tables e below (s₁.setTop (entryFrame m #[(.ref r0)] 1)) t := fun t k => castTop (ef_15 m r0) k
  obtain ⟨T1, X1, e1, st1⟩ := getS2 X0 hx hZ hown (host := "") (Or.inl (own_t hw 22 rfl)) Via.refl e0 SC (g := (mkF m 0 #[oa r0] [])) rfl (hb hby d15_0)
  have hd2 : ¬ (cs = (0 : Int32)) := hcs
  have c4 : own_G p e below T1 (mkF m 7 #[oa r0] [(.ref r0)]) (mkF m 3 #[oa r0] [(.int cs)]) := by
    intro t kt
    show oS T1 (mkF m 3 #[oa r0] [(.int cs)]) _
    refine XS.ifNo X1.here hx rfl (hb hby d15_3) rfl ((if0 _ _).trans (feq hd2).1) ?_
    show oS T1 (mkF m 6 #[oa r0] []) _
    refine XS.aloadN X1.here hx rfl (hb hby d15_6) rfl rfl ?_
    exact kt
  obtain ⟨T3, X3, e3, st3⟩ := getF X1 hx hZ hown (host := "") (Or.inl (own_t hw 34 rfl)) Via.refl e1 C0 (g := (mkF m 7 #[oa r0] [(.ref r0)])) rfl rfl (hb hby d15_7)
  have c5 : own_G p e below T3 (mkF m 14 #[oa r0] [(.int (0 : Int32))]) (mkF m 10 #[oa r0] [(.int (0 : Int32))]) := by
    intro t kt
    show oS T3 (mkF m 10 #[oa r0] [(.int (0 : Int32))]) _
    refine XS.goto X3.here hx rfl (pc0 := 10) (pc' := 14) rfl (hb hby d15_10) (by decide) (by decide) ?_
    exact kt
  obtain ⟨fs, hr, hrun, hended, hW, hsame⟩ := X3.leave (v := some (.int (0 : Int32))) (fun h => by rw [Bd.returns] at h; cases h)
  refine ⟨_, _, pre0 _ (st1 _ (c4 _ (st3 _ (c5 _ (?_))))), hrun, hended, _, _, rfl, ?_, ⟨_, rfl⟩, hW, hsame.mono (by decide) (by decide)⟩
  · show Steps p.tables e below (T3.setTop (mkF m 14 #[oa r0] [(.int (0 : Int32))])) _
    exact retN X3 hx (t := .byte) Bd.returns (by simp) (hb hby d15_14) hr
  · show Q15 Z r0 cs h0 n0 _ T3.heap _
    rw [e3]
    exact ⟨congrArg (fun z => some (Value.int z)) (show (0 : Int32) = (0 : Int32) from by rfl), N0, rfl⟩
theorem d14_0 : decode jdk_42_method_54_code 0 = .ok (.aload_n 0, 1) := by decide +kernel
theorem d14_1 : decode jdk_42_method_54_code 1 = .ok (.getfield 9, 3) := by decide +kernel
theorem d14_4 : decode jdk_42_method_54_code 4 = .ok (.arraylength, 1) := by decide +kernel
theorem d14_5 : decode jdk_42_method_54_code 5 = .ok (.aload_n 0, 1) := by decide +kernel
theorem d14_6 : decode jdk_42_method_54_code 6 = .ok (.invokevirtual 335, 3) := by decide +kernel
theorem d14_9 : decode jdk_42_method_54_code 9 = .ok (.ishr, 1) := by decide +kernel
theorem d14_10 : decode jdk_42_method_54_code 10 = .ok (.ireturn, 1) := by decide +kernel
theorem pn_14 : plainName "java/lang/String" = true := by first | (simp [plainName, overriddenIn]; done) | decide +kernel
theorem ef_14 (m : MethodId) (x0 : Addr) : entryFrame m #[(.ref x0)] 1 = mkF m 0 #[.val (.ref x0)] [] := by first | (simp [entryFrame, mkF, argsToLocals, Value.category]; done) | rfl
def Q14 (Z : State) (r0 : Addr) (rb : Addr) (kk : ClassId) (zz : Int32) (vs : List Value) (dv : Value) (cs : Int32) (h0 : Heap) (n0 : Nat) (v : Option Value) (h : Heap) (L : List Loc) : Prop := v = some (.int zz) ∧ Fr n0 L ∧ h = h0
set_option maxRecDepth 65536 in
set_option maxHeartbeats 40000000 in
theorem rm14 (l : Launch) (Z : State) (a0 : Array Value) (hw : ∀ d ∈ tables_1, d.before a0 Z = true) (ws : List Jvm.Cond) (r0 : Addr) (rb : Addr) (kk : ClassId) (zz : Int32) (vs : List Value) (dv : Value) (cs : Int32) (h0 : Heap) (n0 : Nat) (Z0 : n0 ≤ h0.size) (E0 : Exa Z h0 r0 "java/lang/String") (F0 : Fld Z h0 r0 "java/lang/String" "value" "[B" (.ref rb)) (V : Arv Z h0 rb kk .byte zz vs dv) (SC : Sta Z h0 "java/lang/String" "COMPACT_STRINGS" "Z" (.int cs)) (hcs : ¬ cs = (0 : Int32)) (C0 : Fld Z h0 r0 "java/lang/String" "coder" "B" (.int (0 : Int32))) :
    MetFree l yy_6 (head1 (Jvm.Cond.code yy_6 jdk_42_method_54_code 1 (some .int) :: ws) ({ frames := 1, cells := 0, slots := 0, locals := 13 } : Room)) (fun a U => a = #[(.ref r0)] ∧ Z.Warmed39 U.vm ∧ U.heap = h0) (fun _ _ _ _ _ => True) (fun _ U o U' => ∃ v L, o = .returned v ∧ Q14 Z r0 rb kk zz vs dv cs h0 n0 v U'.heap L ∧ FrameEnd U o U' L ({ frames := 1, cells := 0, slots := 0, locals := 13 } : Room).cells ({ frames := 1, cells := 0, slots := 0, locals := 13 } : Room).slots) := by
  refine MetFree.of_bodySF (plainFor_of_name pn_14) hisR ?_
  intro p e s m args below meth c s₁ Bd hml0 hP hK
  obtain ⟨rfl, hZ, hh⟩ := hP
  have hx := Bd.exec
  have hby := Bd.bytes
  have hml : c.maxLocals = 1 := hml0
  have hown : s.vm.findClass "java/lang/String" = some m.cls := findClass_of_methodNamed Bd.named
  have hnm := (name_of_methodNamed Bd.named Bd.method).1
  have X0 : Stand p l e ({ frames := 1, cells := 0, slots := 0, locals := 13 } : Room) s m #[(.ref r0)] below meth c s₁ [] 0 0 := Stand.of_body Bd
  have e0 : s₁.heap = h0 := by rw [← hh, Bd.state]; rfl
  have N0 := Fr.nil n0
  have pre0 : ∀ t, Steps p.tables e below (s₁.setTop (mkF m 0 #[oa r0] [])) t → Steps p.tables e below (s₁.setTop (entryFrame m #[(.ref r0)] 1)) t := fun t k => castTop (ef_14 m r0) k
  have c2 : own_G p e below s₁ (mkF m 1 #[oa r0] [(.ref r0)]) (mkF m 0 #[oa r0] []) := by
    intro t kt
    show oS s₁ (mkF m 0 #[oa r0] []) _
    refine XS.aloadN X0.here hx rfl (hb hby d14_0) rfl rfl ?_
    exact kt
  obtain ⟨T1, X1, e1, st1⟩ := getF X0 hx hZ hown (host := "") (Or.inl (own_t hw 36 rfl)) Via.refl e0 F0 (g := (mkF m 1 #[oa r0] [(.ref r0)])) rfl rfl (hb hby d14_1)
  have Vc3 := V
  obtain ⟨cl3, Ar3, qk3, S3, M3, H3, G3⟩ := Vc3
  have c4 : own_G p e below T1 (mkF m 6 #[oa r0] [(.ref r0), (.int zz)]) (mkF m 4 #[oa r0] [(.ref rb)]) := by
    intro t kt
    show oS T1 (mkF m 4 #[oa r0] [(.ref rb)]) _
    refine X1.arraylength hx (by rw [e1]; exact Ar3.1) (State.isArrayOf_alike hZ.alike Ar3.2.1) (g := (mkF m 4 #[oa r0] [(.ref rb)])) rfl rfl (hb hby d14_4) _ ?_
    rw [len_of S3 M3]
    show oS T1 (mkF m 5 #[oa r0] [(.int zz)]) _
    refine XS.aloadN X1.here hx rfl (hb hby d14_5) rfl rfl ?_
    exact kt
  obtain ⟨cq5, kq5, q5a, q5b, q5c⟩ := isOf hZ e1 E0
  obtain ⟨_, _, ⟨T6, L6, k6, n6⟩, -, X6, ⟨Lc6, hQ6, l6, y6, z6⟩, st6⟩ := X1.virtualBack hx (y := yy_5) (z := yy_5) hown (mvT hZ (own_t hw 71 rfl)) (mvT hZ (own_t hw 72 rfl)) (notFace_of_selects (args := #[]) (mvT hZ (own_t hw 74 rfl))) (mvT hZ (own_t hw 74 rfl)) (mvT hZ (own_t hw 73 rfl)) (by decide) (backOf (W := 1) (rm15 l Z a0 hw [] r0 cs h0 n0 Z0 SC hcs C0) hZ (own_t hw 75 rfl) (own_t hw 7 rfl) (by decide) (by decide)) q5a q5c (g := (mkF m 6 #[oa r0] [(.ref r0), (.int zz)])) rfl (by rw [hml]; rfl) (Steps.refl _) (argsL := []) (rest := [(.int zz)]) (lenOf pd_4 rfl) rfl (by show 2 * 0 + _ ≤ _; exact Nat.le_of_eq rfl) (hb hby d14_6) (fun _ _ => ⟨rfl, e1, (by decide : 0 + 0 ≤ _), (by decide : 0 + 0 ≤ _)⟩)
  dsimp only [Pt.U, Pt.locs, Pt.cells, Pt.slots] at X6 l6 y6 z6 st6 hQ6
  subst l6 y6 z6
  obtain ⟨rfl, N6q, e6⟩ := hQ6
  have N6 := Fr.app N0 N6q
  have c7 : own_G p e below T6 (mkF m 10 #[oa r0] [(.int (zz >>> ((0 : Int32) &&& 31)))]) (mkF m 9 #[oa r0] [(.int (0 : Int32)), (.int zz)]) := by
    intro t kt
    show oS T6 (mkF m 9 #[oa r0] [(.int (0 : Int32)), (.int zz)]) _
    refine XS.ishr X6.here hx rfl (hb hby d14_9) rfl ?_
    exact kt
  obtain ⟨fs, hr, hrun, hended, hW, hsame⟩ := X6.leave (v := some (.int (zz >>> ((0 : Int32) &&& 31)))) (fun h => by rw [Bd.returns] at h; cases h)
  refine ⟨_, _, pre0 _ (c2 _ (st1 _ (c4 _ (st6.trans (c7 _ (?_)))))), hrun, hended, _, _, rfl, ?_, ⟨_, rfl⟩, hW, hsame.mono (by decide) (by decide)⟩
  · show Steps p.tables e below (T6.setTop (mkF m 10 #[oa r0] [(.int (zz >>> ((0 : Int32) &&& 31)))])) _
    exact retI X6 hx Bd.returns (hb hby d14_10) hr
  · show Q14 Z r0 rb kk zz vs dv cs h0 n0 _ T6.heap _
    rw [e6]
    exact ⟨congrArg (fun z => some (Value.int z)) (show (zz >>> ((0 : Int32) &&& 31)) = zz from by exact own_shr0 zz), N6, rfl⟩
theorem d16_0 : decode jdk_48_method_14_code 0 = .ok (.iconst 0, 1) := by decide +kernel
theorem d16_1 : decode jdk_48_method_14_code 1 = .ok (.istore 5, 2) := by decide +kernel
theorem d16_3 : decode jdk_48_method_14_code 3 = .ok (.iload 4, 2) := by decide +kernel
theorem d16_5 : decode jdk_48_method_14_code 5 = .ok (.bipush 7, 2) := by decide +kernel
theorem d16_7 : decode jdk_48_method_14_code 7 = .ok (.if_icmp .le 63, 3) := by decide +kernel
theorem d16_70 : decode jdk_48_method_14_code 70 = .ok (.iload 5, 2) := by decide +kernel
theorem d16_72 : decode jdk_48_method_14_code 72 = .ok (.iload 4, 2) := by decide +kernel
theorem d16_74 : decode jdk_48_method_14_code 74 = .ok (.if_icmp .ge 27, 3) := by decide +kernel
theorem d16_77 : decode jdk_48_method_14_code 77 = .ok (.aload_n 0, 1) := by decide +kernel
theorem d16_78 : decode jdk_48_method_14_code 78 = .ok (.iload_n 1, 1) := by decide +kernel
theorem d16_79 : decode jdk_48_method_14_code 79 = .ok (.iload 5, 2) := by decide +kernel
theorem d16_81 : decode jdk_48_method_14_code 81 = .ok (.iadd, 1) := by decide +kernel
theorem d16_82 : decode jdk_48_method_14_code 82 = .ok (.baload, 1) := by decide +kernel
theorem d16_83 : decode jdk_48_method_14_code 83 = .ok (.aload_n 2, 1) := by decide +kernel
theorem d16_84 : decode jdk_48_method_14_code 84 = .ok (.iload_n 3, 1) := by decide +kernel
theorem d16_85 : decode jdk_48_method_14_code 85 = .ok (.iload 5, 2) := by decide +kernel
theorem d16_87 : decode jdk_48_method_14_code 87 = .ok (.iadd, 1) := by decide +kernel
theorem d16_88 : decode jdk_48_method_14_code 88 = .ok (.baload, 1) := by decide +kernel
theorem d16_89 : decode jdk_48_method_14_code 89 = .ok (.if_icmp .eq 6, 3) := by decide +kernel
theorem d16_92 : decode jdk_48_method_14_code 92 = .ok (.iload 5, 2) := by decide +kernel
theorem d16_94 : decode jdk_48_method_14_code 94 = .ok (.ireturn, 1) := by decide +kernel
theorem d16_95 : decode jdk_48_method_14_code 95 = .ok (.iinc 5 1, 3) := by decide +kernel
theorem d16_98 : decode jdk_48_method_14_code 98 = .ok (.goto (-28), 3) := by decide +kernel
theorem d16_101 : decode jdk_48_method_14_code 101 = .ok (.iconst (-1), 1) := by decide +kernel
theorem d16_102 : decode jdk_48_method_14_code 102 = .ok (.ireturn, 1) := by decide +kernel
theorem pn_16 : plainName "jdk/internal/util/ArraysSupport" = true := by first | (simp [plainName, overriddenIn]; done) | decide +kernel
theorem ef_16 (m : MethodId) (x0 : Addr) (x1 : Int32) (x2 : Addr) (x3 : Int32) (x4 : Int32) : entryFrame m #[(.ref x0), (.int x1), (.ref x2), (.int x3), (.int x4)] 8 = mkF m 0 #[.val (.ref x0), .val (.int x1), .val (.ref x2), .val (.int x3), .val (.int x4), .unset, .unset, .unset] [] := by first | (simp [entryFrame, mkF, argsToLocals, Value.category]; done) | rfl
def Q16 (Z : State) (r0 : Addr) (r2 : Addr) (ka kb : ClassId) (zz : Int32) (vs : List Value) (w0 : Int32) (h0 : Heap) (n0 : Nat) (v : Option Value) (h : Heap) (L : List Loc) : Prop := v = some (.int (own_mm w0)) ∧ Fr n0 L ∧ h = h0
set_option maxRecDepth 65536 in
set_option maxHeartbeats 40000000 in
theorem rm16 (l : Launch) (Z : State) (a0 : Array Value) (hw : ∀ d ∈ tables_1, d.before a0 Z = true) (ws : List Jvm.Cond) (r0 : Addr) (r2 : Addr) (ka kb : ClassId) (zz : Int32) (vs : List Value) (w0 : Int32) (h0 : Heap) (n0 : Nat) (Z0 : n0 ≤ h0.size) (Va : Arv Z h0 r0 ka .byte zz vs (.int 0)) (hi0 : ¬ (0 : Int32) < 0 ∧ (0 : Int32) < zz) (ha0 : vs.getD (0 : Int32).toNatClampNeg (.int 0) = .int w0) (Vb : Arv Z h0 r2 kb .byte (1 : Int32) [(.int (45 : Int32))] (.int 0)) :
    MetFree l yy_7 (head1 (Jvm.Cond.code yy_7 jdk_48_method_14_code 8 (some .int) :: ws) ({ frames := 0, cells := 0, slots := 0, locals := 0 } : Room)) (fun a U => a = #[(.ref r0), (.int (0 : Int32)), (.ref r2), (.int (0 : Int32)), (.int (1 : Int32))] ∧ Z.Warmed39 U.vm ∧ U.heap = h0) (fun _ _ _ _ _ => True) (fun _ U o U' => ∃ v L, o = .returned v ∧ Q16 Z r0 r2 ka kb zz vs w0 h0 n0 v U'.heap L ∧ FrameEnd U o U' L ({ frames := 0, cells := 0, slots := 0, locals := 0 } : Room).cells ({ frames := 0, cells := 0, slots := 0, locals := 0 } : Room).slots) := by
  refine MetFree.of_bodySF (plainFor_of_name pn_16) hisR ?_
  intro p e s m args below meth c s₁ Bd hml0 hP hK
  obtain ⟨rfl, hZ, hh⟩ := hP
  have hx := Bd.exec
  have hby := Bd.bytes
  have hml : c.maxLocals = 8 := hml0
  have hown : s.vm.findClass "jdk/internal/util/ArraysSupport" = some m.cls := findClass_of_methodNamed Bd.named
  have hnm := (name_of_methodNamed Bd.named Bd.method).1
  have X0 : Stand p l e ({ frames := 0, cells := 0, slots := 0, locals := 0 } : Room) s m #[(.ref r0), (.int (0 : Int32)), (.ref r2), (.int (0 : Int32)), (.int (1 : Int32))] below meth c s₁ [] 0 0 := Stand.of_body Bd
  have e0 : s₁.heap = h0 := by rw [← hh, Bd.state]; rfl
  have N0 := Fr.nil n0
  have pre0 : ∀ t, Steps p.tables e below (s₁.setTop (mkF m 0 #[oa r0, oi 0, oa r2, oi 0, oi 1, .unset, .unset, .unset] [])) t → Steps p.tables e below (s₁.setTop (entryFrame m #[(.ref r0), (.int (0 : Int32)), (.ref r2), (.int (0 : Int32)), (.int (1 : Int32))] 8)) t := fun t k => castTop (ef_16 m r0 (0 : Int32) r2 (0 : Int32) (1 : Int32)) k
  have c1 : own_G p e below s₁ (mkF m 82 #[oa r0, oi 0, oa r2, oi 0, oi 1, oi 0, .unset, .unset] [(.int ((0 : Int32) + (0 : Int32))), (.ref r0)]) (mkF m 0 #[oa r0, oi 0, oa r2, oi 0, oi 1, .unset, .unset, .unset] []) := by
    intro t kt
    show oS s₁ (mkF m 0 #[oa r0, oi 0, oa r2, oi 0, oi 1, .unset, .unset, .unset] []) _
    refine XS.iconst X0.here hx rfl (hb hby d16_0) ?_
    show oS s₁ (mkF m 1 #[oa r0, oi 0, oa r2, oi 0, oi 1, .unset, .unset, .unset] [(.int (0 : Int32))]) _
    refine XS.istore X0.here hx rfl (hb hby d16_1) rfl (l' := #[oa r0, oi 0, oa r2, oi 0, oi 1, oi 0, .unset, .unset]) rfl ?_
    show oS s₁ (mkF m 3 #[oa r0, oi 0, oa r2, oi 0, oi 1, oi 0, .unset, .unset] []) _
    refine XS.iload X0.here hx rfl (hb hby d16_3) rfl ?_
    show oS s₁ (mkF m 5 #[oa r0, oi 0, oa r2, oi 0, oi 1, oi 0, .unset, .unset] [(.int (1 : Int32))]) _
    refine XS.bipush X0.here hx rfl (hb hby d16_5) ?_
    show oS s₁ (mkF m 7 #[oa r0, oi 0, oa r2, oi 0, oi 1, oi 0, .unset, .unset] [(.int (7 : Int32)), (.int (1 : Int32))]) _
    refine XS.icmpYes X0.here hx rfl (pc0 := 7) (pc' := 70) rfl (hb hby d16_7) rfl (flt (by decide : ¬ ((7 : Int32) < (1 : Int32)))).2.2.2 (by decide) (by decide) ?_
    show oS s₁ (mkF m 70 #[oa r0, oi 0, oa r2, oi 0, oi 1, oi 0, .unset, .unset] []) _
    refine XS.iload X0.here hx rfl (hb hby d16_70) rfl ?_
    show oS s₁ (mkF m 72 #[oa r0, oi 0, oa r2, oi 0, oi 1, oi 0, .unset, .unset] [(.int (0 : Int32))]) _
    refine XS.iload X0.here hx rfl (hb hby d16_72) rfl ?_
    show oS s₁ (mkF m 74 #[oa r0, oi 0, oa r2, oi 0, oi 1, oi 0, .unset, .unset] [(.int (1 : Int32)), (.int (0 : Int32))]) _
    refine XS.icmpNo X0.here hx rfl (hb hby d16_74) rfl (tlt (by decide : (0 : Int32) < (1 : Int32))).2.1 ?_
    show oS s₁ (mkF m 77 #[oa r0, oi 0, oa r2, oi 0, oi 1, oi 0, .unset, .unset] []) _
    refine XS.aloadN X0.here hx rfl (hb hby d16_77) rfl rfl ?_
    show oS s₁ (mkF m 78 #[oa r0, oi 0, oa r2, oi 0, oi 1, oi 0, .unset, .unset] [(.ref r0)]) _
    refine XS.iloadN X0.here hx rfl (hb hby d16_78) rfl ?_
    show oS s₁ (mkF m 79 #[oa r0, oi 0, oa r2, oi 0, oi 1, oi 0, .unset, .unset] [(.int (0 : Int32)), (.ref r0)]) _
    refine XS.iload X0.here hx rfl (hb hby d16_79) rfl ?_
    show oS s₁ (mkF m 81 #[oa r0, oi 0, oa r2, oi 0, oi 1, oi 0, .unset, .unset] [(.int (0 : Int32)), (.int (0 : Int32)), (.ref r0)]) _
    refine XS.iadd X0.here hx rfl (hb hby d16_81) rfl ?_
    exact kt
  have c2 : own_G p e below s₁ (mkF m 82 #[oa r0, oi 0, oa r2, oi 0, oi 1, oi 0, .unset, .unset] [(.int (0 : Int32)), (.ref r0)]) (mkF m 82 #[oa r0, oi 0, oa r2, oi 0, oi 1, oi 0, .unset, .unset] [(.int ((0 : Int32) + (0 : Int32))), (.ref r0)]) := fun t kt => castTop (congrArg (fun zv => (mkF m 82 #[oa r0, oi 0, oa r2, oi 0, oi 1, oi 0, .unset, .unset] [(.int zv), (.ref r0)])) (show ((0 : Int32) + (0 : Int32)) = (0 : Int32) from by decide)) kt
  have Vc3 := Va
  obtain ⟨cl3, Ar3, qk3, S3, M3, H3, G3⟩ := Vc3
  have hin3 : ¬ ((0 : Int32) < 0 ∨ cl3.slots.size ≤ ((0 : Int32)).toNatClampNeg) := inb_of S3 hi0
  have hat3 : cl3.slots[((0 : Int32)).toNatClampNeg]? = some (.int w0) := H3.at hin3 ha0
  have c4 : own_G p e below s₁ (mkF m 88 #[oa r0, oi 0, oa r2, oi 0, oi 1, oi 0, .unset, .unset] [(.int ((0 : Int32) + (0 : Int32))), (.ref r2), (.int w0)]) (mkF m 82 #[oa r0, oi 0, oa r2, oi 0, oi 1, oi 0, .unset, .unset] [(.int (0 : Int32)), (.ref r0)]) := by
    intro t kt
    show oS s₁ (mkF m 82 #[oa r0, oi 0, oa r2, oi 0, oi 1, oi 0, .unset, .unset] [(.int (0 : Int32)), (.ref r0)]) _
    refine X0.baloadBytes hx (j := (0 : Int32)) (v := (.int w0)) (by rw [e0]; exact Ar3.1) (State.isArrayOf_alike hZ.alike Ar3.2.1) Ar3.2.2 hin3 hat3 (g := (mkF m 82 #[oa r0, oi 0, oa r2, oi 0, oi 1, oi 0, .unset, .unset] [(.int (0 : Int32)), (.ref r0)])) rfl rfl (hb hby d16_82) _ ?_
    show oS s₁ (mkF m 83 #[oa r0, oi 0, oa r2, oi 0, oi 1, oi 0, .unset, .unset] [(.int w0)]) _
    refine XS.aloadN X0.here hx rfl (hb hby d16_83) rfl rfl ?_
    show oS s₁ (mkF m 84 #[oa r0, oi 0, oa r2, oi 0, oi 1, oi 0, .unset, .unset] [(.ref r2), (.int w0)]) _
    refine XS.iloadN X0.here hx rfl (hb hby d16_84) rfl ?_
    show oS s₁ (mkF m 85 #[oa r0, oi 0, oa r2, oi 0, oi 1, oi 0, .unset, .unset] [(.int (0 : Int32)), (.ref r2), (.int w0)]) _
    refine XS.iload X0.here hx rfl (hb hby d16_85) rfl ?_
    show oS s₁ (mkF m 87 #[oa r0, oi 0, oa r2, oi 0, oi 1, oi 0, .unset, .unset] [(.int (0 : Int32)), (.int (0 : Int32)), (.ref r2), (.int w0)]) _
    refine XS.iadd X0.here hx rfl (hb hby d16_87) rfl ?_
    exact kt
  have c5 : own_G p e below s₁ (mkF m 88 #[oa r0, oi 0, oa r2, oi 0, oi 1, oi 0, .unset, .unset] [(.int (0 : Int32)), (.ref r2), (.int w0)]) (mkF m 88 #[oa r0, oi 0, oa r2, oi 0, oi 1, oi 0, .unset, .unset] [(.int ((0 : Int32) + (0 : Int32))), (.ref r2), (.int w0)]) := fun t kt => castTop (congrArg (fun zv => (mkF m 88 #[oa r0, oi 0, oa r2, oi 0, oi 1, oi 0, .unset, .unset] [(.int zv), (.ref r2), (.int w0)])) (show ((0 : Int32) + (0 : Int32)) = (0 : Int32) from by decide)) kt
  have Vc6 := Vb
  obtain ⟨cl6, Ar6, qk6, S6, M6, H6, G6⟩ := Vc6
  have hin6 : ¬ ((0 : Int32) < 0 ∨ cl6.slots.size ≤ ((0 : Int32)).toNatClampNeg) := inb_of S6 ⟨by decide, by decide⟩
  have hat6 : cl6.slots[((0 : Int32)).toNatClampNeg]? = some (.int (45 : Int32)) := H6.at hin6 rfl
  have c7 : own_G p e below s₁ (mkF m 89 #[oa r0, oi 0, oa r2, oi 0, oi 1, oi 0, .unset, .unset] [(.int (45 : Int32)), (.int w0)]) (mkF m 88 #[oa r0, oi 0, oa r2, oi 0, oi 1, oi 0, .unset, .unset] [(.int (0 : Int32)), (.ref r2), (.int w0)]) := by
    intro t kt
    show oS s₁ (mkF m 88 #[oa r0, oi 0, oa r2, oi 0, oi 1, oi 0, .unset, .unset] [(.int (0 : Int32)), (.ref r2), (.int w0)]) _
    refine X0.baloadBytes hx (j := (0 : Int32)) (v := (.int (45 : Int32))) (by rw [e0]; exact Ar6.1) (State.isArrayOf_alike hZ.alike Ar6.2.1) Ar6.2.2 hin6 hat6 (g := (mkF m 88 #[oa r0, oi 0, oa r2, oi 0, oi 1, oi 0, .unset, .unset] [(.int (0 : Int32)), (.ref r2), (.int w0)])) rfl rfl (hb hby d16_88) _ ?_
    exact kt
  by_cases hc89 : w0 = (45 : Int32)
  · -- it is
    have c8 : own_G p e below s₁ (mkF m 102 #[oa r0, oi 0, oa r2, oi 0, oi 1, oi ((0 : Int32) + (1 : Int32)), .unset, .unset] [(.int (-1 : Int32))]) (mkF m 89 #[oa r0, oi 0, oa r2, oi 0, oi 1, oi 0, .unset, .unset] [(.int (45 : Int32)), (.int w0)]) := by
      intro t kt
      show oS s₁ (mkF m 89 #[oa r0, oi 0, oa r2, oi 0, oi 1, oi 0, .unset, .unset] [(.int (45 : Int32)), (.int w0)]) _
      refine XS.icmpYes X0.here hx rfl (pc0 := 89) (pc' := 95) rfl (hb hby d16_89) rfl (teq hc89).1 (by decide) (by decide) ?_
      show oS s₁ (mkF m 95 #[oa r0, oi 0, oa r2, oi 0, oi 1, oi 0, .unset, .unset] []) _
      refine XS.iinc X0.here hx rfl (hb hby d16_95) rfl (l' := #[oa r0, oi 0, oa r2, oi 0, oi 1, oi ((0 : Int32) + (1 : Int32)), .unset, .unset]) rfl ?_
      show oS s₁ (mkF m 98 #[oa r0, oi 0, oa r2, oi 0, oi 1, oi ((0 : Int32) + (1 : Int32)), .unset, .unset] []) _
      refine XS.goto X0.here hx rfl (pc0 := 98) (pc' := 70) rfl (hb hby d16_98) (by decide) (by decide) ?_
      show oS s₁ (mkF m 70 #[oa r0, oi 0, oa r2, oi 0, oi 1, oi ((0 : Int32) + (1 : Int32)), .unset, .unset] []) _
      refine XS.iload X0.here hx rfl (hb hby d16_70) rfl ?_
      show oS s₁ (mkF m 72 #[oa r0, oi 0, oa r2, oi 0, oi 1, oi ((0 : Int32) + (1 : Int32)), .unset, .unset] [(.int ((0 : Int32) + (1 : Int32)))]) _
      refine XS.iload X0.here hx rfl (hb hby d16_72) rfl ?_
      show oS s₁ (mkF m 74 #[oa r0, oi 0, oa r2, oi 0, oi 1, oi ((0 : Int32) + (1 : Int32)), .unset, .unset] [(.int (1 : Int32)), (.int ((0 : Int32) + (1 : Int32)))]) _
      refine XS.icmpYes X0.here hx rfl (pc0 := 74) (pc' := 101) rfl (hb hby d16_74) rfl (flt (by decide : ¬ (((0 : Int32) + (1 : Int32)) < (1 : Int32)))).2.1 (by decide) (by decide) ?_
      show oS s₁ (mkF m 101 #[oa r0, oi 0, oa r2, oi 0, oi 1, oi ((0 : Int32) + (1 : Int32)), .unset, .unset] []) _
      refine XS.iconst X0.here hx rfl (hb hby d16_101) ?_
      exact kt
    obtain ⟨fs, hr, hrun, hended, hW, hsame⟩ := X0.leave (v := some (.int (-1 : Int32))) (fun h => by rw [Bd.returns] at h; cases h)
    refine ⟨_, _, pre0 _ (c1 _ (c2 _ (c4 _ (c5 _ (c7 _ (c8 _ (?_))))))), hrun, hended, _, _, rfl, ?_, ⟨_, rfl⟩, hW, hsame.mono (by decide) (by decide)⟩
    · show Steps p.tables e below (s₁.setTop (mkF m 102 #[oa r0, oi 0, oa r2, oi 0, oi 1, oi ((0 : Int32) + (1 : Int32)), .unset, .unset] [(.int (-1 : Int32))])) _
      exact retI X0 hx Bd.returns (hb hby d16_102) hr
    · show Q16 Z r0 r2 ka kb zz vs w0 h0 n0 _ s₁.heap _
      rw [e0]
      exact ⟨congrArg (fun z => some (Value.int z)) (show (-1 : Int32) = (own_mm w0) from by unfold own_mm; rw [if_pos hc89]), N0, rfl⟩
  · -- it isn't
    have c10 : own_G p e below s₁ (mkF m 94 #[oa r0, oi 0, oa r2, oi 0, oi 1, oi 0, .unset, .unset] [(.int (0 : Int32))]) (mkF m 89 #[oa r0, oi 0, oa r2, oi 0, oi 1, oi 0, .unset, .unset] [(.int (45 : Int32)), (.int w0)]) := by
      intro t kt
      show oS s₁ (mkF m 89 #[oa r0, oi 0, oa r2, oi 0, oi 1, oi 0, .unset, .unset] [(.int (45 : Int32)), (.int w0)]) _
      refine XS.icmpNo X0.here hx rfl (hb hby d16_89) rfl (feq hc89).1 ?_
      show oS s₁ (mkF m 92 #[oa r0, oi 0, oa r2, oi 0, oi 1, oi 0, .unset, .unset] []) _
      refine XS.iload X0.here hx rfl (hb hby d16_92) rfl ?_
      exact kt
    obtain ⟨fs, hr, hrun, hended, hW, hsame⟩ := X0.leave (v := some (.int (0 : Int32))) (fun h => by rw [Bd.returns] at h; cases h)
    refine ⟨_, _, pre0 _ (c1 _ (c2 _ (c4 _ (c5 _ (c7 _ (c10 _ (?_))))))), hrun, hended, _, _, rfl, ?_, ⟨_, rfl⟩, hW, hsame.mono (by decide) (by decide)⟩
    · show Steps p.tables e below (s₁.setTop (mkF m 94 #[oa r0, oi 0, oa r2, oi 0, oi 1, oi 0, .unset, .unset] [(.int (0 : Int32))])) _
      exact retI X0 hx Bd.returns (hb hby d16_94) hr
    · show Q16 Z r0 r2 ka kb zz vs w0 h0 n0 _ s₁.heap _
      rw [e0]
      exact ⟨congrArg (fun z => some (Value.int z)) (show (0 : Int32) = (own_mm w0) from by unfold own_mm; rw [if_neg hc89]), N0, rfl⟩
theorem d13_0 : decode jdk_42_method_75_code 0 = .ok (.iload_n 2, 1) := by decide +kernel
theorem d13_1 : decode jdk_42_method_75_code 1 = .ok (.ifCond .lt 16, 3) := by decide +kernel
theorem d13_4 : decode jdk_42_method_75_code 4 = .ok (.iload_n 2, 1) := by decide +kernel
theorem d13_5 : decode jdk_42_method_75_code 5 = .ok (.aload_n 0, 1) := by decide +kernel
theorem d13_6 : decode jdk_42_method_75_code 6 = .ok (.invokevirtual 505, 3) := by decide +kernel
theorem d13_9 : decode jdk_42_method_75_code 9 = .ok (.aload_n 1, 1) := by decide +kernel
theorem d13_10 : decode jdk_42_method_75_code 10 = .ok (.invokevirtual 505, 3) := by decide +kernel
theorem d13_13 : decode jdk_42_method_75_code 13 = .ok (.isub, 1) := by decide +kernel
theorem d13_14 : decode jdk_42_method_75_code 14 = .ok (.if_icmp .le 5, 3) := by decide +kernel
theorem d13_19 : decode jdk_42_method_75_code 19 = .ok (.aload_n 0, 1) := by decide +kernel
theorem d13_20 : decode jdk_42_method_75_code 20 = .ok (.getfield 9, 3) := by decide +kernel
theorem d13_23 : decode jdk_42_method_75_code 23 = .ok (.astore_n 3, 1) := by decide +kernel
theorem d13_24 : decode jdk_42_method_75_code 24 = .ok (.aload_n 1, 1) := by decide +kernel
theorem d13_25 : decode jdk_42_method_75_code 25 = .ok (.getfield 9, 3) := by decide +kernel
theorem d13_28 : decode jdk_42_method_75_code 28 = .ok (.astore 4, 2) := by decide +kernel
theorem d13_30 : decode jdk_42_method_75_code 30 = .ok (.iconst 0, 1) := by decide +kernel
theorem d13_31 : decode jdk_42_method_75_code 31 = .ok (.istore 5, 2) := by decide +kernel
theorem d13_33 : decode jdk_42_method_75_code 33 = .ok (.aload 4, 2) := by decide +kernel
theorem d13_35 : decode jdk_42_method_75_code 35 = .ok (.arraylength, 1) := by decide +kernel
theorem d13_36 : decode jdk_42_method_75_code 36 = .ok (.istore 6, 2) := by decide +kernel
theorem d13_38 : decode jdk_42_method_75_code 38 = .ok (.aload_n 0, 1) := by decide +kernel
theorem d13_39 : decode jdk_42_method_75_code 39 = .ok (.invokevirtual 335, 3) := by decide +kernel
theorem d13_42 : decode jdk_42_method_75_code 42 = .ok (.istore 7, 2) := by decide +kernel
theorem d13_44 : decode jdk_42_method_75_code 44 = .ok (.iload 7, 2) := by decide +kernel
theorem d13_46 : decode jdk_42_method_75_code 46 = .ok (.aload_n 1, 1) := by decide +kernel
theorem d13_47 : decode jdk_42_method_75_code 47 = .ok (.invokevirtual 335, 3) := by decide +kernel
theorem d13_50 : decode jdk_42_method_75_code 50 = .ok (.if_icmp .ne 32, 3) := by decide +kernel
theorem d13_53 : decode jdk_42_method_75_code 53 = .ok (.iload 7, 2) := by decide +kernel
theorem d13_55 : decode jdk_42_method_75_code 55 = .ok (.iconst 1, 1) := by decide +kernel
theorem d13_56 : decode jdk_42_method_75_code 56 = .ok (.if_icmp .ne 7, 3) := by decide +kernel
theorem d13_63 : decode jdk_42_method_75_code 63 = .ok (.aload_n 3, 1) := by decide +kernel
theorem d13_64 : decode jdk_42_method_75_code 64 = .ok (.iload_n 2, 1) := by decide +kernel
theorem d13_65 : decode jdk_42_method_75_code 65 = .ok (.aload 4, 2) := by decide +kernel
theorem d13_67 : decode jdk_42_method_75_code 67 = .ok (.iconst 0, 1) := by decide +kernel
theorem d13_68 : decode jdk_42_method_75_code 68 = .ok (.iload 6, 2) := by decide +kernel
theorem d13_70 : decode jdk_42_method_75_code 70 = .ok (.invokestatic 607, 3) := by decide +kernel
theorem d13_73 : decode jdk_42_method_75_code 73 = .ok (.ifCond .ge 7, 3) := by decide +kernel
theorem d13_76 : decode jdk_42_method_75_code 76 = .ok (.iconst 1, 1) := by decide +kernel
theorem d13_77 : decode jdk_42_method_75_code 77 = .ok (.goto 4, 3) := by decide +kernel
theorem d13_80 : decode jdk_42_method_75_code 80 = .ok (.iconst 0, 1) := by decide +kernel
theorem d13_81 : decode jdk_42_method_75_code 81 = .ok (.ireturn, 1) := by decide +kernel
theorem pn_13 : plainName "java/lang/String" = true := by first | (simp [plainName, overriddenIn]; done) | decide +kernel
theorem ef_13 (m : MethodId) (x0 : Addr) (x1 : Addr) (x2 : Int32) : entryFrame m #[(.ref x0), (.ref x1), (.int x2)] 8 = mkF m 0 #[.val (.ref x0), .val (.ref x1), .val (.int x2), .unset, .unset, .unset, .unset, .unset] [] := by first | (simp [entryFrame, mkF, argsToLocals, Value.category]; done) | rfl
def Q13 (Z : State) (r0 : Addr) (r1 : Addr) (ba bb : Addr) (ka kb : ClassId) (cs : Int32) (zz : Int32) (vs : List Value) (w0 : Int32) (h0 : Heap) (n0 : Nat) (v : Option Value) (h : Heap) (L : List Loc) : Prop := v = some (.int (own_sw w0)) ∧ Fr n0 L ∧ h = h0
set_option maxRecDepth 65536 in
set_option maxHeartbeats 40000000 in
theorem rm13 (l : Launch) (Z : State) (a0 : Array Value) (hw : ∀ d ∈ tables_1, d.before a0 Z = true) (ws : List Jvm.Cond) (r0 : Addr) (r1 : Addr) (ba bb : Addr) (ka kb : ClassId) (cs : Int32) (zz : Int32) (vs : List Value) (w0 : Int32) (h0 : Heap) (n0 : Nat) (Z0 : n0 ≤ h0.size) (Ea : Exa Z h0 r0 "java/lang/String") (Fa : Fld Z h0 r0 "java/lang/String" "value" "[B" (.ref ba)) (Ca : Fld Z h0 r0 "java/lang/String" "coder" "B" (.int (0 : Int32))) (Va : Arv Z h0 ba ka .byte zz vs (.int 0)) (Eb : Exa Z h0 r1 "java/lang/String") (Fb : Fld Z h0 r1 "java/lang/String" "value" "[B" (.ref bb)) (Cb : Fld Z h0 r1 "java/lang/String" "coder" "B" (.int (0 : Int32))) (Vb : Arv Z h0 bb kb .byte (1 : Int32) [(.int (45 : Int32))] (.int 0)) (SC : Sta Z h0 "java/lang/String" "COMPACT_STRINGS" "Z" (.int cs)) (hcs : ¬ cs = (0 : Int32)) (hi0 : ¬ (0 : Int32) < 0 ∧ (0 : Int32) < zz) (ha0 : vs.getD (0 : Int32).toNatClampNeg (.int 0) = .int w0) (hz1 : ¬ (zz - (1 : Int32)) < (0 : Int32)) :
    MetFree l yy_8 (head1 (Jvm.Cond.code yy_8 jdk_42_method_75_code 8 (some .boolean) :: ws) ({ frames := 2, cells := 0, slots := 0, locals := 27 } : Room)) (fun a U => a = #[(.ref r0), (.ref r1), (.int (0 : Int32))] ∧ Z.Warmed39 U.vm ∧ U.heap = h0) (fun _ _ _ _ _ => True) (fun _ U o U' => ∃ v L, o = .returned v ∧ Q13 Z r0 r1 ba bb ka kb cs zz vs w0 h0 n0 v U'.heap L ∧ FrameEnd U o U' L ({ frames := 2, cells := 0, slots := 0, locals := 27 } : Room).cells ({ frames := 2, cells := 0, slots := 0, locals := 27 } : Room).slots) := by
  refine MetFree.of_bodySF (plainFor_of_name pn_13) hisR ?_
  intro p e s m args below meth c s₁ Bd hml0 hP hK
  obtain ⟨rfl, hZ, hh⟩ := hP
  have hx := Bd.exec
  have hby := Bd.bytes
  have hml : c.maxLocals = 8 := hml0
  have hown : s.vm.findClass "java/lang/String" = some m.cls := findClass_of_methodNamed Bd.named
  have hnm := (name_of_methodNamed Bd.named Bd.method).1
  have X0 : Stand p l e ({ frames := 2, cells := 0, slots := 0, locals := 27 } : Room) s m #[(.ref r0), (.ref r1), (.int (0 : Int32))] below meth c s₁ [] 0 0 := Stand.of_body Bd
  have e0 : s₁.heap = h0 := by rw [← hh, Bd.state]; rfl
  have N0 := Fr.nil n0
  have pre0 : ∀ t, Steps p.tables e below (s₁.setTop (mkF m 0 #[oa r0, oa r1, oi 0, .unset, .unset, .unset, .unset, .unset] [])) t → Steps p.tables e below (s₁.setTop (entryFrame m #[(.ref r0), (.ref r1), (.int (0 : Int32))] 8)) t := fun t k => castTop (ef_13 m r0 r1 (0 : Int32)) k
  have c1 : own_G p e below s₁ (mkF m 6 #[oa r0, oa r1, oi 0, .unset, .unset, .unset, .unset, .unset] [(.ref r0), (.int (0 : Int32))]) (mkF m 0 #[oa r0, oa r1, oi 0, .unset, .unset, .unset, .unset, .unset] []) := by
    intro t kt
    show oS s₁ (mkF m 0 #[oa r0, oa r1, oi 0, .unset, .unset, .unset, .unset, .unset] []) _
    refine XS.iloadN X0.here hx rfl (hb hby d13_0) rfl ?_
    show oS s₁ (mkF m 1 #[oa r0, oa r1, oi 0, .unset, .unset, .unset, .unset, .unset] [(.int (0 : Int32))]) _
    refine XS.ifNo X0.here hx rfl (hb hby d13_1) rfl ((if0 _ _).trans (flt (by decide : ¬ ((0 : Int32) < (0 : Int32)))).1) ?_
    show oS s₁ (mkF m 4 #[oa r0, oa r1, oi 0, .unset, .unset, .unset, .unset, .unset] []) _
    refine XS.iloadN X0.here hx rfl (hb hby d13_4) rfl ?_
    show oS s₁ (mkF m 5 #[oa r0, oa r1, oi 0, .unset, .unset, .unset, .unset, .unset] [(.int (0 : Int32))]) _
    refine XS.aloadN X0.here hx rfl (hb hby d13_5) rfl rfl ?_
    exact kt
  obtain ⟨cq2, kq2, q2a, q2b, q2c⟩ := isOf hZ e0 Ea
  obtain ⟨_, _, ⟨T3, L3, k3, n3⟩, -, X3, ⟨Lc3, hQ3, l3, y3, z3⟩, st3⟩ := X0.virtualBack hx (y := yy_6) (z := yy_6) hown (mvT hZ (own_t hw 66 rfl)) (mvT hZ (own_t hw 67 rfl)) (notFace_of_selects (args := #[]) (mvT hZ (own_t hw 69 rfl))) (mvT hZ (own_t hw 69 rfl)) (mvT hZ (own_t hw 68 rfl)) (by decide) (backOf (W := 1) (rm14 l Z a0 hw [] r0 ba ka zz vs (.int 0) cs h0 n0 Z0 Ea Fa Va SC hcs Ca) hZ (own_t hw 70 rfl) (own_t hw 7 rfl) (by decide) (by decide)) q2a q2c (g := (mkF m 6 #[oa r0, oa r1, oi 0, .unset, .unset, .unset, .unset, .unset] [(.ref r0), (.int (0 : Int32))])) rfl (by rw [hml]; rfl) (Steps.refl _) (argsL := []) (rest := [(.int (0 : Int32))]) (lenOf pd_5 rfl) rfl (by show 2 * 0 + _ ≤ _; exact Nat.le_of_eq rfl) (hb hby d13_6) (fun _ _ => ⟨rfl, e0, (by decide : 0 + 0 ≤ _), (by decide : 0 + 0 ≤ _)⟩)
  dsimp only [Pt.U, Pt.locs, Pt.cells, Pt.slots] at X3 l3 y3 z3 st3 hQ3
  subst l3 y3 z3
  obtain ⟨rfl, N3q, e3⟩ := hQ3
  have N3 := Fr.app N0 N3q
  have c4 : own_G p e below T3 (mkF m 10 #[oa r0, oa r1, oi 0, .unset, .unset, .unset, .unset, .unset] [(.ref r1), (.int zz), (.int (0 : Int32))]) (mkF m 9 #[oa r0, oa r1, oi 0, .unset, .unset, .unset, .unset, .unset] [(.int zz), (.int (0 : Int32))]) := by
    intro t kt
    show oS T3 (mkF m 9 #[oa r0, oa r1, oi 0, .unset, .unset, .unset, .unset, .unset] [(.int zz), (.int (0 : Int32))]) _
    refine XS.aloadN X3.here hx rfl (hb hby d13_9) rfl rfl ?_
    exact kt
  obtain ⟨cq5, kq5, q5a, q5b, q5c⟩ := isOf hZ e3 Eb
  obtain ⟨_, _, ⟨T6, L6, k6, n6⟩, -, X6, ⟨Lc6, hQ6, l6, y6, z6⟩, st6⟩ := X3.virtualBack hx (y := yy_6) (z := yy_6) hown (mvT hZ (own_t hw 66 rfl)) (mvT hZ (own_t hw 67 rfl)) (notFace_of_selects (args := #[]) (mvT hZ (own_t hw 69 rfl))) (mvT hZ (own_t hw 69 rfl)) (mvT hZ (own_t hw 68 rfl)) (by decide) (backOf (W := 2) (rm14 l Z a0 hw [] r1 bb kb (1 : Int32) [(.int (45 : Int32))] (.int 0) cs h0 n0 Z0 Eb Fb Vb SC hcs Cb) hZ (own_t hw 70 rfl) (own_t hw 7 rfl) (by decide) (by decide)) q5a q5c (g := (mkF m 10 #[oa r0, oa r1, oi 0, .unset, .unset, .unset, .unset, .unset] [(.ref r1), (.int zz), (.int (0 : Int32))])) rfl (by rw [hml]; rfl) (Steps.refl _) (argsL := []) (rest := [(.int zz), (.int (0 : Int32))]) (lenOf pd_5 rfl) rfl (by show 2 * 0 + _ ≤ _; exact Nat.le_of_eq rfl) (hb hby d13_10) (fun _ _ => ⟨rfl, e3, (by decide : 0 + 0 ≤ _), (by decide : 0 + 0 ≤ _)⟩)
  dsimp only [Pt.U, Pt.locs, Pt.cells, Pt.slots] at X6 l6 y6 z6 st6 hQ6
  subst l6 y6 z6
  obtain ⟨rfl, N6q, e6⟩ := hQ6
  have N6 := Fr.app N3 N6q
  have c8 : own_G p e below T6 (mkF m 14 #[oa r0, oa r1, oi 0, .unset, .unset, .unset, .unset, .unset] [(.int (zz - (1 : Int32))), (.int (0 : Int32))]) (mkF m 13 #[oa r0, oa r1, oi 0, .unset, .unset, .unset, .unset, .unset] [(.int (1 : Int32)), (.int zz), (.int (0 : Int32))]) := by
    intro t kt
    show oS T6 (mkF m 13 #[oa r0, oa r1, oi 0, .unset, .unset, .unset, .unset, .unset] [(.int (1 : Int32)), (.int zz), (.int (0 : Int32))]) _
    refine XS.isub X6.here hx rfl (hb hby d13_13) rfl ?_
    exact kt
  have hd7 : ¬ ((zz - (1 : Int32)) < (0 : Int32)) := hz1
  have c10 : own_G p e below T6 (mkF m 20 #[oa r0, oa r1, oi 0, .unset, .unset, .unset, .unset, .unset] [(.ref r0)]) (mkF m 14 #[oa r0, oa r1, oi 0, .unset, .unset, .unset, .unset, .unset] [(.int (zz - (1 : Int32))), (.int (0 : Int32))]) := by
    intro t kt
    show oS T6 (mkF m 14 #[oa r0, oa r1, oi 0, .unset, .unset, .unset, .unset, .unset] [(.int (zz - (1 : Int32))), (.int (0 : Int32))]) _
    refine XS.icmpYes X6.here hx rfl (pc0 := 14) (pc' := 19) rfl (hb hby d13_14) rfl (flt hd7).2.2.2 (by decide) (by decide) ?_
    show oS T6 (mkF m 19 #[oa r0, oa r1, oi 0, .unset, .unset, .unset, .unset, .unset] []) _
    refine XS.aloadN X6.here hx rfl (hb hby d13_19) rfl rfl ?_
    exact kt
  obtain ⟨T9, X9, e9, st9⟩ := getF X6 hx hZ hown (host := "") (Or.inl (own_t hw 36 rfl)) Via.refl e6 Fa (g := (mkF m 20 #[oa r0, oa r1, oi 0, .unset, .unset, .unset, .unset, .unset] [(.ref r0)])) rfl rfl (hb hby d13_20)
  have c12 : own_G p e below T9 (mkF m 25 #[oa r0, oa r1, oi 0, oa ba, .unset, .unset, .unset, .unset] [(.ref r1)]) (mkF m 23 #[oa r0, oa r1, oi 0, .unset, .unset, .unset, .unset, .unset] [(.ref ba)]) := by
    intro t kt
    show oS T9 (mkF m 23 #[oa r0, oa r1, oi 0, .unset, .unset, .unset, .unset, .unset] [(.ref ba)]) _
    refine XS.astoreN X9.here hx rfl (hb hby d13_23) rfl rfl (l' := #[oa r0, oa r1, oi 0, oa ba, .unset, .unset, .unset, .unset]) rfl ?_
    show oS T9 (mkF m 24 #[oa r0, oa r1, oi 0, oa ba, .unset, .unset, .unset, .unset] []) _
    refine XS.aloadN X9.here hx rfl (hb hby d13_24) rfl rfl ?_
    exact kt
  obtain ⟨T11, X11, e11, st11⟩ := getF X9 hx hZ hown (host := "") (Or.inl (own_t hw 36 rfl)) Via.refl e9 Fb (g := (mkF m 25 #[oa r0, oa r1, oi 0, oa ba, .unset, .unset, .unset, .unset] [(.ref r1)])) rfl rfl (hb hby d13_25)
  have Vc13 := Vb
  obtain ⟨cl13, Ar13, qk13, S13, M13, H13, G13⟩ := Vc13
  have c14 : own_G p e below T11 (mkF m 39 #[oa r0, oa r1, oi 0, oa ba, oa bb, oi 0, oi 1, .unset] [(.ref r0)]) (mkF m 28 #[oa r0, oa r1, oi 0, oa ba, .unset, .unset, .unset, .unset] [(.ref bb)]) := by
    intro t kt
    show oS T11 (mkF m 28 #[oa r0, oa r1, oi 0, oa ba, .unset, .unset, .unset, .unset] [(.ref bb)]) _
    refine XS.astore X11.here hx rfl (hb hby d13_28) rfl rfl (l' := #[oa r0, oa r1, oi 0, oa ba, oa bb, .unset, .unset, .unset]) rfl ?_
    show oS T11 (mkF m 30 #[oa r0, oa r1, oi 0, oa ba, oa bb, .unset, .unset, .unset] []) _
    refine XS.iconst X11.here hx rfl (hb hby d13_30) ?_
    show oS T11 (mkF m 31 #[oa r0, oa r1, oi 0, oa ba, oa bb, .unset, .unset, .unset] [(.int (0 : Int32))]) _
    refine XS.istore X11.here hx rfl (hb hby d13_31) rfl (l' := #[oa r0, oa r1, oi 0, oa ba, oa bb, oi 0, .unset, .unset]) rfl ?_
    show oS T11 (mkF m 33 #[oa r0, oa r1, oi 0, oa ba, oa bb, oi 0, .unset, .unset] []) _
    refine XS.aload X11.here hx rfl (hb hby d13_33) rfl rfl ?_
    show oS T11 (mkF m 35 #[oa r0, oa r1, oi 0, oa ba, oa bb, oi 0, .unset, .unset] [(.ref bb)]) _
    refine X11.arraylength hx (by rw [e11]; exact Ar13.1) (State.isArrayOf_alike hZ.alike Ar13.2.1) (g := (mkF m 35 #[oa r0, oa r1, oi 0, oa ba, oa bb, oi 0, .unset, .unset] [(.ref bb)])) rfl rfl (hb hby d13_35) _ ?_
    rw [len_of S13 M13]
    show oS T11 (mkF m 36 #[oa r0, oa r1, oi 0, oa ba, oa bb, oi 0, .unset, .unset] [(.int (1 : Int32))]) _
    refine XS.istore X11.here hx rfl (hb hby d13_36) rfl (l' := #[oa r0, oa r1, oi 0, oa ba, oa bb, oi 0, oi 1, .unset]) rfl ?_
    show oS T11 (mkF m 38 #[oa r0, oa r1, oi 0, oa ba, oa bb, oi 0, oi 1, .unset] []) _
    refine XS.aloadN X11.here hx rfl (hb hby d13_38) rfl rfl ?_
    exact kt
  obtain ⟨cq15, kq15, q15a, q15b, q15c⟩ := isOf hZ e11 Ea
  obtain ⟨_, _, ⟨T16, L16, k16, n16⟩, -, X16, ⟨Lc16, hQ16, l16, y16, z16⟩, st16⟩ := X11.virtualBack hx (y := yy_5) (z := yy_5) hown (mvT hZ (own_t hw 71 rfl)) (mvT hZ (own_t hw 72 rfl)) (notFace_of_selects (args := #[]) (mvT hZ (own_t hw 74 rfl))) (mvT hZ (own_t hw 74 rfl)) (mvT hZ (own_t hw 73 rfl)) (by decide) (backOf (W := 0) (rm15 l Z a0 hw [] r0 cs h0 n0 Z0 SC hcs Ca) hZ (own_t hw 75 rfl) (own_t hw 7 rfl) (by decide) (by decide)) q15a q15c (g := (mkF m 39 #[oa r0, oa r1, oi 0, oa ba, oa bb, oi 0, oi 1, .unset] [(.ref r0)])) rfl (by rw [hml]; rfl) (Steps.refl _) (argsL := []) (rest := []) (lenOf pd_4 rfl) rfl (by show 2 * 0 + _ ≤ _; exact Nat.le_of_eq rfl) (hb hby d13_39) (fun _ _ => ⟨rfl, e11, (by decide : 0 + 0 ≤ _), (by decide : 0 + 0 ≤ _)⟩)
  dsimp only [Pt.U, Pt.locs, Pt.cells, Pt.slots] at X16 l16 y16 z16 st16 hQ16
  subst l16 y16 z16
  obtain ⟨rfl, N16q, e16⟩ := hQ16
  have N16 := Fr.app N6 N16q
  have c17 : own_G p e below T16 (mkF m 47 #[oa r0, oa r1, oi 0, oa ba, oa bb, oi 0, oi 1, oi 0] [(.ref r1), (.int (0 : Int32))]) (mkF m 42 #[oa r0, oa r1, oi 0, oa ba, oa bb, oi 0, oi 1, .unset] [(.int (0 : Int32))]) := by
    intro t kt
    show oS T16 (mkF m 42 #[oa r0, oa r1, oi 0, oa ba, oa bb, oi 0, oi 1, .unset] [(.int (0 : Int32))]) _
    refine XS.istore X16.here hx rfl (hb hby d13_42) rfl (l' := #[oa r0, oa r1, oi 0, oa ba, oa bb, oi 0, oi 1, oi 0]) rfl ?_
    show oS T16 (mkF m 44 #[oa r0, oa r1, oi 0, oa ba, oa bb, oi 0, oi 1, oi 0] []) _
    refine XS.iload X16.here hx rfl (hb hby d13_44) rfl ?_
    show oS T16 (mkF m 46 #[oa r0, oa r1, oi 0, oa ba, oa bb, oi 0, oi 1, oi 0] [(.int (0 : Int32))]) _
    refine XS.aloadN X16.here hx rfl (hb hby d13_46) rfl rfl ?_
    exact kt
  obtain ⟨cq18, kq18, q18a, q18b, q18c⟩ := isOf hZ e16 Eb
  obtain ⟨_, _, ⟨T19, L19, k19, n19⟩, -, X19, ⟨Lc19, hQ19, l19, y19, z19⟩, st19⟩ := X16.virtualBack hx (y := yy_5) (z := yy_5) hown (mvT hZ (own_t hw 71 rfl)) (mvT hZ (own_t hw 72 rfl)) (notFace_of_selects (args := #[]) (mvT hZ (own_t hw 74 rfl))) (mvT hZ (own_t hw 74 rfl)) (mvT hZ (own_t hw 73 rfl)) (by decide) (backOf (W := 1) (rm15 l Z a0 hw [] r1 cs h0 n0 Z0 SC hcs Cb) hZ (own_t hw 75 rfl) (own_t hw 7 rfl) (by decide) (by decide)) q18a q18c (g := (mkF m 47 #[oa r0, oa r1, oi 0, oa ba, oa bb, oi 0, oi 1, oi 0] [(.ref r1), (.int (0 : Int32))])) rfl (by rw [hml]; rfl) (Steps.refl _) (argsL := []) (rest := [(.int (0 : Int32))]) (lenOf pd_4 rfl) rfl (by show 2 * 0 + _ ≤ _; exact Nat.le_of_eq rfl) (hb hby d13_47) (fun _ _ => ⟨rfl, e16, (by decide : 0 + 0 ≤ _), (by decide : 0 + 0 ≤ _)⟩)
  dsimp only [Pt.U, Pt.locs, Pt.cells, Pt.slots] at X19 l19 y19 z19 st19 hQ19
  subst l19 y19 z19
  obtain ⟨rfl, N19q, e19⟩ := hQ19
  have N19 := Fr.app N16 N19q
  have c20 : own_G p e below T19 (mkF m 70 #[oa r0, oa r1, oi 0, oa ba, oa bb, oi 0, oi 1, oi 0] [(.int (1 : Int32)), (.int (0 : Int32)), (.ref bb), (.int (0 : Int32)), (.ref ba)]) (mkF m 50 #[oa r0, oa r1, oi 0, oa ba, oa bb, oi 0, oi 1, oi 0] [(.int (0 : Int32)), (.int (0 : Int32))]) := by
    intro t kt
    show oS T19 (mkF m 50 #[oa r0, oa r1, oi 0, oa ba, oa bb, oi 0, oi 1, oi 0] [(.int (0 : Int32)), (.int (0 : Int32))]) _
    refine XS.icmpNo X19.here hx rfl (hb hby d13_50) rfl (teq (by decide : (0 : Int32) = (0 : Int32))).2 ?_
    show oS T19 (mkF m 53 #[oa r0, oa r1, oi 0, oa ba, oa bb, oi 0, oi 1, oi 0] []) _
    refine XS.iload X19.here hx rfl (hb hby d13_53) rfl ?_
    show oS T19 (mkF m 55 #[oa r0, oa r1, oi 0, oa ba, oa bb, oi 0, oi 1, oi 0] [(.int (0 : Int32))]) _
    refine XS.iconst X19.here hx rfl (hb hby d13_55) ?_
    show oS T19 (mkF m 56 #[oa r0, oa r1, oi 0, oa ba, oa bb, oi 0, oi 1, oi 0] [(.int (1 : Int32)), (.int (0 : Int32))]) _
    refine XS.icmpYes X19.here hx rfl (pc0 := 56) (pc' := 63) rfl (hb hby d13_56) rfl (feq (by decide : ¬ ((0 : Int32) = (1 : Int32)))).2 (by decide) (by decide) ?_
    show oS T19 (mkF m 63 #[oa r0, oa r1, oi 0, oa ba, oa bb, oi 0, oi 1, oi 0] []) _
    refine XS.aloadN X19.here hx rfl (hb hby d13_63) rfl rfl ?_
    show oS T19 (mkF m 64 #[oa r0, oa r1, oi 0, oa ba, oa bb, oi 0, oi 1, oi 0] [(.ref ba)]) _
    refine XS.iloadN X19.here hx rfl (hb hby d13_64) rfl ?_
    show oS T19 (mkF m 65 #[oa r0, oa r1, oi 0, oa ba, oa bb, oi 0, oi 1, oi 0] [(.int (0 : Int32)), (.ref ba)]) _
    refine XS.aload X19.here hx rfl (hb hby d13_65) rfl rfl ?_
    show oS T19 (mkF m 67 #[oa r0, oa r1, oi 0, oa ba, oa bb, oi 0, oi 1, oi 0] [(.ref bb), (.int (0 : Int32)), (.ref ba)]) _
    refine XS.iconst X19.here hx rfl (hb hby d13_67) ?_
    show oS T19 (mkF m 68 #[oa r0, oa r1, oi 0, oa ba, oa bb, oi 0, oi 1, oi 0] [(.int (0 : Int32)), (.ref bb), (.int (0 : Int32)), (.ref ba)]) _
    refine XS.iload X19.here hx rfl (hb hby d13_68) rfl ?_
    exact kt
  obtain ⟨_, _, ⟨T21, L21, k21, n21⟩, -, X21, ⟨Lc21, hQ21, l21, y21, z21⟩, st21⟩ := Jvm.LawKit.callS X19 hx (y := yy_7) hown (mvT hZ (own_t hw 76 rfl)) (mvT hZ (own_t hw 77 rfl)) (mvT hZ (own_t hw 78 rfl)) (mvT hZ (own_t hw 79 rfl)) (by decide) (backOf (W := 0) (rm16 l Z a0 hw []  ba bb ka kb zz vs w0 h0 n0 Z0 Va hi0 ha0 Vb) hZ (own_t hw 79 rfl) (own_t hw 78 rfl) (by decide) (by decide)) (g := (mkF m 70 #[oa r0, oa r1, oi 0, oa ba, oa bb, oi 0, oi 1, oi 0] [(.int (1 : Int32)), (.int (0 : Int32)), (.ref bb), (.int (0 : Int32)), (.ref ba)])) rfl (by rw [hml]; rfl) (argsL := [(.ref ba), (.int (0 : Int32)), (.ref bb), (.int (0 : Int32)), (.int (1 : Int32))]) (rest := []) (lenOf pd_6 rfl) rfl (by show 2 * 0 + _ ≤ _; exact Nat.le_of_eq rfl) (hb hby d13_70) (fun _ _ => ⟨rfl, e19, (by decide : 0 + 0 ≤ _), (by decide : 0 + 0 ≤ _)⟩)
  dsimp only [Pt.U, Pt.locs, Pt.cells, Pt.slots] at X21 l21 y21 z21 st21 hQ21
  subst l21 y21 z21
  obtain ⟨rfl, N21q, e21⟩ := hQ21
  have N21 := Fr.app N19 N21q
  by_cases hc73 : (own_mm w0) < (0 : Int32)
  · -- it is
    have c22 : own_G p e below T21 (mkF m 81 #[oa r0, oa r1, oi 0, oa ba, oa bb, oi 0, oi 1, oi 0] [(.int (1 : Int32))]) (mkF m 73 #[oa r0, oa r1, oi 0, oa ba, oa bb, oi 0, oi 1, oi 0] [(.int (own_mm w0))]) := by
      intro t kt
      show oS T21 (mkF m 73 #[oa r0, oa r1, oi 0, oa ba, oa bb, oi 0, oi 1, oi 0] [(.int (own_mm w0))]) _
      refine XS.ifNo X21.here hx rfl (hb hby d13_73) rfl ((if0 _ _).trans (tlt hc73).2.1) ?_
      show oS T21 (mkF m 76 #[oa r0, oa r1, oi 0, oa ba, oa bb, oi 0, oi 1, oi 0] []) _
      refine XS.iconst X21.here hx rfl (hb hby d13_76) ?_
      show oS T21 (mkF m 77 #[oa r0, oa r1, oi 0, oa ba, oa bb, oi 0, oi 1, oi 0] [(.int (1 : Int32))]) _
      refine XS.goto X21.here hx rfl (pc0 := 77) (pc' := 81) rfl (hb hby d13_77) (by decide) (by decide) ?_
      exact kt
    obtain ⟨fs, hr, hrun, hended, hW, hsame⟩ := X21.leave (v := some (.int (1 : Int32))) (fun h => by rw [Bd.returns] at h; cases h)
    refine ⟨_, _, pre0 _ (c1 _ (st3.trans (c4 _ (st6.trans (c8 _ (c10 _ (st9 _ (c12 _ (st11 _ (c14 _ (st16.trans (c17 _ (st19.trans (c20 _ (st21 _ (c22 _ (?_))))))))))))))))), hrun, hended, _, _, rfl, ?_, ⟨_, rfl⟩, hW, hsame.mono (by decide) (by decide)⟩
    · show Steps p.tables e below (T21.setTop (mkF m 81 #[oa r0, oa r1, oi 0, oa ba, oa bb, oi 0, oi 1, oi 0] [(.int (1 : Int32))])) _
      exact retN X21 hx (t := .boolean) Bd.returns (by simp) (hb hby d13_81) hr
    · show Q13 Z r0 r1 ba bb ka kb cs zz vs w0 h0 n0 _ T21.heap _
      rw [e21]
      exact ⟨congrArg (fun z => some (Value.int z)) (show (1 : Int32) = (own_sw w0) from by unfold own_sw; rw [if_pos hc73]), N21, rfl⟩
  · -- it isn't
    have c24 : own_G p e below T21 (mkF m 81 #[oa r0, oa r1, oi 0, oa ba, oa bb, oi 0, oi 1, oi 0] [(.int (0 : Int32))]) (mkF m 73 #[oa r0, oa r1, oi 0, oa ba, oa bb, oi 0, oi 1, oi 0] [(.int (own_mm w0))]) := by
      intro t kt
      show oS T21 (mkF m 73 #[oa r0, oa r1, oi 0, oa ba, oa bb, oi 0, oi 1, oi 0] [(.int (own_mm w0))]) _
      refine XS.ifYes X21.here hx rfl (pc0 := 73) (pc' := 80) rfl (hb hby d13_73) rfl ((if0 _ _).trans (flt hc73).2.1) (by decide) (by decide) ?_
      show oS T21 (mkF m 80 #[oa r0, oa r1, oi 0, oa ba, oa bb, oi 0, oi 1, oi 0] []) _
      refine XS.iconst X21.here hx rfl (hb hby d13_80) ?_
      exact kt
    obtain ⟨fs, hr, hrun, hended, hW, hsame⟩ := X21.leave (v := some (.int (0 : Int32))) (fun h => by rw [Bd.returns] at h; cases h)
    refine ⟨_, _, pre0 _ (c1 _ (st3.trans (c4 _ (st6.trans (c8 _ (c10 _ (st9 _ (c12 _ (st11 _ (c14 _ (st16.trans (c17 _ (st19.trans (c20 _ (st21 _ (c24 _ (?_))))))))))))))))), hrun, hended, _, _, rfl, ?_, ⟨_, rfl⟩, hW, hsame.mono (by decide) (by decide)⟩
    · show Steps p.tables e below (T21.setTop (mkF m 81 #[oa r0, oa r1, oi 0, oa ba, oa bb, oi 0, oi 1, oi 0] [(.int (0 : Int32))])) _
      exact retN X21 hx (t := .boolean) Bd.returns (by simp) (hb hby d13_81) hr
    · show Q13 Z r0 r1 ba bb ka kb cs zz vs w0 h0 n0 _ T21.heap _
      rw [e21]
      exact ⟨congrArg (fun z => some (Value.int z)) (show (0 : Int32) = (own_sw w0) from by unfold own_sw; rw [if_neg hc73]), N21, rfl⟩
theorem d12_0 : decode jdk_42_method_76_code 0 = .ok (.aload_n 0, 1) := by decide +kernel
theorem d12_1 : decode jdk_42_method_76_code 1 = .ok (.aload_n 1, 1) := by decide +kernel
theorem d12_2 : decode jdk_42_method_76_code 2 = .ok (.iconst 0, 1) := by decide +kernel
theorem d12_3 : decode jdk_42_method_76_code 3 = .ok (.invokevirtual 624, 3) := by decide +kernel
theorem d12_6 : decode jdk_42_method_76_code 6 = .ok (.ireturn, 1) := by decide +kernel
theorem pn_12 : plainName "java/lang/String" = true := by first | (simp [plainName, overriddenIn]; done) | decide +kernel
theorem ef_12 (m : MethodId) (x0 : Addr) (x1 : Addr) : entryFrame m #[(.ref x0), (.ref x1)] 2 = mkF m 0 #[.val (.ref x0), .val (.ref x1)] [] := by first | (simp [entryFrame, mkF, argsToLocals, Value.category]; done) | rfl
def Q12 (Z : State) (r0 : Addr) (r1 : Addr) (ba bb : Addr) (ka kb : ClassId) (cs : Int32) (zz : Int32) (vs : List Value) (w0 : Int32) (h0 : Heap) (n0 : Nat) (v : Option Value) (h : Heap) (L : List Loc) : Prop := v = some (.int ((own_sw w0) &&& 1)) ∧ Fr n0 L ∧ h = h0
set_option maxRecDepth 65536 in
set_option maxHeartbeats 40000000 in
theorem rm12 (l : Launch) (Z : State) (a0 : Array Value) (hw : ∀ d ∈ tables_1, d.before a0 Z = true) (ws : List Jvm.Cond) (r0 : Addr) (r1 : Addr) (ba bb : Addr) (ka kb : ClassId) (cs : Int32) (zz : Int32) (vs : List Value) (w0 : Int32) (h0 : Heap) (n0 : Nat) (Z0 : n0 ≤ h0.size) (Ea : Exa Z h0 r0 "java/lang/String") (Fa : Fld Z h0 r0 "java/lang/String" "value" "[B" (.ref ba)) (Ca : Fld Z h0 r0 "java/lang/String" "coder" "B" (.int (0 : Int32))) (Va : Arv Z h0 ba ka .byte zz vs (.int 0)) (Eb : Exa Z h0 r1 "java/lang/String") (Fb : Fld Z h0 r1 "java/lang/String" "value" "[B" (.ref bb)) (Cb : Fld Z h0 r1 "java/lang/String" "coder" "B" (.int (0 : Int32))) (Vb : Arv Z h0 bb kb .byte (1 : Int32) [(.int (45 : Int32))] (.int 0)) (SC : Sta Z h0 "java/lang/String" "COMPACT_STRINGS" "Z" (.int cs)) (hcs : ¬ cs = (0 : Int32)) (hi0 : ¬ (0 : Int32) < 0 ∧ (0 : Int32) < zz) (ha0 : vs.getD (0 : Int32).toNatClampNeg (.int 0) = .int w0) (hz1 : ¬ (zz - (1 : Int32)) < (0 : Int32)) :
    MetFree l yy_9 (head1 (Jvm.Cond.code yy_9 jdk_42_method_76_code 2 (some .boolean) :: ws) ({ frames := 3, cells := 0, slots := 0, locals := 46 } : Room)) (fun a U => a = #[(.ref r0), (.ref r1)] ∧ Z.Warmed39 U.vm ∧ U.heap = h0) (fun _ _ _ _ _ => True) (fun _ U o U' => ∃ v L, o = .returned v ∧ Q12 Z r0 r1 ba bb ka kb cs zz vs w0 h0 n0 v U'.heap L ∧ FrameEnd U o U' L ({ frames := 3, cells := 0, slots := 0, locals := 46 } : Room).cells ({ frames := 3, cells := 0, slots := 0, locals := 46 } : Room).slots) := by
  refine MetFree.of_bodySF (plainFor_of_name pn_12) hisR ?_
  intro p e s m args below meth c s₁ Bd hml0 hP hK
  obtain ⟨rfl, hZ, hh⟩ := hP
  have hx := Bd.exec
  have hby := Bd.bytes
  have hml : c.maxLocals = 2 := hml0
  have hown : s.vm.findClass "java/lang/String" = some m.cls := findClass_of_methodNamed Bd.named
  have hnm := (name_of_methodNamed Bd.named Bd.method).1
  have X0 : Stand p l e ({ frames := 3, cells := 0, slots := 0, locals := 46 } : Room) s m #[(.ref r0), (.ref r1)] below meth c s₁ [] 0 0 := Stand.of_body Bd
  have e0 : s₁.heap = h0 := by rw [← hh, Bd.state]; rfl
  have N0 := Fr.nil n0
  have pre0 : ∀ t, Steps p.tables e below (s₁.setTop (mkF m 0 #[oa r0, oa r1] [])) t → Steps p.tables e below (s₁.setTop (entryFrame m #[(.ref r0), (.ref r1)] 2)) t := fun t k => castTop (ef_12 m r0 r1) k
  have c1 : own_G p e below s₁ (mkF m 3 #[oa r0, oa r1] [(.int (0 : Int32)), (.ref r1), (.ref r0)]) (mkF m 0 #[oa r0, oa r1] []) := by
    intro t kt
    show oS s₁ (mkF m 0 #[oa r0, oa r1] []) _
    refine XS.aloadN X0.here hx rfl (hb hby d12_0) rfl rfl ?_
    show oS s₁ (mkF m 1 #[oa r0, oa r1] [(.ref r0)]) _
    refine XS.aloadN X0.here hx rfl (hb hby d12_1) rfl rfl ?_
    show oS s₁ (mkF m 2 #[oa r0, oa r1] [(.ref r1), (.ref r0)]) _
    refine XS.iconst X0.here hx rfl (hb hby d12_2) ?_
    exact kt
  obtain ⟨cq2, kq2, q2a, q2b, q2c⟩ := isOf hZ e0 Ea
  obtain ⟨_, _, ⟨T3, L3, k3, n3⟩, -, X3, ⟨Lc3, hQ3, l3, y3, z3⟩, st3⟩ := X0.virtualBack hx (y := yy_8) (z := yy_8) hown (mvT hZ (own_t hw 61 rfl)) (mvT hZ (own_t hw 62 rfl)) (notFace_of_selects (args := #[]) (mvT hZ (own_t hw 64 rfl))) (mvT hZ (own_t hw 64 rfl)) (mvT hZ (own_t hw 63 rfl)) (by decide) (backOf (W := 0) (rm13 l Z a0 hw []  r0 r1 ba bb ka kb cs zz vs w0 h0 n0 Z0 Ea Fa Ca Va Eb Fb Cb Vb SC hcs hi0 ha0 hz1) hZ (own_t hw 65 rfl) (own_t hw 7 rfl) (by decide) (by decide)) q2a q2c (g := (mkF m 3 #[oa r0, oa r1] [(.int (0 : Int32)), (.ref r1), (.ref r0)])) rfl (by rw [hml]; rfl) (Steps.refl _) (argsL := [(.ref r1), (.int (0 : Int32))]) (rest := []) (lenOf pd_7 rfl) rfl (by show 2 * 0 + _ ≤ _; exact Nat.le_of_eq rfl) (hb hby d12_3) (fun _ _ => ⟨rfl, e0, (by decide : 0 + 0 ≤ _), (by decide : 0 + 0 ≤ _)⟩)
  dsimp only [Pt.U, Pt.locs, Pt.cells, Pt.slots] at X3 l3 y3 z3 st3 hQ3
  subst l3 y3 z3
  obtain ⟨rfl, N3q, e3⟩ := hQ3
  have N3 := Fr.app N0 N3q
  obtain ⟨fs, hr, hrun, hended, hW, hsame⟩ := X3.leave (v := some (.int ((own_sw w0) &&& 1))) (fun h => by rw [Bd.returns] at h; cases h)
  refine ⟨_, _, pre0 _ (c1 _ (st3.trans (?_))), hrun, hended, _, _, rfl, ?_, ⟨_, rfl⟩, hW, hsame.mono (by decide) (by decide)⟩
  · show Steps p.tables e below (T3.setTop (mkF m 6 #[oa r0, oa r1] [(.int (own_sw w0))])) _
    exact retN X3 hx (t := .boolean) Bd.returns (by simp) (hb hby d12_6) hr
  · show Q12 Z r0 r1 ba bb ka kb cs zz vs w0 h0 n0 _ T3.heap _
    rw [e3]
    exact ⟨congrArg (fun z => some (Value.int z)) (show ((own_sw w0) &&& 1) = ((own_sw w0) &&& 1) from by rfl), N3, rfl⟩
theorem d17_0 : decode prog_25_method_27_code 0 = .ok (.iload_n 1, 1) := by decide +kernel
theorem d17_1 : decode prog_25_method_27_code 1 = .ok (.istore_n 2, 1) := by decide +kernel
theorem d17_2 : decode prog_25_method_27_code 2 = .ok (.iload_n 2, 1) := by decide +kernel
theorem d17_3 : decode prog_25_method_27_code 3 = .ok (.aload_n 0, 1) := by decide +kernel
theorem d17_4 : decode prog_25_method_27_code 4 = .ok (.invokevirtual 220, 3) := by decide +kernel
theorem d17_7 : decode prog_25_method_27_code 7 = .ok (.if_icmp .ge 29, 3) := by decide +kernel
theorem d17_10 : decode prog_25_method_27_code 10 = .ok (.aload_n 0, 1) := by decide +kernel
theorem d17_11 : decode prog_25_method_27_code 11 = .ok (.iload_n 2, 1) := by decide +kernel
theorem d17_12 : decode prog_25_method_27_code 12 = .ok (.invokevirtual 239, 3) := by decide +kernel
theorem d17_15 : decode prog_25_method_27_code 15 = .ok (.bipush 48, 2) := by decide +kernel
theorem d17_17 : decode prog_25_method_27_code 17 = .ok (.if_icmp .lt 19, 3) := by decide +kernel
theorem d17_20 : decode prog_25_method_27_code 20 = .ok (.aload_n 0, 1) := by decide +kernel
theorem d17_21 : decode prog_25_method_27_code 21 = .ok (.iload_n 2, 1) := by decide +kernel
theorem d17_22 : decode prog_25_method_27_code 22 = .ok (.invokevirtual 239, 3) := by decide +kernel
theorem d17_25 : decode prog_25_method_27_code 25 = .ok (.bipush 57, 2) := by decide +kernel
theorem d17_27 : decode prog_25_method_27_code 27 = .ok (.if_icmp .gt 9, 3) := by decide +kernel
theorem d17_30 : decode prog_25_method_27_code 30 = .ok (.iinc 2 1, 3) := by decide +kernel
theorem d17_33 : decode prog_25_method_27_code 33 = .ok (.goto (-31), 3) := by decide +kernel
theorem d17_36 : decode prog_25_method_27_code 36 = .ok (.iload_n 2, 1) := by decide +kernel
theorem d17_37 : decode prog_25_method_27_code 37 = .ok (.ireturn, 1) := by decide +kernel
theorem pn_17 : plainName "com/example/millrace/millrace/model/FieldType" = true := by first | (simp [plainName, overriddenIn]; done) | decide +kernel
theorem ef_17_a (m : MethodId) (x0 : Addr) (x1 : Int32) : entryFrame m #[(.ref x0), (.int x1)] 3 = mkF m 0 #[.val (.ref x0), .val (.int x1), .unset] [] := by first | (simp [entryFrame, mkF, argsToLocals, Value.category]; done) | rfl
def Q17_a (Z : State) (r0 : Addr) (ba : Addr) (ka : ClassId) (cs : Int32) (fm : Value) (d : Int32) (h0 : Heap) (n0 : Nat) (v : Option Value) (h : Heap) (L : List Loc) : Prop := v = some (.int (1 : Int32)) ∧ Fr n0 L ∧ h = h0
set_option maxRecDepth 65536 in
set_option maxHeartbeats 40000000 in
theorem rm17_a (l : Launch) (Z : State) (a0 : Array Value) (hw : ∀ d ∈ tables_1, d.before a0 Z = true) (ws : List Jvm.Cond) (r0 : Addr) (ba : Addr) (ka : ClassId) (cs : Int32) (fm : Value) (d : Int32) (h0 : Heap) (n0 : Nat) (Z0 : n0 ≤ h0.size) (Ea : Exa Z h0 r0 "java/lang/String") (Fa : Fld Z h0 r0 "java/lang/String" "value" "[B" (.ref ba)) (Ca : Fld Z h0 r0 "java/lang/String" "coder" "B" (.int (0 : Int32))) (Va : Arv Z h0 ba ka .byte (1 : Int32) [(.int (d.toInt8.toInt32))] (.int 0)) (SC : Sta Z h0 "java/lang/String" "COMPACT_STRINGS" "Z" (.int cs)) (hcs : ¬ cs = (0 : Int32)) (SF : Sta Z h0 "jdk/internal/util/Preconditions" "SIOOBE_FORMATTER" "Ljava/util/function/BiFunction;" fm) (hfm : fm.isRef = true) (h_d : own_isd d) :
    MetFree l yy_10 (head1 (Jvm.Cond.code yy_10 prog_25_method_27_code 3 (some .int) :: ws) ({ frames := 4, cells := 0, slots := 0, locals := 53 } : Room)) (fun a U => a = #[(.ref r0), (.int (0 : Int32))] ∧ Z.Warmed39 U.vm ∧ U.heap = h0) (fun _ _ _ _ _ => True) (fun _ U o U' => ∃ v L, o = .returned v ∧ Q17_a Z r0 ba ka cs fm d h0 n0 v U'.heap L ∧ FrameEnd U o U' L ({ frames := 4, cells := 0, slots := 0, locals := 53 } : Room).cells ({ frames := 4, cells := 0, slots := 0, locals := 53 } : Room).slots) := by
  refine MetFree.of_bodySF (plainFor_of_name pn_17) hisR ?_
  intro p e s m args below meth c s₁ Bd hml0 hP hK
  obtain ⟨rfl, hZ, hh⟩ := hP
  have hx := Bd.exec
  have hby := Bd.bytes
  have hml : c.maxLocals = 3 := hml0
  have hown : s.vm.findClass "com/example/millrace/millrace/model/FieldType" = some m.cls := findClass_of_methodNamed Bd.named
  have hnm := (name_of_methodNamed Bd.named Bd.method).1
  have X0 : Stand p l e ({ frames := 4, cells := 0, slots := 0, locals := 53 } : Room) s m #[(.ref r0), (.int (0 : Int32))] below meth c s₁ [] 0 0 := Stand.of_body Bd
  have e0 : s₁.heap = h0 := by rw [← hh, Bd.state]; rfl
  have N0 := Fr.nil n0
  have pre0 : ∀ t, Steps p.tables e below (s₁.setTop (mkF m 0 #[oa r0, oi 0, .unset] [])) t → Steps p.tables e below (s₁.setTop (entryFrame m #[(.ref r0), (.int (0 : Int32))] 3)) t := fun t k => castTop (ef_17_a m r0 (0 : Int32)) k
  have c1 : own_G p e below s₁ (mkF m 4 #[oa r0, oi 0, oi 0] [(.ref r0), (.int (0 : Int32))]) (mkF m 0 #[oa r0, oi 0, .unset] []) := by
    intro t kt
    show oS s₁ (mkF m 0 #[oa r0, oi 0, .unset] []) _
    refine XS.iloadN X0.here hx rfl (hb hby d17_0) rfl ?_
    show oS s₁ (mkF m 1 #[oa r0, oi 0, .unset] [(.int (0 : Int32))]) _
    refine XS.istoreN X0.here hx rfl (hb hby d17_1) rfl (l' := #[oa r0, oi 0, oi 0]) rfl ?_
    show oS s₁ (mkF m 2 #[oa r0, oi 0, oi 0] []) _
    refine XS.iloadN X0.here hx rfl (hb hby d17_2) rfl ?_
    show oS s₁ (mkF m 3 #[oa r0, oi 0, oi 0] [(.int (0 : Int32))]) _
    refine XS.aloadN X0.here hx rfl (hb hby d17_3) rfl rfl ?_
    exact kt
  obtain ⟨cq2, kq2, q2a, q2b, q2c⟩ := isOf hZ e0 Ea
  obtain ⟨_, _, ⟨T3, L3, k3, n3⟩, -, X3, ⟨Lc3, hQ3, l3, y3, z3⟩, st3⟩ := X0.virtualBack hx (y := yy_6) (z := yy_6) hown (mvT hZ (own_t hw 84 rfl)) (mvT hZ (own_t hw 67 rfl)) (notFace_of_selects (args := #[]) (mvT hZ (own_t hw 69 rfl))) (mvT hZ (own_t hw 69 rfl)) (mvT hZ (own_t hw 68 rfl)) (by decide) (backOf (W := 1) (rm14 l Z a0 hw [] r0 ba ka (1 : Int32) [(.int (d.toInt8.toInt32))] (.int 0) cs h0 n0 Z0 Ea Fa Va SC hcs Ca) hZ (own_t hw 70 rfl) (own_t hw 7 rfl) (by decide) (by decide)) q2a q2c (g := (mkF m 4 #[oa r0, oi 0, oi 0] [(.ref r0), (.int (0 : Int32))])) rfl (by rw [hml]; rfl) (Steps.refl _) (argsL := []) (rest := [(.int (0 : Int32))]) (lenOf pd_5 rfl) rfl (by show 2 * 0 + _ ≤ _; exact Nat.le_of_eq rfl) (hb hby d17_4) (fun _ _ => ⟨rfl, e0, (by decide : 0 + 0 ≤ _), (by decide : 0 + 0 ≤ _)⟩)
  dsimp only [Pt.U, Pt.locs, Pt.cells, Pt.slots] at X3 l3 y3 z3 st3 hQ3
  subst l3 y3 z3
  obtain ⟨rfl, N3q, e3⟩ := hQ3
  have N3 := Fr.app N0 N3q
  have c4 : own_G p e below T3 (mkF m 12 #[oa r0, oi 0, oi 0] [(.int (0 : Int32)), (.ref r0)]) (mkF m 7 #[oa r0, oi 0, oi 0] [(.int (1 : Int32)), (.int (0 : Int32))]) := by
    intro t kt
    show oS T3 (mkF m 7 #[oa r0, oi 0, oi 0] [(.int (1 : Int32)), (.int (0 : Int32))]) _
    refine XS.icmpNo X3.here hx rfl (hb hby d17_7) rfl (tlt (by decide : (0 : Int32) < (1 : Int32))).2.1 ?_
    show oS T3 (mkF m 10 #[oa r0, oi 0, oi 0] []) _
    refine XS.aloadN X3.here hx rfl (hb hby d17_10) rfl rfl ?_
    show oS T3 (mkF m 11 #[oa r0, oi 0, oi 0] [(.ref r0)]) _
    refine XS.iloadN X3.here hx rfl (hb hby d17_11) rfl ?_
    exact kt
  obtain ⟨cq5, kq5, q5a, q5b, q5c⟩ := isOf hZ e3 Ea
  obtain ⟨_, _, ⟨T6, L6, k6, n6⟩, -, X6, ⟨Lc6, hQ6, l6, y6, z6⟩, st6⟩ := X3.virtualBack hx (y := yy_4) (z := yy_4) hown (mvT hZ (own_t hw 85 rfl)) (mvT hZ (own_t hw 86 rfl)) (notFace_of_selects (args := #[]) (mvT hZ (own_t hw 88 rfl))) (mvT hZ (own_t hw 88 rfl)) (mvT hZ (own_t hw 87 rfl)) (by decide) (backOf (W := 0) (rm18 l Z a0 hw [] r0 (0 : Int32) ba ka (1 : Int32) [(.int (d.toInt8.toInt32))] (.int 0) (d.toInt8.toInt32) fm cs h0 n0 Z0 Ea Fa Va ⟨by decide, by decide⟩ rfl SF hfm SC hcs Ca) hZ (own_t hw 89 rfl) (own_t hw 7 rfl) (by decide) (by decide)) q5a q5c (g := (mkF m 12 #[oa r0, oi 0, oi 0] [(.int (0 : Int32)), (.ref r0)])) rfl (by rw [hml]; rfl) (Steps.refl _) (argsL := [(.int (0 : Int32))]) (rest := []) (lenOf pd_8 rfl) rfl (by show 2 * 0 + _ ≤ _; exact Nat.le_of_eq rfl) (hb hby d17_12) (fun _ _ => ⟨rfl, e3, (by decide : 0 + 0 ≤ _), (by decide : 0 + 0 ≤ _)⟩)
  dsimp only [Pt.U, Pt.locs, Pt.cells, Pt.slots] at X6 l6 y6 z6 st6 hQ6
  subst l6 y6 z6
  obtain ⟨rfl, N6q, e6⟩ := hQ6
  have N6 := Fr.app N3 N6q
  have c7 : own_G p e below T6 (mkF m 15 #[oa r0, oi 0, oi 0] [(.int d)]) (mkF m 15 #[oa r0, oi 0, oi 0] [(.int (own_cc (d.toInt8.toInt32)))]) := fun t kt => castTop (congrArg (fun zv => (mkF m 15 #[oa r0, oi 0, oi 0] [(.int zv)])) (show (own_cc (d.toInt8.toInt32)) = d from own_ccv _ (own_dr h_d).1 (own_dr h_d).2)) kt
  have c9 : own_G p e below T6 (mkF m 17 #[oa r0, oi 0, oi 0] [(.int (48 : Int32)), (.int d)]) (mkF m 15 #[oa r0, oi 0, oi 0] [(.int d)]) := by
    intro t kt
    show oS T6 (mkF m 15 #[oa r0, oi 0, oi 0] [(.int d)]) _
    refine XS.bipush X6.here hx rfl (hb hby d17_15) ?_
    exact kt
  have hd8 : ¬ (d < (48 : Int32)) := h_d.1
  have c10 : own_G p e below T6 (mkF m 22 #[oa r0, oi 0, oi 0] [(.int (0 : Int32)), (.ref r0)]) (mkF m 17 #[oa r0, oi 0, oi 0] [(.int (48 : Int32)), (.int d)]) := by
    intro t kt
    show oS T6 (mkF m 17 #[oa r0, oi 0, oi 0] [(.int (48 : Int32)), (.int d)]) _
    refine XS.icmpNo X6.here hx rfl (hb hby d17_17) rfl (flt hd8).1 ?_
    show oS T6 (mkF m 20 #[oa r0, oi 0, oi 0] []) _
    refine XS.aloadN X6.here hx rfl (hb hby d17_20) rfl rfl ?_
    show oS T6 (mkF m 21 #[oa r0, oi 0, oi 0] [(.ref r0)]) _
    refine XS.iloadN X6.here hx rfl (hb hby d17_21) rfl ?_
    exact kt
  obtain ⟨cq11, kq11, q11a, q11b, q11c⟩ := isOf hZ e6 Ea
  obtain ⟨_, _, ⟨T12, L12, k12, n12⟩, -, X12, ⟨Lc12, hQ12, l12, y12, z12⟩, st12⟩ := X6.virtualBack hx (y := yy_4) (z := yy_4) hown (mvT hZ (own_t hw 85 rfl)) (mvT hZ (own_t hw 86 rfl)) (notFace_of_selects (args := #[]) (mvT hZ (own_t hw 88 rfl))) (mvT hZ (own_t hw 88 rfl)) (mvT hZ (own_t hw 87 rfl)) (by decide) (backOf (W := 0) (rm18 l Z a0 hw [] r0 (0 : Int32) ba ka (1 : Int32) [(.int (d.toInt8.toInt32))] (.int 0) (d.toInt8.toInt32) fm cs h0 n0 Z0 Ea Fa Va ⟨by decide, by decide⟩ rfl SF hfm SC hcs Ca) hZ (own_t hw 89 rfl) (own_t hw 7 rfl) (by decide) (by decide)) q11a q11c (g := (mkF m 22 #[oa r0, oi 0, oi 0] [(.int (0 : Int32)), (.ref r0)])) rfl (by rw [hml]; rfl) (Steps.refl _) (argsL := [(.int (0 : Int32))]) (rest := []) (lenOf pd_8 rfl) rfl (by show 2 * 0 + _ ≤ _; exact Nat.le_of_eq rfl) (hb hby d17_22) (fun _ _ => ⟨rfl, e6, (by decide : 0 + 0 ≤ _), (by decide : 0 + 0 ≤ _)⟩)
  dsimp only [Pt.U, Pt.locs, Pt.cells, Pt.slots] at X12 l12 y12 z12 st12 hQ12
  subst l12 y12 z12
  obtain ⟨rfl, N12q, e12⟩ := hQ12
  have N12 := Fr.app N6 N12q
  have c13 : own_G p e below T12 (mkF m 25 #[oa r0, oi 0, oi 0] [(.int d)]) (mkF m 25 #[oa r0, oi 0, oi 0] [(.int (own_cc (d.toInt8.toInt32)))]) := fun t kt => castTop (congrArg (fun zv => (mkF m 25 #[oa r0, oi 0, oi 0] [(.int zv)])) (show (own_cc (d.toInt8.toInt32)) = d from own_ccv _ (own_dr h_d).1 (own_dr h_d).2)) kt
  have c15 : own_G p e below T12 (mkF m 27 #[oa r0, oi 0, oi 0] [(.int (57 : Int32)), (.int d)]) (mkF m 25 #[oa r0, oi 0, oi 0] [(.int d)]) := by
    intro t kt
    show oS T12 (mkF m 25 #[oa r0, oi 0, oi 0] [(.int d)]) _
    refine XS.bipush X12.here hx rfl (hb hby d17_25) ?_
    exact kt
  have hd14 : ¬ ((57 : Int32) < d) := h_d.2
  have c16 : own_G p e below T12 (mkF m 4 #[oa r0, oi 0, oi ((0 : Int32) + (1 : Int32))] [(.ref r0), (.int ((0 : Int32) + (1 : Int32)))]) (mkF m 27 #[oa r0, oi 0, oi 0] [(.int (57 : Int32)), (.int d)]) := by
    intro t kt
    show oS T12 (mkF m 27 #[oa r0, oi 0, oi 0] [(.int (57 : Int32)), (.int d)]) _
    refine XS.icmpNo X12.here hx rfl (hb hby d17_27) rfl (flt hd14).2.2.1 ?_
    show oS T12 (mkF m 30 #[oa r0, oi 0, oi 0] []) _
    refine XS.iinc X12.here hx rfl (hb hby d17_30) rfl (l' := #[oa r0, oi 0, oi ((0 : Int32) + (1 : Int32))]) rfl ?_
    show oS T12 (mkF m 33 #[oa r0, oi 0, oi ((0 : Int32) + (1 : Int32))] []) _
    refine XS.goto X12.here hx rfl (pc0 := 33) (pc' := 2) rfl (hb hby d17_33) (by decide) (by decide) ?_
    show oS T12 (mkF m 2 #[oa r0, oi 0, oi ((0 : Int32) + (1 : Int32))] []) _
    refine XS.iloadN X12.here hx rfl (hb hby d17_2) rfl ?_
    show oS T12 (mkF m 3 #[oa r0, oi 0, oi ((0 : Int32) + (1 : Int32))] [(.int ((0 : Int32) + (1 : Int32)))]) _
    refine XS.aloadN X12.here hx rfl (hb hby d17_3) rfl rfl ?_
    exact kt
  obtain ⟨cq17, kq17, q17a, q17b, q17c⟩ := isOf hZ e12 Ea
  obtain ⟨_, _, ⟨T18, L18, k18, n18⟩, -, X18, ⟨Lc18, hQ18, l18, y18, z18⟩, st18⟩ := X12.virtualBack hx (y := yy_6) (z := yy_6) hown (mvT hZ (own_t hw 84 rfl)) (mvT hZ (own_t hw 67 rfl)) (notFace_of_selects (args := #[]) (mvT hZ (own_t hw 69 rfl))) (mvT hZ (own_t hw 69 rfl)) (mvT hZ (own_t hw 68 rfl)) (by decide) (backOf (W := 1) (rm14 l Z a0 hw [] r0 ba ka (1 : Int32) [(.int (d.toInt8.toInt32))] (.int 0) cs h0 n0 Z0 Ea Fa Va SC hcs Ca) hZ (own_t hw 70 rfl) (own_t hw 7 rfl) (by decide) (by decide)) q17a q17c (g := (mkF m 4 #[oa r0, oi 0, oi ((0 : Int32) + (1 : Int32))] [(.ref r0), (.int ((0 : Int32) + (1 : Int32)))])) rfl (by rw [hml]; rfl) (Steps.refl _) (argsL := []) (rest := [(.int ((0 : Int32) + (1 : Int32)))]) (lenOf pd_5 rfl) rfl (by show 2 * 0 + _ ≤ _; exact Nat.le_of_eq rfl) (hb hby d17_4) (fun _ _ => ⟨rfl, e12, (by decide : 0 + 0 ≤ _), (by decide : 0 + 0 ≤ _)⟩)
  dsimp only [Pt.U, Pt.locs, Pt.cells, Pt.slots] at X18 l18 y18 z18 st18 hQ18
  subst l18 y18 z18
  obtain ⟨rfl, N18q, e18⟩ := hQ18
  have N18 := Fr.app N12 N18q
  have c19 : own_G p e below T18 (mkF m 37 #[oa r0, oi 0, oi ((0 : Int32) + (1 : Int32))] [(.int ((0 : Int32) + (1 : Int32)))]) (mkF m 7 #[oa r0, oi 0, oi ((0 : Int32) + (1 : Int32))] [(.int (1 : Int32)), (.int ((0 : Int32) + (1 : Int32)))]) := by
    intro t kt
    show oS T18 (mkF m 7 #[oa r0, oi 0, oi ((0 : Int32) + (1 : Int32))] [(.int (1 : Int32)), (.int ((0 : Int32) + (1 : Int32)))]) _
    refine XS.icmpYes X18.here hx rfl (pc0 := 7) (pc' := 36) rfl (hb hby d17_7) rfl (flt (by decide : ¬ (((0 : Int32) + (1 : Int32)) < (1 : Int32)))).2.1 (by decide) (by decide) ?_
    show oS T18 (mkF m 36 #[oa r0, oi 0, oi ((0 : Int32) + (1 : Int32))] []) _
    refine XS.iloadN X18.here hx rfl (hb hby d17_36) rfl ?_
    exact kt
  obtain ⟨fs, hr, hrun, hended, hW, hsame⟩ := X18.leave (v := some (.int ((0 : Int32) + (1 : Int32)))) (fun h => by rw [Bd.returns] at h; cases h)
  refine ⟨_, _, pre0 _ (c1 _ (st3.trans (c4 _ (st6.trans (c7 _ (c9 _ (c10 _ (st12.trans (c13 _ (c15 _ (c16 _ (st18.trans (c19 _ (?_)))))))))))))), hrun, hended, _, _, rfl, ?_, ⟨_, rfl⟩, hW, hsame.mono (by decide) (by decide)⟩
  · show Steps p.tables e below (T18.setTop (mkF m 37 #[oa r0, oi 0, oi ((0 : Int32) + (1 : Int32))] [(.int ((0 : Int32) + (1 : Int32)))])) _
    exact retI X18 hx Bd.returns (hb hby d17_37) hr
  · show Q17_a Z r0 ba ka cs fm d h0 n0 _ T18.heap _
    rw [e18]
    exact ⟨congrArg (fun z => some (Value.int z)) (show ((0 : Int32) + (1 : Int32)) = (1 : Int32) from by decide), N18, rfl⟩
theorem ef_17_b (m : MethodId) (x0 : Addr) (x1 : Int32) : entryFrame m #[(.ref x0), (.int x1)] 3 = mkF m 0 #[.val (.ref x0), .val (.int x1), .unset] [] := by first | (simp [entryFrame, mkF, argsToLocals, Value.category]; done) | rfl
def Q17_b (Z : State) (r0 : Addr) (ba : Addr) (ka : ClassId) (cs : Int32) (fm : Value) (x1 d : Int32) (h0 : Heap) (n0 : Nat) (v : Option Value) (h : Heap) (L : List Loc) : Prop := v = some (.int (2 : Int32)) ∧ Fr n0 L ∧ h = h0
set_option maxRecDepth 65536 in
set_option maxHeartbeats 40000000 in
theorem rm17_b (l : Launch) (Z : State) (a0 : Array Value) (hw : ∀ d ∈ tables_1, d.before a0 Z = true) (ws : List Jvm.Cond) (r0 : Addr) (ba : Addr) (ka : ClassId) (cs : Int32) (fm : Value) (x1 d : Int32) (h0 : Heap) (n0 : Nat) (Z0 : n0 ≤ h0.size) (Ea : Exa Z h0 r0 "java/lang/String") (Fa : Fld Z h0 r0 "java/lang/String" "value" "[B" (.ref ba)) (Ca : Fld Z h0 r0 "java/lang/String" "coder" "B" (.int (0 : Int32))) (Va : Arv Z h0 ba ka .byte (2 : Int32) [(.int (x1.toInt8.toInt32)), (.int (d.toInt8.toInt32))] (.int 0)) (SC : Sta Z h0 "java/lang/String" "COMPACT_STRINGS" "Z" (.int cs)) (hcs : ¬ cs = (0 : Int32)) (SF : Sta Z h0 "jdk/internal/util/Preconditions" "SIOOBE_FORMATTER" "Ljava/util/function/BiFunction;" fm) (hfm : fm.isRef = true) (h_d : own_isd d) :
    MetFree l yy_10 (head1 (Jvm.Cond.code yy_10 prog_25_method_27_code 3 (some .int) :: ws) ({ frames := 4, cells := 0, slots := 0, locals := 53 } : Room)) (fun a U => a = #[(.ref r0), (.int (1 : Int32))] ∧ Z.Warmed39 U.vm ∧ U.heap = h0) (fun _ _ _ _ _ => True) (fun _ U o U' => ∃ v L, o = .returned v ∧ Q17_b Z r0 ba ka cs fm x1 d h0 n0 v U'.heap L ∧ FrameEnd U o U' L ({ frames := 4, cells := 0, slots := 0, locals := 53 } : Room).cells ({ frames := 4, cells := 0, slots := 0, locals := 53 } : Room).slots) := by
  refine MetFree.of_bodySF (plainFor_of_name pn_17) hisR ?_
  intro p e s m args below meth c s₁ Bd hml0 hP hK
  obtain ⟨rfl, hZ, hh⟩ := hP
  have hx := Bd.exec
  have hby := Bd.bytes
  have hml : c.maxLocals = 3 := hml0
  have hown : s.vm.findClass "com/example/millrace/millrace/model/FieldType" = some m.cls := findClass_of_methodNamed Bd.named
  have hnm := (name_of_methodNamed Bd.named Bd.method).1
  have X0 : Stand p l e ({ frames := 4, cells := 0, slots := 0, locals := 53 } : Room) s m #[(.ref r0), (.int (1 : Int32))] below meth c s₁ [] 0 0 := Stand.of_body Bd
  have e0 : s₁.heap = h0 := by rw [← hh, Bd.state]; rfl
  have N0 := Fr.nil n0
  have pre0 : ∀ t, Steps p.tables e below (s₁.setTop (mkF m 0 #[oa r0, oi 1, .unset] [])) t → Steps p.tables e below (s₁.setTop (entryFrame m #[(.ref r0), (.int (1 : Int32))] 3)) t := fun t k => castTop (ef_17_b m r0 (1 : Int32)) k
  have c1 : own_G p e below s₁ (mkF m 4 #[oa r0, oi 1, oi 1] [(.ref r0), (.int (1 : Int32))]) (mkF m 0 #[oa r0, oi 1, .unset] []) := by
    intro t kt
    show oS s₁ (mkF m 0 #[oa r0, oi 1, .unset] []) _
    refine XS.iloadN X0.here hx rfl (hb hby d17_0) rfl ?_
    show oS s₁ (mkF m 1 #[oa r0, oi 1, .unset] [(.int (1 : Int32))]) _
    refine XS.istoreN X0.here hx rfl (hb hby d17_1) rfl (l' := #[oa r0, oi 1, oi 1]) rfl ?_
    show oS s₁ (mkF m 2 #[oa r0, oi 1, oi 1] []) _
    refine XS.iloadN X0.here hx rfl (hb hby d17_2) rfl ?_
    show oS s₁ (mkF m 3 #[oa r0, oi 1, oi 1] [(.int (1 : Int32))]) _
    refine XS.aloadN X0.here hx rfl (hb hby d17_3) rfl rfl ?_
    exact kt
  obtain ⟨cq2, kq2, q2a, q2b, q2c⟩ := isOf hZ e0 Ea
  obtain ⟨_, _, ⟨T3, L3, k3, n3⟩, -, X3, ⟨Lc3, hQ3, l3, y3, z3⟩, st3⟩ := X0.virtualBack hx (y := yy_6) (z := yy_6) hown (mvT hZ (own_t hw 84 rfl)) (mvT hZ (own_t hw 67 rfl)) (notFace_of_selects (args := #[]) (mvT hZ (own_t hw 69 rfl))) (mvT hZ (own_t hw 69 rfl)) (mvT hZ (own_t hw 68 rfl)) (by decide) (backOf (W := 1) (rm14 l Z a0 hw [] r0 ba ka (2 : Int32) [(.int (x1.toInt8.toInt32)), (.int (d.toInt8.toInt32))] (.int 0) cs h0 n0 Z0 Ea Fa Va SC hcs Ca) hZ (own_t hw 70 rfl) (own_t hw 7 rfl) (by decide) (by decide)) q2a q2c (g := (mkF m 4 #[oa r0, oi 1, oi 1] [(.ref r0), (.int (1 : Int32))])) rfl (by rw [hml]; rfl) (Steps.refl _) (argsL := []) (rest := [(.int (1 : Int32))]) (lenOf pd_5 rfl) rfl (by show 2 * 0 + _ ≤ _; exact Nat.le_of_eq rfl) (hb hby d17_4) (fun _ _ => ⟨rfl, e0, (by decide : 0 + 0 ≤ _), (by decide : 0 + 0 ≤ _)⟩)
  dsimp only [Pt.U, Pt.locs, Pt.cells, Pt.slots] at X3 l3 y3 z3 st3 hQ3
  subst l3 y3 z3
  obtain ⟨rfl, N3q, e3⟩ := hQ3
  have N3 := Fr.app N0 N3q
  have c4 : own_G p e below T3 (mkF m 12 #[oa r0, oi 1, oi 1] [(.int (1 : Int32)), (.ref r0)]) (mkF m 7 #[oa r0, oi 1, oi 1] [(.int (2 : Int32)), (.int (1 : Int32))]) := by
    intro t kt
    show oS T3 (mkF m 7 #[oa r0, oi 1, oi 1] [(.int (2 : Int32)), (.int (1 : Int32))]) _
    refine XS.icmpNo X3.here hx rfl (hb hby d17_7) rfl (tlt (by decide : (1 : Int32) < (2 : Int32))).2.1 ?_
    show oS T3 (mkF m 10 #[oa r0, oi 1, oi 1] []) _
    refine XS.aloadN X3.here hx rfl (hb hby d17_10) rfl rfl ?_
    show oS T3 (mkF m 11 #[oa r0, oi 1, oi 1] [(.ref r0)]) _
    refine XS.iloadN X3.here hx rfl (hb hby d17_11) rfl ?_
    exact kt
  obtain ⟨cq5, kq5, q5a, q5b, q5c⟩ := isOf hZ e3 Ea
  obtain ⟨_, _, ⟨T6, L6, k6, n6⟩, -, X6, ⟨Lc6, hQ6, l6, y6, z6⟩, st6⟩ := X3.virtualBack hx (y := yy_4) (z := yy_4) hown (mvT hZ (own_t hw 85 rfl)) (mvT hZ (own_t hw 86 rfl)) (notFace_of_selects (args := #[]) (mvT hZ (own_t hw 88 rfl))) (mvT hZ (own_t hw 88 rfl)) (mvT hZ (own_t hw 87 rfl)) (by decide) (backOf (W := 0) (rm18 l Z a0 hw [] r0 (1 : Int32) ba ka (2 : Int32) [(.int (x1.toInt8.toInt32)), (.int (d.toInt8.toInt32))] (.int 0) (d.toInt8.toInt32) fm cs h0 n0 Z0 Ea Fa Va ⟨by decide, by decide⟩ rfl SF hfm SC hcs Ca) hZ (own_t hw 89 rfl) (own_t hw 7 rfl) (by decide) (by decide)) q5a q5c (g := (mkF m 12 #[oa r0, oi 1, oi 1] [(.int (1 : Int32)), (.ref r0)])) rfl (by rw [hml]; rfl) (Steps.refl _) (argsL := [(.int (1 : Int32))]) (rest := []) (lenOf pd_8 rfl) rfl (by show 2 * 0 + _ ≤ _; exact Nat.le_of_eq rfl) (hb hby d17_12) (fun _ _ => ⟨rfl, e3, (by decide : 0 + 0 ≤ _), (by decide : 0 + 0 ≤ _)⟩)
  dsimp only [Pt.U, Pt.locs, Pt.cells, Pt.slots] at X6 l6 y6 z6 st6 hQ6
  subst l6 y6 z6
  obtain ⟨rfl, N6q, e6⟩ := hQ6
  have N6 := Fr.app N3 N6q
  have c7 : own_G p e below T6 (mkF m 15 #[oa r0, oi 1, oi 1] [(.int d)]) (mkF m 15 #[oa r0, oi 1, oi 1] [(.int (own_cc (d.toInt8.toInt32)))]) := fun t kt => castTop (congrArg (fun zv => (mkF m 15 #[oa r0, oi 1, oi 1] [(.int zv)])) (show (own_cc (d.toInt8.toInt32)) = d from own_ccv _ (own_dr h_d).1 (own_dr h_d).2)) kt
  have c9 : own_G p e below T6 (mkF m 17 #[oa r0, oi 1, oi 1] [(.int (48 : Int32)), (.int d)]) (mkF m 15 #[oa r0, oi 1, oi 1] [(.int d)]) := by
    intro t kt
    show oS T6 (mkF m 15 #[oa r0, oi 1, oi 1] [(.int d)]) _
    refine XS.bipush X6.here hx rfl (hb hby d17_15) ?_
    exact kt
  have hd8 : ¬ (d < (48 : Int32)) := h_d.1
  have c10 : own_G p e below T6 (mkF m 22 #[oa r0, oi 1, oi 1] [(.int (1 : Int32)), (.ref r0)]) (mkF m 17 #[oa r0, oi 1, oi 1] [(.int (48 : Int32)), (.int d)]) := by
    intro t kt
    show oS T6 (mkF m 17 #[oa r0, oi 1, oi 1] [(.int (48 : Int32)), (.int d)]) _
    refine XS.icmpNo X6.here hx rfl (hb hby d17_17) rfl (flt hd8).1 ?_
    show oS T6 (mkF m 20 #[oa r0, oi 1, oi 1] []) _
    refine XS.aloadN X6.here hx rfl (hb hby d17_20) rfl rfl ?_
    show oS T6 (mkF m 21 #[oa r0, oi 1, oi 1] [(.ref r0)]) _
    refine XS.iloadN X6.here hx rfl (hb hby d17_21) rfl ?_
    exact kt
  obtain ⟨cq11, kq11, q11a, q11b, q11c⟩ := isOf hZ e6 Ea
  obtain ⟨_, _, ⟨T12, L12, k12, n12⟩, -, X12, ⟨Lc12, hQ12, l12, y12, z12⟩, st12⟩ := X6.virtualBack hx (y := yy_4) (z := yy_4) hown (mvT hZ (own_t hw 85 rfl)) (mvT hZ (own_t hw 86 rfl)) (notFace_of_selects (args := #[]) (mvT hZ (own_t hw 88 rfl))) (mvT hZ (own_t hw 88 rfl)) (mvT hZ (own_t hw 87 rfl)) (by decide) (backOf (W := 0) (rm18 l Z a0 hw [] r0 (1 : Int32) ba ka (2 : Int32) [(.int (x1.toInt8.toInt32)), (.int (d.toInt8.toInt32))] (.int 0) (d.toInt8.toInt32) fm cs h0 n0 Z0 Ea Fa Va ⟨by decide, by decide⟩ rfl SF hfm SC hcs Ca) hZ (own_t hw 89 rfl) (own_t hw 7 rfl) (by decide) (by decide)) q11a q11c (g := (mkF m 22 #[oa r0, oi 1, oi 1] [(.int (1 : Int32)), (.ref r0)])) rfl (by rw [hml]; rfl) (Steps.refl _) (argsL := [(.int (1 : Int32))]) (rest := []) (lenOf pd_8 rfl) rfl (by show 2 * 0 + _ ≤ _; exact Nat.le_of_eq rfl) (hb hby d17_22) (fun _ _ => ⟨rfl, e6, (by decide : 0 + 0 ≤ _), (by decide : 0 + 0 ≤ _)⟩)
  dsimp only [Pt.U, Pt.locs, Pt.cells, Pt.slots] at X12 l12 y12 z12 st12 hQ12
  subst l12 y12 z12
  obtain ⟨rfl, N12q, e12⟩ := hQ12
  have N12 := Fr.app N6 N12q
  have c13 : own_G p e below T12 (mkF m 25 #[oa r0, oi 1, oi 1] [(.int d)]) (mkF m 25 #[oa r0, oi 1, oi 1] [(.int (own_cc (d.toInt8.toInt32)))]) := fun t kt => castTop (congrArg (fun zv => (mkF m 25 #[oa r0, oi 1, oi 1] [(.int zv)])) (show (own_cc (d.toInt8.toInt32)) = d from own_ccv _ (own_dr h_d).1 (own_dr h_d).2)) kt
  have c15 : own_G p e below T12 (mkF m 27 #[oa r0, oi 1, oi 1] [(.int (57 : Int32)), (.int d)]) (mkF m 25 #[oa r0, oi 1, oi 1] [(.int d)]) := by
    intro t kt
    show oS T12 (mkF m 25 #[oa r0, oi 1, oi 1] [(.int d)]) _
    refine XS.bipush X12.here hx rfl (hb hby d17_25) ?_
    exact kt
  have hd14 : ¬ ((57 : Int32) < d) := h_d.2
  have c16 : own_G p e below T12 (mkF m 4 #[oa r0, oi 1, oi ((1 : Int32) + (1 : Int32))] [(.ref r0), (.int ((1 : Int32) + (1 : Int32)))]) (mkF m 27 #[oa r0, oi 1, oi 1] [(.int (57 : Int32)), (.int d)]) := by
    intro t kt
    show oS T12 (mkF m 27 #[oa r0, oi 1, oi 1] [(.int (57 : Int32)), (.int d)]) _
    refine XS.icmpNo X12.here hx rfl (hb hby d17_27) rfl (flt hd14).2.2.1 ?_
    show oS T12 (mkF m 30 #[oa r0, oi 1, oi 1] []) _
    refine XS.iinc X12.here hx rfl (hb hby d17_30) rfl (l' := #[oa r0, oi 1, oi ((1 : Int32) + (1 : Int32))]) rfl ?_
    show oS T12 (mkF m 33 #[oa r0, oi 1, oi ((1 : Int32) + (1 : Int32))] []) _
    refine XS.goto X12.here hx rfl (pc0 := 33) (pc' := 2) rfl (hb hby d17_33) (by decide) (by decide) ?_
    show oS T12 (mkF m 2 #[oa r0, oi 1, oi ((1 : Int32) + (1 : Int32))] []) _
    refine XS.iloadN X12.here hx rfl (hb hby d17_2) rfl ?_
    show oS T12 (mkF m 3 #[oa r0, oi 1, oi ((1 : Int32) + (1 : Int32))] [(.int ((1 : Int32) + (1 : Int32)))]) _
    refine XS.aloadN X12.here hx rfl (hb hby d17_3) rfl rfl ?_
    exact kt
  obtain ⟨cq17, kq17, q17a, q17b, q17c⟩ := isOf hZ e12 Ea
  obtain ⟨_, _, ⟨T18, L18, k18, n18⟩, -, X18, ⟨Lc18, hQ18, l18, y18, z18⟩, st18⟩ := X12.virtualBack hx (y := yy_6) (z := yy_6) hown (mvT hZ (own_t hw 84 rfl)) (mvT hZ (own_t hw 67 rfl)) (notFace_of_selects (args := #[]) (mvT hZ (own_t hw 69 rfl))) (mvT hZ (own_t hw 69 rfl)) (mvT hZ (own_t hw 68 rfl)) (by decide) (backOf (W := 1) (rm14 l Z a0 hw [] r0 ba ka (2 : Int32) [(.int (x1.toInt8.toInt32)), (.int (d.toInt8.toInt32))] (.int 0) cs h0 n0 Z0 Ea Fa Va SC hcs Ca) hZ (own_t hw 70 rfl) (own_t hw 7 rfl) (by decide) (by decide)) q17a q17c (g := (mkF m 4 #[oa r0, oi 1, oi ((1 : Int32) + (1 : Int32))] [(.ref r0), (.int ((1 : Int32) + (1 : Int32)))])) rfl (by rw [hml]; rfl) (Steps.refl _) (argsL := []) (rest := [(.int ((1 : Int32) + (1 : Int32)))]) (lenOf pd_5 rfl) rfl (by show 2 * 0 + _ ≤ _; exact Nat.le_of_eq rfl) (hb hby d17_4) (fun _ _ => ⟨rfl, e12, (by decide : 0 + 0 ≤ _), (by decide : 0 + 0 ≤ _)⟩)
  dsimp only [Pt.U, Pt.locs, Pt.cells, Pt.slots] at X18 l18 y18 z18 st18 hQ18
  subst l18 y18 z18
  obtain ⟨rfl, N18q, e18⟩ := hQ18
  have N18 := Fr.app N12 N18q
  have c19 : own_G p e below T18 (mkF m 37 #[oa r0, oi 1, oi ((1 : Int32) + (1 : Int32))] [(.int ((1 : Int32) + (1 : Int32)))]) (mkF m 7 #[oa r0, oi 1, oi ((1 : Int32) + (1 : Int32))] [(.int (2 : Int32)), (.int ((1 : Int32) + (1 : Int32)))]) := by
    intro t kt
    show oS T18 (mkF m 7 #[oa r0, oi 1, oi ((1 : Int32) + (1 : Int32))] [(.int (2 : Int32)), (.int ((1 : Int32) + (1 : Int32)))]) _
    refine XS.icmpYes X18.here hx rfl (pc0 := 7) (pc' := 36) rfl (hb hby d17_7) rfl (flt (by decide : ¬ (((1 : Int32) + (1 : Int32)) < (2 : Int32)))).2.1 (by decide) (by decide) ?_
    show oS T18 (mkF m 36 #[oa r0, oi 1, oi ((1 : Int32) + (1 : Int32))] []) _
    refine XS.iloadN X18.here hx rfl (hb hby d17_36) rfl ?_
    exact kt
  obtain ⟨fs, hr, hrun, hended, hW, hsame⟩ := X18.leave (v := some (.int ((1 : Int32) + (1 : Int32)))) (fun h => by rw [Bd.returns] at h; cases h)
  refine ⟨_, _, pre0 _ (c1 _ (st3.trans (c4 _ (st6.trans (c7 _ (c9 _ (c10 _ (st12.trans (c13 _ (c15 _ (c16 _ (st18.trans (c19 _ (?_)))))))))))))), hrun, hended, _, _, rfl, ?_, ⟨_, rfl⟩, hW, hsame.mono (by decide) (by decide)⟩
  · show Steps p.tables e below (T18.setTop (mkF m 37 #[oa r0, oi 1, oi ((1 : Int32) + (1 : Int32))] [(.int ((1 : Int32) + (1 : Int32)))])) _
    exact retI X18 hx Bd.returns (hb hby d17_37) hr
  · show Q17_b Z r0 ba ka cs fm x1 d h0 n0 _ T18.heap _
    rw [e18]
    exact ⟨congrArg (fun z => some (Value.int z)) (show ((1 : Int32) + (1 : Int32)) = (2 : Int32) from by decide), N18, rfl⟩
theorem ef_17_c (m : MethodId) (x0 : Addr) (x1 : Int32) : entryFrame m #[(.ref x0), (.int x1)] 3 = mkF m 0 #[.val (.ref x0), .val (.int x1), .unset] [] := by first | (simp [entryFrame, mkF, argsToLocals, Value.category]; done) | rfl
def Q17_c (Z : State) (r0 : Addr) (ba : Addr) (ka : ClassId) (cs : Int32) (fm : Value) (d ez : Int32) (h0 : Heap) (n0 : Nat) (v : Option Value) (h : Heap) (L : List Loc) : Prop := v = some (.int (2 : Int32)) ∧ Fr n0 L ∧ h = h0
set_option maxRecDepth 65536 in
set_option maxHeartbeats 40000000 in
theorem rm17_c (l : Launch) (Z : State) (a0 : Array Value) (hw : ∀ d ∈ tables_1, d.before a0 Z = true) (ws : List Jvm.Cond) (r0 : Addr) (ba : Addr) (ka : ClassId) (cs : Int32) (fm : Value) (d ez : Int32) (h0 : Heap) (n0 : Nat) (Z0 : n0 ≤ h0.size) (Ea : Exa Z h0 r0 "java/lang/String") (Fa : Fld Z h0 r0 "java/lang/String" "value" "[B" (.ref ba)) (Ca : Fld Z h0 r0 "java/lang/String" "coder" "B" (.int (0 : Int32))) (Va : Arv Z h0 ba ka .byte (2 : Int32) [(.int (d.toInt8.toInt32)), (.int (ez.toInt8.toInt32))] (.int 0)) (SC : Sta Z h0 "java/lang/String" "COMPACT_STRINGS" "Z" (.int cs)) (hcs : ¬ cs = (0 : Int32)) (SF : Sta Z h0 "jdk/internal/util/Preconditions" "SIOOBE_FORMATTER" "Ljava/util/function/BiFunction;" fm) (hfm : fm.isRef = true) (h_d : own_isd d) (h_ez : own_isd ez) :
    MetFree l yy_10 (head1 (Jvm.Cond.code yy_10 prog_25_method_27_code 3 (some .int) :: ws) ({ frames := 4, cells := 0, slots := 0, locals := 53 } : Room)) (fun a U => a = #[(.ref r0), (.int (0 : Int32))] ∧ Z.Warmed39 U.vm ∧ U.heap = h0) (fun _ _ _ _ _ => True) (fun _ U o U' => ∃ v L, o = .returned v ∧ Q17_c Z r0 ba ka cs fm d ez h0 n0 v U'.heap L ∧ FrameEnd U o U' L ({ frames := 4, cells := 0, slots := 0, locals := 53 } : Room).cells ({ frames := 4, cells := 0, slots := 0, locals := 53 } : Room).slots) := by
  refine MetFree.of_bodySF (plainFor_of_name pn_17) hisR ?_
  intro p e s m args below meth c s₁ Bd hml0 hP hK
  obtain ⟨rfl, hZ, hh⟩ := hP
  have hx := Bd.exec
  have hby := Bd.bytes
  have hml : c.maxLocals = 3 := hml0
  have hown : s.vm.findClass "com/example/millrace/millrace/model/FieldType" = some m.cls := findClass_of_methodNamed Bd.named
  have hnm := (name_of_methodNamed Bd.named Bd.method).1
  have X0 : Stand p l e ({ frames := 4, cells := 0, slots := 0, locals := 53 } : Room) s m #[(.ref r0), (.int (0 : Int32))] below meth c s₁ [] 0 0 := Stand.of_body Bd
  have e0 : s₁.heap = h0 := by rw [← hh, Bd.state]; rfl
  have N0 := Fr.nil n0
  have pre0 : ∀ t, Steps p.tables e below (s₁.setTop (mkF m 0 #[oa r0, oi 0, .unset] [])) t → Steps p.tables e below (s₁.setTop (entryFrame m #[(.ref r0), (.int (0 : Int32))] 3)) t := fun t k => castTop (ef_17_c m r0 (0 : Int32)) k
  have c1 : own_G p e below s₁ (mkF m 4 #[oa r0, oi 0, oi 0] [(.ref r0), (.int (0 : Int32))]) (mkF m 0 #[oa r0, oi 0, .unset] []) := by
    intro t kt
    show oS s₁ (mkF m 0 #[oa r0, oi 0, .unset] []) _
    refine XS.iloadN X0.here hx rfl (hb hby d17_0) rfl ?_
    show oS s₁ (mkF m 1 #[oa r0, oi 0, .unset] [(.int (0 : Int32))]) _
    refine XS.istoreN X0.here hx rfl (hb hby d17_1) rfl (l' := #[oa r0, oi 0, oi 0]) rfl ?_
    show oS s₁ (mkF m 2 #[oa r0, oi 0, oi 0] []) _
    refine XS.iloadN X0.here hx rfl (hb hby d17_2) rfl ?_
    show oS s₁ (mkF m 3 #[oa r0, oi 0, oi 0] [(.int (0 : Int32))]) _
    refine XS.aloadN X0.here hx rfl (hb hby d17_3) rfl rfl ?_
    exact kt
  obtain ⟨cq2, kq2, q2a, q2b, q2c⟩ := isOf hZ e0 Ea
  obtain ⟨_, _, ⟨T3, L3, k3, n3⟩, -, X3, ⟨Lc3, hQ3, l3, y3, z3⟩, st3⟩ := X0.virtualBack hx (y := yy_6) (z := yy_6) hown (mvT hZ (own_t hw 84 rfl)) (mvT hZ (own_t hw 67 rfl)) (notFace_of_selects (args := #[]) (mvT hZ (own_t hw 69 rfl))) (mvT hZ (own_t hw 69 rfl)) (mvT hZ (own_t hw 68 rfl)) (by decide) (backOf (W := 1) (rm14 l Z a0 hw [] r0 ba ka (2 : Int32) [(.int (d.toInt8.toInt32)), (.int (ez.toInt8.toInt32))] (.int 0) cs h0 n0 Z0 Ea Fa Va SC hcs Ca) hZ (own_t hw 70 rfl) (own_t hw 7 rfl) (by decide) (by decide)) q2a q2c (g := (mkF m 4 #[oa r0, oi 0, oi 0] [(.ref r0), (.int (0 : Int32))])) rfl (by rw [hml]; rfl) (Steps.refl _) (argsL := []) (rest := [(.int (0 : Int32))]) (lenOf pd_5 rfl) rfl (by show 2 * 0 + _ ≤ _; exact Nat.le_of_eq rfl) (hb hby d17_4) (fun _ _ => ⟨rfl, e0, (by decide : 0 + 0 ≤ _), (by decide : 0 + 0 ≤ _)⟩)
  dsimp only [Pt.U, Pt.locs, Pt.cells, Pt.slots] at X3 l3 y3 z3 st3 hQ3
  subst l3 y3 z3
  obtain ⟨rfl, N3q, e3⟩ := hQ3
  have N3 := Fr.app N0 N3q
  have c4 : own_G p e below T3 (mkF m 12 #[oa r0, oi 0, oi 0] [(.int (0 : Int32)), (.ref r0)]) (mkF m 7 #[oa r0, oi 0, oi 0] [(.int (2 : Int32)), (.int (0 : Int32))]) := by
    intro t kt
    show oS T3 (mkF m 7 #[oa r0, oi 0, oi 0] [(.int (2 : Int32)), (.int (0 : Int32))]) _
    refine XS.icmpNo X3.here hx rfl (hb hby d17_7) rfl (tlt (by decide : (0 : Int32) < (2 : Int32))).2.1 ?_
    show oS T3 (mkF m 10 #[oa r0, oi 0, oi 0] []) _
    refine XS.aloadN X3.here hx rfl (hb hby d17_10) rfl rfl ?_
    show oS T3 (mkF m 11 #[oa r0, oi 0, oi 0] [(.ref r0)]) _
    refine XS.iloadN X3.here hx rfl (hb hby d17_11) rfl ?_
    exact kt
  obtain ⟨cq5, kq5, q5a, q5b, q5c⟩ := isOf hZ e3 Ea
  obtain ⟨_, _, ⟨T6, L6, k6, n6⟩, -, X6, ⟨Lc6, hQ6, l6, y6, z6⟩, st6⟩ := X3.virtualBack hx (y := yy_4) (z := yy_4) hown (mvT hZ (own_t hw 85 rfl)) (mvT hZ (own_t hw 86 rfl)) (notFace_of_selects (args := #[]) (mvT hZ (own_t hw 88 rfl))) (mvT hZ (own_t hw 88 rfl)) (mvT hZ (own_t hw 87 rfl)) (by decide) (backOf (W := 0) (rm18 l Z a0 hw [] r0 (0 : Int32) ba ka (2 : Int32) [(.int (d.toInt8.toInt32)), (.int (ez.toInt8.toInt32))] (.int 0) (d.toInt8.toInt32) fm cs h0 n0 Z0 Ea Fa Va ⟨by decide, by decide⟩ rfl SF hfm SC hcs Ca) hZ (own_t hw 89 rfl) (own_t hw 7 rfl) (by decide) (by decide)) q5a q5c (g := (mkF m 12 #[oa r0, oi 0, oi 0] [(.int (0 : Int32)), (.ref r0)])) rfl (by rw [hml]; rfl) (Steps.refl _) (argsL := [(.int (0 : Int32))]) (rest := []) (lenOf pd_8 rfl) rfl (by show 2 * 0 + _ ≤ _; exact Nat.le_of_eq rfl) (hb hby d17_12) (fun _ _ => ⟨rfl, e3, (by decide : 0 + 0 ≤ _), (by decide : 0 + 0 ≤ _)⟩)
  dsimp only [Pt.U, Pt.locs, Pt.cells, Pt.slots] at X6 l6 y6 z6 st6 hQ6
  subst l6 y6 z6
  obtain ⟨rfl, N6q, e6⟩ := hQ6
  have N6 := Fr.app N3 N6q
  have c7 : own_G p e below T6 (mkF m 15 #[oa r0, oi 0, oi 0] [(.int d)]) (mkF m 15 #[oa r0, oi 0, oi 0] [(.int (own_cc (d.toInt8.toInt32)))]) := fun t kt => castTop (congrArg (fun zv => (mkF m 15 #[oa r0, oi 0, oi 0] [(.int zv)])) (show (own_cc (d.toInt8.toInt32)) = d from own_ccv _ (own_dr h_d).1 (own_dr h_d).2)) kt
  have c9 : own_G p e below T6 (mkF m 17 #[oa r0, oi 0, oi 0] [(.int (48 : Int32)), (.int d)]) (mkF m 15 #[oa r0, oi 0, oi 0] [(.int d)]) := by
    intro t kt
    show oS T6 (mkF m 15 #[oa r0, oi 0, oi 0] [(.int d)]) _
    refine XS.bipush X6.here hx rfl (hb hby d17_15) ?_
    exact kt
  have hd8 : ¬ (d < (48 : Int32)) := h_d.1
  have c10 : own_G p e below T6 (mkF m 22 #[oa r0, oi 0, oi 0] [(.int (0 : Int32)), (.ref r0)]) (mkF m 17 #[oa r0, oi 0, oi 0] [(.int (48 : Int32)), (.int d)]) := by
    intro t kt
    show oS T6 (mkF m 17 #[oa r0, oi 0, oi 0] [(.int (48 : Int32)), (.int d)]) _
    refine XS.icmpNo X6.here hx rfl (hb hby d17_17) rfl (flt hd8).1 ?_
    show oS T6 (mkF m 20 #[oa r0, oi 0, oi 0] []) _
    refine XS.aloadN X6.here hx rfl (hb hby d17_20) rfl rfl ?_
    show oS T6 (mkF m 21 #[oa r0, oi 0, oi 0] [(.ref r0)]) _
    refine XS.iloadN X6.here hx rfl (hb hby d17_21) rfl ?_
    exact kt
  obtain ⟨cq11, kq11, q11a, q11b, q11c⟩ := isOf hZ e6 Ea
  obtain ⟨_, _, ⟨T12, L12, k12, n12⟩, -, X12, ⟨Lc12, hQ12, l12, y12, z12⟩, st12⟩ := X6.virtualBack hx (y := yy_4) (z := yy_4) hown (mvT hZ (own_t hw 85 rfl)) (mvT hZ (own_t hw 86 rfl)) (notFace_of_selects (args := #[]) (mvT hZ (own_t hw 88 rfl))) (mvT hZ (own_t hw 88 rfl)) (mvT hZ (own_t hw 87 rfl)) (by decide) (backOf (W := 0) (rm18 l Z a0 hw [] r0 (0 : Int32) ba ka (2 : Int32) [(.int (d.toInt8.toInt32)), (.int (ez.toInt8.toInt32))] (.int 0) (d.toInt8.toInt32) fm cs h0 n0 Z0 Ea Fa Va ⟨by decide, by decide⟩ rfl SF hfm SC hcs Ca) hZ (own_t hw 89 rfl) (own_t hw 7 rfl) (by decide) (by decide)) q11a q11c (g := (mkF m 22 #[oa r0, oi 0, oi 0] [(.int (0 : Int32)), (.ref r0)])) rfl (by rw [hml]; rfl) (Steps.refl _) (argsL := [(.int (0 : Int32))]) (rest := []) (lenOf pd_8 rfl) rfl (by show 2 * 0 + _ ≤ _; exact Nat.le_of_eq rfl) (hb hby d17_22) (fun _ _ => ⟨rfl, e6, (by decide : 0 + 0 ≤ _), (by decide : 0 + 0 ≤ _)⟩)
  dsimp only [Pt.U, Pt.locs, Pt.cells, Pt.slots] at X12 l12 y12 z12 st12 hQ12
  subst l12 y12 z12
  obtain ⟨rfl, N12q, e12⟩ := hQ12
  have N12 := Fr.app N6 N12q
  have c13 : own_G p e below T12 (mkF m 25 #[oa r0, oi 0, oi 0] [(.int d)]) (mkF m 25 #[oa r0, oi 0, oi 0] [(.int (own_cc (d.toInt8.toInt32)))]) := fun t kt => castTop (congrArg (fun zv => (mkF m 25 #[oa r0, oi 0, oi 0] [(.int zv)])) (show (own_cc (d.toInt8.toInt32)) = d from own_ccv _ (own_dr h_d).1 (own_dr h_d).2)) kt
  have c15 : own_G p e below T12 (mkF m 27 #[oa r0, oi 0, oi 0] [(.int (57 : Int32)), (.int d)]) (mkF m 25 #[oa r0, oi 0, oi 0] [(.int d)]) := by
    intro t kt
    show oS T12 (mkF m 25 #[oa r0, oi 0, oi 0] [(.int d)]) _
    refine XS.bipush X12.here hx rfl (hb hby d17_25) ?_
    exact kt
  have hd14 : ¬ ((57 : Int32) < d) := h_d.2
  have c16 : own_G p e below T12 (mkF m 4 #[oa r0, oi 0, oi ((0 : Int32) + (1 : Int32))] [(.ref r0), (.int ((0 : Int32) + (1 : Int32)))]) (mkF m 27 #[oa r0, oi 0, oi 0] [(.int (57 : Int32)), (.int d)]) := by
    intro t kt
    show oS T12 (mkF m 27 #[oa r0, oi 0, oi 0] [(.int (57 : Int32)), (.int d)]) _
    refine XS.icmpNo X12.here hx rfl (hb hby d17_27) rfl (flt hd14).2.2.1 ?_
    show oS T12 (mkF m 30 #[oa r0, oi 0, oi 0] []) _
    refine XS.iinc X12.here hx rfl (hb hby d17_30) rfl (l' := #[oa r0, oi 0, oi ((0 : Int32) + (1 : Int32))]) rfl ?_
    show oS T12 (mkF m 33 #[oa r0, oi 0, oi ((0 : Int32) + (1 : Int32))] []) _
    refine XS.goto X12.here hx rfl (pc0 := 33) (pc' := 2) rfl (hb hby d17_33) (by decide) (by decide) ?_
    show oS T12 (mkF m 2 #[oa r0, oi 0, oi ((0 : Int32) + (1 : Int32))] []) _
    refine XS.iloadN X12.here hx rfl (hb hby d17_2) rfl ?_
    show oS T12 (mkF m 3 #[oa r0, oi 0, oi ((0 : Int32) + (1 : Int32))] [(.int ((0 : Int32) + (1 : Int32)))]) _
    refine XS.aloadN X12.here hx rfl (hb hby d17_3) rfl rfl ?_
    exact kt
  obtain ⟨cq17, kq17, q17a, q17b, q17c⟩ := isOf hZ e12 Ea
  obtain ⟨_, _, ⟨T18, L18, k18, n18⟩, -, X18, ⟨Lc18, hQ18, l18, y18, z18⟩, st18⟩ := X12.virtualBack hx (y := yy_6) (z := yy_6) hown (mvT hZ (own_t hw 84 rfl)) (mvT hZ (own_t hw 67 rfl)) (notFace_of_selects (args := #[]) (mvT hZ (own_t hw 69 rfl))) (mvT hZ (own_t hw 69 rfl)) (mvT hZ (own_t hw 68 rfl)) (by decide) (backOf (W := 1) (rm14 l Z a0 hw [] r0 ba ka (2 : Int32) [(.int (d.toInt8.toInt32)), (.int (ez.toInt8.toInt32))] (.int 0) cs h0 n0 Z0 Ea Fa Va SC hcs Ca) hZ (own_t hw 70 rfl) (own_t hw 7 rfl) (by decide) (by decide)) q17a q17c (g := (mkF m 4 #[oa r0, oi 0, oi ((0 : Int32) + (1 : Int32))] [(.ref r0), (.int ((0 : Int32) + (1 : Int32)))])) rfl (by rw [hml]; rfl) (Steps.refl _) (argsL := []) (rest := [(.int ((0 : Int32) + (1 : Int32)))]) (lenOf pd_5 rfl) rfl (by show 2 * 0 + _ ≤ _; exact Nat.le_of_eq rfl) (hb hby d17_4) (fun _ _ => ⟨rfl, e12, (by decide : 0 + 0 ≤ _), (by decide : 0 + 0 ≤ _)⟩)
  dsimp only [Pt.U, Pt.locs, Pt.cells, Pt.slots] at X18 l18 y18 z18 st18 hQ18
  subst l18 y18 z18
  obtain ⟨rfl, N18q, e18⟩ := hQ18
  have N18 := Fr.app N12 N18q
  have c19 : own_G p e below T18 (mkF m 12 #[oa r0, oi 0, oi ((0 : Int32) + (1 : Int32))] [(.int ((0 : Int32) + (1 : Int32))), (.ref r0)]) (mkF m 7 #[oa r0, oi 0, oi ((0 : Int32) + (1 : Int32))] [(.int (2 : Int32)), (.int ((0 : Int32) + (1 : Int32)))]) := by
    intro t kt
    show oS T18 (mkF m 7 #[oa r0, oi 0, oi ((0 : Int32) + (1 : Int32))] [(.int (2 : Int32)), (.int ((0 : Int32) + (1 : Int32)))]) _
    refine XS.icmpNo X18.here hx rfl (hb hby d17_7) rfl (tlt (by decide : ((0 : Int32) + (1 : Int32)) < (2 : Int32))).2.1 ?_
    show oS T18 (mkF m 10 #[oa r0, oi 0, oi ((0 : Int32) + (1 : Int32))] []) _
    refine XS.aloadN X18.here hx rfl (hb hby d17_10) rfl rfl ?_
    show oS T18 (mkF m 11 #[oa r0, oi 0, oi ((0 : Int32) + (1 : Int32))] [(.ref r0)]) _
    refine XS.iloadN X18.here hx rfl (hb hby d17_11) rfl ?_
    exact kt
  have c20 : own_G p e below T18 (mkF m 12 #[oa r0, oi 0, oi 1] [(.int (1 : Int32)), (.ref r0)]) (mkF m 12 #[oa r0, oi 0, oi ((0 : Int32) + (1 : Int32))] [(.int ((0 : Int32) + (1 : Int32))), (.ref r0)]) := fun t kt => castTop (congrArg (fun zv => (mkF m 12 #[oa r0, oi 0, oi zv] [(.int zv), (.ref r0)])) (show ((0 : Int32) + (1 : Int32)) = (1 : Int32) from by decide)) kt
  obtain ⟨cq21, kq21, q21a, q21b, q21c⟩ := isOf hZ e18 Ea
  obtain ⟨_, _, ⟨T22, L22, k22, n22⟩, -, X22, ⟨Lc22, hQ22, l22, y22, z22⟩, st22⟩ := X18.virtualBack hx (y := yy_4) (z := yy_4) hown (mvT hZ (own_t hw 85 rfl)) (mvT hZ (own_t hw 86 rfl)) (notFace_of_selects (args := #[]) (mvT hZ (own_t hw 88 rfl))) (mvT hZ (own_t hw 88 rfl)) (mvT hZ (own_t hw 87 rfl)) (by decide) (backOf (W := 0) (rm18 l Z a0 hw [] r0 (1 : Int32) ba ka (2 : Int32) [(.int (d.toInt8.toInt32)), (.int (ez.toInt8.toInt32))] (.int 0) (ez.toInt8.toInt32) fm cs h0 n0 Z0 Ea Fa Va ⟨by decide, by decide⟩ rfl SF hfm SC hcs Ca) hZ (own_t hw 89 rfl) (own_t hw 7 rfl) (by decide) (by decide)) q21a q21c (g := (mkF m 12 #[oa r0, oi 0, oi 1] [(.int (1 : Int32)), (.ref r0)])) rfl (by rw [hml]; rfl) (Steps.refl _) (argsL := [(.int (1 : Int32))]) (rest := []) (lenOf pd_8 rfl) rfl (by show 2 * 0 + _ ≤ _; exact Nat.le_of_eq rfl) (hb hby d17_12) (fun _ _ => ⟨rfl, e18, (by decide : 0 + 0 ≤ _), (by decide : 0 + 0 ≤ _)⟩)
  dsimp only [Pt.U, Pt.locs, Pt.cells, Pt.slots] at X22 l22 y22 z22 st22 hQ22
  subst l22 y22 z22
  obtain ⟨rfl, N22q, e22⟩ := hQ22
  have N22 := Fr.app N18 N22q
  have c23 : own_G p e below T22 (mkF m 15 #[oa r0, oi 0, oi 1] [(.int ez)]) (mkF m 15 #[oa r0, oi 0, oi 1] [(.int (own_cc (ez.toInt8.toInt32)))]) := fun t kt => castTop (congrArg (fun zv => (mkF m 15 #[oa r0, oi 0, oi 1] [(.int zv)])) (show (own_cc (ez.toInt8.toInt32)) = ez from own_ccv _ (own_dr h_ez).1 (own_dr h_ez).2)) kt
  have c25 : own_G p e below T22 (mkF m 17 #[oa r0, oi 0, oi 1] [(.int (48 : Int32)), (.int ez)]) (mkF m 15 #[oa r0, oi 0, oi 1] [(.int ez)]) := by
    intro t kt
    show oS T22 (mkF m 15 #[oa r0, oi 0, oi 1] [(.int ez)]) _
    refine XS.bipush X22.here hx rfl (hb hby d17_15) ?_
    exact kt
  have hd24 : ¬ (ez < (48 : Int32)) := h_ez.1
  have c26 : own_G p e below T22 (mkF m 22 #[oa r0, oi 0, oi 1] [(.int (1 : Int32)), (.ref r0)]) (mkF m 17 #[oa r0, oi 0, oi 1] [(.int (48 : Int32)), (.int ez)]) := by
    intro t kt
    show oS T22 (mkF m 17 #[oa r0, oi 0, oi 1] [(.int (48 : Int32)), (.int ez)]) _
    refine XS.icmpNo X22.here hx rfl (hb hby d17_17) rfl (flt hd24).1 ?_
    show oS T22 (mkF m 20 #[oa r0, oi 0, oi 1] []) _
    refine XS.aloadN X22.here hx rfl (hb hby d17_20) rfl rfl ?_
    show oS T22 (mkF m 21 #[oa r0, oi 0, oi 1] [(.ref r0)]) _
    refine XS.iloadN X22.here hx rfl (hb hby d17_21) rfl ?_
    exact kt
  obtain ⟨cq27, kq27, q27a, q27b, q27c⟩ := isOf hZ e22 Ea
  obtain ⟨_, _, ⟨T28, L28, k28, n28⟩, -, X28, ⟨Lc28, hQ28, l28, y28, z28⟩, st28⟩ := X22.virtualBack hx (y := yy_4) (z := yy_4) hown (mvT hZ (own_t hw 85 rfl)) (mvT hZ (own_t hw 86 rfl)) (notFace_of_selects (args := #[]) (mvT hZ (own_t hw 88 rfl))) (mvT hZ (own_t hw 88 rfl)) (mvT hZ (own_t hw 87 rfl)) (by decide) (backOf (W := 0) (rm18 l Z a0 hw [] r0 (1 : Int32) ba ka (2 : Int32) [(.int (d.toInt8.toInt32)), (.int (ez.toInt8.toInt32))] (.int 0) (ez.toInt8.toInt32) fm cs h0 n0 Z0 Ea Fa Va ⟨by decide, by decide⟩ rfl SF hfm SC hcs Ca) hZ (own_t hw 89 rfl) (own_t hw 7 rfl) (by decide) (by decide)) q27a q27c (g := (mkF m 22 #[oa r0, oi 0, oi 1] [(.int (1 : Int32)), (.ref r0)])) rfl (by rw [hml]; rfl) (Steps.refl _) (argsL := [(.int (1 : Int32))]) (rest := []) (lenOf pd_8 rfl) rfl (by show 2 * 0 + _ ≤ _; exact Nat.le_of_eq rfl) (hb hby d17_22) (fun _ _ => ⟨rfl, e22, (by decide : 0 + 0 ≤ _), (by decide : 0 + 0 ≤ _)⟩)
  dsimp only [Pt.U, Pt.locs, Pt.cells, Pt.slots] at X28 l28 y28 z28 st28 hQ28
  subst l28 y28 z28
  obtain ⟨rfl, N28q, e28⟩ := hQ28
  have N28 := Fr.app N22 N28q
  have c29 : own_G p e below T28 (mkF m 25 #[oa r0, oi 0, oi 1] [(.int ez)]) (mkF m 25 #[oa r0, oi 0, oi 1] [(.int (own_cc (ez.toInt8.toInt32)))]) := fun t kt => castTop (congrArg (fun zv => (mkF m 25 #[oa r0, oi 0, oi 1] [(.int zv)])) (show (own_cc (ez.toInt8.toInt32)) = ez from own_ccv _ (own_dr h_ez).1 (own_dr h_ez).2)) kt
  have c31 : own_G p e below T28 (mkF m 27 #[oa r0, oi 0, oi 1] [(.int (57 : Int32)), (.int ez)]) (mkF m 25 #[oa r0, oi 0, oi 1] [(.int ez)]) := by
    intro t kt
    show oS T28 (mkF m 25 #[oa r0, oi 0, oi 1] [(.int ez)]) _
    refine XS.bipush X28.here hx rfl (hb hby d17_25) ?_
    exact kt
  have hd30 : ¬ ((57 : Int32) < ez) := h_ez.2
  have c32 : own_G p e below T28 (mkF m 4 #[oa r0, oi 0, oi ((1 : Int32) + (1 : Int32))] [(.ref r0), (.int ((1 : Int32) + (1 : Int32)))]) (mkF m 27 #[oa r0, oi 0, oi 1] [(.int (57 : Int32)), (.int ez)]) := by
    intro t kt
    show oS T28 (mkF m 27 #[oa r0, oi 0, oi 1] [(.int (57 : Int32)), (.int ez)]) _
    refine XS.icmpNo X28.here hx rfl (hb hby d17_27) rfl (flt hd30).2.2.1 ?_
    show oS T28 (mkF m 30 #[oa r0, oi 0, oi 1] []) _
    refine XS.iinc X28.here hx rfl (hb hby d17_30) rfl (l' := #[oa r0, oi 0, oi ((1 : Int32) + (1 : Int32))]) rfl ?_
    show oS T28 (mkF m 33 #[oa r0, oi 0, oi ((1 : Int32) + (1 : Int32))] []) _
    refine XS.goto X28.here hx rfl (pc0 := 33) (pc' := 2) rfl (hb hby d17_33) (by decide) (by decide) ?_
    show oS T28 (mkF m 2 #[oa r0, oi 0, oi ((1 : Int32) + (1 : Int32))] []) _
    refine XS.iloadN X28.here hx rfl (hb hby d17_2) rfl ?_
    show oS T28 (mkF m 3 #[oa r0, oi 0, oi ((1 : Int32) + (1 : Int32))] [(.int ((1 : Int32) + (1 : Int32)))]) _
    refine XS.aloadN X28.here hx rfl (hb hby d17_3) rfl rfl ?_
    exact kt
  obtain ⟨cq33, kq33, q33a, q33b, q33c⟩ := isOf hZ e28 Ea
  obtain ⟨_, _, ⟨T34, L34, k34, n34⟩, -, X34, ⟨Lc34, hQ34, l34, y34, z34⟩, st34⟩ := X28.virtualBack hx (y := yy_6) (z := yy_6) hown (mvT hZ (own_t hw 84 rfl)) (mvT hZ (own_t hw 67 rfl)) (notFace_of_selects (args := #[]) (mvT hZ (own_t hw 69 rfl))) (mvT hZ (own_t hw 69 rfl)) (mvT hZ (own_t hw 68 rfl)) (by decide) (backOf (W := 1) (rm14 l Z a0 hw [] r0 ba ka (2 : Int32) [(.int (d.toInt8.toInt32)), (.int (ez.toInt8.toInt32))] (.int 0) cs h0 n0 Z0 Ea Fa Va SC hcs Ca) hZ (own_t hw 70 rfl) (own_t hw 7 rfl) (by decide) (by decide)) q33a q33c (g := (mkF m 4 #[oa r0, oi 0, oi ((1 : Int32) + (1 : Int32))] [(.ref r0), (.int ((1 : Int32) + (1 : Int32)))])) rfl (by rw [hml]; rfl) (Steps.refl _) (argsL := []) (rest := [(.int ((1 : Int32) + (1 : Int32)))]) (lenOf pd_5 rfl) rfl (by show 2 * 0 + _ ≤ _; exact Nat.le_of_eq rfl) (hb hby d17_4) (fun _ _ => ⟨rfl, e28, (by decide : 0 + 0 ≤ _), (by decide : 0 + 0 ≤ _)⟩)
  dsimp only [Pt.U, Pt.locs, Pt.cells, Pt.slots] at X34 l34 y34 z34 st34 hQ34
  subst l34 y34 z34
  obtain ⟨rfl, N34q, e34⟩ := hQ34
  have N34 := Fr.app N28 N34q
  have c35 : own_G p e below T34 (mkF m 37 #[oa r0, oi 0, oi ((1 : Int32) + (1 : Int32))] [(.int ((1 : Int32) + (1 : Int32)))]) (mkF m 7 #[oa r0, oi 0, oi ((1 : Int32) + (1 : Int32))] [(.int (2 : Int32)), (.int ((1 : Int32) + (1 : Int32)))]) := by
    intro t kt
    show oS T34 (mkF m 7 #[oa r0, oi 0, oi ((1 : Int32) + (1 : Int32))] [(.int (2 : Int32)), (.int ((1 : Int32) + (1 : Int32)))]) _
    refine XS.icmpYes X34.here hx rfl (pc0 := 7) (pc' := 36) rfl (hb hby d17_7) rfl (flt (by decide : ¬ (((1 : Int32) + (1 : Int32)) < (2 : Int32)))).2.1 (by decide) (by decide) ?_
    show oS T34 (mkF m 36 #[oa r0, oi 0, oi ((1 : Int32) + (1 : Int32))] []) _
    refine XS.iloadN X34.here hx rfl (hb hby d17_36) rfl ?_
    exact kt
  obtain ⟨fs, hr, hrun, hended, hW, hsame⟩ := X34.leave (v := some (.int ((1 : Int32) + (1 : Int32)))) (fun h => by rw [Bd.returns] at h; cases h)
  refine ⟨_, _, pre0 _ (c1 _ (st3.trans (c4 _ (st6.trans (c7 _ (c9 _ (c10 _ (st12.trans (c13 _ (c15 _ (c16 _ (st18.trans (c19 _ (c20 _ (st22.trans (c23 _ (c25 _ (c26 _ (st28.trans (c29 _ (c31 _ (c32 _ (st34.trans (c35 _ (?_))))))))))))))))))))))))), hrun, hended, _, _, rfl, ?_, ⟨_, rfl⟩, hW, hsame.mono (by decide) (by decide)⟩
  · show Steps p.tables e below (T34.setTop (mkF m 37 #[oa r0, oi 0, oi ((1 : Int32) + (1 : Int32))] [(.int ((1 : Int32) + (1 : Int32)))])) _
    exact retI X34 hx Bd.returns (hb hby d17_37) hr
  · show Q17_c Z r0 ba ka cs fm d ez h0 n0 _ T34.heap _
    rw [e34]
    exact ⟨congrArg (fun z => some (Value.int z)) (show ((1 : Int32) + (1 : Int32)) = (2 : Int32) from by decide), N34, rfl⟩
theorem ef_17_d (m : MethodId) (x0 : Addr) (x1 : Int32) : entryFrame m #[(.ref x0), (.int x1)] 3 = mkF m 0 #[.val (.ref x0), .val (.int x1), .unset] [] := by first | (simp [entryFrame, mkF, argsToLocals, Value.category]; done) | rfl
def Q17_d (Z : State) (r0 : Addr) (ba : Addr) (ka : ClassId) (cs : Int32) (fm : Value) (d x1 ez : Int32) (h0 : Heap) (n0 : Nat) (v : Option Value) (h : Heap) (L : List Loc) : Prop := v = some (.int (1 : Int32)) ∧ Fr n0 L ∧ h = h0
set_option maxRecDepth 65536 in
set_option maxHeartbeats 40000000 in
theorem rm17_d (l : Launch) (Z : State) (a0 : Array Value) (hw : ∀ d ∈ tables_1, d.before a0 Z = true) (ws : List Jvm.Cond) (r0 : Addr) (ba : Addr) (ka : ClassId) (cs : Int32) (fm : Value) (d x1 ez : Int32) (h0 : Heap) (n0 : Nat) (Z0 : n0 ≤ h0.size) (Ea : Exa Z h0 r0 "java/lang/String") (Fa : Fld Z h0 r0 "java/lang/String" "value" "[B" (.ref ba)) (Ca : Fld Z h0 r0 "java/lang/String" "coder" "B" (.int (0 : Int32))) (Va : Arv Z h0 ba ka .byte (3 : Int32) [(.int (d.toInt8.toInt32)), (.int (x1.toInt8.toInt32)), (.int (ez.toInt8.toInt32))] (.int 0)) (SC : Sta Z h0 "java/lang/String" "COMPACT_STRINGS" "Z" (.int cs)) (hcs : ¬ cs = (0 : Int32)) (SF : Sta Z h0 "jdk/internal/util/Preconditions" "SIOOBE_FORMATTER" "Ljava/util/function/BiFunction;" fm) (hfm : fm.isRef = true) (h_d : own_isd d) (hnd : own_r x1 ∧ (x1 < (48 : Int32) ∨ (57 : Int32) < x1)) :
    MetFree l yy_10 (head1 (Jvm.Cond.code yy_10 prog_25_method_27_code 3 (some .int) :: ws) ({ frames := 4, cells := 0, slots := 0, locals := 53 } : Room)) (fun a U => a = #[(.ref r0), (.int (0 : Int32))] ∧ Z.Warmed39 U.vm ∧ U.heap = h0) (fun _ _ _ _ _ => True) (fun _ U o U' => ∃ v L, o = .returned v ∧ Q17_d Z r0 ba ka cs fm d x1 ez h0 n0 v U'.heap L ∧ FrameEnd U o U' L ({ frames := 4, cells := 0, slots := 0, locals := 53 } : Room).cells ({ frames := 4, cells := 0, slots := 0, locals := 53 } : Room).slots) := by
  refine MetFree.of_bodySF (plainFor_of_name pn_17) hisR ?_
  intro p e s m args below meth c s₁ Bd hml0 hP hK
  obtain ⟨rfl, hZ, hh⟩ := hP
  have hx := Bd.exec
  have hby := Bd.bytes
  have hml : c.maxLocals = 3 := hml0
  have hown : s.vm.findClass "com/example/millrace/millrace/model/FieldType" = some m.cls := findClass_of_methodNamed Bd.named
  have hnm := (name_of_methodNamed Bd.named Bd.method).1
  have X0 : Stand p l e ({ frames := 4, cells := 0, slots := 0, locals := 53 } : Room) s m #[(.ref r0), (.int (0 : Int32))] below meth c s₁ [] 0 0 := Stand.of_body Bd
  have e0 : s₁.heap = h0 := by rw [← hh, Bd.state]; rfl
  have N0 := Fr.nil n0
  have pre0 : ∀ t, Steps p.tables e below (s₁.setTop (mkF m 0 #[oa r0, oi 0, .unset] [])) t → Steps p.tables e below (s₁.setTop (entryFrame m #[(.ref r0), (.int (0 : Int32))] 3)) t := fun t k => castTop (ef_17_d m r0 (0 : Int32)) k
  have c1 : own_G p e below s₁ (mkF m 4 #[oa r0, oi 0, oi 0] [(.ref r0), (.int (0 : Int32))]) (mkF m 0 #[oa r0, oi 0, .unset] []) := by
    intro t kt
    show oS s₁ (mkF m 0 #[oa r0, oi 0, .unset] []) _
    refine XS.iloadN X0.here hx rfl (hb hby d17_0) rfl ?_
    show oS s₁ (mkF m 1 #[oa r0, oi 0, .unset] [(.int (0 : Int32))]) _
    refine XS.istoreN X0.here hx rfl (hb hby d17_1) rfl (l' := #[oa r0, oi 0, oi 0]) rfl ?_
    show oS s₁ (mkF m 2 #[oa r0, oi 0, oi 0] []) _
    refine XS.iloadN X0.here hx rfl (hb hby d17_2) rfl ?_
    show oS s₁ (mkF m 3 #[oa r0, oi 0, oi 0] [(.int (0 : Int32))]) _
    refine XS.aloadN X0.here hx rfl (hb hby d17_3) rfl rfl ?_
    exact kt
  obtain ⟨cq2, kq2, q2a, q2b, q2c⟩ := isOf hZ e0 Ea
  obtain ⟨_, _, ⟨T3, L3, k3, n3⟩, -, X3, ⟨Lc3, hQ3, l3, y3, z3⟩, st3⟩ := X0.virtualBack hx (y := yy_6) (z := yy_6) hown (mvT hZ (own_t hw 84 rfl)) (mvT hZ (own_t hw 67 rfl)) (notFace_of_selects (args := #[]) (mvT hZ (own_t hw 69 rfl))) (mvT hZ (own_t hw 69 rfl)) (mvT hZ (own_t hw 68 rfl)) (by decide) (backOf (W := 1) (rm14 l Z a0 hw [] r0 ba ka (3 : Int32) [(.int (d.toInt8.toInt32)), (.int (x1.toInt8.toInt32)), (.int (ez.toInt8.toInt32))] (.int 0) cs h0 n0 Z0 Ea Fa Va SC hcs Ca) hZ (own_t hw 70 rfl) (own_t hw 7 rfl) (by decide) (by decide)) q2a q2c (g := (mkF m 4 #[oa r0, oi 0, oi 0] [(.ref r0), (.int (0 : Int32))])) rfl (by rw [hml]; rfl) (Steps.refl _) (argsL := []) (rest := [(.int (0 : Int32))]) (lenOf pd_5 rfl) rfl (by show 2 * 0 + _ ≤ _; exact Nat.le_of_eq rfl) (hb hby d17_4) (fun _ _ => ⟨rfl, e0, (by decide : 0 + 0 ≤ _), (by decide : 0 + 0 ≤ _)⟩)
  dsimp only [Pt.U, Pt.locs, Pt.cells, Pt.slots] at X3 l3 y3 z3 st3 hQ3
  subst l3 y3 z3
  obtain ⟨rfl, N3q, e3⟩ := hQ3
  have N3 := Fr.app N0 N3q
  have c4 : own_G p e below T3 (mkF m 12 #[oa r0, oi 0, oi 0] [(.int (0 : Int32)), (.ref r0)]) (mkF m 7 #[oa r0, oi 0, oi 0] [(.int (3 : Int32)), (.int (0 : Int32))]) := by
    intro t kt
    show oS T3 (mkF m 7 #[oa r0, oi 0, oi 0] [(.int (3 : Int32)), (.int (0 : Int32))]) _
    refine XS.icmpNo X3.here hx rfl (hb hby d17_7) rfl (tlt (by decide : (0 : Int32) < (3 : Int32))).2.1 ?_
    show oS T3 (mkF m 10 #[oa r0, oi 0, oi 0] []) _
    refine XS.aloadN X3.here hx rfl (hb hby d17_10) rfl rfl ?_
    show oS T3 (mkF m 11 #[oa r0, oi 0, oi 0] [(.ref r0)]) _
    refine XS.iloadN X3.here hx rfl (hb hby d17_11) rfl ?_
    exact kt
  obtain ⟨cq5, kq5, q5a, q5b, q5c⟩ := isOf hZ e3 Ea
  obtain ⟨_, _, ⟨T6, L6, k6, n6⟩, -, X6, ⟨Lc6, hQ6, l6, y6, z6⟩, st6⟩ := X3.virtualBack hx (y := yy_4) (z := yy_4) hown (mvT hZ (own_t hw 85 rfl)) (mvT hZ (own_t hw 86 rfl)) (notFace_of_selects (args := #[]) (mvT hZ (own_t hw 88 rfl))) (mvT hZ (own_t hw 88 rfl)) (mvT hZ (own_t hw 87 rfl)) (by decide) (backOf (W := 0) (rm18 l Z a0 hw [] r0 (0 : Int32) ba ka (3 : Int32) [(.int (d.toInt8.toInt32)), (.int (x1.toInt8.toInt32)), (.int (ez.toInt8.toInt32))] (.int 0) (d.toInt8.toInt32) fm cs h0 n0 Z0 Ea Fa Va ⟨by decide, by decide⟩ rfl SF hfm SC hcs Ca) hZ (own_t hw 89 rfl) (own_t hw 7 rfl) (by decide) (by decide)) q5a q5c (g := (mkF m 12 #[oa r0, oi 0, oi 0] [(.int (0 : Int32)), (.ref r0)])) rfl (by rw [hml]; rfl) (Steps.refl _) (argsL := [(.int (0 : Int32))]) (rest := []) (lenOf pd_8 rfl) rfl (by show 2 * 0 + _ ≤ _; exact Nat.le_of_eq rfl) (hb hby d17_12) (fun _ _ => ⟨rfl, e3, (by decide : 0 + 0 ≤ _), (by decide : 0 + 0 ≤ _)⟩)
  dsimp only [Pt.U, Pt.locs, Pt.cells, Pt.slots] at X6 l6 y6 z6 st6 hQ6
  subst l6 y6 z6
  obtain ⟨rfl, N6q, e6⟩ := hQ6
  have N6 := Fr.app N3 N6q
  have c7 : own_G p e below T6 (mkF m 15 #[oa r0, oi 0, oi 0] [(.int d)]) (mkF m 15 #[oa r0, oi 0, oi 0] [(.int (own_cc (d.toInt8.toInt32)))]) := fun t kt => castTop (congrArg (fun zv => (mkF m 15 #[oa r0, oi 0, oi 0] [(.int zv)])) (show (own_cc (d.toInt8.toInt32)) = d from own_ccv _ (own_dr h_d).1 (own_dr h_d).2)) kt
  have c9 : own_G p e below T6 (mkF m 17 #[oa r0, oi 0, oi 0] [(.int (48 : Int32)), (.int d)]) (mkF m 15 #[oa r0, oi 0, oi 0] [(.int d)]) := by
    intro t kt
    show oS T6 (mkF m 15 #[oa r0, oi 0, oi 0] [(.int d)]) _
    refine XS.bipush X6.here hx rfl (hb hby d17_15) ?_
    exact kt
  have hd8 : ¬ (d < (48 : Int32)) := h_d.1
  have c10 : own_G p e below T6 (mkF m 22 #[oa r0, oi 0, oi 0] [(.int (0 : Int32)), (.ref r0)]) (mkF m 17 #[oa r0, oi 0, oi 0] [(.int (48 : Int32)), (.int d)]) := by
    intro t kt
    show oS T6 (mkF m 17 #[oa r0, oi 0, oi 0] [(.int (48 : Int32)), (.int d)]) _
    refine XS.icmpNo X6.here hx rfl (hb hby d17_17) rfl (flt hd8).1 ?_
    show oS T6 (mkF m 20 #[oa r0, oi 0, oi 0] []) _
    refine XS.aloadN X6.here hx rfl (hb hby d17_20) rfl rfl ?_
    show oS T6 (mkF m 21 #[oa r0, oi 0, oi 0] [(.ref r0)]) _
    refine XS.iloadN X6.here hx rfl (hb hby d17_21) rfl ?_
    exact kt
  obtain ⟨cq11, kq11, q11a, q11b, q11c⟩ := isOf hZ e6 Ea
  obtain ⟨_, _, ⟨T12, L12, k12, n12⟩, -, X12, ⟨Lc12, hQ12, l12, y12, z12⟩, st12⟩ := X6.virtualBack hx (y := yy_4) (z := yy_4) hown (mvT hZ (own_t hw 85 rfl)) (mvT hZ (own_t hw 86 rfl)) (notFace_of_selects (args := #[]) (mvT hZ (own_t hw 88 rfl))) (mvT hZ (own_t hw 88 rfl)) (mvT hZ (own_t hw 87 rfl)) (by decide) (backOf (W := 0) (rm18 l Z a0 hw [] r0 (0 : Int32) ba ka (3 : Int32) [(.int (d.toInt8.toInt32)), (.int (x1.toInt8.toInt32)), (.int (ez.toInt8.toInt32))] (.int 0) (d.toInt8.toInt32) fm cs h0 n0 Z0 Ea Fa Va ⟨by decide, by decide⟩ rfl SF hfm SC hcs Ca) hZ (own_t hw 89 rfl) (own_t hw 7 rfl) (by decide) (by decide)) q11a q11c (g := (mkF m 22 #[oa r0, oi 0, oi 0] [(.int (0 : Int32)), (.ref r0)])) rfl (by rw [hml]; rfl) (Steps.refl _) (argsL := [(.int (0 : Int32))]) (rest := []) (lenOf pd_8 rfl) rfl (by show 2 * 0 + _ ≤ _; exact Nat.le_of_eq rfl) (hb hby d17_22) (fun _ _ => ⟨rfl, e6, (by decide : 0 + 0 ≤ _), (by decide : 0 + 0 ≤ _)⟩)
  dsimp only [Pt.U, Pt.locs, Pt.cells, Pt.slots] at X12 l12 y12 z12 st12 hQ12
  subst l12 y12 z12
  obtain ⟨rfl, N12q, e12⟩ := hQ12
  have N12 := Fr.app N6 N12q
  have c13 : own_G p e below T12 (mkF m 25 #[oa r0, oi 0, oi 0] [(.int d)]) (mkF m 25 #[oa r0, oi 0, oi 0] [(.int (own_cc (d.toInt8.toInt32)))]) := fun t kt => castTop (congrArg (fun zv => (mkF m 25 #[oa r0, oi 0, oi 0] [(.int zv)])) (show (own_cc (d.toInt8.toInt32)) = d from own_ccv _ (own_dr h_d).1 (own_dr h_d).2)) kt
  have c15 : own_G p e below T12 (mkF m 27 #[oa r0, oi 0, oi 0] [(.int (57 : Int32)), (.int d)]) (mkF m 25 #[oa r0, oi 0, oi 0] [(.int d)]) := by
    intro t kt
    show oS T12 (mkF m 25 #[oa r0, oi 0, oi 0] [(.int d)]) _
    refine XS.bipush X12.here hx rfl (hb hby d17_25) ?_
    exact kt
  have hd14 : ¬ ((57 : Int32) < d) := h_d.2
  have c16 : own_G p e below T12 (mkF m 4 #[oa r0, oi 0, oi ((0 : Int32) + (1 : Int32))] [(.ref r0), (.int ((0 : Int32) + (1 : Int32)))]) (mkF m 27 #[oa r0, oi 0, oi 0] [(.int (57 : Int32)), (.int d)]) := by
    intro t kt
    show oS T12 (mkF m 27 #[oa r0, oi 0, oi 0] [(.int (57 : Int32)), (.int d)]) _
    refine XS.icmpNo X12.here hx rfl (hb hby d17_27) rfl (flt hd14).2.2.1 ?_
    show oS T12 (mkF m 30 #[oa r0, oi 0, oi 0] []) _
    refine XS.iinc X12.here hx rfl (hb hby d17_30) rfl (l' := #[oa r0, oi 0, oi ((0 : Int32) + (1 : Int32))]) rfl ?_
    show oS T12 (mkF m 33 #[oa r0, oi 0, oi ((0 : Int32) + (1 : Int32))] []) _
    refine XS.goto X12.here hx rfl (pc0 := 33) (pc' := 2) rfl (hb hby d17_33) (by decide) (by decide) ?_
    show oS T12 (mkF m 2 #[oa r0, oi 0, oi ((0 : Int32) + (1 : Int32))] []) _
    refine XS.iloadN X12.here hx rfl (hb hby d17_2) rfl ?_
    show oS T12 (mkF m 3 #[oa r0, oi 0, oi ((0 : Int32) + (1 : Int32))] [(.int ((0 : Int32) + (1 : Int32)))]) _
    refine XS.aloadN X12.here hx rfl (hb hby d17_3) rfl rfl ?_
    exact kt
  obtain ⟨cq17, kq17, q17a, q17b, q17c⟩ := isOf hZ e12 Ea
  obtain ⟨_, _, ⟨T18, L18, k18, n18⟩, -, X18, ⟨Lc18, hQ18, l18, y18, z18⟩, st18⟩ := X12.virtualBack hx (y := yy_6) (z := yy_6) hown (mvT hZ (own_t hw 84 rfl)) (mvT hZ (own_t hw 67 rfl)) (notFace_of_selects (args := #[]) (mvT hZ (own_t hw 69 rfl))) (mvT hZ (own_t hw 69 rfl)) (mvT hZ (own_t hw 68 rfl)) (by decide) (backOf (W := 1) (rm14 l Z a0 hw [] r0 ba ka (3 : Int32) [(.int (d.toInt8.toInt32)), (.int (x1.toInt8.toInt32)), (.int (ez.toInt8.toInt32))] (.int 0) cs h0 n0 Z0 Ea Fa Va SC hcs Ca) hZ (own_t hw 70 rfl) (own_t hw 7 rfl) (by decide) (by decide)) q17a q17c (g := (mkF m 4 #[oa r0, oi 0, oi ((0 : Int32) + (1 : Int32))] [(.ref r0), (.int ((0 : Int32) + (1 : Int32)))])) rfl (by rw [hml]; rfl) (Steps.refl _) (argsL := []) (rest := [(.int ((0 : Int32) + (1 : Int32)))]) (lenOf pd_5 rfl) rfl (by show 2 * 0 + _ ≤ _; exact Nat.le_of_eq rfl) (hb hby d17_4) (fun _ _ => ⟨rfl, e12, (by decide : 0 + 0 ≤ _), (by decide : 0 + 0 ≤ _)⟩)
  dsimp only [Pt.U, Pt.locs, Pt.cells, Pt.slots] at X18 l18 y18 z18 st18 hQ18
  subst l18 y18 z18
  obtain ⟨rfl, N18q, e18⟩ := hQ18
  have N18 := Fr.app N12 N18q
  have c19 : own_G p e below T18 (mkF m 12 #[oa r0, oi 0, oi ((0 : Int32) + (1 : Int32))] [(.int ((0 : Int32) + (1 : Int32))), (.ref r0)]) (mkF m 7 #[oa r0, oi 0, oi ((0 : Int32) + (1 : Int32))] [(.int (3 : Int32)), (.int ((0 : Int32) + (1 : Int32)))]) := by
    intro t kt
    show oS T18 (mkF m 7 #[oa r0, oi 0, oi ((0 : Int32) + (1 : Int32))] [(.int (3 : Int32)), (.int ((0 : Int32) + (1 : Int32)))]) _
    refine XS.icmpNo X18.here hx rfl (hb hby d17_7) rfl (tlt (by decide : ((0 : Int32) + (1 : Int32)) < (3 : Int32))).2.1 ?_
    show oS T18 (mkF m 10 #[oa r0, oi 0, oi ((0 : Int32) + (1 : Int32))] []) _
    refine XS.aloadN X18.here hx rfl (hb hby d17_10) rfl rfl ?_
    show oS T18 (mkF m 11 #[oa r0, oi 0, oi ((0 : Int32) + (1 : Int32))] [(.ref r0)]) _
    refine XS.iloadN X18.here hx rfl (hb hby d17_11) rfl ?_
    exact kt
  have c20 : own_G p e below T18 (mkF m 12 #[oa r0, oi 0, oi 1] [(.int (1 : Int32)), (.ref r0)]) (mkF m 12 #[oa r0, oi 0, oi ((0 : Int32) + (1 : Int32))] [(.int ((0 : Int32) + (1 : Int32))), (.ref r0)]) := fun t kt => castTop (congrArg (fun zv => (mkF m 12 #[oa r0, oi 0, oi zv] [(.int zv), (.ref r0)])) (show ((0 : Int32) + (1 : Int32)) = (1 : Int32) from by decide)) kt
  obtain ⟨cq21, kq21, q21a, q21b, q21c⟩ := isOf hZ e18 Ea
  obtain ⟨_, _, ⟨T22, L22, k22, n22⟩, -, X22, ⟨Lc22, hQ22, l22, y22, z22⟩, st22⟩ := X18.virtualBack hx (y := yy_4) (z := yy_4) hown (mvT hZ (own_t hw 85 rfl)) (mvT hZ (own_t hw 86 rfl)) (notFace_of_selects (args := #[]) (mvT hZ (own_t hw 88 rfl))) (mvT hZ (own_t hw 88 rfl)) (mvT hZ (own_t hw 87 rfl)) (by decide) (backOf (W := 0) (rm18 l Z a0 hw [] r0 (1 : Int32) ba ka (3 : Int32) [(.int (d.toInt8.toInt32)), (.int (x1.toInt8.toInt32)), (.int (ez.toInt8.toInt32))] (.int 0) (x1.toInt8.toInt32) fm cs h0 n0 Z0 Ea Fa Va ⟨by decide, by decide⟩ rfl SF hfm SC hcs Ca) hZ (own_t hw 89 rfl) (own_t hw 7 rfl) (by decide) (by decide)) q21a q21c (g := (mkF m 12 #[oa r0, oi 0, oi 1] [(.int (1 : Int32)), (.ref r0)])) rfl (by rw [hml]; rfl) (Steps.refl _) (argsL := [(.int (1 : Int32))]) (rest := []) (lenOf pd_8 rfl) rfl (by show 2 * 0 + _ ≤ _; exact Nat.le_of_eq rfl) (hb hby d17_12) (fun _ _ => ⟨rfl, e18, (by decide : 0 + 0 ≤ _), (by decide : 0 + 0 ≤ _)⟩)
  dsimp only [Pt.U, Pt.locs, Pt.cells, Pt.slots] at X22 l22 y22 z22 st22 hQ22
  subst l22 y22 z22
  obtain ⟨rfl, N22q, e22⟩ := hQ22
  have N22 := Fr.app N18 N22q
  have c23 : own_G p e below T22 (mkF m 15 #[oa r0, oi 0, oi 1] [(.int x1)]) (mkF m 15 #[oa r0, oi 0, oi 1] [(.int (own_cc (x1.toInt8.toInt32)))]) := fun t kt => castTop (congrArg (fun zv => (mkF m 15 #[oa r0, oi 0, oi 1] [(.int zv)])) (show (own_cc (x1.toInt8.toInt32)) = x1 from own_ccv _ (hnd.1).1 (hnd.1).2)) kt
  have c24 : own_G p e below T22 (mkF m 17 #[oa r0, oi 0, oi 1] [(.int (48 : Int32)), (.int x1)]) (mkF m 15 #[oa r0, oi 0, oi 1] [(.int x1)]) := by
    intro t kt
    show oS T22 (mkF m 15 #[oa r0, oi 0, oi 1] [(.int x1)]) _
    refine XS.bipush X22.here hx rfl (hb hby d17_15) ?_
    exact kt
  by_cases hc17 : x1 < (48 : Int32)
  · -- it is
    have c25 : own_G p e below T22 (mkF m 37 #[oa r0, oi 0, oi 1] [(.int (1 : Int32))]) (mkF m 17 #[oa r0, oi 0, oi 1] [(.int (48 : Int32)), (.int x1)]) := by
      intro t kt
      show oS T22 (mkF m 17 #[oa r0, oi 0, oi 1] [(.int (48 : Int32)), (.int x1)]) _
      refine XS.icmpYes X22.here hx rfl (pc0 := 17) (pc' := 36) rfl (hb hby d17_17) rfl (tlt hc17).1 (by decide) (by decide) ?_
      show oS T22 (mkF m 36 #[oa r0, oi 0, oi 1] []) _
      refine XS.iloadN X22.here hx rfl (hb hby d17_36) rfl ?_
      exact kt
    obtain ⟨fs, hr, hrun, hended, hW, hsame⟩ := X22.leave (v := some (.int (1 : Int32))) (fun h => by rw [Bd.returns] at h; cases h)
    refine ⟨_, _, pre0 _ (c1 _ (st3.trans (c4 _ (st6.trans (c7 _ (c9 _ (c10 _ (st12.trans (c13 _ (c15 _ (c16 _ (st18.trans (c19 _ (c20 _ (st22.trans (c23 _ (c24 _ (c25 _ (?_))))))))))))))))))), hrun, hended, _, _, rfl, ?_, ⟨_, rfl⟩, hW, hsame.mono (by decide) (by decide)⟩
    · show Steps p.tables e below (T22.setTop (mkF m 37 #[oa r0, oi 0, oi 1] [(.int (1 : Int32))])) _
      exact retI X22 hx Bd.returns (hb hby d17_37) hr
    · show Q17_d Z r0 ba ka cs fm d x1 ez h0 n0 _ T22.heap _
      rw [e22]
      exact ⟨congrArg (fun z => some (Value.int z)) (show (1 : Int32) = (1 : Int32) from by decide), N22, rfl⟩
  · -- it isn't
    have c27 : own_G p e below T22 (mkF m 22 #[oa r0, oi 0, oi 1] [(.int (1 : Int32)), (.ref r0)]) (mkF m 17 #[oa r0, oi 0, oi 1] [(.int (48 : Int32)), (.int x1)]) := by
      intro t kt
      show oS T22 (mkF m 17 #[oa r0, oi 0, oi 1] [(.int (48 : Int32)), (.int x1)]) _
      refine XS.icmpNo X22.here hx rfl (hb hby d17_17) rfl (flt hc17).1 ?_
      show oS T22 (mkF m 20 #[oa r0, oi 0, oi 1] []) _
      refine XS.aloadN X22.here hx rfl (hb hby d17_20) rfl rfl ?_
      show oS T22 (mkF m 21 #[oa r0, oi 0, oi 1] [(.ref r0)]) _
      refine XS.iloadN X22.here hx rfl (hb hby d17_21) rfl ?_
      exact kt
    obtain ⟨cq28, kq28, q28a, q28b, q28c⟩ := isOf hZ e22 Ea
    obtain ⟨_, _, ⟨T29, L29, k29, n29⟩, -, X29, ⟨Lc29, hQ29, l29, y29, z29⟩, st29⟩ := X22.virtualBack hx (y := yy_4) (z := yy_4) hown (mvT hZ (own_t hw 85 rfl)) (mvT hZ (own_t hw 86 rfl)) (notFace_of_selects (args := #[]) (mvT hZ (own_t hw 88 rfl))) (mvT hZ (own_t hw 88 rfl)) (mvT hZ (own_t hw 87 rfl)) (by decide) (backOf (W := 0) (rm18 l Z a0 hw [] r0 (1 : Int32) ba ka (3 : Int32) [(.int (d.toInt8.toInt32)), (.int (x1.toInt8.toInt32)), (.int (ez.toInt8.toInt32))] (.int 0) (x1.toInt8.toInt32) fm cs h0 n0 Z0 Ea Fa Va ⟨by decide, by decide⟩ rfl SF hfm SC hcs Ca) hZ (own_t hw 89 rfl) (own_t hw 7 rfl) (by decide) (by decide)) q28a q28c (g := (mkF m 22 #[oa r0, oi 0, oi 1] [(.int (1 : Int32)), (.ref r0)])) rfl (by rw [hml]; rfl) (Steps.refl _) (argsL := [(.int (1 : Int32))]) (rest := []) (lenOf pd_8 rfl) rfl (by show 2 * 0 + _ ≤ _; exact Nat.le_of_eq rfl) (hb hby d17_22) (fun _ _ => ⟨rfl, e22, (by decide : 0 + 0 ≤ _), (by decide : 0 + 0 ≤ _)⟩)
    dsimp only [Pt.U, Pt.locs, Pt.cells, Pt.slots] at X29 l29 y29 z29 st29 hQ29
    subst l29 y29 z29
    obtain ⟨rfl, N29q, e29⟩ := hQ29
    have N29 := Fr.app N22 N29q
    have c30 : own_G p e below T29 (mkF m 25 #[oa r0, oi 0, oi 1] [(.int x1)]) (mkF m 25 #[oa r0, oi 0, oi 1] [(.int (own_cc (x1.toInt8.toInt32)))]) := fun t kt => castTop (congrArg (fun zv => (mkF m 25 #[oa r0, oi 0, oi 1] [(.int zv)])) (show (own_cc (x1.toInt8.toInt32)) = x1 from own_ccv _ (hnd.1).1 (hnd.1).2)) kt
    have c32 : own_G p e below T29 (mkF m 27 #[oa r0, oi 0, oi 1] [(.int (57 : Int32)), (.int x1)]) (mkF m 25 #[oa r0, oi 0, oi 1] [(.int x1)]) := by
      intro t kt
      show oS T29 (mkF m 25 #[oa r0, oi 0, oi 1] [(.int x1)]) _
      refine XS.bipush X29.here hx rfl (hb hby d17_25) ?_
      exact kt
    have hd31 : (57 : Int32) < x1 := hnd.2.resolve_left hc17
    have c33 : own_G p e below T29 (mkF m 37 #[oa r0, oi 0, oi 1] [(.int (1 : Int32))]) (mkF m 27 #[oa r0, oi 0, oi 1] [(.int (57 : Int32)), (.int x1)]) := by
      intro t kt
      show oS T29 (mkF m 27 #[oa r0, oi 0, oi 1] [(.int (57 : Int32)), (.int x1)]) _
      refine XS.icmpYes X29.here hx rfl (pc0 := 27) (pc' := 36) rfl (hb hby d17_27) rfl (tlt hd31).2.2.1 (by decide) (by decide) ?_
      show oS T29 (mkF m 36 #[oa r0, oi 0, oi 1] []) _
      refine XS.iloadN X29.here hx rfl (hb hby d17_36) rfl ?_
      exact kt
    obtain ⟨fs, hr, hrun, hended, hW, hsame⟩ := X29.leave (v := some (.int (1 : Int32))) (fun h => by rw [Bd.returns] at h; cases h)
    refine ⟨_, _, pre0 _ (c1 _ (st3.trans (c4 _ (st6.trans (c7 _ (c9 _ (c10 _ (st12.trans (c13 _ (c15 _ (c16 _ (st18.trans (c19 _ (c20 _ (st22.trans (c23 _ (c24 _ (c27 _ (st29.trans (c30 _ (c32 _ (c33 _ (?_))))))))))))))))))))))), hrun, hended, _, _, rfl, ?_, ⟨_, rfl⟩, hW, hsame.mono (by decide) (by decide)⟩
    · show Steps p.tables e below (T29.setTop (mkF m 37 #[oa r0, oi 0, oi 1] [(.int (1 : Int32))])) _
      exact retI X29 hx Bd.returns (hb hby d17_37) hr
    · show Q17_d Z r0 ba ka cs fm d x1 ez h0 n0 _ T29.heap _
      rw [e29]
      exact ⟨congrArg (fun z => some (Value.int z)) (show (1 : Int32) = (1 : Int32) from by decide), N29, rfl⟩
theorem ef_17_e (m : MethodId) (x0 : Addr) (x1 : Int32) : entryFrame m #[(.ref x0), (.int x1)] 3 = mkF m 0 #[.val (.ref x0), .val (.int x1), .unset] [] := by first | (simp [entryFrame, mkF, argsToLocals, Value.category]; done) | rfl
def Q17_e (Z : State) (r0 : Addr) (ba : Addr) (ka : ClassId) (cs : Int32) (fm : Value) (d x1 ez : Int32) (h0 : Heap) (n0 : Nat) (v : Option Value) (h : Heap) (L : List Loc) : Prop := v = some (.int (3 : Int32)) ∧ Fr n0 L ∧ h = h0
set_option maxRecDepth 65536 in
set_option maxHeartbeats 40000000 in
theorem rm17_e (l : Launch) (Z : State) (a0 : Array Value) (hw : ∀ d ∈ tables_1, d.before a0 Z = true) (ws : List Jvm.Cond) (r0 : Addr) (ba : Addr) (ka : ClassId) (cs : Int32) (fm : Value) (d x1 ez : Int32) (h0 : Heap) (n0 : Nat) (Z0 : n0 ≤ h0.size) (Ea : Exa Z h0 r0 "java/lang/String") (Fa : Fld Z h0 r0 "java/lang/String" "value" "[B" (.ref ba)) (Ca : Fld Z h0 r0 "java/lang/String" "coder" "B" (.int (0 : Int32))) (Va : Arv Z h0 ba ka .byte (3 : Int32) [(.int (d.toInt8.toInt32)), (.int (x1.toInt8.toInt32)), (.int (ez.toInt8.toInt32))] (.int 0)) (SC : Sta Z h0 "java/lang/String" "COMPACT_STRINGS" "Z" (.int cs)) (hcs : ¬ cs = (0 : Int32)) (SF : Sta Z h0 "jdk/internal/util/Preconditions" "SIOOBE_FORMATTER" "Ljava/util/function/BiFunction;" fm) (hfm : fm.isRef = true) (h_ez : own_isd ez) :
    MetFree l yy_10 (head1 (Jvm.Cond.code yy_10 prog_25_method_27_code 3 (some .int) :: ws) ({ frames := 4, cells := 0, slots := 0, locals := 53 } : Room)) (fun a U => a = #[(.ref r0), (.int (2 : Int32))] ∧ Z.Warmed39 U.vm ∧ U.heap = h0) (fun _ _ _ _ _ => True) (fun _ U o U' => ∃ v L, o = .returned v ∧ Q17_e Z r0 ba ka cs fm d x1 ez h0 n0 v U'.heap L ∧ FrameEnd U o U' L ({ frames := 4, cells := 0, slots := 0, locals := 53 } : Room).cells ({ frames := 4, cells := 0, slots := 0, locals := 53 } : Room).slots) := by
  refine MetFree.of_bodySF (plainFor_of_name pn_17) hisR ?_
  intro p e s m args below meth c s₁ Bd hml0 hP hK
  obtain ⟨rfl, hZ, hh⟩ := hP
  have hx := Bd.exec
  have hby := Bd.bytes
  have hml : c.maxLocals = 3 := hml0
  have hown : s.vm.findClass "com/example/millrace/millrace/model/FieldType" = some m.cls := findClass_of_methodNamed Bd.named
  have hnm := (name_of_methodNamed Bd.named Bd.method).1
  have X0 : Stand p l e ({ frames := 4, cells := 0, slots := 0, locals := 53 } : Room) s m #[(.ref r0), (.int (2 : Int32))] below meth c s₁ [] 0 0 := Stand.of_body Bd
  have e0 : s₁.heap = h0 := by rw [← hh, Bd.state]; rfl
  have N0 := Fr.nil n0
  have pre0 : ∀ t, Steps p.tables e below (s₁.setTop (mkF m 0 #[oa r0, oi 2, .unset] [])) t → Steps p.tables e below (s₁.setTop (entryFrame m #[(.ref r0), (.int (2 : Int32))] 3)) t := fun t k => castTop (ef_17_e m r0 (2 : Int32)) k
  have c1 : own_G p e below s₁ (mkF m 4 #[oa r0, oi 2, oi 2] [(.ref r0), (.int (2 : Int32))]) (mkF m 0 #[oa r0, oi 2, .unset] []) := by
    intro t kt
    show oS s₁ (mkF m 0 #[oa r0, oi 2, .unset] []) _
    refine XS.iloadN X0.here hx rfl (hb hby d17_0) rfl ?_
    show oS s₁ (mkF m 1 #[oa r0, oi 2, .unset] [(.int (2 : Int32))]) _
    refine XS.istoreN X0.here hx rfl (hb hby d17_1) rfl (l' := #[oa r0, oi 2, oi 2]) rfl ?_
    show oS s₁ (mkF m 2 #[oa r0, oi 2, oi 2] []) _
    refine XS.iloadN X0.here hx rfl (hb hby d17_2) rfl ?_
    show oS s₁ (mkF m 3 #[oa r0, oi 2, oi 2] [(.int (2 : Int32))]) _
    refine XS.aloadN X0.here hx rfl (hb hby d17_3) rfl rfl ?_
    exact kt
  obtain ⟨cq2, kq2, q2a, q2b, q2c⟩ := isOf hZ e0 Ea
  obtain ⟨_, _, ⟨T3, L3, k3, n3⟩, -, X3, ⟨Lc3, hQ3, l3, y3, z3⟩, st3⟩ := X0.virtualBack hx (y := yy_6) (z := yy_6) hown (mvT hZ (own_t hw 84 rfl)) (mvT hZ (own_t hw 67 rfl)) (notFace_of_selects (args := #[]) (mvT hZ (own_t hw 69 rfl))) (mvT hZ (own_t hw 69 rfl)) (mvT hZ (own_t hw 68 rfl)) (by decide) (backOf (W := 1) (rm14 l Z a0 hw [] r0 ba ka (3 : Int32) [(.int (d.toInt8.toInt32)), (.int (x1.toInt8.toInt32)), (.int (ez.toInt8.toInt32))] (.int 0) cs h0 n0 Z0 Ea Fa Va SC hcs Ca) hZ (own_t hw 70 rfl) (own_t hw 7 rfl) (by decide) (by decide)) q2a q2c (g := (mkF m 4 #[oa r0, oi 2, oi 2] [(.ref r0), (.int (2 : Int32))])) rfl (by rw [hml]; rfl) (Steps.refl _) (argsL := []) (rest := [(.int (2 : Int32))]) (lenOf pd_5 rfl) rfl (by show 2 * 0 + _ ≤ _; exact Nat.le_of_eq rfl) (hb hby d17_4) (fun _ _ => ⟨rfl, e0, (by decide : 0 + 0 ≤ _), (by decide : 0 + 0 ≤ _)⟩)
  dsimp only [Pt.U, Pt.locs, Pt.cells, Pt.slots] at X3 l3 y3 z3 st3 hQ3
  subst l3 y3 z3
  obtain ⟨rfl, N3q, e3⟩ := hQ3
  have N3 := Fr.app N0 N3q
  have c4 : own_G p e below T3 (mkF m 12 #[oa r0, oi 2, oi 2] [(.int (2 : Int32)), (.ref r0)]) (mkF m 7 #[oa r0, oi 2, oi 2] [(.int (3 : Int32)), (.int (2 : Int32))]) := by
    intro t kt
    show oS T3 (mkF m 7 #[oa r0, oi 2, oi 2] [(.int (3 : Int32)), (.int (2 : Int32))]) _
    refine XS.icmpNo X3.here hx rfl (hb hby d17_7) rfl (tlt (by decide : (2 : Int32) < (3 : Int32))).2.1 ?_
    show oS T3 (mkF m 10 #[oa r0, oi 2, oi 2] []) _
    refine XS.aloadN X3.here hx rfl (hb hby d17_10) rfl rfl ?_
    show oS T3 (mkF m 11 #[oa r0, oi 2, oi 2] [(.ref r0)]) _
    refine XS.iloadN X3.here hx rfl (hb hby d17_11) rfl ?_
    exact kt
  obtain ⟨cq5, kq5, q5a, q5b, q5c⟩ := isOf hZ e3 Ea
  obtain ⟨_, _, ⟨T6, L6, k6, n6⟩, -, X6, ⟨Lc6, hQ6, l6, y6, z6⟩, st6⟩ := X3.virtualBack hx (y := yy_4) (z := yy_4) hown (mvT hZ (own_t hw 85 rfl)) (mvT hZ (own_t hw 86 rfl)) (notFace_of_selects (args := #[]) (mvT hZ (own_t hw 88 rfl))) (mvT hZ (own_t hw 88 rfl)) (mvT hZ (own_t hw 87 rfl)) (by decide) (backOf (W := 0) (rm18 l Z a0 hw [] r0 (2 : Int32) ba ka (3 : Int32) [(.int (d.toInt8.toInt32)), (.int (x1.toInt8.toInt32)), (.int (ez.toInt8.toInt32))] (.int 0) (ez.toInt8.toInt32) fm cs h0 n0 Z0 Ea Fa Va ⟨by decide, by decide⟩ rfl SF hfm SC hcs Ca) hZ (own_t hw 89 rfl) (own_t hw 7 rfl) (by decide) (by decide)) q5a q5c (g := (mkF m 12 #[oa r0, oi 2, oi 2] [(.int (2 : Int32)), (.ref r0)])) rfl (by rw [hml]; rfl) (Steps.refl _) (argsL := [(.int (2 : Int32))]) (rest := []) (lenOf pd_8 rfl) rfl (by show 2 * 0 + _ ≤ _; exact Nat.le_of_eq rfl) (hb hby d17_12) (fun _ _ => ⟨rfl, e3, (by decide : 0 + 0 ≤ _), (by decide : 0 + 0 ≤ _)⟩)
  dsimp only [Pt.U, Pt.locs, Pt.cells, Pt.slots] at X6 l6 y6 z6 st6 hQ6
  subst l6 y6 z6
  obtain ⟨rfl, N6q, e6⟩ := hQ6
  have N6 := Fr.app N3 N6q
  have c7 : own_G p e below T6 (mkF m 15 #[oa r0, oi 2, oi 2] [(.int ez)]) (mkF m 15 #[oa r0, oi 2, oi 2] [(.int (own_cc (ez.toInt8.toInt32)))]) := fun t kt => castTop (congrArg (fun zv => (mkF m 15 #[oa r0, oi 2, oi 2] [(.int zv)])) (show (own_cc (ez.toInt8.toInt32)) = ez from own_ccv _ (own_dr h_ez).1 (own_dr h_ez).2)) kt
  have c9 : own_G p e below T6 (mkF m 17 #[oa r0, oi 2, oi 2] [(.int (48 : Int32)), (.int ez)]) (mkF m 15 #[oa r0, oi 2, oi 2] [(.int ez)]) := by
    intro t kt
    show oS T6 (mkF m 15 #[oa r0, oi 2, oi 2] [(.int ez)]) _
    refine XS.bipush X6.here hx rfl (hb hby d17_15) ?_
    exact kt
  have hd8 : ¬ (ez < (48 : Int32)) := h_ez.1
  have c10 : own_G p e below T6 (mkF m 22 #[oa r0, oi 2, oi 2] [(.int (2 : Int32)), (.ref r0)]) (mkF m 17 #[oa r0, oi 2, oi 2] [(.int (48 : Int32)), (.int ez)]) := by
    intro t kt
    show oS T6 (mkF m 17 #[oa r0, oi 2, oi 2] [(.int (48 : Int32)), (.int ez)]) _
    refine XS.icmpNo X6.here hx rfl (hb hby d17_17) rfl (flt hd8).1 ?_
    show oS T6 (mkF m 20 #[oa r0, oi 2, oi 2] []) _
    refine XS.aloadN X6.here hx rfl (hb hby d17_20) rfl rfl ?_
    show oS T6 (mkF m 21 #[oa r0, oi 2, oi 2] [(.ref r0)]) _
    refine XS.iloadN X6.here hx rfl (hb hby d17_21) rfl ?_
    exact kt
  obtain ⟨cq11, kq11, q11a, q11b, q11c⟩ := isOf hZ e6 Ea
  obtain ⟨_, _, ⟨T12, L12, k12, n12⟩, -, X12, ⟨Lc12, hQ12, l12, y12, z12⟩, st12⟩ := X6.virtualBack hx (y := yy_4) (z := yy_4) hown (mvT hZ (own_t hw 85 rfl)) (mvT hZ (own_t hw 86 rfl)) (notFace_of_selects (args := #[]) (mvT hZ (own_t hw 88 rfl))) (mvT hZ (own_t hw 88 rfl)) (mvT hZ (own_t hw 87 rfl)) (by decide) (backOf (W := 0) (rm18 l Z a0 hw [] r0 (2 : Int32) ba ka (3 : Int32) [(.int (d.toInt8.toInt32)), (.int (x1.toInt8.toInt32)), (.int (ez.toInt8.toInt32))] (.int 0) (ez.toInt8.toInt32) fm cs h0 n0 Z0 Ea Fa Va ⟨by decide, by decide⟩ rfl SF hfm SC hcs Ca) hZ (own_t hw 89 rfl) (own_t hw 7 rfl) (by decide) (by decide)) q11a q11c (g := (mkF m 22 #[oa r0, oi 2, oi 2] [(.int (2 : Int32)), (.ref r0)])) rfl (by rw [hml]; rfl) (Steps.refl _) (argsL := [(.int (2 : Int32))]) (rest := []) (lenOf pd_8 rfl) rfl (by show 2 * 0 + _ ≤ _; exact Nat.le_of_eq rfl) (hb hby d17_22) (fun _ _ => ⟨rfl, e6, (by decide : 0 + 0 ≤ _), (by decide : 0 + 0 ≤ _)⟩)
  dsimp only [Pt.U, Pt.locs, Pt.cells, Pt.slots] at X12 l12 y12 z12 st12 hQ12
  subst l12 y12 z12
  obtain ⟨rfl, N12q, e12⟩ := hQ12
  have N12 := Fr.app N6 N12q
  have c13 : own_G p e below T12 (mkF m 25 #[oa r0, oi 2, oi 2] [(.int ez)]) (mkF m 25 #[oa r0, oi 2, oi 2] [(.int (own_cc (ez.toInt8.toInt32)))]) := fun t kt => castTop (congrArg (fun zv => (mkF m 25 #[oa r0, oi 2, oi 2] [(.int zv)])) (show (own_cc (ez.toInt8.toInt32)) = ez from own_ccv _ (own_dr h_ez).1 (own_dr h_ez).2)) kt
  have c15 : own_G p e below T12 (mkF m 27 #[oa r0, oi 2, oi 2] [(.int (57 : Int32)), (.int ez)]) (mkF m 25 #[oa r0, oi 2, oi 2] [(.int ez)]) := by
    intro t kt
    show oS T12 (mkF m 25 #[oa r0, oi 2, oi 2] [(.int ez)]) _
    refine XS.bipush X12.here hx rfl (hb hby d17_25) ?_
    exact kt
  have hd14 : ¬ ((57 : Int32) < ez) := h_ez.2
  have c16 : own_G p e below T12 (mkF m 4 #[oa r0, oi 2, oi ((2 : Int32) + (1 : Int32))] [(.ref r0), (.int ((2 : Int32) + (1 : Int32)))]) (mkF m 27 #[oa r0, oi 2, oi 2] [(.int (57 : Int32)), (.int ez)]) := by
    intro t kt
    show oS T12 (mkF m 27 #[oa r0, oi 2, oi 2] [(.int (57 : Int32)), (.int ez)]) _
    refine XS.icmpNo X12.here hx rfl (hb hby d17_27) rfl (flt hd14).2.2.1 ?_
    show oS T12 (mkF m 30 #[oa r0, oi 2, oi 2] []) _
    refine XS.iinc X12.here hx rfl (hb hby d17_30) rfl (l' := #[oa r0, oi 2, oi ((2 : Int32) + (1 : Int32))]) rfl ?_
    show oS T12 (mkF m 33 #[oa r0, oi 2, oi ((2 : Int32) + (1 : Int32))] []) _
    refine XS.goto X12.here hx rfl (pc0 := 33) (pc' := 2) rfl (hb hby d17_33) (by decide) (by decide) ?_
    show oS T12 (mkF m 2 #[oa r0, oi 2, oi ((2 : Int32) + (1 : Int32))] []) _
    refine XS.iloadN X12.here hx rfl (hb hby d17_2) rfl ?_
    show oS T12 (mkF m 3 #[oa r0, oi 2, oi ((2 : Int32) + (1 : Int32))] [(.int ((2 : Int32) + (1 : Int32)))]) _
    refine XS.aloadN X12.here hx rfl (hb hby d17_3) rfl rfl ?_
    exact kt
  obtain ⟨cq17, kq17, q17a, q17b, q17c⟩ := isOf hZ e12 Ea
  obtain ⟨_, _, ⟨T18, L18, k18, n18⟩, -, X18, ⟨Lc18, hQ18, l18, y18, z18⟩, st18⟩ := X12.virtualBack hx (y := yy_6) (z := yy_6) hown (mvT hZ (own_t hw 84 rfl)) (mvT hZ (own_t hw 67 rfl)) (notFace_of_selects (args := #[]) (mvT hZ (own_t hw 69 rfl))) (mvT hZ (own_t hw 69 rfl)) (mvT hZ (own_t hw 68 rfl)) (by decide) (backOf (W := 1) (rm14 l Z a0 hw [] r0 ba ka (3 : Int32) [(.int (d.toInt8.toInt32)), (.int (x1.toInt8.toInt32)), (.int (ez.toInt8.toInt32))] (.int 0) cs h0 n0 Z0 Ea Fa Va SC hcs Ca) hZ (own_t hw 70 rfl) (own_t hw 7 rfl) (by decide) (by decide)) q17a q17c (g := (mkF m 4 #[oa r0, oi 2, oi ((2 : Int32) + (1 : Int32))] [(.ref r0), (.int ((2 : Int32) + (1 : Int32)))])) rfl (by rw [hml]; rfl) (Steps.refl _) (argsL := []) (rest := [(.int ((2 : Int32) + (1 : Int32)))]) (lenOf pd_5 rfl) rfl (by show 2 * 0 + _ ≤ _; exact Nat.le_of_eq rfl) (hb hby d17_4) (fun _ _ => ⟨rfl, e12, (by decide : 0 + 0 ≤ _), (by decide : 0 + 0 ≤ _)⟩)
  dsimp only [Pt.U, Pt.locs, Pt.cells, Pt.slots] at X18 l18 y18 z18 st18 hQ18
  subst l18 y18 z18
  obtain ⟨rfl, N18q, e18⟩ := hQ18
  have N18 := Fr.app N12 N18q
  have c19 : own_G p e below T18 (mkF m 37 #[oa r0, oi 2, oi ((2 : Int32) + (1 : Int32))] [(.int ((2 : Int32) + (1 : Int32)))]) (mkF m 7 #[oa r0, oi 2, oi ((2 : Int32) + (1 : Int32))] [(.int (3 : Int32)), (.int ((2 : Int32) + (1 : Int32)))]) := by
    intro t kt
    show oS T18 (mkF m 7 #[oa r0, oi 2, oi ((2 : Int32) + (1 : Int32))] [(.int (3 : Int32)), (.int ((2 : Int32) + (1 : Int32)))]) _
    refine XS.icmpYes X18.here hx rfl (pc0 := 7) (pc' := 36) rfl (hb hby d17_7) rfl (flt (by decide : ¬ (((2 : Int32) + (1 : Int32)) < (3 : Int32)))).2.1 (by decide) (by decide) ?_
    show oS T18 (mkF m 36 #[oa r0, oi 2, oi ((2 : Int32) + (1 : Int32))] []) _
    refine XS.iloadN X18.here hx rfl (hb hby d17_36) rfl ?_
    exact kt
  obtain ⟨fs, hr, hrun, hended, hW, hsame⟩ := X18.leave (v := some (.int ((2 : Int32) + (1 : Int32)))) (fun h => by rw [Bd.returns] at h; cases h)
  refine ⟨_, _, pre0 _ (c1 _ (st3.trans (c4 _ (st6.trans (c7 _ (c9 _ (c10 _ (st12.trans (c13 _ (c15 _ (c16 _ (st18.trans (c19 _ (?_)))))))))))))), hrun, hended, _, _, rfl, ?_, ⟨_, rfl⟩, hW, hsame.mono (by decide) (by decide)⟩
  · show Steps p.tables e below (T18.setTop (mkF m 37 #[oa r0, oi 2, oi ((2 : Int32) + (1 : Int32))] [(.int ((2 : Int32) + (1 : Int32)))])) _
    exact retI X18 hx Bd.returns (hb hby d17_37) hr
  · show Q17_e Z r0 ba ka cs fm d x1 ez h0 n0 _ T18.heap _
    rw [e18]
    exact ⟨congrArg (fun z => some (Value.int z)) (show ((2 : Int32) + (1 : Int32)) = (3 : Int32) from by decide), N18, rfl⟩
theorem d11_0 : decode prog_37_method_8_code 0 = .ok (.aload_n 0, 1) := by decide +kernel
theorem d11_1 : decode prog_37_method_8_code 1 = .ok (.ldc 65, 2) := by decide +kernel
theorem d11_3 : decode prog_37_method_8_code 3 = .ok (.invokevirtual 67, 3) := by decide +kernel
theorem d11_6 : decode prog_37_method_8_code 6 = .ok (.ifCond .eq 7, 3) := by decide +kernel
theorem d11_9 : decode prog_37_method_8_code 9 = .ok (.iconst 1, 1) := by decide +kernel
theorem d11_10 : decode prog_37_method_8_code 10 = .ok (.goto 4, 3) := by decide +kernel
theorem d11_13 : decode prog_37_method_8_code 13 = .ok (.iconst 0, 1) := by decide +kernel
theorem d11_14 : decode prog_37_method_8_code 14 = .ok (.istore_n 1, 1) := by decide +kernel
theorem d11_15 : decode prog_37_method_8_code 15 = .ok (.aload_n 0, 1) := by decide +kernel
theorem d11_16 : decode prog_37_method_8_code 16 = .ok (.iload_n 1, 1) := by decide +kernel
theorem d11_17 : decode prog_37_method_8_code 17 = .ok (.invokestatic 106, 3) := by decide +kernel
theorem d11_20 : decode prog_37_method_8_code 20 = .ok (.istore_n 2, 1) := by decide +kernel
theorem d11_21 : decode prog_37_method_8_code 21 = .ok (.iload_n 2, 1) := by decide +kernel
theorem d11_22 : decode prog_37_method_8_code 22 = .ok (.iload_n 1, 1) := by decide +kernel
theorem d11_23 : decode prog_37_method_8_code 23 = .ok (.if_icmp .ne 5, 3) := by decide +kernel
theorem d11_28 : decode prog_37_method_8_code 28 = .ok (.aload_n 0, 1) := by decide +kernel
theorem d11_29 : decode prog_37_method_8_code 29 = .ok (.iload_n 1, 1) := by decide +kernel
theorem d11_30 : decode prog_37_method_8_code 30 = .ok (.invokevirtual 112, 3) := by decide +kernel
theorem d11_33 : decode prog_37_method_8_code 33 = .ok (.bipush 48, 2) := by decide +kernel
theorem d11_35 : decode prog_37_method_8_code 35 = .ok (.if_icmp .ne 9, 3) := by decide +kernel
theorem d11_38 : decode prog_37_method_8_code 38 = .ok (.iload_n 1, 1) := by decide +kernel
theorem d11_39 : decode prog_37_method_8_code 39 = .ok (.iconst 1, 1) := by decide +kernel
theorem d11_40 : decode prog_37_method_8_code 40 = .ok (.iadd, 1) := by decide +kernel
theorem d11_41 : decode prog_37_method_8_code 41 = .ok (.goto 4, 3) := by decide +kernel
theorem d11_44 : decode prog_37_method_8_code 44 = .ok (.iload_n 2, 1) := by decide +kernel
theorem d11_45 : decode prog_37_method_8_code 45 = .ok (.istore_n 1, 1) := by decide +kernel
theorem d11_46 : decode prog_37_method_8_code 46 = .ok (.iload_n 1, 1) := by decide +kernel
theorem d11_47 : decode prog_37_method_8_code 47 = .ok (.aload_n 0, 1) := by decide +kernel
theorem d11_48 : decode prog_37_method_8_code 48 = .ok (.invokevirtual 78, 3) := by decide +kernel
theorem d11_51 : decode prog_37_method_8_code 51 = .ok (.if_icmp .ge 32, 3) := by decide +kernel
theorem d11_54 : decode prog_37_method_8_code 54 = .ok (.aload_n 0, 1) := by decide +kernel
theorem d11_55 : decode prog_37_method_8_code 55 = .ok (.iload_n 1, 1) := by decide +kernel
theorem d11_56 : decode prog_37_method_8_code 56 = .ok (.invokevirtual 112, 3) := by decide +kernel
theorem d11_59 : decode prog_37_method_8_code 59 = .ok (.bipush 46, 2) := by decide +kernel
theorem d11_61 : decode prog_37_method_8_code 61 = .ok (.if_icmp .ne 22, 3) := by decide +kernel
theorem d11_64 : decode prog_37_method_8_code 64 = .ok (.aload_n 0, 1) := by decide +kernel
theorem d11_65 : decode prog_37_method_8_code 65 = .ok (.iload_n 1, 1) := by decide +kernel
theorem d11_66 : decode prog_37_method_8_code 66 = .ok (.iconst 1, 1) := by decide +kernel
theorem d11_67 : decode prog_37_method_8_code 67 = .ok (.iadd, 1) := by decide +kernel
theorem d11_68 : decode prog_37_method_8_code 68 = .ok (.invokestatic 106, 3) := by decide +kernel
theorem d11_71 : decode prog_37_method_8_code 71 = .ok (.istore_n 3, 1) := by decide +kernel
theorem d11_72 : decode prog_37_method_8_code 72 = .ok (.iload_n 3, 1) := by decide +kernel
theorem d11_73 : decode prog_37_method_8_code 73 = .ok (.iload_n 1, 1) := by decide +kernel
theorem d11_74 : decode prog_37_method_8_code 74 = .ok (.iconst 1, 1) := by decide +kernel
theorem d11_75 : decode prog_37_method_8_code 75 = .ok (.iadd, 1) := by decide +kernel
theorem d11_76 : decode prog_37_method_8_code 76 = .ok (.if_icmp .ne 5, 3) := by decide +kernel
theorem d11_81 : decode prog_37_method_8_code 81 = .ok (.iload_n 3, 1) := by decide +kernel
theorem d11_82 : decode prog_37_method_8_code 82 = .ok (.istore_n 1, 1) := by decide +kernel
theorem d11_83 : decode prog_37_method_8_code 83 = .ok (.iload_n 1, 1) := by decide +kernel
theorem d11_84 : decode prog_37_method_8_code 84 = .ok (.aload_n 0, 1) := by decide +kernel
theorem d11_85 : decode prog_37_method_8_code 85 = .ok (.invokevirtual 78, 3) := by decide +kernel
theorem d11_88 : decode prog_37_method_8_code 88 = .ok (.if_icmp .ge 72, 3) := by decide +kernel
theorem d11_91 : decode prog_37_method_8_code 91 = .ok (.aload_n 0, 1) := by decide +kernel
theorem d11_92 : decode prog_37_method_8_code 92 = .ok (.iload_n 1, 1) := by decide +kernel
theorem d11_93 : decode prog_37_method_8_code 93 = .ok (.invokevirtual 112, 3) := by decide +kernel
theorem d11_96 : decode prog_37_method_8_code 96 = .ok (.bipush 101, 2) := by decide +kernel
theorem d11_98 : decode prog_37_method_8_code 98 = .ok (.if_icmp .eq 13, 3) := by decide +kernel
theorem d11_101 : decode prog_37_method_8_code 101 = .ok (.aload_n 0, 1) := by decide +kernel
theorem d11_102 : decode prog_37_method_8_code 102 = .ok (.iload_n 1, 1) := by decide +kernel
theorem d11_103 : decode prog_37_method_8_code 103 = .ok (.invokevirtual 112, 3) := by decide +kernel
theorem d11_106 : decode prog_37_method_8_code 106 = .ok (.bipush 69, 2) := by decide +kernel
theorem d11_108 : decode prog_37_method_8_code 108 = .ok (.if_icmp .ne 52, 3) := by decide +kernel
theorem d11_111 : decode prog_37_method_8_code 111 = .ok (.iinc 1 1, 3) := by decide +kernel
theorem d11_114 : decode prog_37_method_8_code 114 = .ok (.iload_n 1, 1) := by decide +kernel
theorem d11_115 : decode prog_37_method_8_code 115 = .ok (.aload_n 0, 1) := by decide +kernel
theorem d11_116 : decode prog_37_method_8_code 116 = .ok (.invokevirtual 78, 3) := by decide +kernel
theorem d11_119 : decode prog_37_method_8_code 119 = .ok (.if_icmp .ge 26, 3) := by decide +kernel
theorem d11_122 : decode prog_37_method_8_code 122 = .ok (.aload_n 0, 1) := by decide +kernel
theorem d11_123 : decode prog_37_method_8_code 123 = .ok (.iload_n 1, 1) := by decide +kernel
theorem d11_124 : decode prog_37_method_8_code 124 = .ok (.invokevirtual 112, 3) := by decide +kernel
theorem d11_127 : decode prog_37_method_8_code 127 = .ok (.bipush 43, 2) := by decide +kernel
theorem d11_129 : decode prog_37_method_8_code 129 = .ok (.if_icmp .eq 13, 3) := by decide +kernel
theorem d11_132 : decode prog_37_method_8_code 132 = .ok (.aload_n 0, 1) := by decide +kernel
theorem d11_133 : decode prog_37_method_8_code 133 = .ok (.iload_n 1, 1) := by decide +kernel
theorem d11_134 : decode prog_37_method_8_code 134 = .ok (.invokevirtual 112, 3) := by decide +kernel
theorem d11_137 : decode prog_37_method_8_code 137 = .ok (.bipush 45, 2) := by decide +kernel
theorem d11_139 : decode prog_37_method_8_code 139 = .ok (.if_icmp .ne 6, 3) := by decide +kernel
theorem d11_145 : decode prog_37_method_8_code 145 = .ok (.aload_n 0, 1) := by decide +kernel
theorem d11_146 : decode prog_37_method_8_code 146 = .ok (.iload_n 1, 1) := by decide +kernel
theorem d11_147 : decode prog_37_method_8_code 147 = .ok (.invokestatic 106, 3) := by decide +kernel
theorem d11_150 : decode prog_37_method_8_code 150 = .ok (.istore_n 3, 1) := by decide +kernel
theorem d11_151 : decode prog_37_method_8_code 151 = .ok (.iload_n 3, 1) := by decide +kernel
theorem d11_152 : decode prog_37_method_8_code 152 = .ok (.iload_n 1, 1) := by decide +kernel
theorem d11_153 : decode prog_37_method_8_code 153 = .ok (.if_icmp .ne 5, 3) := by decide +kernel
theorem d11_158 : decode prog_37_method_8_code 158 = .ok (.iload_n 3, 1) := by decide +kernel
theorem d11_159 : decode prog_37_method_8_code 159 = .ok (.istore_n 1, 1) := by decide +kernel
theorem d11_160 : decode prog_37_method_8_code 160 = .ok (.iload_n 1, 1) := by decide +kernel
theorem d11_161 : decode prog_37_method_8_code 161 = .ok (.aload_n 0, 1) := by decide +kernel
theorem d11_162 : decode prog_37_method_8_code 162 = .ok (.invokevirtual 78, 3) := by decide +kernel
theorem d11_165 : decode prog_37_method_8_code 165 = .ok (.if_icmp .ne 7, 3) := by decide +kernel
theorem d11_168 : decode prog_37_method_8_code 168 = .ok (.iconst 1, 1) := by decide +kernel
theorem d11_169 : decode prog_37_method_8_code 169 = .ok (.goto 4, 3) := by decide +kernel
theorem d11_173 : decode prog_37_method_8_code 173 = .ok (.ireturn, 1) := by decide +kernel
theorem pn_11 : plainName "com/example/millrace/millrace/model/Numeral" = true := by first | (simp [plainName, overriddenIn]; done) | decide +kernel
theorem ef_11 (m : MethodId) (x0 : Addr) : entryFrame m #[(.ref x0)] 4 = mkF m 0 #[.val (.ref x0), .unset, .unset, .unset] [] := by first | (simp [entryFrame, mkF, argsToLocals, Value.category]; done) | rfl
def Q11 (Z : State) (r0 : Addr) (ba : Addr) (ka : ClassId) (cs : Int32) (fm : Value) (tx : List Int32) (h0 : Heap) (n0 : Nat) (v : Option Value) (h : Heap) (L : List Loc) : Prop := v = some (.int 1) ∧ Fr n0 L ∧ Keep h0 h []
set_option maxRecDepth 65536 in
set_option maxHeartbeats 40000000 in
theorem rm11 (l : Launch) (Z : State) (a0 : Array Value) (hw : ∀ d ∈ tables_1, d.before a0 Z = true) (ws : List Jvm.Cond) (r0 : Addr) (ba : Addr) (ka : ClassId) (cs : Int32) (fm : Value) (tx : List Int32) (h0 : Heap) (n0 : Nat) (Z0 : n0 ≤ h0.size) (O0 : Old Z n0 h0) (Ea : Exa Z h0 r0 "java/lang/String") (Fa : Fld Z h0 r0 "java/lang/String" "value" "[B" (.ref ba)) (Ca : Fld Z h0 r0 "java/lang/String" "coder" "B" (.int (0 : Int32))) (Va : Arv Z h0 ba ka .byte (Int32.ofNat tx.length) ((tx.map (fun c => c.toInt8.toInt32)).map Value.int) (.int 0)) (SC : Sta Z Z.heap "java/lang/String" "COMPACT_STRINGS" "Z" (.int cs)) (hcs : ¬ cs = (0 : Int32)) (SF : Sta Z Z.heap "jdk/internal/util/Preconditions" "SIOOBE_FORMATTER" "Ljava/util/function/BiFunction;" fm) (hfm : fm.isRef = true) (hnum : own_num tx) :
    MetFree l yy_11 (head1 (Jvm.Cond.code yy_11 prog_37_method_8_code 4 (some .boolean) :: ws) ({ frames := 5, cells := 2, slots := 8, locals := 67 } : Room)) (fun a U => a = #[(.ref r0)] ∧ Z.Warmed39 U.vm ∧ U.heap = h0 ∧ CHv Z consts_1 U.vm h0) (fun _ _ _ _ _ => True) (fun _ U o U' => ∃ v L, o = .returned v ∧ Q11 Z r0 ba ka cs fm tx h0 n0 v U'.heap L ∧ CHr Z consts_1 U.vm U.heap U'.vm U'.heap ∧ ReturnedEndW U o U' L ({ frames := 5, cells := 2, slots := 8, locals := 67 } : Room).cells ({ frames := 5, cells := 2, slots := 8, locals := 67 } : Room).slots) := by
  refine MetFree.of_bodySF (plainFor_of_name pn_11) hisR ?_
  intro p e s m args below meth c s₁ Bd hml0 hP hK
  obtain ⟨rfl, hZ, hh, hCH⟩ := hP
  have hx := Bd.exec
  have hby := Bd.bytes
  have hml : c.maxLocals = 4 := hml0
  have hown : s.vm.findClass "com/example/millrace/millrace/model/Numeral" = some m.cls := findClass_of_methodNamed Bd.named
  have hnm := (name_of_methodNamed Bd.named Bd.method).1
  have X0 : Stand p l e ({ frames := 5, cells := 2, slots := 8, locals := 67 } : Room) s m #[(.ref r0)] below meth c s₁ [] 0 0 := Stand.of_body Bd
  have e0 : s₁.heap = h0 := by rw [← hh, Bd.state]; rfl
  have N0 := Fr.nil n0
  have pre0 : ∀ t, Steps p.tables e below (s₁.setTop (mkF m 0 #[oa r0, .unset, .unset, .unset] [])) t → Steps p.tables e below (s₁.setTop (entryFrame m #[(.ref r0)] 4)) t := fun t k => castTop (ef_11 m r0) k
  have hS0 : s.Since s.vm 0 := (State.WarmedH.refl s).since 0
  have hEL : EW Z a0 consts_1 := (EW.cons (own_t hw 45 rfl) (by decide) (EW.cons (own_t hw 55 rfl) (by decide) EW.nil))
  have hwS : ∀ d ∈ Bundle.stringAtoms, d.before a0 Z = true := fun d hd => hw d ((by decide +kernel : ∀ d ∈ Bundle.stringAtoms, d ∈ tables_1) d hd)
  rcases hnum with ⟨d, htx, h_d⟩ | ⟨d, htx, h_d⟩ | ⟨d, ez, htx, h_d, h_ez, h48⟩ | ⟨d, ez, htx, h_d, h_ez⟩ | ⟨d, ez, htx, h_d, h_ez⟩ | ⟨d, ez, htx, h_d, h_ez⟩
  · skip
    rw [htx] at Va
    have Vx : Arv Z h0 ba ka .byte (1 : Int32) [(.int (d.toInt8.toInt32))] (.int 0) := Va
    have c2 : own_G p e below s₁ (mkF m 1 #[oa r0, .unset, .unset, .unset] [(.ref r0)]) (mkF m 0 #[oa r0, .unset, .unset, .unset] []) := by
      intro t kt
      show oS s₁ (mkF m 0 #[oa r0, .unset, .unset, .unset] []) _
      refine XS.aloadN X0.here hx rfl (hb hby d11_0) rfl rfl ?_
      exact kt
    obtain ⟨a1, T1, h1, j1, b1, kb1, X1, e1, E1, hS1, hk1, hZ, hown, Es1, Fc1, Fv1, Va1, la1, lb1, CH1, Lt1, Sf1, st1⟩ := ldcCH (s := s) (vm0 := s.vm) X0 hx hZ hown (own_t hw 55 rfl) hwS e0 hS0 (Nat.zero_le _) hEL (List.mem_of_getElem? (i := 1) rfl) (CHr.refl hCH).1 (vs := [(.int (45 : Int32))]) (z := (1 : Int32)) ⟨by decide, rfl⟩ (by decide) rfl (g := (mkF m 1 #[oa r0, .unset, .unset, .unset] [(.ref r0)])) rfl (hb hby d11_1) (n := 4) (by decide) (by decide) (by decide) (by decide)
    have ch1 := (CHr.refl hCH).trans CH1
    have f3 := (Nat.le_trans Z0 E1.1)
    have f4 := (Ea.ext E1)
    have f5 := (Fa.ext E1)
    have f6 := (Ca.ext E1)
    have f7 := (Vx.ext E1)
    have f8 := (O0.ext E1)
    obtain ⟨cq9, kq9, q9a, q9b, q9c⟩ := isOf hZ e1 f4
    obtain ⟨_, _, ⟨T10, L10, k10, n10⟩, -, X10, ⟨Lc10, hQ10, l10, y10, z10⟩, st10⟩ := X1.virtualBack hx (y := yy_9) (z := yy_9) hown (mvT hZ (own_t hw 56 rfl)) (mvT hZ (own_t hw 57 rfl)) (notFace_of_selects (args := #[]) (mvT hZ (own_t hw 59 rfl))) (mvT hZ (own_t hw 59 rfl)) (mvT hZ (own_t hw 58 rfl)) (by decide) (backOf (W := 0) (rm12 l Z a0 hw [] r0 a1 ba b1 ka kb1 cs (1 : Int32) [(.int (d.toInt8.toInt32))] (d.toInt8.toInt32) h1 n0 f3 f4 f5 f6 f7 Es1 Fv1 Fc1 Va1 (SC.ext f8.2) hcs ⟨by decide, by decide⟩ rfl (by decide)) hZ (own_t hw 60 rfl) (own_t hw 7 rfl) (by decide) (by decide)) q9a q9c (g := (mkF m 3 #[oa r0, .unset, .unset, .unset] [(.ref a1), (.ref r0)])) rfl (by rw [hml]; rfl) (Steps.refl _) (argsL := [(.ref a1)]) (rest := []) (lenOf pd_9 rfl) rfl (by show 2 * 0 + _ ≤ _; exact Nat.le_of_eq rfl) (hb hby d11_3) (fun _ _ => ⟨rfl, e1, (by decide : 2 + 0 ≤ _), (by decide : 8 + 0 ≤ _)⟩)
    dsimp only [Pt.U, Pt.locs, Pt.cells, Pt.slots] at X10 l10 y10 z10 st10 hQ10
    subst l10 y10 z10
    obtain ⟨rfl, N10q, e10⟩ := hQ10
    have N10 := Fr.app N0 N10q
    have c11 : own_G p e below T10 (mkF m 6 #[oa r0, .unset, .unset, .unset] [(.int (0 : Int32))]) (mkF m 6 #[oa r0, .unset, .unset, .unset] [(.int ((own_sw (d.toInt8.toInt32)) &&& 1))]) := fun t kt => castTop (congrArg (fun zv => (mkF m 6 #[oa r0, .unset, .unset, .unset] [(.int zv)])) (show ((own_sw (d.toInt8.toInt32)) &&& 1) = (0 : Int32) from own_swd h_d)) kt
    have c12 : own_G p e below T10 (mkF m 17 #[oa r0, oi 0, .unset, .unset] [(.int (0 : Int32)), (.ref r0)]) (mkF m 6 #[oa r0, .unset, .unset, .unset] [(.int (0 : Int32))]) := by
      intro t kt
      show oS T10 (mkF m 6 #[oa r0, .unset, .unset, .unset] [(.int (0 : Int32))]) _
      refine XS.ifYes X10.here hx rfl (pc0 := 6) (pc' := 13) rfl (hb hby d11_6) rfl ((if0 _ _).trans (teq (by decide : (0 : Int32) = (0 : Int32))).1) (by decide) (by decide) ?_
      show oS T10 (mkF m 13 #[oa r0, .unset, .unset, .unset] []) _
      refine XS.iconst X10.here hx rfl (hb hby d11_13) ?_
      show oS T10 (mkF m 14 #[oa r0, .unset, .unset, .unset] [(.int (0 : Int32))]) _
      refine XS.istoreN X10.here hx rfl (hb hby d11_14) rfl (l' := #[oa r0, oi 0, .unset, .unset]) rfl ?_
      show oS T10 (mkF m 15 #[oa r0, oi 0, .unset, .unset] []) _
      refine XS.aloadN X10.here hx rfl (hb hby d11_15) rfl rfl ?_
      show oS T10 (mkF m 16 #[oa r0, oi 0, .unset, .unset] [(.ref r0)]) _
      refine XS.iloadN X10.here hx rfl (hb hby d11_16) rfl ?_
      exact kt
    obtain ⟨_, _, ⟨T13, L13, k13, n13⟩, -, X13, ⟨Lc13, hQ13, l13, y13, z13⟩, st13⟩ := Jvm.LawKit.callS X10 hx (y := yy_10) hown (mvT hZ (own_t hw 80 rfl)) (mvT hZ (own_t hw 81 rfl)) (mvT hZ (own_t hw 82 rfl)) (mvT hZ (own_t hw 83 rfl)) (by decide) (backOf (W := 0) (rm17_a l Z a0 hw []  r0 ba ka cs fm d h1 n0 f3 f4 f5 f6 f7 (SC.ext f8.2) hcs (SF.ext f8.2) hfm h_d) hZ (own_t hw 83 rfl) (own_t hw 82 rfl) (by decide) (by decide)) (g := (mkF m 17 #[oa r0, oi 0, .unset, .unset] [(.int (0 : Int32)), (.ref r0)])) rfl (by rw [hml]; rfl) (argsL := [(.ref r0), (.int (0 : Int32))]) (rest := []) (lenOf pd_10 rfl) rfl (by show 2 * 0 + _ ≤ _; exact Nat.le_of_eq rfl) (hb hby d11_17) (fun _ _ => ⟨rfl, e10, (by decide : 2 + 0 ≤ _), (by decide : 8 + 0 ≤ _)⟩)
    dsimp only [Pt.U, Pt.locs, Pt.cells, Pt.slots] at X13 l13 y13 z13 st13 hQ13
    subst l13 y13 z13
    obtain ⟨rfl, N13q, e13⟩ := hQ13
    have N13 := Fr.app N10 N13q
    have c14 : own_G p e below T13 (mkF m 30 #[oa r0, oi 0, oi 1, .unset] [(.int (0 : Int32)), (.ref r0)]) (mkF m 20 #[oa r0, oi 0, .unset, .unset] [(.int (1 : Int32))]) := by
      intro t kt
      show oS T13 (mkF m 20 #[oa r0, oi 0, .unset, .unset] [(.int (1 : Int32))]) _
      refine XS.istoreN X13.here hx rfl (hb hby d11_20) rfl (l' := #[oa r0, oi 0, oi 1, .unset]) rfl ?_
      show oS T13 (mkF m 21 #[oa r0, oi 0, oi 1, .unset] []) _
      refine XS.iloadN X13.here hx rfl (hb hby d11_21) rfl ?_
      show oS T13 (mkF m 22 #[oa r0, oi 0, oi 1, .unset] [(.int (1 : Int32))]) _
      refine XS.iloadN X13.here hx rfl (hb hby d11_22) rfl ?_
      show oS T13 (mkF m 23 #[oa r0, oi 0, oi 1, .unset] [(.int (0 : Int32)), (.int (1 : Int32))]) _
      refine XS.icmpYes X13.here hx rfl (pc0 := 23) (pc' := 28) rfl (hb hby d11_23) rfl (feq (by decide : ¬ ((1 : Int32) = (0 : Int32)))).2 (by decide) (by decide) ?_
      show oS T13 (mkF m 28 #[oa r0, oi 0, oi 1, .unset] []) _
      refine XS.aloadN X13.here hx rfl (hb hby d11_28) rfl rfl ?_
      show oS T13 (mkF m 29 #[oa r0, oi 0, oi 1, .unset] [(.ref r0)]) _
      refine XS.iloadN X13.here hx rfl (hb hby d11_29) rfl ?_
      exact kt
    obtain ⟨cq15, kq15, q15a, q15b, q15c⟩ := isOf hZ e13 f4
    obtain ⟨_, _, ⟨T16, L16, k16, n16⟩, -, X16, ⟨Lc16, hQ16, l16, y16, z16⟩, st16⟩ := X13.virtualBack hx (y := yy_4) (z := yy_4) hown (mvT hZ (own_t hw 107 rfl)) (mvT hZ (own_t hw 86 rfl)) (notFace_of_selects (args := #[]) (mvT hZ (own_t hw 88 rfl))) (mvT hZ (own_t hw 88 rfl)) (mvT hZ (own_t hw 87 rfl)) (by decide) (backOf (W := 0) (rm18 l Z a0 hw [] r0 (0 : Int32) ba ka (1 : Int32) [(.int (d.toInt8.toInt32))] (.int 0) (d.toInt8.toInt32) fm cs h1 n0 f3 f4 f5 f7 ⟨by decide, by decide⟩ rfl (SF.ext f8.2) hfm (SC.ext f8.2) hcs f6) hZ (own_t hw 89 rfl) (own_t hw 7 rfl) (by decide) (by decide)) q15a q15c (g := (mkF m 30 #[oa r0, oi 0, oi 1, .unset] [(.int (0 : Int32)), (.ref r0)])) rfl (by rw [hml]; rfl) (Steps.refl _) (argsL := [(.int (0 : Int32))]) (rest := []) (lenOf pd_8 rfl) rfl (by show 2 * 0 + _ ≤ _; exact Nat.le_of_eq rfl) (hb hby d11_30) (fun _ _ => ⟨rfl, e13, (by decide : 2 + 0 ≤ _), (by decide : 8 + 0 ≤ _)⟩)
    dsimp only [Pt.U, Pt.locs, Pt.cells, Pt.slots] at X16 l16 y16 z16 st16 hQ16
    subst l16 y16 z16
    obtain ⟨rfl, N16q, e16⟩ := hQ16
    have N16 := Fr.app N13 N16q
    have c17 : own_G p e below T16 (mkF m 33 #[oa r0, oi 0, oi 1, .unset] [(.int d)]) (mkF m 33 #[oa r0, oi 0, oi 1, .unset] [(.int (own_cc (d.toInt8.toInt32)))]) := fun t kt => castTop (congrArg (fun zv => (mkF m 33 #[oa r0, oi 0, oi 1, .unset] [(.int zv)])) (show (own_cc (d.toInt8.toInt32)) = d from own_ccv _ (own_dr h_d).1 (own_dr h_d).2)) kt
    have c18 : ∀ t, own_S p e below T16 (mkF m 45 #[oa r0, oi 0, oi 1, .unset] [(.int (1 : Int32))]) t → own_S p e below T16 (mkF m 33 #[oa r0, oi 0, oi 1, .unset] [(.int d)]) t := by
      intro t kt
      show oS T16 (mkF m 33 #[oa r0, oi 0, oi 1, .unset] [(.int d)]) _
      refine XS.bipush X16.here hx rfl (hb hby d11_33) ?_
      by_cases hc35 : d = (48 : Int32)
      · -- it is
        show oS T16 (mkF m 35 #[oa r0, oi 0, oi 1, .unset] [(.int (48 : Int32)), (.int d)]) _
        refine XS.icmpNo X16.here hx rfl (hb hby d11_35) rfl (teq hc35).2 ?_
        show oS T16 (mkF m 38 #[oa r0, oi 0, oi 1, .unset] []) _
        refine XS.iloadN X16.here hx rfl (hb hby d11_38) rfl ?_
        show oS T16 (mkF m 39 #[oa r0, oi 0, oi 1, .unset] [(.int (0 : Int32))]) _
        refine XS.iconst X16.here hx rfl (hb hby d11_39) ?_
        show oS T16 (mkF m 40 #[oa r0, oi 0, oi 1, .unset] [(.int (1 : Int32)), (.int (0 : Int32))]) _
        refine XS.iadd X16.here hx rfl (hb hby d11_40) rfl ?_
        show oS T16 (mkF m 41 #[oa r0, oi 0, oi 1, .unset] [(.int ((0 : Int32) + (1 : Int32)))]) _
        refine XS.goto X16.here hx rfl (pc0 := 41) (pc' := 45) rfl (hb hby d11_41) (by decide) (by decide) ?_
        rw [show (1 : Int32) = ((0 : Int32) + (1 : Int32)) from by decide] at kt
        exact kt
      · -- it isn't
        show oS T16 (mkF m 35 #[oa r0, oi 0, oi 1, .unset] [(.int (48 : Int32)), (.int d)]) _
        refine XS.icmpYes X16.here hx rfl (pc0 := 35) (pc' := 44) rfl (hb hby d11_35) rfl (feq hc35).2 (by decide) (by decide) ?_
        show oS T16 (mkF m 44 #[oa r0, oi 0, oi 1, .unset] []) _
        refine XS.iloadN X16.here hx rfl (hb hby d11_44) rfl ?_
        exact kt
    have c19 : own_G p e below T16 (mkF m 48 #[oa r0, oi 1, oi 1, .unset] [(.ref r0), (.int (1 : Int32))]) (mkF m 45 #[oa r0, oi 0, oi 1, .unset] [(.int (1 : Int32))]) := by
      intro t kt
      show oS T16 (mkF m 45 #[oa r0, oi 0, oi 1, .unset] [(.int (1 : Int32))]) _
      refine XS.istoreN X16.here hx rfl (hb hby d11_45) rfl (l' := #[oa r0, oi 1, oi 1, .unset]) rfl ?_
      show oS T16 (mkF m 46 #[oa r0, oi 1, oi 1, .unset] []) _
      refine XS.iloadN X16.here hx rfl (hb hby d11_46) rfl ?_
      show oS T16 (mkF m 47 #[oa r0, oi 1, oi 1, .unset] [(.int (1 : Int32))]) _
      refine XS.aloadN X16.here hx rfl (hb hby d11_47) rfl rfl ?_
      exact kt
    obtain ⟨cq20, kq20, q20a, q20b, q20c⟩ := isOf hZ e16 f4
    obtain ⟨_, _, ⟨T21, L21, k21, n21⟩, -, X21, ⟨Lc21, hQ21, l21, y21, z21⟩, st21⟩ := X16.virtualBack hx (y := yy_6) (z := yy_6) hown (mvT hZ (own_t hw 108 rfl)) (mvT hZ (own_t hw 67 rfl)) (notFace_of_selects (args := #[]) (mvT hZ (own_t hw 69 rfl))) (mvT hZ (own_t hw 69 rfl)) (mvT hZ (own_t hw 68 rfl)) (by decide) (backOf (W := 1) (rm14 l Z a0 hw [] r0 ba ka (1 : Int32) [(.int (d.toInt8.toInt32))] (.int 0) cs h1 n0 f3 f4 f5 f7 (SC.ext f8.2) hcs f6) hZ (own_t hw 70 rfl) (own_t hw 7 rfl) (by decide) (by decide)) q20a q20c (g := (mkF m 48 #[oa r0, oi 1, oi 1, .unset] [(.ref r0), (.int (1 : Int32))])) rfl (by rw [hml]; rfl) (Steps.refl _) (argsL := []) (rest := [(.int (1 : Int32))]) (lenOf pd_5 rfl) rfl (by show 2 * 0 + _ ≤ _; exact Nat.le_of_eq rfl) (hb hby d11_48) (fun _ _ => ⟨rfl, e16, (by decide : 2 + 0 ≤ _), (by decide : 8 + 0 ≤ _)⟩)
    dsimp only [Pt.U, Pt.locs, Pt.cells, Pt.slots] at X21 l21 y21 z21 st21 hQ21
    subst l21 y21 z21
    obtain ⟨rfl, N21q, e21⟩ := hQ21
    have N21 := Fr.app N16 N21q
    have c22 : own_G p e below T21 (mkF m 85 #[oa r0, oi 1, oi 1, .unset] [(.ref r0), (.int (1 : Int32))]) (mkF m 51 #[oa r0, oi 1, oi 1, .unset] [(.int (1 : Int32)), (.int (1 : Int32))]) := by
      intro t kt
      show oS T21 (mkF m 51 #[oa r0, oi 1, oi 1, .unset] [(.int (1 : Int32)), (.int (1 : Int32))]) _
      refine XS.icmpYes X21.here hx rfl (pc0 := 51) (pc' := 83) rfl (hb hby d11_51) rfl (flt (by decide : ¬ ((1 : Int32) < (1 : Int32)))).2.1 (by decide) (by decide) ?_
      show oS T21 (mkF m 83 #[oa r0, oi 1, oi 1, .unset] []) _
      refine XS.iloadN X21.here hx rfl (hb hby d11_83) rfl ?_
      show oS T21 (mkF m 84 #[oa r0, oi 1, oi 1, .unset] [(.int (1 : Int32))]) _
      refine XS.aloadN X21.here hx rfl (hb hby d11_84) rfl rfl ?_
      exact kt
    obtain ⟨cq23, kq23, q23a, q23b, q23c⟩ := isOf hZ e21 f4
    obtain ⟨_, _, ⟨T24, L24, k24, n24⟩, -, X24, ⟨Lc24, hQ24, l24, y24, z24⟩, st24⟩ := X21.virtualBack hx (y := yy_6) (z := yy_6) hown (mvT hZ (own_t hw 108 rfl)) (mvT hZ (own_t hw 67 rfl)) (notFace_of_selects (args := #[]) (mvT hZ (own_t hw 69 rfl))) (mvT hZ (own_t hw 69 rfl)) (mvT hZ (own_t hw 68 rfl)) (by decide) (backOf (W := 1) (rm14 l Z a0 hw [] r0 ba ka (1 : Int32) [(.int (d.toInt8.toInt32))] (.int 0) cs h1 n0 f3 f4 f5 f7 (SC.ext f8.2) hcs f6) hZ (own_t hw 70 rfl) (own_t hw 7 rfl) (by decide) (by decide)) q23a q23c (g := (mkF m 85 #[oa r0, oi 1, oi 1, .unset] [(.ref r0), (.int (1 : Int32))])) rfl (by rw [hml]; rfl) (Steps.refl _) (argsL := []) (rest := [(.int (1 : Int32))]) (lenOf pd_5 rfl) rfl (by show 2 * 0 + _ ≤ _; exact Nat.le_of_eq rfl) (hb hby d11_85) (fun _ _ => ⟨rfl, e21, (by decide : 2 + 0 ≤ _), (by decide : 8 + 0 ≤ _)⟩)
    dsimp only [Pt.U, Pt.locs, Pt.cells, Pt.slots] at X24 l24 y24 z24 st24 hQ24
    subst l24 y24 z24
    obtain ⟨rfl, N24q, e24⟩ := hQ24
    have N24 := Fr.app N21 N24q
    have c25 : own_G p e below T24 (mkF m 162 #[oa r0, oi 1, oi 1, .unset] [(.ref r0), (.int (1 : Int32))]) (mkF m 88 #[oa r0, oi 1, oi 1, .unset] [(.int (1 : Int32)), (.int (1 : Int32))]) := by
      intro t kt
      show oS T24 (mkF m 88 #[oa r0, oi 1, oi 1, .unset] [(.int (1 : Int32)), (.int (1 : Int32))]) _
      refine XS.icmpYes X24.here hx rfl (pc0 := 88) (pc' := 160) rfl (hb hby d11_88) rfl (flt (by decide : ¬ ((1 : Int32) < (1 : Int32)))).2.1 (by decide) (by decide) ?_
      show oS T24 (mkF m 160 #[oa r0, oi 1, oi 1, .unset] []) _
      refine XS.iloadN X24.here hx rfl (hb hby d11_160) rfl ?_
      show oS T24 (mkF m 161 #[oa r0, oi 1, oi 1, .unset] [(.int (1 : Int32))]) _
      refine XS.aloadN X24.here hx rfl (hb hby d11_161) rfl rfl ?_
      exact kt
    obtain ⟨cq26, kq26, q26a, q26b, q26c⟩ := isOf hZ e24 f4
    obtain ⟨_, _, ⟨T27, L27, k27, n27⟩, -, X27, ⟨Lc27, hQ27, l27, y27, z27⟩, st27⟩ := X24.virtualBack hx (y := yy_6) (z := yy_6) hown (mvT hZ (own_t hw 108 rfl)) (mvT hZ (own_t hw 67 rfl)) (notFace_of_selects (args := #[]) (mvT hZ (own_t hw 69 rfl))) (mvT hZ (own_t hw 69 rfl)) (mvT hZ (own_t hw 68 rfl)) (by decide) (backOf (W := 1) (rm14 l Z a0 hw [] r0 ba ka (1 : Int32) [(.int (d.toInt8.toInt32))] (.int 0) cs h1 n0 f3 f4 f5 f7 (SC.ext f8.2) hcs f6) hZ (own_t hw 70 rfl) (own_t hw 7 rfl) (by decide) (by decide)) q26a q26c (g := (mkF m 162 #[oa r0, oi 1, oi 1, .unset] [(.ref r0), (.int (1 : Int32))])) rfl (by rw [hml]; rfl) (Steps.refl _) (argsL := []) (rest := [(.int (1 : Int32))]) (lenOf pd_5 rfl) rfl (by show 2 * 0 + _ ≤ _; exact Nat.le_of_eq rfl) (hb hby d11_162) (fun _ _ => ⟨rfl, e24, (by decide : 2 + 0 ≤ _), (by decide : 8 + 0 ≤ _)⟩)
    dsimp only [Pt.U, Pt.locs, Pt.cells, Pt.slots] at X27 l27 y27 z27 st27 hQ27
    subst l27 y27 z27
    obtain ⟨rfl, N27q, e27⟩ := hQ27
    have N27 := Fr.app N24 N27q
    have c28 : own_G p e below T27 (mkF m 173 #[oa r0, oi 1, oi 1, .unset] [(.int (1 : Int32))]) (mkF m 165 #[oa r0, oi 1, oi 1, .unset] [(.int (1 : Int32)), (.int (1 : Int32))]) := by
      intro t kt
      show oS T27 (mkF m 165 #[oa r0, oi 1, oi 1, .unset] [(.int (1 : Int32)), (.int (1 : Int32))]) _
      refine XS.icmpNo X27.here hx rfl (hb hby d11_165) rfl (teq (by decide : (1 : Int32) = (1 : Int32))).2 ?_
      show oS T27 (mkF m 168 #[oa r0, oi 1, oi 1, .unset] []) _
      refine XS.iconst X27.here hx rfl (hb hby d11_168) ?_
      show oS T27 (mkF m 169 #[oa r0, oi 1, oi 1, .unset] [(.int (1 : Int32))]) _
      refine XS.goto X27.here hx rfl (pc0 := 169) (pc' := 173) rfl (hb hby d11_169) (by decide) (by decide) ?_
      exact kt
    obtain ⟨fs, hr, hrun, hended, hwd⟩ := Stand.leaveW (s := s) (vm₁ := T1.vm) X27 hS1 (by rw [e27]; exact hk1) (v := some (.int (1 : Int32))) (fun h => by rw [Bd.returns] at h; cases h)
    have hCr : CHr Z consts_1 s.vm s.heap (T27.setFrames fs).vm (T27.setFrames fs).heap := by
      show CHr Z consts_1 s.vm s.heap T27.vm T27.heap
      rw [hh, e27]
      exact ch1.trans (CHv.at (s := s) (vm0 := T1.vm) X27 hZ hEL ch1.1)
    have f30 := ((Keep.refl h0 []).ext E1)
    refine ⟨_, _, pre0 _ (c2 _ (st1 _ (st10.trans (c11 _ (c12 _ (st13 _ (c14 _ (st16.trans (c17 _ (c18 _ (c19 _ (st21.trans (c22 _ (st24.trans (c25 _ (st27.trans (c28 _ (?_)))))))))))))))))), hrun, hended, _, _, rfl, ?_, hCr, hwd.1, hwd.2.1, hwd.2.2.1, hwd.2.2.2.mono (by decide) (by decide)⟩
    · show Steps p.tables e below (T27.setTop (mkF m 173 #[oa r0, oi 1, oi 1, .unset] [(.int (1 : Int32))])) _
      exact retN X27 hx (t := .boolean) Bd.returns (by simp) (hb hby d11_173) hr
    · show Q11 Z r0 ba ka cs fm tx h0 n0 _ T27.heap _
      rw [e27]
      exact ⟨rfl, N27, f30⟩
  · skip
    rw [htx] at Va
    have Vx : Arv Z h0 ba ka .byte (2 : Int32) [(.int ((45 : Int32).toInt8.toInt32)), (.int (d.toInt8.toInt32))] (.int 0) := Va
    have c32 : own_G p e below s₁ (mkF m 1 #[oa r0, .unset, .unset, .unset] [(.ref r0)]) (mkF m 0 #[oa r0, .unset, .unset, .unset] []) := by
      intro t kt
      show oS s₁ (mkF m 0 #[oa r0, .unset, .unset, .unset] []) _
      refine XS.aloadN X0.here hx rfl (hb hby d11_0) rfl rfl ?_
      exact kt
    obtain ⟨a31, T31, h31, j31, b31, kb31, X31, e31, E31, hS31, hk31, hZ, hown, Es31, Fc31, Fv31, Va31, la31, lb31, CH31, Lt31, Sf31, st31⟩ := ldcCH (s := s) (vm0 := s.vm) X0 hx hZ hown (own_t hw 55 rfl) hwS e0 hS0 (Nat.zero_le _) hEL (List.mem_of_getElem? (i := 1) rfl) (CHr.refl hCH).1 (vs := [(.int (45 : Int32))]) (z := (1 : Int32)) ⟨by decide, rfl⟩ (by decide) rfl (g := (mkF m 1 #[oa r0, .unset, .unset, .unset] [(.ref r0)])) rfl (hb hby d11_1) (n := 4) (by decide) (by decide) (by decide) (by decide)
    have ch31 := (CHr.refl hCH).trans CH31
    have f33 := (Nat.le_trans Z0 E31.1)
    have f34 := (Ea.ext E31)
    have f35 := (Fa.ext E31)
    have f36 := (Ca.ext E31)
    have f37 := (Vx.ext E31)
    have f38 := (O0.ext E31)
    obtain ⟨cq39, kq39, q39a, q39b, q39c⟩ := isOf hZ e31 f34
    obtain ⟨_, _, ⟨T40, L40, k40, n40⟩, -, X40, ⟨Lc40, hQ40, l40, y40, z40⟩, st40⟩ := X31.virtualBack hx (y := yy_9) (z := yy_9) hown (mvT hZ (own_t hw 56 rfl)) (mvT hZ (own_t hw 57 rfl)) (notFace_of_selects (args := #[]) (mvT hZ (own_t hw 59 rfl))) (mvT hZ (own_t hw 59 rfl)) (mvT hZ (own_t hw 58 rfl)) (by decide) (backOf (W := 0) (rm12 l Z a0 hw [] r0 a31 ba b31 ka kb31 cs (2 : Int32) [(.int ((45 : Int32).toInt8.toInt32)), (.int (d.toInt8.toInt32))] ((45 : Int32).toInt8.toInt32) h31 n0 f33 f34 f35 f36 f37 Es31 Fv31 Fc31 Va31 (SC.ext f38.2) hcs ⟨by decide, by decide⟩ rfl (by decide)) hZ (own_t hw 60 rfl) (own_t hw 7 rfl) (by decide) (by decide)) q39a q39c (g := (mkF m 3 #[oa r0, .unset, .unset, .unset] [(.ref a31), (.ref r0)])) rfl (by rw [hml]; rfl) (Steps.refl _) (argsL := [(.ref a31)]) (rest := []) (lenOf pd_9 rfl) rfl (by show 2 * 0 + _ ≤ _; exact Nat.le_of_eq rfl) (hb hby d11_3) (fun _ _ => ⟨rfl, e31, (by decide : 2 + 0 ≤ _), (by decide : 8 + 0 ≤ _)⟩)
    dsimp only [Pt.U, Pt.locs, Pt.cells, Pt.slots] at X40 l40 y40 z40 st40 hQ40
    subst l40 y40 z40
    obtain ⟨rfl, N40q, e40⟩ := hQ40
    have N40 := Fr.app N0 N40q
    have c41 : own_G p e below T40 (mkF m 6 #[oa r0, .unset, .unset, .unset] [(.int (1 : Int32))]) (mkF m 6 #[oa r0, .unset, .unset, .unset] [(.int ((own_sw ((45 : Int32).toInt8.toInt32)) &&& 1))]) := fun t kt => castTop (congrArg (fun zv => (mkF m 6 #[oa r0, .unset, .unset, .unset] [(.int zv)])) (show ((own_sw ((45 : Int32).toInt8.toInt32)) &&& 1) = (1 : Int32) from by decide)) kt
    have c42 : own_G p e below T40 (mkF m 17 #[oa r0, oi 1, .unset, .unset] [(.int (1 : Int32)), (.ref r0)]) (mkF m 6 #[oa r0, .unset, .unset, .unset] [(.int (1 : Int32))]) := by
      intro t kt
      show oS T40 (mkF m 6 #[oa r0, .unset, .unset, .unset] [(.int (1 : Int32))]) _
      refine XS.ifNo X40.here hx rfl (hb hby d11_6) rfl ((if0 _ _).trans (feq (by decide : ¬ ((1 : Int32) = (0 : Int32)))).1) ?_
      show oS T40 (mkF m 9 #[oa r0, .unset, .unset, .unset] []) _
      refine XS.iconst X40.here hx rfl (hb hby d11_9) ?_
      show oS T40 (mkF m 10 #[oa r0, .unset, .unset, .unset] [(.int (1 : Int32))]) _
      refine XS.goto X40.here hx rfl (pc0 := 10) (pc' := 14) rfl (hb hby d11_10) (by decide) (by decide) ?_
      show oS T40 (mkF m 14 #[oa r0, .unset, .unset, .unset] [(.int (1 : Int32))]) _
      refine XS.istoreN X40.here hx rfl (hb hby d11_14) rfl (l' := #[oa r0, oi 1, .unset, .unset]) rfl ?_
      show oS T40 (mkF m 15 #[oa r0, oi 1, .unset, .unset] []) _
      refine XS.aloadN X40.here hx rfl (hb hby d11_15) rfl rfl ?_
      show oS T40 (mkF m 16 #[oa r0, oi 1, .unset, .unset] [(.ref r0)]) _
      refine XS.iloadN X40.here hx rfl (hb hby d11_16) rfl ?_
      exact kt
    obtain ⟨_, _, ⟨T43, L43, k43, n43⟩, -, X43, ⟨Lc43, hQ43, l43, y43, z43⟩, st43⟩ := Jvm.LawKit.callS X40 hx (y := yy_10) hown (mvT hZ (own_t hw 80 rfl)) (mvT hZ (own_t hw 81 rfl)) (mvT hZ (own_t hw 82 rfl)) (mvT hZ (own_t hw 83 rfl)) (by decide) (backOf (W := 0) (rm17_b l Z a0 hw []  r0 ba ka cs fm (45 : Int32) d h31 n0 f33 f34 f35 f36 f37 (SC.ext f38.2) hcs (SF.ext f38.2) hfm h_d) hZ (own_t hw 83 rfl) (own_t hw 82 rfl) (by decide) (by decide)) (g := (mkF m 17 #[oa r0, oi 1, .unset, .unset] [(.int (1 : Int32)), (.ref r0)])) rfl (by rw [hml]; rfl) (argsL := [(.ref r0), (.int (1 : Int32))]) (rest := []) (lenOf pd_10 rfl) rfl (by show 2 * 0 + _ ≤ _; exact Nat.le_of_eq rfl) (hb hby d11_17) (fun _ _ => ⟨rfl, e40, (by decide : 2 + 0 ≤ _), (by decide : 8 + 0 ≤ _)⟩)
    dsimp only [Pt.U, Pt.locs, Pt.cells, Pt.slots] at X43 l43 y43 z43 st43 hQ43
    subst l43 y43 z43
    obtain ⟨rfl, N43q, e43⟩ := hQ43
    have N43 := Fr.app N40 N43q
    have c44 : own_G p e below T43 (mkF m 30 #[oa r0, oi 1, oi 2, .unset] [(.int (1 : Int32)), (.ref r0)]) (mkF m 20 #[oa r0, oi 1, .unset, .unset] [(.int (2 : Int32))]) := by
      intro t kt
      show oS T43 (mkF m 20 #[oa r0, oi 1, .unset, .unset] [(.int (2 : Int32))]) _
      refine XS.istoreN X43.here hx rfl (hb hby d11_20) rfl (l' := #[oa r0, oi 1, oi 2, .unset]) rfl ?_
      show oS T43 (mkF m 21 #[oa r0, oi 1, oi 2, .unset] []) _
      refine XS.iloadN X43.here hx rfl (hb hby d11_21) rfl ?_
      show oS T43 (mkF m 22 #[oa r0, oi 1, oi 2, .unset] [(.int (2 : Int32))]) _
      refine XS.iloadN X43.here hx rfl (hb hby d11_22) rfl ?_
      show oS T43 (mkF m 23 #[oa r0, oi 1, oi 2, .unset] [(.int (1 : Int32)), (.int (2 : Int32))]) _
      refine XS.icmpYes X43.here hx rfl (pc0 := 23) (pc' := 28) rfl (hb hby d11_23) rfl (feq (by decide : ¬ ((2 : Int32) = (1 : Int32)))).2 (by decide) (by decide) ?_
      show oS T43 (mkF m 28 #[oa r0, oi 1, oi 2, .unset] []) _
      refine XS.aloadN X43.here hx rfl (hb hby d11_28) rfl rfl ?_
      show oS T43 (mkF m 29 #[oa r0, oi 1, oi 2, .unset] [(.ref r0)]) _
      refine XS.iloadN X43.here hx rfl (hb hby d11_29) rfl ?_
      exact kt
    obtain ⟨cq45, kq45, q45a, q45b, q45c⟩ := isOf hZ e43 f34
    obtain ⟨_, _, ⟨T46, L46, k46, n46⟩, -, X46, ⟨Lc46, hQ46, l46, y46, z46⟩, st46⟩ := X43.virtualBack hx (y := yy_4) (z := yy_4) hown (mvT hZ (own_t hw 107 rfl)) (mvT hZ (own_t hw 86 rfl)) (notFace_of_selects (args := #[]) (mvT hZ (own_t hw 88 rfl))) (mvT hZ (own_t hw 88 rfl)) (mvT hZ (own_t hw 87 rfl)) (by decide) (backOf (W := 0) (rm18 l Z a0 hw [] r0 (1 : Int32) ba ka (2 : Int32) [(.int ((45 : Int32).toInt8.toInt32)), (.int (d.toInt8.toInt32))] (.int 0) (d.toInt8.toInt32) fm cs h31 n0 f33 f34 f35 f37 ⟨by decide, by decide⟩ rfl (SF.ext f38.2) hfm (SC.ext f38.2) hcs f36) hZ (own_t hw 89 rfl) (own_t hw 7 rfl) (by decide) (by decide)) q45a q45c (g := (mkF m 30 #[oa r0, oi 1, oi 2, .unset] [(.int (1 : Int32)), (.ref r0)])) rfl (by rw [hml]; rfl) (Steps.refl _) (argsL := [(.int (1 : Int32))]) (rest := []) (lenOf pd_8 rfl) rfl (by show 2 * 0 + _ ≤ _; exact Nat.le_of_eq rfl) (hb hby d11_30) (fun _ _ => ⟨rfl, e43, (by decide : 2 + 0 ≤ _), (by decide : 8 + 0 ≤ _)⟩)
    dsimp only [Pt.U, Pt.locs, Pt.cells, Pt.slots] at X46 l46 y46 z46 st46 hQ46
    subst l46 y46 z46
    obtain ⟨rfl, N46q, e46⟩ := hQ46
    have N46 := Fr.app N43 N46q
    have c47 : own_G p e below T46 (mkF m 33 #[oa r0, oi 1, oi 2, .unset] [(.int d)]) (mkF m 33 #[oa r0, oi 1, oi 2, .unset] [(.int (own_cc (d.toInt8.toInt32)))]) := fun t kt => castTop (congrArg (fun zv => (mkF m 33 #[oa r0, oi 1, oi 2, .unset] [(.int zv)])) (show (own_cc (d.toInt8.toInt32)) = d from own_ccv _ (own_dr h_d).1 (own_dr h_d).2)) kt
    have c48 : ∀ t, own_S p e below T46 (mkF m 45 #[oa r0, oi 1, oi 2, .unset] [(.int (2 : Int32))]) t → own_S p e below T46 (mkF m 33 #[oa r0, oi 1, oi 2, .unset] [(.int d)]) t := by
      intro t kt
      show oS T46 (mkF m 33 #[oa r0, oi 1, oi 2, .unset] [(.int d)]) _
      refine XS.bipush X46.here hx rfl (hb hby d11_33) ?_
      by_cases hc35 : d = (48 : Int32)
      · -- it is
        show oS T46 (mkF m 35 #[oa r0, oi 1, oi 2, .unset] [(.int (48 : Int32)), (.int d)]) _
        refine XS.icmpNo X46.here hx rfl (hb hby d11_35) rfl (teq hc35).2 ?_
        show oS T46 (mkF m 38 #[oa r0, oi 1, oi 2, .unset] []) _
        refine XS.iloadN X46.here hx rfl (hb hby d11_38) rfl ?_
        show oS T46 (mkF m 39 #[oa r0, oi 1, oi 2, .unset] [(.int (1 : Int32))]) _
        refine XS.iconst X46.here hx rfl (hb hby d11_39) ?_
        show oS T46 (mkF m 40 #[oa r0, oi 1, oi 2, .unset] [(.int (1 : Int32)), (.int (1 : Int32))]) _
        refine XS.iadd X46.here hx rfl (hb hby d11_40) rfl ?_
        show oS T46 (mkF m 41 #[oa r0, oi 1, oi 2, .unset] [(.int ((1 : Int32) + (1 : Int32)))]) _
        refine XS.goto X46.here hx rfl (pc0 := 41) (pc' := 45) rfl (hb hby d11_41) (by decide) (by decide) ?_
        rw [show (2 : Int32) = ((1 : Int32) + (1 : Int32)) from by decide] at kt
        exact kt
      · -- it isn't
        show oS T46 (mkF m 35 #[oa r0, oi 1, oi 2, .unset] [(.int (48 : Int32)), (.int d)]) _
        refine XS.icmpYes X46.here hx rfl (pc0 := 35) (pc' := 44) rfl (hb hby d11_35) rfl (feq hc35).2 (by decide) (by decide) ?_
        show oS T46 (mkF m 44 #[oa r0, oi 1, oi 2, .unset] []) _
        refine XS.iloadN X46.here hx rfl (hb hby d11_44) rfl ?_
        exact kt
    have c49 : own_G p e below T46 (mkF m 48 #[oa r0, oi 2, oi 2, .unset] [(.ref r0), (.int (2 : Int32))]) (mkF m 45 #[oa r0, oi 1, oi 2, .unset] [(.int (2 : Int32))]) := by
      intro t kt
      show oS T46 (mkF m 45 #[oa r0, oi 1, oi 2, .unset] [(.int (2 : Int32))]) _
      refine XS.istoreN X46.here hx rfl (hb hby d11_45) rfl (l' := #[oa r0, oi 2, oi 2, .unset]) rfl ?_
      show oS T46 (mkF m 46 #[oa r0, oi 2, oi 2, .unset] []) _
      refine XS.iloadN X46.here hx rfl (hb hby d11_46) rfl ?_
      show oS T46 (mkF m 47 #[oa r0, oi 2, oi 2, .unset] [(.int (2 : Int32))]) _
      refine XS.aloadN X46.here hx rfl (hb hby d11_47) rfl rfl ?_
      exact kt
    obtain ⟨cq50, kq50, q50a, q50b, q50c⟩ := isOf hZ e46 f34
    obtain ⟨_, _, ⟨T51, L51, k51, n51⟩, -, X51, ⟨Lc51, hQ51, l51, y51, z51⟩, st51⟩ := X46.virtualBack hx (y := yy_6) (z := yy_6) hown (mvT hZ (own_t hw 108 rfl)) (mvT hZ (own_t hw 67 rfl)) (notFace_of_selects (args := #[]) (mvT hZ (own_t hw 69 rfl))) (mvT hZ (own_t hw 69 rfl)) (mvT hZ (own_t hw 68 rfl)) (by decide) (backOf (W := 1) (rm14 l Z a0 hw [] r0 ba ka (2 : Int32) [(.int ((45 : Int32).toInt8.toInt32)), (.int (d.toInt8.toInt32))] (.int 0) cs h31 n0 f33 f34 f35 f37 (SC.ext f38.2) hcs f36) hZ (own_t hw 70 rfl) (own_t hw 7 rfl) (by decide) (by decide)) q50a q50c (g := (mkF m 48 #[oa r0, oi 2, oi 2, .unset] [(.ref r0), (.int (2 : Int32))])) rfl (by rw [hml]; rfl) (Steps.refl _) (argsL := []) (rest := [(.int (2 : Int32))]) (lenOf pd_5 rfl) rfl (by show 2 * 0 + _ ≤ _; exact Nat.le_of_eq rfl) (hb hby d11_48) (fun _ _ => ⟨rfl, e46, (by decide : 2 + 0 ≤ _), (by decide : 8 + 0 ≤ _)⟩)
    dsimp only [Pt.U, Pt.locs, Pt.cells, Pt.slots] at X51 l51 y51 z51 st51 hQ51
    subst l51 y51 z51
    obtain ⟨rfl, N51q, e51⟩ := hQ51
    have N51 := Fr.app N46 N51q
    have c52 : own_G p e below T51 (mkF m 85 #[oa r0, oi 2, oi 2, .unset] [(.ref r0), (.int (2 : Int32))]) (mkF m 51 #[oa r0, oi 2, oi 2, .unset] [(.int (2 : Int32)), (.int (2 : Int32))]) := by
      intro t kt
      show oS T51 (mkF m 51 #[oa r0, oi 2, oi 2, .unset] [(.int (2 : Int32)), (.int (2 : Int32))]) _
      refine XS.icmpYes X51.here hx rfl (pc0 := 51) (pc' := 83) rfl (hb hby d11_51) rfl (flt (by decide : ¬ ((2 : Int32) < (2 : Int32)))).2.1 (by decide) (by decide) ?_
      show oS T51 (mkF m 83 #[oa r0, oi 2, oi 2, .unset] []) _
      refine XS.iloadN X51.here hx rfl (hb hby d11_83) rfl ?_
      show oS T51 (mkF m 84 #[oa r0, oi 2, oi 2, .unset] [(.int (2 : Int32))]) _
      refine XS.aloadN X51.here hx rfl (hb hby d11_84) rfl rfl ?_
      exact kt
    obtain ⟨cq53, kq53, q53a, q53b, q53c⟩ := isOf hZ e51 f34
    obtain ⟨_, _, ⟨T54, L54, k54, n54⟩, -, X54, ⟨Lc54, hQ54, l54, y54, z54⟩, st54⟩ := X51.virtualBack hx (y := yy_6) (z := yy_6) hown (mvT hZ (own_t hw 108 rfl)) (mvT hZ (own_t hw 67 rfl)) (notFace_of_selects (args := #[]) (mvT hZ (own_t hw 69 rfl))) (mvT hZ (own_t hw 69 rfl)) (mvT hZ (own_t hw 68 rfl)) (by decide) (backOf (W := 1) (rm14 l Z a0 hw [] r0 ba ka (2 : Int32) [(.int ((45 : Int32).toInt8.toInt32)), (.int (d.toInt8.toInt32))] (.int 0) cs h31 n0 f33 f34 f35 f37 (SC.ext f38.2) hcs f36) hZ (own_t hw 70 rfl) (own_t hw 7 rfl) (by decide) (by decide)) q53a q53c (g := (mkF m 85 #[oa r0, oi 2, oi 2, .unset] [(.ref r0), (.int (2 : Int32))])) rfl (by rw [hml]; rfl) (Steps.refl _) (argsL := []) (rest := [(.int (2 : Int32))]) (lenOf pd_5 rfl) rfl (by show 2 * 0 + _ ≤ _; exact Nat.le_of_eq rfl) (hb hby d11_85) (fun _ _ => ⟨rfl, e51, (by decide : 2 + 0 ≤ _), (by decide : 8 + 0 ≤ _)⟩)
    dsimp only [Pt.U, Pt.locs, Pt.cells, Pt.slots] at X54 l54 y54 z54 st54 hQ54
    subst l54 y54 z54
    obtain ⟨rfl, N54q, e54⟩ := hQ54
    have N54 := Fr.app N51 N54q
    have c55 : own_G p e below T54 (mkF m 162 #[oa r0, oi 2, oi 2, .unset] [(.ref r0), (.int (2 : Int32))]) (mkF m 88 #[oa r0, oi 2, oi 2, .unset] [(.int (2 : Int32)), (.int (2 : Int32))]) := by
      intro t kt
      show oS T54 (mkF m 88 #[oa r0, oi 2, oi 2, .unset] [(.int (2 : Int32)), (.int (2 : Int32))]) _
      refine XS.icmpYes X54.here hx rfl (pc0 := 88) (pc' := 160) rfl (hb hby d11_88) rfl (flt (by decide : ¬ ((2 : Int32) < (2 : Int32)))).2.1 (by decide) (by decide) ?_
      show oS T54 (mkF m 160 #[oa r0, oi 2, oi 2, .unset] []) _
      refine XS.iloadN X54.here hx rfl (hb hby d11_160) rfl ?_
      show oS T54 (mkF m 161 #[oa r0, oi 2, oi 2, .unset] [(.int (2 : Int32))]) _
      refine XS.aloadN X54.here hx rfl (hb hby d11_161) rfl rfl ?_
      exact kt
    obtain ⟨cq56, kq56, q56a, q56b, q56c⟩ := isOf hZ e54 f34
    obtain ⟨_, _, ⟨T57, L57, k57, n57⟩, -, X57, ⟨Lc57, hQ57, l57, y57, z57⟩, st57⟩ := X54.virtualBack hx (y := yy_6) (z := yy_6) hown (mvT hZ (own_t hw 108 rfl)) (mvT hZ (own_t hw 67 rfl)) (notFace_of_selects (args := #[]) (mvT hZ (own_t hw 69 rfl))) (mvT hZ (own_t hw 69 rfl)) (mvT hZ (own_t hw 68 rfl)) (by decide) (backOf (W := 1) (rm14 l Z a0 hw [] r0 ba ka (2 : Int32) [(.int ((45 : Int32).toInt8.toInt32)), (.int (d.toInt8.toInt32))] (.int 0) cs h31 n0 f33 f34 f35 f37 (SC.ext f38.2) hcs f36) hZ (own_t hw 70 rfl) (own_t hw 7 rfl) (by decide) (by decide)) q56a q56c (g := (mkF m 162 #[oa r0, oi 2, oi 2, .unset] [(.ref r0), (.int (2 : Int32))])) rfl (by rw [hml]; rfl) (Steps.refl _) (argsL := []) (rest := [(.int (2 : Int32))]) (lenOf pd_5 rfl) rfl (by show 2 * 0 + _ ≤ _; exact Nat.le_of_eq rfl) (hb hby d11_162) (fun _ _ => ⟨rfl, e54, (by decide : 2 + 0 ≤ _), (by decide : 8 + 0 ≤ _)⟩)
    dsimp only [Pt.U, Pt.locs, Pt.cells, Pt.slots] at X57 l57 y57 z57 st57 hQ57
    subst l57 y57 z57
    obtain ⟨rfl, N57q, e57⟩ := hQ57
    have N57 := Fr.app N54 N57q
    have c58 : own_G p e below T57 (mkF m 173 #[oa r0, oi 2, oi 2, .unset] [(.int (1 : Int32))]) (mkF m 165 #[oa r0, oi 2, oi 2, .unset] [(.int (2 : Int32)), (.int (2 : Int32))]) := by
      intro t kt
      show oS T57 (mkF m 165 #[oa r0, oi 2, oi 2, .unset] [(.int (2 : Int32)), (.int (2 : Int32))]) _
      refine XS.icmpNo X57.here hx rfl (hb hby d11_165) rfl (teq (by decide : (2 : Int32) = (2 : Int32))).2 ?_
      show oS T57 (mkF m 168 #[oa r0, oi 2, oi 2, .unset] []) _
      refine XS.iconst X57.here hx rfl (hb hby d11_168) ?_
      show oS T57 (mkF m 169 #[oa r0, oi 2, oi 2, .unset] [(.int (1 : Int32))]) _
      refine XS.goto X57.here hx rfl (pc0 := 169) (pc' := 173) rfl (hb hby d11_169) (by decide) (by decide) ?_
      exact kt
    obtain ⟨fs, hr, hrun, hended, hwd⟩ := Stand.leaveW (s := s) (vm₁ := T31.vm) X57 hS31 (by rw [e57]; exact hk31) (v := some (.int (1 : Int32))) (fun h => by rw [Bd.returns] at h; cases h)
    have hCr : CHr Z consts_1 s.vm s.heap (T57.setFrames fs).vm (T57.setFrames fs).heap := by
      show CHr Z consts_1 s.vm s.heap T57.vm T57.heap
      rw [hh, e57]
      exact ch31.trans (CHv.at (s := s) (vm0 := T31.vm) X57 hZ hEL ch31.1)
    have f60 := ((Keep.refl h0 []).ext E31)
    refine ⟨_, _, pre0 _ (c32 _ (st31 _ (st40.trans (c41 _ (c42 _ (st43 _ (c44 _ (st46.trans (c47 _ (c48 _ (c49 _ (st51.trans (c52 _ (st54.trans (c55 _ (st57.trans (c58 _ (?_)))))))))))))))))), hrun, hended, _, _, rfl, ?_, hCr, hwd.1, hwd.2.1, hwd.2.2.1, hwd.2.2.2.mono (by decide) (by decide)⟩
    · show Steps p.tables e below (T57.setTop (mkF m 173 #[oa r0, oi 2, oi 2, .unset] [(.int (1 : Int32))])) _
      exact retN X57 hx (t := .boolean) Bd.returns (by simp) (hb hby d11_173) hr
    · show Q11 Z r0 ba ka cs fm tx h0 n0 _ T57.heap _
      rw [e57]
      exact ⟨rfl, N57, f60⟩
  · skip
    rw [htx] at Va
    have Vx : Arv Z h0 ba ka .byte (2 : Int32) [(.int (d.toInt8.toInt32)), (.int (ez.toInt8.toInt32))] (.int 0) := Va
    have c62 : own_G p e below s₁ (mkF m 1 #[oa r0, .unset, .unset, .unset] [(.ref r0)]) (mkF m 0 #[oa r0, .unset, .unset, .unset] []) := by
      intro t kt
      show oS s₁ (mkF m 0 #[oa r0, .unset, .unset, .unset] []) _
      refine XS.aloadN X0.here hx rfl (hb hby d11_0) rfl rfl ?_
      exact kt
    obtain ⟨a61, T61, h61, j61, b61, kb61, X61, e61, E61, hS61, hk61, hZ, hown, Es61, Fc61, Fv61, Va61, la61, lb61, CH61, Lt61, Sf61, st61⟩ := ldcCH (s := s) (vm0 := s.vm) X0 hx hZ hown (own_t hw 55 rfl) hwS e0 hS0 (Nat.zero_le _) hEL (List.mem_of_getElem? (i := 1) rfl) (CHr.refl hCH).1 (vs := [(.int (45 : Int32))]) (z := (1 : Int32)) ⟨by decide, rfl⟩ (by decide) rfl (g := (mkF m 1 #[oa r0, .unset, .unset, .unset] [(.ref r0)])) rfl (hb hby d11_1) (n := 4) (by decide) (by decide) (by decide) (by decide)
    have ch61 := (CHr.refl hCH).trans CH61
    have f63 := (Nat.le_trans Z0 E61.1)
    have f64 := (Ea.ext E61)
    have f65 := (Fa.ext E61)
    have f66 := (Ca.ext E61)
    have f67 := (Vx.ext E61)
    have f68 := (O0.ext E61)
    obtain ⟨cq69, kq69, q69a, q69b, q69c⟩ := isOf hZ e61 f64
    obtain ⟨_, _, ⟨T70, L70, k70, n70⟩, -, X70, ⟨Lc70, hQ70, l70, y70, z70⟩, st70⟩ := X61.virtualBack hx (y := yy_9) (z := yy_9) hown (mvT hZ (own_t hw 56 rfl)) (mvT hZ (own_t hw 57 rfl)) (notFace_of_selects (args := #[]) (mvT hZ (own_t hw 59 rfl))) (mvT hZ (own_t hw 59 rfl)) (mvT hZ (own_t hw 58 rfl)) (by decide) (backOf (W := 0) (rm12 l Z a0 hw [] r0 a61 ba b61 ka kb61 cs (2 : Int32) [(.int (d.toInt8.toInt32)), (.int (ez.toInt8.toInt32))] (d.toInt8.toInt32) h61 n0 f63 f64 f65 f66 f67 Es61 Fv61 Fc61 Va61 (SC.ext f68.2) hcs ⟨by decide, by decide⟩ rfl (by decide)) hZ (own_t hw 60 rfl) (own_t hw 7 rfl) (by decide) (by decide)) q69a q69c (g := (mkF m 3 #[oa r0, .unset, .unset, .unset] [(.ref a61), (.ref r0)])) rfl (by rw [hml]; rfl) (Steps.refl _) (argsL := [(.ref a61)]) (rest := []) (lenOf pd_9 rfl) rfl (by show 2 * 0 + _ ≤ _; exact Nat.le_of_eq rfl) (hb hby d11_3) (fun _ _ => ⟨rfl, e61, (by decide : 2 + 0 ≤ _), (by decide : 8 + 0 ≤ _)⟩)
    dsimp only [Pt.U, Pt.locs, Pt.cells, Pt.slots] at X70 l70 y70 z70 st70 hQ70
    subst l70 y70 z70
    obtain ⟨rfl, N70q, e70⟩ := hQ70
    have N70 := Fr.app N0 N70q
    have c71 : own_G p e below T70 (mkF m 6 #[oa r0, .unset, .unset, .unset] [(.int (0 : Int32))]) (mkF m 6 #[oa r0, .unset, .unset, .unset] [(.int ((own_sw (d.toInt8.toInt32)) &&& 1))]) := fun t kt => castTop (congrArg (fun zv => (mkF m 6 #[oa r0, .unset, .unset, .unset] [(.int zv)])) (show ((own_sw (d.toInt8.toInt32)) &&& 1) = (0 : Int32) from own_swd h_d)) kt
    have c72 : own_G p e below T70 (mkF m 17 #[oa r0, oi 0, .unset, .unset] [(.int (0 : Int32)), (.ref r0)]) (mkF m 6 #[oa r0, .unset, .unset, .unset] [(.int (0 : Int32))]) := by
      intro t kt
      show oS T70 (mkF m 6 #[oa r0, .unset, .unset, .unset] [(.int (0 : Int32))]) _
      refine XS.ifYes X70.here hx rfl (pc0 := 6) (pc' := 13) rfl (hb hby d11_6) rfl ((if0 _ _).trans (teq (by decide : (0 : Int32) = (0 : Int32))).1) (by decide) (by decide) ?_
      show oS T70 (mkF m 13 #[oa r0, .unset, .unset, .unset] []) _
      refine XS.iconst X70.here hx rfl (hb hby d11_13) ?_
      show oS T70 (mkF m 14 #[oa r0, .unset, .unset, .unset] [(.int (0 : Int32))]) _
      refine XS.istoreN X70.here hx rfl (hb hby d11_14) rfl (l' := #[oa r0, oi 0, .unset, .unset]) rfl ?_
      show oS T70 (mkF m 15 #[oa r0, oi 0, .unset, .unset] []) _
      refine XS.aloadN X70.here hx rfl (hb hby d11_15) rfl rfl ?_
      show oS T70 (mkF m 16 #[oa r0, oi 0, .unset, .unset] [(.ref r0)]) _
      refine XS.iloadN X70.here hx rfl (hb hby d11_16) rfl ?_
      exact kt
    obtain ⟨_, _, ⟨T73, L73, k73, n73⟩, -, X73, ⟨Lc73, hQ73, l73, y73, z73⟩, st73⟩ := Jvm.LawKit.callS X70 hx (y := yy_10) hown (mvT hZ (own_t hw 80 rfl)) (mvT hZ (own_t hw 81 rfl)) (mvT hZ (own_t hw 82 rfl)) (mvT hZ (own_t hw 83 rfl)) (by decide) (backOf (W := 0) (rm17_c l Z a0 hw []  r0 ba ka cs fm d ez h61 n0 f63 f64 f65 f66 f67 (SC.ext f68.2) hcs (SF.ext f68.2) hfm h_d h_ez) hZ (own_t hw 83 rfl) (own_t hw 82 rfl) (by decide) (by decide)) (g := (mkF m 17 #[oa r0, oi 0, .unset, .unset] [(.int (0 : Int32)), (.ref r0)])) rfl (by rw [hml]; rfl) (argsL := [(.ref r0), (.int (0 : Int32))]) (rest := []) (lenOf pd_10 rfl) rfl (by show 2 * 0 + _ ≤ _; exact Nat.le_of_eq rfl) (hb hby d11_17) (fun _ _ => ⟨rfl, e70, (by decide : 2 + 0 ≤ _), (by decide : 8 + 0 ≤ _)⟩)
    dsimp only [Pt.U, Pt.locs, Pt.cells, Pt.slots] at X73 l73 y73 z73 st73 hQ73
    subst l73 y73 z73
    obtain ⟨rfl, N73q, e73⟩ := hQ73
    have N73 := Fr.app N70 N73q
    have c74 : own_G p e below T73 (mkF m 30 #[oa r0, oi 0, oi 2, .unset] [(.int (0 : Int32)), (.ref r0)]) (mkF m 20 #[oa r0, oi 0, .unset, .unset] [(.int (2 : Int32))]) := by
      intro t kt
      show oS T73 (mkF m 20 #[oa r0, oi 0, .unset, .unset] [(.int (2 : Int32))]) _
      refine XS.istoreN X73.here hx rfl (hb hby d11_20) rfl (l' := #[oa r0, oi 0, oi 2, .unset]) rfl ?_
      show oS T73 (mkF m 21 #[oa r0, oi 0, oi 2, .unset] []) _
      refine XS.iloadN X73.here hx rfl (hb hby d11_21) rfl ?_
      show oS T73 (mkF m 22 #[oa r0, oi 0, oi 2, .unset] [(.int (2 : Int32))]) _
      refine XS.iloadN X73.here hx rfl (hb hby d11_22) rfl ?_
      show oS T73 (mkF m 23 #[oa r0, oi 0, oi 2, .unset] [(.int (0 : Int32)), (.int (2 : Int32))]) _
      refine XS.icmpYes X73.here hx rfl (pc0 := 23) (pc' := 28) rfl (hb hby d11_23) rfl (feq (by decide : ¬ ((2 : Int32) = (0 : Int32)))).2 (by decide) (by decide) ?_
      show oS T73 (mkF m 28 #[oa r0, oi 0, oi 2, .unset] []) _
      refine XS.aloadN X73.here hx rfl (hb hby d11_28) rfl rfl ?_
      show oS T73 (mkF m 29 #[oa r0, oi 0, oi 2, .unset] [(.ref r0)]) _
      refine XS.iloadN X73.here hx rfl (hb hby d11_29) rfl ?_
      exact kt
    obtain ⟨cq75, kq75, q75a, q75b, q75c⟩ := isOf hZ e73 f64
    obtain ⟨_, _, ⟨T76, L76, k76, n76⟩, -, X76, ⟨Lc76, hQ76, l76, y76, z76⟩, st76⟩ := X73.virtualBack hx (y := yy_4) (z := yy_4) hown (mvT hZ (own_t hw 107 rfl)) (mvT hZ (own_t hw 86 rfl)) (notFace_of_selects (args := #[]) (mvT hZ (own_t hw 88 rfl))) (mvT hZ (own_t hw 88 rfl)) (mvT hZ (own_t hw 87 rfl)) (by decide) (backOf (W := 0) (rm18 l Z a0 hw [] r0 (0 : Int32) ba ka (2 : Int32) [(.int (d.toInt8.toInt32)), (.int (ez.toInt8.toInt32))] (.int 0) (d.toInt8.toInt32) fm cs h61 n0 f63 f64 f65 f67 ⟨by decide, by decide⟩ rfl (SF.ext f68.2) hfm (SC.ext f68.2) hcs f66) hZ (own_t hw 89 rfl) (own_t hw 7 rfl) (by decide) (by decide)) q75a q75c (g := (mkF m 30 #[oa r0, oi 0, oi 2, .unset] [(.int (0 : Int32)), (.ref r0)])) rfl (by rw [hml]; rfl) (Steps.refl _) (argsL := [(.int (0 : Int32))]) (rest := []) (lenOf pd_8 rfl) rfl (by show 2 * 0 + _ ≤ _; exact Nat.le_of_eq rfl) (hb hby d11_30) (fun _ _ => ⟨rfl, e73, (by decide : 2 + 0 ≤ _), (by decide : 8 + 0 ≤ _)⟩)
    dsimp only [Pt.U, Pt.locs, Pt.cells, Pt.slots] at X76 l76 y76 z76 st76 hQ76
    subst l76 y76 z76
    obtain ⟨rfl, N76q, e76⟩ := hQ76
    have N76 := Fr.app N73 N76q
    have c77 : own_G p e below T76 (mkF m 33 #[oa r0, oi 0, oi 2, .unset] [(.int d)]) (mkF m 33 #[oa r0, oi 0, oi 2, .unset] [(.int (own_cc (d.toInt8.toInt32)))]) := fun t kt => castTop (congrArg (fun zv => (mkF m 33 #[oa r0, oi 0, oi 2, .unset] [(.int zv)])) (show (own_cc (d.toInt8.toInt32)) = d from own_ccv _ (own_dr h_d).1 (own_dr h_d).2)) kt
    have c79 : own_G p e below T76 (mkF m 35 #[oa r0, oi 0, oi 2, .unset] [(.int (48 : Int32)), (.int d)]) (mkF m 33 #[oa r0, oi 0, oi 2, .unset] [(.int d)]) := by
      intro t kt
      show oS T76 (mkF m 33 #[oa r0, oi 0, oi 2, .unset] [(.int d)]) _
      refine XS.bipush X76.here hx rfl (hb hby d11_33) ?_
      exact kt
    have hd78 : ¬ (d = (48 : Int32)) := h48
    have c80 : own_G p e below T76 (mkF m 48 #[oa r0, oi 2, oi 2, .unset] [(.ref r0), (.int (2 : Int32))]) (mkF m 35 #[oa r0, oi 0, oi 2, .unset] [(.int (48 : Int32)), (.int d)]) := by
      intro t kt
      show oS T76 (mkF m 35 #[oa r0, oi 0, oi 2, .unset] [(.int (48 : Int32)), (.int d)]) _
      refine XS.icmpYes X76.here hx rfl (pc0 := 35) (pc' := 44) rfl (hb hby d11_35) rfl (feq hd78).2 (by decide) (by decide) ?_
      show oS T76 (mkF m 44 #[oa r0, oi 0, oi 2, .unset] []) _
      refine XS.iloadN X76.here hx rfl (hb hby d11_44) rfl ?_
      show oS T76 (mkF m 45 #[oa r0, oi 0, oi 2, .unset] [(.int (2 : Int32))]) _
      refine XS.istoreN X76.here hx rfl (hb hby d11_45) rfl (l' := #[oa r0, oi 2, oi 2, .unset]) rfl ?_
      show oS T76 (mkF m 46 #[oa r0, oi 2, oi 2, .unset] []) _
      refine XS.iloadN X76.here hx rfl (hb hby d11_46) rfl ?_
      show oS T76 (mkF m 47 #[oa r0, oi 2, oi 2, .unset] [(.int (2 : Int32))]) _
      refine XS.aloadN X76.here hx rfl (hb hby d11_47) rfl rfl ?_
      exact kt
    obtain ⟨cq81, kq81, q81a, q81b, q81c⟩ := isOf hZ e76 f64
    obtain ⟨_, _, ⟨T82, L82, k82, n82⟩, -, X82, ⟨Lc82, hQ82, l82, y82, z82⟩, st82⟩ := X76.virtualBack hx (y := yy_6) (z := yy_6) hown (mvT hZ (own_t hw 108 rfl)) (mvT hZ (own_t hw 67 rfl)) (notFace_of_selects (args := #[]) (mvT hZ (own_t hw 69 rfl))) (mvT hZ (own_t hw 69 rfl)) (mvT hZ (own_t hw 68 rfl)) (by decide) (backOf (W := 1) (rm14 l Z a0 hw [] r0 ba ka (2 : Int32) [(.int (d.toInt8.toInt32)), (.int (ez.toInt8.toInt32))] (.int 0) cs h61 n0 f63 f64 f65 f67 (SC.ext f68.2) hcs f66) hZ (own_t hw 70 rfl) (own_t hw 7 rfl) (by decide) (by decide)) q81a q81c (g := (mkF m 48 #[oa r0, oi 2, oi 2, .unset] [(.ref r0), (.int (2 : Int32))])) rfl (by rw [hml]; rfl) (Steps.refl _) (argsL := []) (rest := [(.int (2 : Int32))]) (lenOf pd_5 rfl) rfl (by show 2 * 0 + _ ≤ _; exact Nat.le_of_eq rfl) (hb hby d11_48) (fun _ _ => ⟨rfl, e76, (by decide : 2 + 0 ≤ _), (by decide : 8 + 0 ≤ _)⟩)
    dsimp only [Pt.U, Pt.locs, Pt.cells, Pt.slots] at X82 l82 y82 z82 st82 hQ82
    subst l82 y82 z82
    obtain ⟨rfl, N82q, e82⟩ := hQ82
    have N82 := Fr.app N76 N82q
    have c83 : own_G p e below T82 (mkF m 85 #[oa r0, oi 2, oi 2, .unset] [(.ref r0), (.int (2 : Int32))]) (mkF m 51 #[oa r0, oi 2, oi 2, .unset] [(.int (2 : Int32)), (.int (2 : Int32))]) := by
      intro t kt
      show oS T82 (mkF m 51 #[oa r0, oi 2, oi 2, .unset] [(.int (2 : Int32)), (.int (2 : Int32))]) _
      refine XS.icmpYes X82.here hx rfl (pc0 := 51) (pc' := 83) rfl (hb hby d11_51) rfl (flt (by decide : ¬ ((2 : Int32) < (2 : Int32)))).2.1 (by decide) (by decide) ?_
      show oS T82 (mkF m 83 #[oa r0, oi 2, oi 2, .unset] []) _
      refine XS.iloadN X82.here hx rfl (hb hby d11_83) rfl ?_
      show oS T82 (mkF m 84 #[oa r0, oi 2, oi 2, .unset] [(.int (2 : Int32))]) _
      refine XS.aloadN X82.here hx rfl (hb hby d11_84) rfl rfl ?_
      exact kt
    obtain ⟨cq84, kq84, q84a, q84b, q84c⟩ := isOf hZ e82 f64
    obtain ⟨_, _, ⟨T85, L85, k85, n85⟩, -, X85, ⟨Lc85, hQ85, l85, y85, z85⟩, st85⟩ := X82.virtualBack hx (y := yy_6) (z := yy_6) hown (mvT hZ (own_t hw 108 rfl)) (mvT hZ (own_t hw 67 rfl)) (notFace_of_selects (args := #[]) (mvT hZ (own_t hw 69 rfl))) (mvT hZ (own_t hw 69 rfl)) (mvT hZ (own_t hw 68 rfl)) (by decide) (backOf (W := 1) (rm14 l Z a0 hw [] r0 ba ka (2 : Int32) [(.int (d.toInt8.toInt32)), (.int (ez.toInt8.toInt32))] (.int 0) cs h61 n0 f63 f64 f65 f67 (SC.ext f68.2) hcs f66) hZ (own_t hw 70 rfl) (own_t hw 7 rfl) (by decide) (by decide)) q84a q84c (g := (mkF m 85 #[oa r0, oi 2, oi 2, .unset] [(.ref r0), (.int (2 : Int32))])) rfl (by rw [hml]; rfl) (Steps.refl _) (argsL := []) (rest := [(.int (2 : Int32))]) (lenOf pd_5 rfl) rfl (by show 2 * 0 + _ ≤ _; exact Nat.le_of_eq rfl) (hb hby d11_85) (fun _ _ => ⟨rfl, e82, (by decide : 2 + 0 ≤ _), (by decide : 8 + 0 ≤ _)⟩)
    dsimp only [Pt.U, Pt.locs, Pt.cells, Pt.slots] at X85 l85 y85 z85 st85 hQ85
    subst l85 y85 z85
    obtain ⟨rfl, N85q, e85⟩ := hQ85
    have N85 := Fr.app N82 N85q
    have c86 : own_G p e below T85 (mkF m 162 #[oa r0, oi 2, oi 2, .unset] [(.ref r0), (.int (2 : Int32))]) (mkF m 88 #[oa r0, oi 2, oi 2, .unset] [(.int (2 : Int32)), (.int (2 : Int32))]) := by
      intro t kt
      show oS T85 (mkF m 88 #[oa r0, oi 2, oi 2, .unset] [(.int (2 : Int32)), (.int (2 : Int32))]) _
      refine XS.icmpYes X85.here hx rfl (pc0 := 88) (pc' := 160) rfl (hb hby d11_88) rfl (flt (by decide : ¬ ((2 : Int32) < (2 : Int32)))).2.1 (by decide) (by decide) ?_
      show oS T85 (mkF m 160 #[oa r0, oi 2, oi 2, .unset] []) _
      refine XS.iloadN X85.here hx rfl (hb hby d11_160) rfl ?_
      show oS T85 (mkF m 161 #[oa r0, oi 2, oi 2, .unset] [(.int (2 : Int32))]) _
      refine XS.aloadN X85.here hx rfl (hb hby d11_161) rfl rfl ?_
      exact kt
    obtain ⟨cq87, kq87, q87a, q87b, q87c⟩ := isOf hZ e85 f64
    obtain ⟨_, _, ⟨T88, L88, k88, n88⟩, -, X88, ⟨Lc88, hQ88, l88, y88, z88⟩, st88⟩ := X85.virtualBack hx (y := yy_6) (z := yy_6) hown (mvT hZ (own_t hw 108 rfl)) (mvT hZ (own_t hw 67 rfl)) (notFace_of_selects (args := #[]) (mvT hZ (own_t hw 69 rfl))) (mvT hZ (own_t hw 69 rfl)) (mvT hZ (own_t hw 68 rfl)) (by decide) (backOf (W := 1) (rm14 l Z a0 hw [] r0 ba ka (2 : Int32) [(.int (d.toInt8.toInt32)), (.int (ez.toInt8.toInt32))] (.int 0) cs h61 n0 f63 f64 f65 f67 (SC.ext f68.2) hcs f66) hZ (own_t hw 70 rfl) (own_t hw 7 rfl) (by decide) (by decide)) q87a q87c (g := (mkF m 162 #[oa r0, oi 2, oi 2, .unset] [(.ref r0), (.int (2 : Int32))])) rfl (by rw [hml]; rfl) (Steps.refl _) (argsL := []) (rest := [(.int (2 : Int32))]) (lenOf pd_5 rfl) rfl (by show 2 * 0 + _ ≤ _; exact Nat.le_of_eq rfl) (hb hby d11_162) (fun _ _ => ⟨rfl, e85, (by decide : 2 + 0 ≤ _), (by decide : 8 + 0 ≤ _)⟩)
    dsimp only [Pt.U, Pt.locs, Pt.cells, Pt.slots] at X88 l88 y88 z88 st88 hQ88
    subst l88 y88 z88
    obtain ⟨rfl, N88q, e88⟩ := hQ88
    have N88 := Fr.app N85 N88q
    have c89 : own_G p e below T88 (mkF m 173 #[oa r0, oi 2, oi 2, .unset] [(.int (1 : Int32))]) (mkF m 165 #[oa r0, oi 2, oi 2, .unset] [(.int (2 : Int32)), (.int (2 : Int32))]) := by
      intro t kt
      show oS T88 (mkF m 165 #[oa r0, oi 2, oi 2, .unset] [(.int (2 : Int32)), (.int (2 : Int32))]) _
      refine XS.icmpNo X88.here hx rfl (hb hby d11_165) rfl (teq (by decide : (2 : Int32) = (2 : Int32))).2 ?_
      show oS T88 (mkF m 168 #[oa r0, oi 2, oi 2, .unset] []) _
      refine XS.iconst X88.here hx rfl (hb hby d11_168) ?_
      show oS T88 (mkF m 169 #[oa r0, oi 2, oi 2, .unset] [(.int (1 : Int32))]) _
      refine XS.goto X88.here hx rfl (pc0 := 169) (pc' := 173) rfl (hb hby d11_169) (by decide) (by decide) ?_
      exact kt
    obtain ⟨fs, hr, hrun, hended, hwd⟩ := Stand.leaveW (s := s) (vm₁ := T61.vm) X88 hS61 (by rw [e88]; exact hk61) (v := some (.int (1 : Int32))) (fun h => by rw [Bd.returns] at h; cases h)
    have hCr : CHr Z consts_1 s.vm s.heap (T88.setFrames fs).vm (T88.setFrames fs).heap := by
      show CHr Z consts_1 s.vm s.heap T88.vm T88.heap
      rw [hh, e88]
      exact ch61.trans (CHv.at (s := s) (vm0 := T61.vm) X88 hZ hEL ch61.1)
    have f91 := ((Keep.refl h0 []).ext E61)
    refine ⟨_, _, pre0 _ (c62 _ (st61 _ (st70.trans (c71 _ (c72 _ (st73 _ (c74 _ (st76.trans (c77 _ (c79 _ (c80 _ (st82.trans (c83 _ (st85.trans (c86 _ (st88.trans (c89 _ (?_)))))))))))))))))), hrun, hended, _, _, rfl, ?_, hCr, hwd.1, hwd.2.1, hwd.2.2.1, hwd.2.2.2.mono (by decide) (by decide)⟩
    · show Steps p.tables e below (T88.setTop (mkF m 173 #[oa r0, oi 2, oi 2, .unset] [(.int (1 : Int32))])) _
      exact retN X88 hx (t := .boolean) Bd.returns (by simp) (hb hby d11_173) hr
    · show Q11 Z r0 ba ka cs fm tx h0 n0 _ T88.heap _
      rw [e88]
      exact ⟨rfl, N88, f91⟩
  · skip
    rw [htx] at Va
    have Vx : Arv Z h0 ba ka .byte (3 : Int32) [(.int (d.toInt8.toInt32)), (.int ((46 : Int32).toInt8.toInt32)), (.int (ez.toInt8.toInt32))] (.int 0) := Va
    have c93 : own_G p e below s₁ (mkF m 1 #[oa r0, .unset, .unset, .unset] [(.ref r0)]) (mkF m 0 #[oa r0, .unset, .unset, .unset] []) := by
      intro t kt
      show oS s₁ (mkF m 0 #[oa r0, .unset, .unset, .unset] []) _
      refine XS.aloadN X0.here hx rfl (hb hby d11_0) rfl rfl ?_
      exact kt
    obtain ⟨a92, T92, h92, j92, b92, kb92, X92, e92, E92, hS92, hk92, hZ, hown, Es92, Fc92, Fv92, Va92, la92, lb92, CH92, Lt92, Sf92, st92⟩ := ldcCH (s := s) (vm0 := s.vm) X0 hx hZ hown (own_t hw 55 rfl) hwS e0 hS0 (Nat.zero_le _) hEL (List.mem_of_getElem? (i := 1) rfl) (CHr.refl hCH).1 (vs := [(.int (45 : Int32))]) (z := (1 : Int32)) ⟨by decide, rfl⟩ (by decide) rfl (g := (mkF m 1 #[oa r0, .unset, .unset, .unset] [(.ref r0)])) rfl (hb hby d11_1) (n := 4) (by decide) (by decide) (by decide) (by decide)
    have ch92 := (CHr.refl hCH).trans CH92
    have f94 := (Nat.le_trans Z0 E92.1)
    have f95 := (Ea.ext E92)
    have f96 := (Fa.ext E92)
    have f97 := (Ca.ext E92)
    have f98 := (Vx.ext E92)
    have f99 := (O0.ext E92)
    obtain ⟨cq100, kq100, q100a, q100b, q100c⟩ := isOf hZ e92 f95
    obtain ⟨_, _, ⟨T101, L101, k101, n101⟩, -, X101, ⟨Lc101, hQ101, l101, y101, z101⟩, st101⟩ := X92.virtualBack hx (y := yy_9) (z := yy_9) hown (mvT hZ (own_t hw 56 rfl)) (mvT hZ (own_t hw 57 rfl)) (notFace_of_selects (args := #[]) (mvT hZ (own_t hw 59 rfl))) (mvT hZ (own_t hw 59 rfl)) (mvT hZ (own_t hw 58 rfl)) (by decide) (backOf (W := 0) (rm12 l Z a0 hw [] r0 a92 ba b92 ka kb92 cs (3 : Int32) [(.int (d.toInt8.toInt32)), (.int ((46 : Int32).toInt8.toInt32)), (.int (ez.toInt8.toInt32))] (d.toInt8.toInt32) h92 n0 f94 f95 f96 f97 f98 Es92 Fv92 Fc92 Va92 (SC.ext f99.2) hcs ⟨by decide, by decide⟩ rfl (by decide)) hZ (own_t hw 60 rfl) (own_t hw 7 rfl) (by decide) (by decide)) q100a q100c (g := (mkF m 3 #[oa r0, .unset, .unset, .unset] [(.ref a92), (.ref r0)])) rfl (by rw [hml]; rfl) (Steps.refl _) (argsL := [(.ref a92)]) (rest := []) (lenOf pd_9 rfl) rfl (by show 2 * 0 + _ ≤ _; exact Nat.le_of_eq rfl) (hb hby d11_3) (fun _ _ => ⟨rfl, e92, (by decide : 2 + 0 ≤ _), (by decide : 8 + 0 ≤ _)⟩)
    dsimp only [Pt.U, Pt.locs, Pt.cells, Pt.slots] at X101 l101 y101 z101 st101 hQ101
    subst l101 y101 z101
    obtain ⟨rfl, N101q, e101⟩ := hQ101
    have N101 := Fr.app N0 N101q
    have c102 : own_G p e below T101 (mkF m 6 #[oa r0, .unset, .unset, .unset] [(.int (0 : Int32))]) (mkF m 6 #[oa r0, .unset, .unset, .unset] [(.int ((own_sw (d.toInt8.toInt32)) &&& 1))]) := fun t kt => castTop (congrArg (fun zv => (mkF m 6 #[oa r0, .unset, .unset, .unset] [(.int zv)])) (show ((own_sw (d.toInt8.toInt32)) &&& 1) = (0 : Int32) from own_swd h_d)) kt
    have c103 : own_G p e below T101 (mkF m 17 #[oa r0, oi 0, .unset, .unset] [(.int (0 : Int32)), (.ref r0)]) (mkF m 6 #[oa r0, .unset, .unset, .unset] [(.int (0 : Int32))]) := by
      intro t kt
      show oS T101 (mkF m 6 #[oa r0, .unset, .unset, .unset] [(.int (0 : Int32))]) _
      refine XS.ifYes X101.here hx rfl (pc0 := 6) (pc' := 13) rfl (hb hby d11_6) rfl ((if0 _ _).trans (teq (by decide : (0 : Int32) = (0 : Int32))).1) (by decide) (by decide) ?_
      show oS T101 (mkF m 13 #[oa r0, .unset, .unset, .unset] []) _
      refine XS.iconst X101.here hx rfl (hb hby d11_13) ?_
      show oS T101 (mkF m 14 #[oa r0, .unset, .unset, .unset] [(.int (0 : Int32))]) _
      refine XS.istoreN X101.here hx rfl (hb hby d11_14) rfl (l' := #[oa r0, oi 0, .unset, .unset]) rfl ?_
      show oS T101 (mkF m 15 #[oa r0, oi 0, .unset, .unset] []) _
      refine XS.aloadN X101.here hx rfl (hb hby d11_15) rfl rfl ?_
      show oS T101 (mkF m 16 #[oa r0, oi 0, .unset, .unset] [(.ref r0)]) _
      refine XS.iloadN X101.here hx rfl (hb hby d11_16) rfl ?_
      exact kt
    obtain ⟨_, _, ⟨T104, L104, k104, n104⟩, -, X104, ⟨Lc104, hQ104, l104, y104, z104⟩, st104⟩ := Jvm.LawKit.callS X101 hx (y := yy_10) hown (mvT hZ (own_t hw 80 rfl)) (mvT hZ (own_t hw 81 rfl)) (mvT hZ (own_t hw 82 rfl)) (mvT hZ (own_t hw 83 rfl)) (by decide) (backOf (W := 0) (rm17_d l Z a0 hw []  r0 ba ka cs fm d (46 : Int32) ez h92 n0 f94 f95 f96 f97 f98 (SC.ext f99.2) hcs (SF.ext f99.2) hfm h_d (by unfold own_r; decide)) hZ (own_t hw 83 rfl) (own_t hw 82 rfl) (by decide) (by decide)) (g := (mkF m 17 #[oa r0, oi 0, .unset, .unset] [(.int (0 : Int32)), (.ref r0)])) rfl (by rw [hml]; rfl) (argsL := [(.ref r0), (.int (0 : Int32))]) (rest := []) (lenOf pd_10 rfl) rfl (by show 2 * 0 + _ ≤ _; exact Nat.le_of_eq rfl) (hb hby d11_17) (fun _ _ => ⟨rfl, e101, (by decide : 2 + 0 ≤ _), (by decide : 8 + 0 ≤ _)⟩)
    dsimp only [Pt.U, Pt.locs, Pt.cells, Pt.slots] at X104 l104 y104 z104 st104 hQ104
    subst l104 y104 z104
    obtain ⟨rfl, N104q, e104⟩ := hQ104
    have N104 := Fr.app N101 N104q
    have c105 : own_G p e below T104 (mkF m 30 #[oa r0, oi 0, oi 1, .unset] [(.int (0 : Int32)), (.ref r0)]) (mkF m 20 #[oa r0, oi 0, .unset, .unset] [(.int (1 : Int32))]) := by
      intro t kt
      show oS T104 (mkF m 20 #[oa r0, oi 0, .unset, .unset] [(.int (1 : Int32))]) _
      refine XS.istoreN X104.here hx rfl (hb hby d11_20) rfl (l' := #[oa r0, oi 0, oi 1, .unset]) rfl ?_
      show oS T104 (mkF m 21 #[oa r0, oi 0, oi 1, .unset] []) _
      refine XS.iloadN X104.here hx rfl (hb hby d11_21) rfl ?_
      show oS T104 (mkF m 22 #[oa r0, oi 0, oi 1, .unset] [(.int (1 : Int32))]) _
      refine XS.iloadN X104.here hx rfl (hb hby d11_22) rfl ?_
      show oS T104 (mkF m 23 #[oa r0, oi 0, oi 1, .unset] [(.int (0 : Int32)), (.int (1 : Int32))]) _
      refine XS.icmpYes X104.here hx rfl (pc0 := 23) (pc' := 28) rfl (hb hby d11_23) rfl (feq (by decide : ¬ ((1 : Int32) = (0 : Int32)))).2 (by decide) (by decide) ?_
      show oS T104 (mkF m 28 #[oa r0, oi 0, oi 1, .unset] []) _
      refine XS.aloadN X104.here hx rfl (hb hby d11_28) rfl rfl ?_
      show oS T104 (mkF m 29 #[oa r0, oi 0, oi 1, .unset] [(.ref r0)]) _
      refine XS.iloadN X104.here hx rfl (hb hby d11_29) rfl ?_
      exact kt
    obtain ⟨cq106, kq106, q106a, q106b, q106c⟩ := isOf hZ e104 f95
    obtain ⟨_, _, ⟨T107, L107, k107, n107⟩, -, X107, ⟨Lc107, hQ107, l107, y107, z107⟩, st107⟩ := X104.virtualBack hx (y := yy_4) (z := yy_4) hown (mvT hZ (own_t hw 107 rfl)) (mvT hZ (own_t hw 86 rfl)) (notFace_of_selects (args := #[]) (mvT hZ (own_t hw 88 rfl))) (mvT hZ (own_t hw 88 rfl)) (mvT hZ (own_t hw 87 rfl)) (by decide) (backOf (W := 0) (rm18 l Z a0 hw [] r0 (0 : Int32) ba ka (3 : Int32) [(.int (d.toInt8.toInt32)), (.int ((46 : Int32).toInt8.toInt32)), (.int (ez.toInt8.toInt32))] (.int 0) (d.toInt8.toInt32) fm cs h92 n0 f94 f95 f96 f98 ⟨by decide, by decide⟩ rfl (SF.ext f99.2) hfm (SC.ext f99.2) hcs f97) hZ (own_t hw 89 rfl) (own_t hw 7 rfl) (by decide) (by decide)) q106a q106c (g := (mkF m 30 #[oa r0, oi 0, oi 1, .unset] [(.int (0 : Int32)), (.ref r0)])) rfl (by rw [hml]; rfl) (Steps.refl _) (argsL := [(.int (0 : Int32))]) (rest := []) (lenOf pd_8 rfl) rfl (by show 2 * 0 + _ ≤ _; exact Nat.le_of_eq rfl) (hb hby d11_30) (fun _ _ => ⟨rfl, e104, (by decide : 2 + 0 ≤ _), (by decide : 8 + 0 ≤ _)⟩)
    dsimp only [Pt.U, Pt.locs, Pt.cells, Pt.slots] at X107 l107 y107 z107 st107 hQ107
    subst l107 y107 z107
    obtain ⟨rfl, N107q, e107⟩ := hQ107
    have N107 := Fr.app N104 N107q
    have c108 : own_G p e below T107 (mkF m 33 #[oa r0, oi 0, oi 1, .unset] [(.int d)]) (mkF m 33 #[oa r0, oi 0, oi 1, .unset] [(.int (own_cc (d.toInt8.toInt32)))]) := fun t kt => castTop (congrArg (fun zv => (mkF m 33 #[oa r0, oi 0, oi 1, .unset] [(.int zv)])) (show (own_cc (d.toInt8.toInt32)) = d from own_ccv _ (own_dr h_d).1 (own_dr h_d).2)) kt
    have c109 : ∀ t, own_S p e below T107 (mkF m 45 #[oa r0, oi 0, oi 1, .unset] [(.int (1 : Int32))]) t → own_S p e below T107 (mkF m 33 #[oa r0, oi 0, oi 1, .unset] [(.int d)]) t := by
      intro t kt
      show oS T107 (mkF m 33 #[oa r0, oi 0, oi 1, .unset] [(.int d)]) _
      refine XS.bipush X107.here hx rfl (hb hby d11_33) ?_
      by_cases hc35 : d = (48 : Int32)
      · -- it is
        show oS T107 (mkF m 35 #[oa r0, oi 0, oi 1, .unset] [(.int (48 : Int32)), (.int d)]) _
        refine XS.icmpNo X107.here hx rfl (hb hby d11_35) rfl (teq hc35).2 ?_
        show oS T107 (mkF m 38 #[oa r0, oi 0, oi 1, .unset] []) _
        refine XS.iloadN X107.here hx rfl (hb hby d11_38) rfl ?_
        show oS T107 (mkF m 39 #[oa r0, oi 0, oi 1, .unset] [(.int (0 : Int32))]) _
        refine XS.iconst X107.here hx rfl (hb hby d11_39) ?_
        show oS T107 (mkF m 40 #[oa r0, oi 0, oi 1, .unset] [(.int (1 : Int32)), (.int (0 : Int32))]) _
        refine XS.iadd X107.here hx rfl (hb hby d11_40) rfl ?_
        show oS T107 (mkF m 41 #[oa r0, oi 0, oi 1, .unset] [(.int ((0 : Int32) + (1 : Int32)))]) _
        refine XS.goto X107.here hx rfl (pc0 := 41) (pc' := 45) rfl (hb hby d11_41) (by decide) (by decide) ?_
        rw [show (1 : Int32) = ((0 : Int32) + (1 : Int32)) from by decide] at kt
        exact kt
      · -- it isn't
        show oS T107 (mkF m 35 #[oa r0, oi 0, oi 1, .unset] [(.int (48 : Int32)), (.int d)]) _
        refine XS.icmpYes X107.here hx rfl (pc0 := 35) (pc' := 44) rfl (hb hby d11_35) rfl (feq hc35).2 (by decide) (by decide) ?_
        show oS T107 (mkF m 44 #[oa r0, oi 0, oi 1, .unset] []) _
        refine XS.iloadN X107.here hx rfl (hb hby d11_44) rfl ?_
        exact kt
    have c110 : own_G p e below T107 (mkF m 48 #[oa r0, oi 1, oi 1, .unset] [(.ref r0), (.int (1 : Int32))]) (mkF m 45 #[oa r0, oi 0, oi 1, .unset] [(.int (1 : Int32))]) := by
      intro t kt
      show oS T107 (mkF m 45 #[oa r0, oi 0, oi 1, .unset] [(.int (1 : Int32))]) _
      refine XS.istoreN X107.here hx rfl (hb hby d11_45) rfl (l' := #[oa r0, oi 1, oi 1, .unset]) rfl ?_
      show oS T107 (mkF m 46 #[oa r0, oi 1, oi 1, .unset] []) _
      refine XS.iloadN X107.here hx rfl (hb hby d11_46) rfl ?_
      show oS T107 (mkF m 47 #[oa r0, oi 1, oi 1, .unset] [(.int (1 : Int32))]) _
      refine XS.aloadN X107.here hx rfl (hb hby d11_47) rfl rfl ?_
      exact kt
    obtain ⟨cq111, kq111, q111a, q111b, q111c⟩ := isOf hZ e107 f95
    obtain ⟨_, _, ⟨T112, L112, k112, n112⟩, -, X112, ⟨Lc112, hQ112, l112, y112, z112⟩, st112⟩ := X107.virtualBack hx (y := yy_6) (z := yy_6) hown (mvT hZ (own_t hw 108 rfl)) (mvT hZ (own_t hw 67 rfl)) (notFace_of_selects (args := #[]) (mvT hZ (own_t hw 69 rfl))) (mvT hZ (own_t hw 69 rfl)) (mvT hZ (own_t hw 68 rfl)) (by decide) (backOf (W := 1) (rm14 l Z a0 hw [] r0 ba ka (3 : Int32) [(.int (d.toInt8.toInt32)), (.int ((46 : Int32).toInt8.toInt32)), (.int (ez.toInt8.toInt32))] (.int 0) cs h92 n0 f94 f95 f96 f98 (SC.ext f99.2) hcs f97) hZ (own_t hw 70 rfl) (own_t hw 7 rfl) (by decide) (by decide)) q111a q111c (g := (mkF m 48 #[oa r0, oi 1, oi 1, .unset] [(.ref r0), (.int (1 : Int32))])) rfl (by rw [hml]; rfl) (Steps.refl _) (argsL := []) (rest := [(.int (1 : Int32))]) (lenOf pd_5 rfl) rfl (by show 2 * 0 + _ ≤ _; exact Nat.le_of_eq rfl) (hb hby d11_48) (fun _ _ => ⟨rfl, e107, (by decide : 2 + 0 ≤ _), (by decide : 8 + 0 ≤ _)⟩)
    dsimp only [Pt.U, Pt.locs, Pt.cells, Pt.slots] at X112 l112 y112 z112 st112 hQ112
    subst l112 y112 z112
    obtain ⟨rfl, N112q, e112⟩ := hQ112
    have N112 := Fr.app N107 N112q
    have c113 : own_G p e below T112 (mkF m 56 #[oa r0, oi 1, oi 1, .unset] [(.int (1 : Int32)), (.ref r0)]) (mkF m 51 #[oa r0, oi 1, oi 1, .unset] [(.int (3 : Int32)), (.int (1 : Int32))]) := by
      intro t kt
      show oS T112 (mkF m 51 #[oa r0, oi 1, oi 1, .unset] [(.int (3 : Int32)), (.int (1 : Int32))]) _
      refine XS.icmpNo X112.here hx rfl (hb hby d11_51) rfl (tlt (by decide : (1 : Int32) < (3 : Int32))).2.1 ?_
      show oS T112 (mkF m 54 #[oa r0, oi 1, oi 1, .unset] []) _
      refine XS.aloadN X112.here hx rfl (hb hby d11_54) rfl rfl ?_
      show oS T112 (mkF m 55 #[oa r0, oi 1, oi 1, .unset] [(.ref r0)]) _
      refine XS.iloadN X112.here hx rfl (hb hby d11_55) rfl ?_
      exact kt
    obtain ⟨cq114, kq114, q114a, q114b, q114c⟩ := isOf hZ e112 f95
    obtain ⟨_, _, ⟨T115, L115, k115, n115⟩, -, X115, ⟨Lc115, hQ115, l115, y115, z115⟩, st115⟩ := X112.virtualBack hx (y := yy_4) (z := yy_4) hown (mvT hZ (own_t hw 107 rfl)) (mvT hZ (own_t hw 86 rfl)) (notFace_of_selects (args := #[]) (mvT hZ (own_t hw 88 rfl))) (mvT hZ (own_t hw 88 rfl)) (mvT hZ (own_t hw 87 rfl)) (by decide) (backOf (W := 0) (rm18 l Z a0 hw [] r0 (1 : Int32) ba ka (3 : Int32) [(.int (d.toInt8.toInt32)), (.int ((46 : Int32).toInt8.toInt32)), (.int (ez.toInt8.toInt32))] (.int 0) ((46 : Int32).toInt8.toInt32) fm cs h92 n0 f94 f95 f96 f98 ⟨by decide, by decide⟩ rfl (SF.ext f99.2) hfm (SC.ext f99.2) hcs f97) hZ (own_t hw 89 rfl) (own_t hw 7 rfl) (by decide) (by decide)) q114a q114c (g := (mkF m 56 #[oa r0, oi 1, oi 1, .unset] [(.int (1 : Int32)), (.ref r0)])) rfl (by rw [hml]; rfl) (Steps.refl _) (argsL := [(.int (1 : Int32))]) (rest := []) (lenOf pd_8 rfl) rfl (by show 2 * 0 + _ ≤ _; exact Nat.le_of_eq rfl) (hb hby d11_56) (fun _ _ => ⟨rfl, e112, (by decide : 2 + 0 ≤ _), (by decide : 8 + 0 ≤ _)⟩)
    dsimp only [Pt.U, Pt.locs, Pt.cells, Pt.slots] at X115 l115 y115 z115 st115 hQ115
    subst l115 y115 z115
    obtain ⟨rfl, N115q, e115⟩ := hQ115
    have N115 := Fr.app N112 N115q
    have c116 : own_G p e below T115 (mkF m 59 #[oa r0, oi 1, oi 1, .unset] [(.int (46 : Int32))]) (mkF m 59 #[oa r0, oi 1, oi 1, .unset] [(.int (own_cc ((46 : Int32).toInt8.toInt32)))]) := fun t kt => castTop (congrArg (fun zv => (mkF m 59 #[oa r0, oi 1, oi 1, .unset] [(.int zv)])) (show (own_cc ((46 : Int32).toInt8.toInt32)) = (46 : Int32) from by decide)) kt
    have c117 : own_G p e below T115 (mkF m 68 #[oa r0, oi 1, oi 1, .unset] [(.int ((1 : Int32) + (1 : Int32))), (.ref r0)]) (mkF m 59 #[oa r0, oi 1, oi 1, .unset] [(.int (46 : Int32))]) := by
      intro t kt
      show oS T115 (mkF m 59 #[oa r0, oi 1, oi 1, .unset] [(.int (46 : Int32))]) _
      refine XS.bipush X115.here hx rfl (hb hby d11_59) ?_
      show oS T115 (mkF m 61 #[oa r0, oi 1, oi 1, .unset] [(.int (46 : Int32)), (.int (46 : Int32))]) _
      refine XS.icmpNo X115.here hx rfl (hb hby d11_61) rfl (teq (by decide : (46 : Int32) = (46 : Int32))).2 ?_
      show oS T115 (mkF m 64 #[oa r0, oi 1, oi 1, .unset] []) _
      refine XS.aloadN X115.here hx rfl (hb hby d11_64) rfl rfl ?_
      show oS T115 (mkF m 65 #[oa r0, oi 1, oi 1, .unset] [(.ref r0)]) _
      refine XS.iloadN X115.here hx rfl (hb hby d11_65) rfl ?_
      show oS T115 (mkF m 66 #[oa r0, oi 1, oi 1, .unset] [(.int (1 : Int32)), (.ref r0)]) _
      refine XS.iconst X115.here hx rfl (hb hby d11_66) ?_
      show oS T115 (mkF m 67 #[oa r0, oi 1, oi 1, .unset] [(.int (1 : Int32)), (.int (1 : Int32)), (.ref r0)]) _
      refine XS.iadd X115.here hx rfl (hb hby d11_67) rfl ?_
      exact kt
    have c118 : own_G p e below T115 (mkF m 68 #[oa r0, oi 1, oi 1, .unset] [(.int (2 : Int32)), (.ref r0)]) (mkF m 68 #[oa r0, oi 1, oi 1, .unset] [(.int ((1 : Int32) + (1 : Int32))), (.ref r0)]) := fun t kt => castTop (congrArg (fun zv => (mkF m 68 #[oa r0, oi 1, oi 1, .unset] [(.int zv), (.ref r0)])) (show ((1 : Int32) + (1 : Int32)) = (2 : Int32) from by decide)) kt
    obtain ⟨_, _, ⟨T119, L119, k119, n119⟩, -, X119, ⟨Lc119, hQ119, l119, y119, z119⟩, st119⟩ := Jvm.LawKit.callS X115 hx (y := yy_10) hown (mvT hZ (own_t hw 80 rfl)) (mvT hZ (own_t hw 81 rfl)) (mvT hZ (own_t hw 82 rfl)) (mvT hZ (own_t hw 83 rfl)) (by decide) (backOf (W := 0) (rm17_e l Z a0 hw []  r0 ba ka cs fm d (46 : Int32) ez h92 n0 f94 f95 f96 f97 f98 (SC.ext f99.2) hcs (SF.ext f99.2) hfm h_ez) hZ (own_t hw 83 rfl) (own_t hw 82 rfl) (by decide) (by decide)) (g := (mkF m 68 #[oa r0, oi 1, oi 1, .unset] [(.int (2 : Int32)), (.ref r0)])) rfl (by rw [hml]; rfl) (argsL := [(.ref r0), (.int (2 : Int32))]) (rest := []) (lenOf pd_10 rfl) rfl (by show 2 * 0 + _ ≤ _; exact Nat.le_of_eq rfl) (hb hby d11_68) (fun _ _ => ⟨rfl, e115, (by decide : 2 + 0 ≤ _), (by decide : 8 + 0 ≤ _)⟩)
    dsimp only [Pt.U, Pt.locs, Pt.cells, Pt.slots] at X119 l119 y119 z119 st119 hQ119
    subst l119 y119 z119
    obtain ⟨rfl, N119q, e119⟩ := hQ119
    have N119 := Fr.app N115 N119q
    have c120 : own_G p e below T119 (mkF m 85 #[oa r0, oi 3, oi 1, oi 3] [(.ref r0), (.int (3 : Int32))]) (mkF m 71 #[oa r0, oi 1, oi 1, .unset] [(.int (3 : Int32))]) := by
      intro t kt
      show oS T119 (mkF m 71 #[oa r0, oi 1, oi 1, .unset] [(.int (3 : Int32))]) _
      refine XS.istoreN X119.here hx rfl (hb hby d11_71) rfl (l' := #[oa r0, oi 1, oi 1, oi 3]) rfl ?_
      show oS T119 (mkF m 72 #[oa r0, oi 1, oi 1, oi 3] []) _
      refine XS.iloadN X119.here hx rfl (hb hby d11_72) rfl ?_
      show oS T119 (mkF m 73 #[oa r0, oi 1, oi 1, oi 3] [(.int (3 : Int32))]) _
      refine XS.iloadN X119.here hx rfl (hb hby d11_73) rfl ?_
      show oS T119 (mkF m 74 #[oa r0, oi 1, oi 1, oi 3] [(.int (1 : Int32)), (.int (3 : Int32))]) _
      refine XS.iconst X119.here hx rfl (hb hby d11_74) ?_
      show oS T119 (mkF m 75 #[oa r0, oi 1, oi 1, oi 3] [(.int (1 : Int32)), (.int (1 : Int32)), (.int (3 : Int32))]) _
      refine XS.iadd X119.here hx rfl (hb hby d11_75) rfl ?_
      show oS T119 (mkF m 76 #[oa r0, oi 1, oi 1, oi 3] [(.int ((1 : Int32) + (1 : Int32))), (.int (3 : Int32))]) _
      refine XS.icmpYes X119.here hx rfl (pc0 := 76) (pc' := 81) rfl (hb hby d11_76) rfl (feq (by decide : ¬ ((3 : Int32) = ((1 : Int32) + (1 : Int32))))).2 (by decide) (by decide) ?_
      show oS T119 (mkF m 81 #[oa r0, oi 1, oi 1, oi 3] []) _
      refine XS.iloadN X119.here hx rfl (hb hby d11_81) rfl ?_
      show oS T119 (mkF m 82 #[oa r0, oi 1, oi 1, oi 3] [(.int (3 : Int32))]) _
      refine XS.istoreN X119.here hx rfl (hb hby d11_82) rfl (l' := #[oa r0, oi 3, oi 1, oi 3]) rfl ?_
      show oS T119 (mkF m 83 #[oa r0, oi 3, oi 1, oi 3] []) _
      refine XS.iloadN X119.here hx rfl (hb hby d11_83) rfl ?_
      show oS T119 (mkF m 84 #[oa r0, oi 3, oi 1, oi 3] [(.int (3 : Int32))]) _
      refine XS.aloadN X119.here hx rfl (hb hby d11_84) rfl rfl ?_
      exact kt
    obtain ⟨cq121, kq121, q121a, q121b, q121c⟩ := isOf hZ e119 f95
    obtain ⟨_, _, ⟨T122, L122, k122, n122⟩, -, X122, ⟨Lc122, hQ122, l122, y122, z122⟩, st122⟩ := X119.virtualBack hx (y := yy_6) (z := yy_6) hown (mvT hZ (own_t hw 108 rfl)) (mvT hZ (own_t hw 67 rfl)) (notFace_of_selects (args := #[]) (mvT hZ (own_t hw 69 rfl))) (mvT hZ (own_t hw 69 rfl)) (mvT hZ (own_t hw 68 rfl)) (by decide) (backOf (W := 1) (rm14 l Z a0 hw [] r0 ba ka (3 : Int32) [(.int (d.toInt8.toInt32)), (.int ((46 : Int32).toInt8.toInt32)), (.int (ez.toInt8.toInt32))] (.int 0) cs h92 n0 f94 f95 f96 f98 (SC.ext f99.2) hcs f97) hZ (own_t hw 70 rfl) (own_t hw 7 rfl) (by decide) (by decide)) q121a q121c (g := (mkF m 85 #[oa r0, oi 3, oi 1, oi 3] [(.ref r0), (.int (3 : Int32))])) rfl (by rw [hml]; rfl) (Steps.refl _) (argsL := []) (rest := [(.int (3 : Int32))]) (lenOf pd_5 rfl) rfl (by show 2 * 0 + _ ≤ _; exact Nat.le_of_eq rfl) (hb hby d11_85) (fun _ _ => ⟨rfl, e119, (by decide : 2 + 0 ≤ _), (by decide : 8 + 0 ≤ _)⟩)
    dsimp only [Pt.U, Pt.locs, Pt.cells, Pt.slots] at X122 l122 y122 z122 st122 hQ122
    subst l122 y122 z122
    obtain ⟨rfl, N122q, e122⟩ := hQ122
    have N122 := Fr.app N119 N122q
    have c123 : own_G p e below T122 (mkF m 162 #[oa r0, oi 3, oi 1, oi 3] [(.ref r0), (.int (3 : Int32))]) (mkF m 88 #[oa r0, oi 3, oi 1, oi 3] [(.int (3 : Int32)), (.int (3 : Int32))]) := by
      intro t kt
      show oS T122 (mkF m 88 #[oa r0, oi 3, oi 1, oi 3] [(.int (3 : Int32)), (.int (3 : Int32))]) _
      refine XS.icmpYes X122.here hx rfl (pc0 := 88) (pc' := 160) rfl (hb hby d11_88) rfl (flt (by decide : ¬ ((3 : Int32) < (3 : Int32)))).2.1 (by decide) (by decide) ?_
      show oS T122 (mkF m 160 #[oa r0, oi 3, oi 1, oi 3] []) _
      refine XS.iloadN X122.here hx rfl (hb hby d11_160) rfl ?_
      show oS T122 (mkF m 161 #[oa r0, oi 3, oi 1, oi 3] [(.int (3 : Int32))]) _
      refine XS.aloadN X122.here hx rfl (hb hby d11_161) rfl rfl ?_
      exact kt
    obtain ⟨cq124, kq124, q124a, q124b, q124c⟩ := isOf hZ e122 f95
    obtain ⟨_, _, ⟨T125, L125, k125, n125⟩, -, X125, ⟨Lc125, hQ125, l125, y125, z125⟩, st125⟩ := X122.virtualBack hx (y := yy_6) (z := yy_6) hown (mvT hZ (own_t hw 108 rfl)) (mvT hZ (own_t hw 67 rfl)) (notFace_of_selects (args := #[]) (mvT hZ (own_t hw 69 rfl))) (mvT hZ (own_t hw 69 rfl)) (mvT hZ (own_t hw 68 rfl)) (by decide) (backOf (W := 1) (rm14 l Z a0 hw [] r0 ba ka (3 : Int32) [(.int (d.toInt8.toInt32)), (.int ((46 : Int32).toInt8.toInt32)), (.int (ez.toInt8.toInt32))] (.int 0) cs h92 n0 f94 f95 f96 f98 (SC.ext f99.2) hcs f97) hZ (own_t hw 70 rfl) (own_t hw 7 rfl) (by decide) (by decide)) q124a q124c (g := (mkF m 162 #[oa r0, oi 3, oi 1, oi 3] [(.ref r0), (.int (3 : Int32))])) rfl (by rw [hml]; rfl) (Steps.refl _) (argsL := []) (rest := [(.int (3 : Int32))]) (lenOf pd_5 rfl) rfl (by show 2 * 0 + _ ≤ _; exact Nat.le_of_eq rfl) (hb hby d11_162) (fun _ _ => ⟨rfl, e122, (by decide : 2 + 0 ≤ _), (by decide : 8 + 0 ≤ _)⟩)
    dsimp only [Pt.U, Pt.locs, Pt.cells, Pt.slots] at X125 l125 y125 z125 st125 hQ125
    subst l125 y125 z125
    obtain ⟨rfl, N125q, e125⟩ := hQ125
    have N125 := Fr.app N122 N125q
    have c126 : own_G p e below T125 (mkF m 173 #[oa r0, oi 3, oi 1, oi 3] [(.int (1 : Int32))]) (mkF m 165 #[oa r0, oi 3, oi 1, oi 3] [(.int (3 : Int32)), (.int (3 : Int32))]) := by
      intro t kt
      show oS T125 (mkF m 165 #[oa r0, oi 3, oi 1, oi 3] [(.int (3 : Int32)), (.int (3 : Int32))]) _
      refine XS.icmpNo X125.here hx rfl (hb hby d11_165) rfl (teq (by decide : (3 : Int32) = (3 : Int32))).2 ?_
      show oS T125 (mkF m 168 #[oa r0, oi 3, oi 1, oi 3] []) _
      refine XS.iconst X125.here hx rfl (hb hby d11_168) ?_
      show oS T125 (mkF m 169 #[oa r0, oi 3, oi 1, oi 3] [(.int (1 : Int32))]) _
      refine XS.goto X125.here hx rfl (pc0 := 169) (pc' := 173) rfl (hb hby d11_169) (by decide) (by decide) ?_
      exact kt
    obtain ⟨fs, hr, hrun, hended, hwd⟩ := Stand.leaveW (s := s) (vm₁ := T92.vm) X125 hS92 (by rw [e125]; exact hk92) (v := some (.int (1 : Int32))) (fun h => by rw [Bd.returns] at h; cases h)
    have hCr : CHr Z consts_1 s.vm s.heap (T125.setFrames fs).vm (T125.setFrames fs).heap := by
      show CHr Z consts_1 s.vm s.heap T125.vm T125.heap
      rw [hh, e125]
      exact ch92.trans (CHv.at (s := s) (vm0 := T92.vm) X125 hZ hEL ch92.1)
    have f128 := ((Keep.refl h0 []).ext E92)
    refine ⟨_, _, pre0 _ (c93 _ (st92 _ (st101.trans (c102 _ (c103 _ (st104 _ (c105 _ (st107.trans (c108 _ (c109 _ (c110 _ (st112.trans (c113 _ (st115.trans (c116 _ (c117 _ (c118 _ (st119 _ (c120 _ (st122.trans (c123 _ (st125.trans (c126 _ (?_)))))))))))))))))))))))), hrun, hended, _, _, rfl, ?_, hCr, hwd.1, hwd.2.1, hwd.2.2.1, hwd.2.2.2.mono (by decide) (by decide)⟩
    · show Steps p.tables e below (T125.setTop (mkF m 173 #[oa r0, oi 3, oi 1, oi 3] [(.int (1 : Int32))])) _
      exact retN X125 hx (t := .boolean) Bd.returns (by simp) (hb hby d11_173) hr
    · show Q11 Z r0 ba ka cs fm tx h0 n0 _ T125.heap _
      rw [e125]
      exact ⟨rfl, N125, f128⟩
  · skip
    rw [htx] at Va
    have Vx : Arv Z h0 ba ka .byte (3 : Int32) [(.int (d.toInt8.toInt32)), (.int ((101 : Int32).toInt8.toInt32)), (.int (ez.toInt8.toInt32))] (.int 0) := Va
    have c130 : own_G p e below s₁ (mkF m 1 #[oa r0, .unset, .unset, .unset] [(.ref r0)]) (mkF m 0 #[oa r0, .unset, .unset, .unset] []) := by
      intro t kt
      show oS s₁ (mkF m 0 #[oa r0, .unset, .unset, .unset] []) _
      refine XS.aloadN X0.here hx rfl (hb hby d11_0) rfl rfl ?_
      exact kt
    obtain ⟨a129, T129, h129, j129, b129, kb129, X129, e129, E129, hS129, hk129, hZ, hown, Es129, Fc129, Fv129, Va129, la129, lb129, CH129, Lt129, Sf129, st129⟩ := ldcCH (s := s) (vm0 := s.vm) X0 hx hZ hown (own_t hw 55 rfl) hwS e0 hS0 (Nat.zero_le _) hEL (List.mem_of_getElem? (i := 1) rfl) (CHr.refl hCH).1 (vs := [(.int (45 : Int32))]) (z := (1 : Int32)) ⟨by decide, rfl⟩ (by decide) rfl (g := (mkF m 1 #[oa r0, .unset, .unset, .unset] [(.ref r0)])) rfl (hb hby d11_1) (n := 4) (by decide) (by decide) (by decide) (by decide)
    have ch129 := (CHr.refl hCH).trans CH129
    have f131 := (Nat.le_trans Z0 E129.1)
    have f132 := (Ea.ext E129)
    have f133 := (Fa.ext E129)
    have f134 := (Ca.ext E129)
    have f135 := (Vx.ext E129)
    have f136 := (O0.ext E129)
    obtain ⟨cq137, kq137, q137a, q137b, q137c⟩ := isOf hZ e129 f132
    obtain ⟨_, _, ⟨T138, L138, k138, n138⟩, -, X138, ⟨Lc138, hQ138, l138, y138, z138⟩, st138⟩ := X129.virtualBack hx (y := yy_9) (z := yy_9) hown (mvT hZ (own_t hw 56 rfl)) (mvT hZ (own_t hw 57 rfl)) (notFace_of_selects (args := #[]) (mvT hZ (own_t hw 59 rfl))) (mvT hZ (own_t hw 59 rfl)) (mvT hZ (own_t hw 58 rfl)) (by decide) (backOf (W := 0) (rm12 l Z a0 hw [] r0 a129 ba b129 ka kb129 cs (3 : Int32) [(.int (d.toInt8.toInt32)), (.int ((101 : Int32).toInt8.toInt32)), (.int (ez.toInt8.toInt32))] (d.toInt8.toInt32) h129 n0 f131 f132 f133 f134 f135 Es129 Fv129 Fc129 Va129 (SC.ext f136.2) hcs ⟨by decide, by decide⟩ rfl (by decide)) hZ (own_t hw 60 rfl) (own_t hw 7 rfl) (by decide) (by decide)) q137a q137c (g := (mkF m 3 #[oa r0, .unset, .unset, .unset] [(.ref a129), (.ref r0)])) rfl (by rw [hml]; rfl) (Steps.refl _) (argsL := [(.ref a129)]) (rest := []) (lenOf pd_9 rfl) rfl (by show 2 * 0 + _ ≤ _; exact Nat.le_of_eq rfl) (hb hby d11_3) (fun _ _ => ⟨rfl, e129, (by decide : 2 + 0 ≤ _), (by decide : 8 + 0 ≤ _)⟩)
    dsimp only [Pt.U, Pt.locs, Pt.cells, Pt.slots] at X138 l138 y138 z138 st138 hQ138
    subst l138 y138 z138
    obtain ⟨rfl, N138q, e138⟩ := hQ138
    have N138 := Fr.app N0 N138q
    have c139 : own_G p e below T138 (mkF m 6 #[oa r0, .unset, .unset, .unset] [(.int (0 : Int32))]) (mkF m 6 #[oa r0, .unset, .unset, .unset] [(.int ((own_sw (d.toInt8.toInt32)) &&& 1))]) := fun t kt => castTop (congrArg (fun zv => (mkF m 6 #[oa r0, .unset, .unset, .unset] [(.int zv)])) (show ((own_sw (d.toInt8.toInt32)) &&& 1) = (0 : Int32) from own_swd h_d)) kt
    have c140 : own_G p e below T138 (mkF m 17 #[oa r0, oi 0, .unset, .unset] [(.int (0 : Int32)), (.ref r0)]) (mkF m 6 #[oa r0, .unset, .unset, .unset] [(.int (0 : Int32))]) := by
      intro t kt
      show oS T138 (mkF m 6 #[oa r0, .unset, .unset, .unset] [(.int (0 : Int32))]) _
      refine XS.ifYes X138.here hx rfl (pc0 := 6) (pc' := 13) rfl (hb hby d11_6) rfl ((if0 _ _).trans (teq (by decide : (0 : Int32) = (0 : Int32))).1) (by decide) (by decide) ?_
      show oS T138 (mkF m 13 #[oa r0, .unset, .unset, .unset] []) _
      refine XS.iconst X138.here hx rfl (hb hby d11_13) ?_
      show oS T138 (mkF m 14 #[oa r0, .unset, .unset, .unset] [(.int (0 : Int32))]) _
      refine XS.istoreN X138.here hx rfl (hb hby d11_14) rfl (l' := #[oa r0, oi 0, .unset, .unset]) rfl ?_
      show oS T138 (mkF m 15 #[oa r0, oi 0, .unset, .unset] []) _
      refine XS.aloadN X138.here hx rfl (hb hby d11_15) rfl rfl ?_
      show oS T138 (mkF m 16 #[oa r0, oi 0, .unset, .unset] [(.ref r0)]) _
      refine XS.iloadN X138.here hx rfl (hb hby d11_16) rfl ?_
      exact kt
    obtain ⟨_, _, ⟨T141, L141, k141, n141⟩, -, X141, ⟨Lc141, hQ141, l141, y141, z141⟩, st141⟩ := Jvm.LawKit.callS X138 hx (y := yy_10) hown (mvT hZ (own_t hw 80 rfl)) (mvT hZ (own_t hw 81 rfl)) (mvT hZ (own_t hw 82 rfl)) (mvT hZ (own_t hw 83 rfl)) (by decide) (backOf (W := 0) (rm17_d l Z a0 hw []  r0 ba ka cs fm d (101 : Int32) ez h129 n0 f131 f132 f133 f134 f135 (SC.ext f136.2) hcs (SF.ext f136.2) hfm h_d (by unfold own_r; decide)) hZ (own_t hw 83 rfl) (own_t hw 82 rfl) (by decide) (by decide)) (g := (mkF m 17 #[oa r0, oi 0, .unset, .unset] [(.int (0 : Int32)), (.ref r0)])) rfl (by rw [hml]; rfl) (argsL := [(.ref r0), (.int (0 : Int32))]) (rest := []) (lenOf pd_10 rfl) rfl (by show 2 * 0 + _ ≤ _; exact Nat.le_of_eq rfl) (hb hby d11_17) (fun _ _ => ⟨rfl, e138, (by decide : 2 + 0 ≤ _), (by decide : 8 + 0 ≤ _)⟩)
    dsimp only [Pt.U, Pt.locs, Pt.cells, Pt.slots] at X141 l141 y141 z141 st141 hQ141
    subst l141 y141 z141
    obtain ⟨rfl, N141q, e141⟩ := hQ141
    have N141 := Fr.app N138 N141q
    have c142 : own_G p e below T141 (mkF m 30 #[oa r0, oi 0, oi 1, .unset] [(.int (0 : Int32)), (.ref r0)]) (mkF m 20 #[oa r0, oi 0, .unset, .unset] [(.int (1 : Int32))]) := by
      intro t kt
      show oS T141 (mkF m 20 #[oa r0, oi 0, .unset, .unset] [(.int (1 : Int32))]) _
      refine XS.istoreN X141.here hx rfl (hb hby d11_20) rfl (l' := #[oa r0, oi 0, oi 1, .unset]) rfl ?_
      show oS T141 (mkF m 21 #[oa r0, oi 0, oi 1, .unset] []) _
      refine XS.iloadN X141.here hx rfl (hb hby d11_21) rfl ?_
      show oS T141 (mkF m 22 #[oa r0, oi 0, oi 1, .unset] [(.int (1 : Int32))]) _
      refine XS.iloadN X141.here hx rfl (hb hby d11_22) rfl ?_
      show oS T141 (mkF m 23 #[oa r0, oi 0, oi 1, .unset] [(.int (0 : Int32)), (.int (1 : Int32))]) _
      refine XS.icmpYes X141.here hx rfl (pc0 := 23) (pc' := 28) rfl (hb hby d11_23) rfl (feq (by decide : ¬ ((1 : Int32) = (0 : Int32)))).2 (by decide) (by decide) ?_
      show oS T141 (mkF m 28 #[oa r0, oi 0, oi 1, .unset] []) _
      refine XS.aloadN X141.here hx rfl (hb hby d11_28) rfl rfl ?_
      show oS T141 (mkF m 29 #[oa r0, oi 0, oi 1, .unset] [(.ref r0)]) _
      refine XS.iloadN X141.here hx rfl (hb hby d11_29) rfl ?_
      exact kt
    obtain ⟨cq143, kq143, q143a, q143b, q143c⟩ := isOf hZ e141 f132
    obtain ⟨_, _, ⟨T144, L144, k144, n144⟩, -, X144, ⟨Lc144, hQ144, l144, y144, z144⟩, st144⟩ := X141.virtualBack hx (y := yy_4) (z := yy_4) hown (mvT hZ (own_t hw 107 rfl)) (mvT hZ (own_t hw 86 rfl)) (notFace_of_selects (args := #[]) (mvT hZ (own_t hw 88 rfl))) (mvT hZ (own_t hw 88 rfl)) (mvT hZ (own_t hw 87 rfl)) (by decide) (backOf (W := 0) (rm18 l Z a0 hw [] r0 (0 : Int32) ba ka (3 : Int32) [(.int (d.toInt8.toInt32)), (.int ((101 : Int32).toInt8.toInt32)), (.int (ez.toInt8.toInt32))] (.int 0) (d.toInt8.toInt32) fm cs h129 n0 f131 f132 f133 f135 ⟨by decide, by decide⟩ rfl (SF.ext f136.2) hfm (SC.ext f136.2) hcs f134) hZ (own_t hw 89 rfl) (own_t hw 7 rfl) (by decide) (by decide)) q143a q143c (g := (mkF m 30 #[oa r0, oi 0, oi 1, .unset] [(.int (0 : Int32)), (.ref r0)])) rfl (by rw [hml]; rfl) (Steps.refl _) (argsL := [(.int (0 : Int32))]) (rest := []) (lenOf pd_8 rfl) rfl (by show 2 * 0 + _ ≤ _; exact Nat.le_of_eq rfl) (hb hby d11_30) (fun _ _ => ⟨rfl, e141, (by decide : 2 + 0 ≤ _), (by decide : 8 + 0 ≤ _)⟩)
    dsimp only [Pt.U, Pt.locs, Pt.cells, Pt.slots] at X144 l144 y144 z144 st144 hQ144
    subst l144 y144 z144
    obtain ⟨rfl, N144q, e144⟩ := hQ144
    have N144 := Fr.app N141 N144q
    have c145 : own_G p e below T144 (mkF m 33 #[oa r0, oi 0, oi 1, .unset] [(.int d)]) (mkF m 33 #[oa r0, oi 0, oi 1, .unset] [(.int (own_cc (d.toInt8.toInt32)))]) := fun t kt => castTop (congrArg (fun zv => (mkF m 33 #[oa r0, oi 0, oi 1, .unset] [(.int zv)])) (show (own_cc (d.toInt8.toInt32)) = d from own_ccv _ (own_dr h_d).1 (own_dr h_d).2)) kt
    have c146 : ∀ t, own_S p e below T144 (mkF m 45 #[oa r0, oi 0, oi 1, .unset] [(.int (1 : Int32))]) t → own_S p e below T144 (mkF m 33 #[oa r0, oi 0, oi 1, .unset] [(.int d)]) t := by
      intro t kt
      show oS T144 (mkF m 33 #[oa r0, oi 0, oi 1, .unset] [(.int d)]) _
      refine XS.bipush X144.here hx rfl (hb hby d11_33) ?_
      by_cases hc35 : d = (48 : Int32)
      · -- it is
        show oS T144 (mkF m 35 #[oa r0, oi 0, oi 1, .unset] [(.int (48 : Int32)), (.int d)]) _
        refine XS.icmpNo X144.here hx rfl (hb hby d11_35) rfl (teq hc35).2 ?_
        show oS T144 (mkF m 38 #[oa r0, oi 0, oi 1, .unset] []) _
        refine XS.iloadN X144.here hx rfl (hb hby d11_38) rfl ?_
        show oS T144 (mkF m 39 #[oa r0, oi 0, oi 1, .unset] [(.int (0 : Int32))]) _
        refine XS.iconst X144.here hx rfl (hb hby d11_39) ?_
        show oS T144 (mkF m 40 #[oa r0, oi 0, oi 1, .unset] [(.int (1 : Int32)), (.int (0 : Int32))]) _
        refine XS.iadd X144.here hx rfl (hb hby d11_40) rfl ?_
        show oS T144 (mkF m 41 #[oa r0, oi 0, oi 1, .unset] [(.int ((0 : Int32) + (1 : Int32)))]) _
        refine XS.goto X144.here hx rfl (pc0 := 41) (pc' := 45) rfl (hb hby d11_41) (by decide) (by decide) ?_
        rw [show (1 : Int32) = ((0 : Int32) + (1 : Int32)) from by decide] at kt
        exact kt
      · -- it isn't
        show oS T144 (mkF m 35 #[oa r0, oi 0, oi 1, .unset] [(.int (48 : Int32)), (.int d)]) _
        refine XS.icmpYes X144.here hx rfl (pc0 := 35) (pc' := 44) rfl (hb hby d11_35) rfl (feq hc35).2 (by decide) (by decide) ?_
        show oS T144 (mkF m 44 #[oa r0, oi 0, oi 1, .unset] []) _
        refine XS.iloadN X144.here hx rfl (hb hby d11_44) rfl ?_
        exact kt
    have c147 : own_G p e below T144 (mkF m 48 #[oa r0, oi 1, oi 1, .unset] [(.ref r0), (.int (1 : Int32))]) (mkF m 45 #[oa r0, oi 0, oi 1, .unset] [(.int (1 : Int32))]) := by
      intro t kt
      show oS T144 (mkF m 45 #[oa r0, oi 0, oi 1, .unset] [(.int (1 : Int32))]) _
      refine XS.istoreN X144.here hx rfl (hb hby d11_45) rfl (l' := #[oa r0, oi 1, oi 1, .unset]) rfl ?_
      show oS T144 (mkF m 46 #[oa r0, oi 1, oi 1, .unset] []) _
      refine XS.iloadN X144.here hx rfl (hb hby d11_46) rfl ?_
      show oS T144 (mkF m 47 #[oa r0, oi 1, oi 1, .unset] [(.int (1 : Int32))]) _
      refine XS.aloadN X144.here hx rfl (hb hby d11_47) rfl rfl ?_
      exact kt
    obtain ⟨cq148, kq148, q148a, q148b, q148c⟩ := isOf hZ e144 f132
    obtain ⟨_, _, ⟨T149, L149, k149, n149⟩, -, X149, ⟨Lc149, hQ149, l149, y149, z149⟩, st149⟩ := X144.virtualBack hx (y := yy_6) (z := yy_6) hown (mvT hZ (own_t hw 108 rfl)) (mvT hZ (own_t hw 67 rfl)) (notFace_of_selects (args := #[]) (mvT hZ (own_t hw 69 rfl))) (mvT hZ (own_t hw 69 rfl)) (mvT hZ (own_t hw 68 rfl)) (by decide) (backOf (W := 1) (rm14 l Z a0 hw [] r0 ba ka (3 : Int32) [(.int (d.toInt8.toInt32)), (.int ((101 : Int32).toInt8.toInt32)), (.int (ez.toInt8.toInt32))] (.int 0) cs h129 n0 f131 f132 f133 f135 (SC.ext f136.2) hcs f134) hZ (own_t hw 70 rfl) (own_t hw 7 rfl) (by decide) (by decide)) q148a q148c (g := (mkF m 48 #[oa r0, oi 1, oi 1, .unset] [(.ref r0), (.int (1 : Int32))])) rfl (by rw [hml]; rfl) (Steps.refl _) (argsL := []) (rest := [(.int (1 : Int32))]) (lenOf pd_5 rfl) rfl (by show 2 * 0 + _ ≤ _; exact Nat.le_of_eq rfl) (hb hby d11_48) (fun _ _ => ⟨rfl, e144, (by decide : 2 + 0 ≤ _), (by decide : 8 + 0 ≤ _)⟩)
    dsimp only [Pt.U, Pt.locs, Pt.cells, Pt.slots] at X149 l149 y149 z149 st149 hQ149
    subst l149 y149 z149
    obtain ⟨rfl, N149q, e149⟩ := hQ149
    have N149 := Fr.app N144 N149q
    have c150 : own_G p e below T149 (mkF m 56 #[oa r0, oi 1, oi 1, .unset] [(.int (1 : Int32)), (.ref r0)]) (mkF m 51 #[oa r0, oi 1, oi 1, .unset] [(.int (3 : Int32)), (.int (1 : Int32))]) := by
      intro t kt
      show oS T149 (mkF m 51 #[oa r0, oi 1, oi 1, .unset] [(.int (3 : Int32)), (.int (1 : Int32))]) _
      refine XS.icmpNo X149.here hx rfl (hb hby d11_51) rfl (tlt (by decide : (1 : Int32) < (3 : Int32))).2.1 ?_
      show oS T149 (mkF m 54 #[oa r0, oi 1, oi 1, .unset] []) _
      refine XS.aloadN X149.here hx rfl (hb hby d11_54) rfl rfl ?_
      show oS T149 (mkF m 55 #[oa r0, oi 1, oi 1, .unset] [(.ref r0)]) _
      refine XS.iloadN X149.here hx rfl (hb hby d11_55) rfl ?_
      exact kt
    obtain ⟨cq151, kq151, q151a, q151b, q151c⟩ := isOf hZ e149 f132
    obtain ⟨_, _, ⟨T152, L152, k152, n152⟩, -, X152, ⟨Lc152, hQ152, l152, y152, z152⟩, st152⟩ := X149.virtualBack hx (y := yy_4) (z := yy_4) hown (mvT hZ (own_t hw 107 rfl)) (mvT hZ (own_t hw 86 rfl)) (notFace_of_selects (args := #[]) (mvT hZ (own_t hw 88 rfl))) (mvT hZ (own_t hw 88 rfl)) (mvT hZ (own_t hw 87 rfl)) (by decide) (backOf (W := 0) (rm18 l Z a0 hw [] r0 (1 : Int32) ba ka (3 : Int32) [(.int (d.toInt8.toInt32)), (.int ((101 : Int32).toInt8.toInt32)), (.int (ez.toInt8.toInt32))] (.int 0) ((101 : Int32).toInt8.toInt32) fm cs h129 n0 f131 f132 f133 f135 ⟨by decide, by decide⟩ rfl (SF.ext f136.2) hfm (SC.ext f136.2) hcs f134) hZ (own_t hw 89 rfl) (own_t hw 7 rfl) (by decide) (by decide)) q151a q151c (g := (mkF m 56 #[oa r0, oi 1, oi 1, .unset] [(.int (1 : Int32)), (.ref r0)])) rfl (by rw [hml]; rfl) (Steps.refl _) (argsL := [(.int (1 : Int32))]) (rest := []) (lenOf pd_8 rfl) rfl (by show 2 * 0 + _ ≤ _; exact Nat.le_of_eq rfl) (hb hby d11_56) (fun _ _ => ⟨rfl, e149, (by decide : 2 + 0 ≤ _), (by decide : 8 + 0 ≤ _)⟩)
    dsimp only [Pt.U, Pt.locs, Pt.cells, Pt.slots] at X152 l152 y152 z152 st152 hQ152
    subst l152 y152 z152
    obtain ⟨rfl, N152q, e152⟩ := hQ152
    have N152 := Fr.app N149 N152q
    have c153 : own_G p e below T152 (mkF m 59 #[oa r0, oi 1, oi 1, .unset] [(.int (101 : Int32))]) (mkF m 59 #[oa r0, oi 1, oi 1, .unset] [(.int (own_cc ((101 : Int32).toInt8.toInt32)))]) := fun t kt => castTop (congrArg (fun zv => (mkF m 59 #[oa r0, oi 1, oi 1, .unset] [(.int zv)])) (show (own_cc ((101 : Int32).toInt8.toInt32)) = (101 : Int32) from by decide)) kt
    have c154 : own_G p e below T152 (mkF m 85 #[oa r0, oi 1, oi 1, .unset] [(.ref r0), (.int (1 : Int32))]) (mkF m 59 #[oa r0, oi 1, oi 1, .unset] [(.int (101 : Int32))]) := by
      intro t kt
      show oS T152 (mkF m 59 #[oa r0, oi 1, oi 1, .unset] [(.int (101 : Int32))]) _
      refine XS.bipush X152.here hx rfl (hb hby d11_59) ?_
      show oS T152 (mkF m 61 #[oa r0, oi 1, oi 1, .unset] [(.int (46 : Int32)), (.int (101 : Int32))]) _
      refine XS.icmpYes X152.here hx rfl (pc0 := 61) (pc' := 83) rfl (hb hby d11_61) rfl (feq (by decide : ¬ ((101 : Int32) = (46 : Int32)))).2 (by decide) (by decide) ?_
      show oS T152 (mkF m 83 #[oa r0, oi 1, oi 1, .unset] []) _
      refine XS.iloadN X152.here hx rfl (hb hby d11_83) rfl ?_
      show oS T152 (mkF m 84 #[oa r0, oi 1, oi 1, .unset] [(.int (1 : Int32))]) _
      refine XS.aloadN X152.here hx rfl (hb hby d11_84) rfl rfl ?_
      exact kt
    obtain ⟨cq155, kq155, q155a, q155b, q155c⟩ := isOf hZ e152 f132
    obtain ⟨_, _, ⟨T156, L156, k156, n156⟩, -, X156, ⟨Lc156, hQ156, l156, y156, z156⟩, st156⟩ := X152.virtualBack hx (y := yy_6) (z := yy_6) hown (mvT hZ (own_t hw 108 rfl)) (mvT hZ (own_t hw 67 rfl)) (notFace_of_selects (args := #[]) (mvT hZ (own_t hw 69 rfl))) (mvT hZ (own_t hw 69 rfl)) (mvT hZ (own_t hw 68 rfl)) (by decide) (backOf (W := 1) (rm14 l Z a0 hw [] r0 ba ka (3 : Int32) [(.int (d.toInt8.toInt32)), (.int ((101 : Int32).toInt8.toInt32)), (.int (ez.toInt8.toInt32))] (.int 0) cs h129 n0 f131 f132 f133 f135 (SC.ext f136.2) hcs f134) hZ (own_t hw 70 rfl) (own_t hw 7 rfl) (by decide) (by decide)) q155a q155c (g := (mkF m 85 #[oa r0, oi 1, oi 1, .unset] [(.ref r0), (.int (1 : Int32))])) rfl (by rw [hml]; rfl) (Steps.refl _) (argsL := []) (rest := [(.int (1 : Int32))]) (lenOf pd_5 rfl) rfl (by show 2 * 0 + _ ≤ _; exact Nat.le_of_eq rfl) (hb hby d11_85) (fun _ _ => ⟨rfl, e152, (by decide : 2 + 0 ≤ _), (by decide : 8 + 0 ≤ _)⟩)
    dsimp only [Pt.U, Pt.locs, Pt.cells, Pt.slots] at X156 l156 y156 z156 st156 hQ156
    subst l156 y156 z156
    obtain ⟨rfl, N156q, e156⟩ := hQ156
    have N156 := Fr.app N152 N156q
    have c157 : own_G p e below T156 (mkF m 93 #[oa r0, oi 1, oi 1, .unset] [(.int (1 : Int32)), (.ref r0)]) (mkF m 88 #[oa r0, oi 1, oi 1, .unset] [(.int (3 : Int32)), (.int (1 : Int32))]) := by
      intro t kt
      show oS T156 (mkF m 88 #[oa r0, oi 1, oi 1, .unset] [(.int (3 : Int32)), (.int (1 : Int32))]) _
      refine XS.icmpNo X156.here hx rfl (hb hby d11_88) rfl (tlt (by decide : (1 : Int32) < (3 : Int32))).2.1 ?_
      show oS T156 (mkF m 91 #[oa r0, oi 1, oi 1, .unset] []) _
      refine XS.aloadN X156.here hx rfl (hb hby d11_91) rfl rfl ?_
      show oS T156 (mkF m 92 #[oa r0, oi 1, oi 1, .unset] [(.ref r0)]) _
      refine XS.iloadN X156.here hx rfl (hb hby d11_92) rfl ?_
      exact kt
    obtain ⟨cq158, kq158, q158a, q158b, q158c⟩ := isOf hZ e156 f132
    obtain ⟨_, _, ⟨T159, L159, k159, n159⟩, -, X159, ⟨Lc159, hQ159, l159, y159, z159⟩, st159⟩ := X156.virtualBack hx (y := yy_4) (z := yy_4) hown (mvT hZ (own_t hw 107 rfl)) (mvT hZ (own_t hw 86 rfl)) (notFace_of_selects (args := #[]) (mvT hZ (own_t hw 88 rfl))) (mvT hZ (own_t hw 88 rfl)) (mvT hZ (own_t hw 87 rfl)) (by decide) (backOf (W := 0) (rm18 l Z a0 hw [] r0 (1 : Int32) ba ka (3 : Int32) [(.int (d.toInt8.toInt32)), (.int ((101 : Int32).toInt8.toInt32)), (.int (ez.toInt8.toInt32))] (.int 0) ((101 : Int32).toInt8.toInt32) fm cs h129 n0 f131 f132 f133 f135 ⟨by decide, by decide⟩ rfl (SF.ext f136.2) hfm (SC.ext f136.2) hcs f134) hZ (own_t hw 89 rfl) (own_t hw 7 rfl) (by decide) (by decide)) q158a q158c (g := (mkF m 93 #[oa r0, oi 1, oi 1, .unset] [(.int (1 : Int32)), (.ref r0)])) rfl (by rw [hml]; rfl) (Steps.refl _) (argsL := [(.int (1 : Int32))]) (rest := []) (lenOf pd_8 rfl) rfl (by show 2 * 0 + _ ≤ _; exact Nat.le_of_eq rfl) (hb hby d11_93) (fun _ _ => ⟨rfl, e156, (by decide : 2 + 0 ≤ _), (by decide : 8 + 0 ≤ _)⟩)
    dsimp only [Pt.U, Pt.locs, Pt.cells, Pt.slots] at X159 l159 y159 z159 st159 hQ159
    subst l159 y159 z159
    obtain ⟨rfl, N159q, e159⟩ := hQ159
    have N159 := Fr.app N156 N159q
    have c160 : own_G p e below T159 (mkF m 96 #[oa r0, oi 1, oi 1, .unset] [(.int (101 : Int32))]) (mkF m 96 #[oa r0, oi 1, oi 1, .unset] [(.int (own_cc ((101 : Int32).toInt8.toInt32)))]) := fun t kt => castTop (congrArg (fun zv => (mkF m 96 #[oa r0, oi 1, oi 1, .unset] [(.int zv)])) (show (own_cc ((101 : Int32).toInt8.toInt32)) = (101 : Int32) from by decide)) kt
    have c161 : own_G p e below T159 (mkF m 116 #[oa r0, oi ((1 : Int32) + (1 : Int32)), oi 1, .unset] [(.ref r0), (.int ((1 : Int32) + (1 : Int32)))]) (mkF m 96 #[oa r0, oi 1, oi 1, .unset] [(.int (101 : Int32))]) := by
      intro t kt
      show oS T159 (mkF m 96 #[oa r0, oi 1, oi 1, .unset] [(.int (101 : Int32))]) _
      refine XS.bipush X159.here hx rfl (hb hby d11_96) ?_
      show oS T159 (mkF m 98 #[oa r0, oi 1, oi 1, .unset] [(.int (101 : Int32)), (.int (101 : Int32))]) _
      refine XS.icmpYes X159.here hx rfl (pc0 := 98) (pc' := 111) rfl (hb hby d11_98) rfl (teq (by decide : (101 : Int32) = (101 : Int32))).1 (by decide) (by decide) ?_
      show oS T159 (mkF m 111 #[oa r0, oi 1, oi 1, .unset] []) _
      refine XS.iinc X159.here hx rfl (hb hby d11_111) rfl (l' := #[oa r0, oi ((1 : Int32) + (1 : Int32)), oi 1, .unset]) rfl ?_
      show oS T159 (mkF m 114 #[oa r0, oi ((1 : Int32) + (1 : Int32)), oi 1, .unset] []) _
      refine XS.iloadN X159.here hx rfl (hb hby d11_114) rfl ?_
      show oS T159 (mkF m 115 #[oa r0, oi ((1 : Int32) + (1 : Int32)), oi 1, .unset] [(.int ((1 : Int32) + (1 : Int32)))]) _
      refine XS.aloadN X159.here hx rfl (hb hby d11_115) rfl rfl ?_
      exact kt
    obtain ⟨cq162, kq162, q162a, q162b, q162c⟩ := isOf hZ e159 f132
    obtain ⟨_, _, ⟨T163, L163, k163, n163⟩, -, X163, ⟨Lc163, hQ163, l163, y163, z163⟩, st163⟩ := X159.virtualBack hx (y := yy_6) (z := yy_6) hown (mvT hZ (own_t hw 108 rfl)) (mvT hZ (own_t hw 67 rfl)) (notFace_of_selects (args := #[]) (mvT hZ (own_t hw 69 rfl))) (mvT hZ (own_t hw 69 rfl)) (mvT hZ (own_t hw 68 rfl)) (by decide) (backOf (W := 1) (rm14 l Z a0 hw [] r0 ba ka (3 : Int32) [(.int (d.toInt8.toInt32)), (.int ((101 : Int32).toInt8.toInt32)), (.int (ez.toInt8.toInt32))] (.int 0) cs h129 n0 f131 f132 f133 f135 (SC.ext f136.2) hcs f134) hZ (own_t hw 70 rfl) (own_t hw 7 rfl) (by decide) (by decide)) q162a q162c (g := (mkF m 116 #[oa r0, oi ((1 : Int32) + (1 : Int32)), oi 1, .unset] [(.ref r0), (.int ((1 : Int32) + (1 : Int32)))])) rfl (by rw [hml]; rfl) (Steps.refl _) (argsL := []) (rest := [(.int ((1 : Int32) + (1 : Int32)))]) (lenOf pd_5 rfl) rfl (by show 2 * 0 + _ ≤ _; exact Nat.le_of_eq rfl) (hb hby d11_116) (fun _ _ => ⟨rfl, e159, (by decide : 2 + 0 ≤ _), (by decide : 8 + 0 ≤ _)⟩)
    dsimp only [Pt.U, Pt.locs, Pt.cells, Pt.slots] at X163 l163 y163 z163 st163 hQ163
    subst l163 y163 z163
    obtain ⟨rfl, N163q, e163⟩ := hQ163
    have N163 := Fr.app N159 N163q
    have c164 : own_G p e below T163 (mkF m 124 #[oa r0, oi ((1 : Int32) + (1 : Int32)), oi 1, .unset] [(.int ((1 : Int32) + (1 : Int32))), (.ref r0)]) (mkF m 119 #[oa r0, oi ((1 : Int32) + (1 : Int32)), oi 1, .unset] [(.int (3 : Int32)), (.int ((1 : Int32) + (1 : Int32)))]) := by
      intro t kt
      show oS T163 (mkF m 119 #[oa r0, oi ((1 : Int32) + (1 : Int32)), oi 1, .unset] [(.int (3 : Int32)), (.int ((1 : Int32) + (1 : Int32)))]) _
      refine XS.icmpNo X163.here hx rfl (hb hby d11_119) rfl (tlt (by decide : ((1 : Int32) + (1 : Int32)) < (3 : Int32))).2.1 ?_
      show oS T163 (mkF m 122 #[oa r0, oi ((1 : Int32) + (1 : Int32)), oi 1, .unset] []) _
      refine XS.aloadN X163.here hx rfl (hb hby d11_122) rfl rfl ?_
      show oS T163 (mkF m 123 #[oa r0, oi ((1 : Int32) + (1 : Int32)), oi 1, .unset] [(.ref r0)]) _
      refine XS.iloadN X163.here hx rfl (hb hby d11_123) rfl ?_
      exact kt
    have c165 : own_G p e below T163 (mkF m 124 #[oa r0, oi 2, oi 1, .unset] [(.int (2 : Int32)), (.ref r0)]) (mkF m 124 #[oa r0, oi ((1 : Int32) + (1 : Int32)), oi 1, .unset] [(.int ((1 : Int32) + (1 : Int32))), (.ref r0)]) := fun t kt => castTop (congrArg (fun zv => (mkF m 124 #[oa r0, oi zv, oi 1, .unset] [(.int zv), (.ref r0)])) (show ((1 : Int32) + (1 : Int32)) = (2 : Int32) from by decide)) kt
    obtain ⟨cq166, kq166, q166a, q166b, q166c⟩ := isOf hZ e163 f132
    obtain ⟨_, _, ⟨T167, L167, k167, n167⟩, -, X167, ⟨Lc167, hQ167, l167, y167, z167⟩, st167⟩ := X163.virtualBack hx (y := yy_4) (z := yy_4) hown (mvT hZ (own_t hw 107 rfl)) (mvT hZ (own_t hw 86 rfl)) (notFace_of_selects (args := #[]) (mvT hZ (own_t hw 88 rfl))) (mvT hZ (own_t hw 88 rfl)) (mvT hZ (own_t hw 87 rfl)) (by decide) (backOf (W := 0) (rm18 l Z a0 hw [] r0 (2 : Int32) ba ka (3 : Int32) [(.int (d.toInt8.toInt32)), (.int ((101 : Int32).toInt8.toInt32)), (.int (ez.toInt8.toInt32))] (.int 0) (ez.toInt8.toInt32) fm cs h129 n0 f131 f132 f133 f135 ⟨by decide, by decide⟩ rfl (SF.ext f136.2) hfm (SC.ext f136.2) hcs f134) hZ (own_t hw 89 rfl) (own_t hw 7 rfl) (by decide) (by decide)) q166a q166c (g := (mkF m 124 #[oa r0, oi 2, oi 1, .unset] [(.int (2 : Int32)), (.ref r0)])) rfl (by rw [hml]; rfl) (Steps.refl _) (argsL := [(.int (2 : Int32))]) (rest := []) (lenOf pd_8 rfl) rfl (by show 2 * 0 + _ ≤ _; exact Nat.le_of_eq rfl) (hb hby d11_124) (fun _ _ => ⟨rfl, e163, (by decide : 2 + 0 ≤ _), (by decide : 8 + 0 ≤ _)⟩)
    dsimp only [Pt.U, Pt.locs, Pt.cells, Pt.slots] at X167 l167 y167 z167 st167 hQ167
    subst l167 y167 z167
    obtain ⟨rfl, N167q, e167⟩ := hQ167
    have N167 := Fr.app N163 N167q
    have c168 : own_G p e below T167 (mkF m 127 #[oa r0, oi 2, oi 1, .unset] [(.int ez)]) (mkF m 127 #[oa r0, oi 2, oi 1, .unset] [(.int (own_cc (ez.toInt8.toInt32)))]) := fun t kt => castTop (congrArg (fun zv => (mkF m 127 #[oa r0, oi 2, oi 1, .unset] [(.int zv)])) (show (own_cc (ez.toInt8.toInt32)) = ez from own_ccv _ (own_dr h_ez).1 (own_dr h_ez).2)) kt
    have c170 : own_G p e below T167 (mkF m 129 #[oa r0, oi 2, oi 1, .unset] [(.int (43 : Int32)), (.int ez)]) (mkF m 127 #[oa r0, oi 2, oi 1, .unset] [(.int ez)]) := by
      intro t kt
      show oS T167 (mkF m 127 #[oa r0, oi 2, oi 1, .unset] [(.int ez)]) _
      refine XS.bipush X167.here hx rfl (hb hby d11_127) ?_
      exact kt
    have hd169 : ¬ (ez = (43 : Int32)) := own_dne h_ez (by decide)
    have c171 : own_G p e below T167 (mkF m 134 #[oa r0, oi 2, oi 1, .unset] [(.int (2 : Int32)), (.ref r0)]) (mkF m 129 #[oa r0, oi 2, oi 1, .unset] [(.int (43 : Int32)), (.int ez)]) := by
      intro t kt
      show oS T167 (mkF m 129 #[oa r0, oi 2, oi 1, .unset] [(.int (43 : Int32)), (.int ez)]) _
      refine XS.icmpNo X167.here hx rfl (hb hby d11_129) rfl (feq hd169).1 ?_
      show oS T167 (mkF m 132 #[oa r0, oi 2, oi 1, .unset] []) _
      refine XS.aloadN X167.here hx rfl (hb hby d11_132) rfl rfl ?_
      show oS T167 (mkF m 133 #[oa r0, oi 2, oi 1, .unset] [(.ref r0)]) _
      refine XS.iloadN X167.here hx rfl (hb hby d11_133) rfl ?_
      exact kt
    obtain ⟨cq172, kq172, q172a, q172b, q172c⟩ := isOf hZ e167 f132
    obtain ⟨_, _, ⟨T173, L173, k173, n173⟩, -, X173, ⟨Lc173, hQ173, l173, y173, z173⟩, st173⟩ := X167.virtualBack hx (y := yy_4) (z := yy_4) hown (mvT hZ (own_t hw 107 rfl)) (mvT hZ (own_t hw 86 rfl)) (notFace_of_selects (args := #[]) (mvT hZ (own_t hw 88 rfl))) (mvT hZ (own_t hw 88 rfl)) (mvT hZ (own_t hw 87 rfl)) (by decide) (backOf (W := 0) (rm18 l Z a0 hw [] r0 (2 : Int32) ba ka (3 : Int32) [(.int (d.toInt8.toInt32)), (.int ((101 : Int32).toInt8.toInt32)), (.int (ez.toInt8.toInt32))] (.int 0) (ez.toInt8.toInt32) fm cs h129 n0 f131 f132 f133 f135 ⟨by decide, by decide⟩ rfl (SF.ext f136.2) hfm (SC.ext f136.2) hcs f134) hZ (own_t hw 89 rfl) (own_t hw 7 rfl) (by decide) (by decide)) q172a q172c (g := (mkF m 134 #[oa r0, oi 2, oi 1, .unset] [(.int (2 : Int32)), (.ref r0)])) rfl (by rw [hml]; rfl) (Steps.refl _) (argsL := [(.int (2 : Int32))]) (rest := []) (lenOf pd_8 rfl) rfl (by show 2 * 0 + _ ≤ _; exact Nat.le_of_eq rfl) (hb hby d11_134) (fun _ _ => ⟨rfl, e167, (by decide : 2 + 0 ≤ _), (by decide : 8 + 0 ≤ _)⟩)
    dsimp only [Pt.U, Pt.locs, Pt.cells, Pt.slots] at X173 l173 y173 z173 st173 hQ173
    subst l173 y173 z173
    obtain ⟨rfl, N173q, e173⟩ := hQ173
    have N173 := Fr.app N167 N173q
    have c174 : own_G p e below T173 (mkF m 137 #[oa r0, oi 2, oi 1, .unset] [(.int ez)]) (mkF m 137 #[oa r0, oi 2, oi 1, .unset] [(.int (own_cc (ez.toInt8.toInt32)))]) := fun t kt => castTop (congrArg (fun zv => (mkF m 137 #[oa r0, oi 2, oi 1, .unset] [(.int zv)])) (show (own_cc (ez.toInt8.toInt32)) = ez from own_ccv _ (own_dr h_ez).1 (own_dr h_ez).2)) kt
    have c176 : own_G p e below T173 (mkF m 139 #[oa r0, oi 2, oi 1, .unset] [(.int (45 : Int32)), (.int ez)]) (mkF m 137 #[oa r0, oi 2, oi 1, .unset] [(.int ez)]) := by
      intro t kt
      show oS T173 (mkF m 137 #[oa r0, oi 2, oi 1, .unset] [(.int ez)]) _
      refine XS.bipush X173.here hx rfl (hb hby d11_137) ?_
      exact kt
    have hd175 : ¬ (ez = (45 : Int32)) := own_dne h_ez (by decide)
    have c177 : own_G p e below T173 (mkF m 147 #[oa r0, oi 2, oi 1, .unset] [(.int (2 : Int32)), (.ref r0)]) (mkF m 139 #[oa r0, oi 2, oi 1, .unset] [(.int (45 : Int32)), (.int ez)]) := by
      intro t kt
      show oS T173 (mkF m 139 #[oa r0, oi 2, oi 1, .unset] [(.int (45 : Int32)), (.int ez)]) _
      refine XS.icmpYes X173.here hx rfl (pc0 := 139) (pc' := 145) rfl (hb hby d11_139) rfl (feq hd175).2 (by decide) (by decide) ?_
      show oS T173 (mkF m 145 #[oa r0, oi 2, oi 1, .unset] []) _
      refine XS.aloadN X173.here hx rfl (hb hby d11_145) rfl rfl ?_
      show oS T173 (mkF m 146 #[oa r0, oi 2, oi 1, .unset] [(.ref r0)]) _
      refine XS.iloadN X173.here hx rfl (hb hby d11_146) rfl ?_
      exact kt
    obtain ⟨_, _, ⟨T178, L178, k178, n178⟩, -, X178, ⟨Lc178, hQ178, l178, y178, z178⟩, st178⟩ := Jvm.LawKit.callS X173 hx (y := yy_10) hown (mvT hZ (own_t hw 80 rfl)) (mvT hZ (own_t hw 81 rfl)) (mvT hZ (own_t hw 82 rfl)) (mvT hZ (own_t hw 83 rfl)) (by decide) (backOf (W := 0) (rm17_e l Z a0 hw []  r0 ba ka cs fm d (101 : Int32) ez h129 n0 f131 f132 f133 f134 f135 (SC.ext f136.2) hcs (SF.ext f136.2) hfm h_ez) hZ (own_t hw 83 rfl) (own_t hw 82 rfl) (by decide) (by decide)) (g := (mkF m 147 #[oa r0, oi 2, oi 1, .unset] [(.int (2 : Int32)), (.ref r0)])) rfl (by rw [hml]; rfl) (argsL := [(.ref r0), (.int (2 : Int32))]) (rest := []) (lenOf pd_10 rfl) rfl (by show 2 * 0 + _ ≤ _; exact Nat.le_of_eq rfl) (hb hby d11_147) (fun _ _ => ⟨rfl, e173, (by decide : 2 + 0 ≤ _), (by decide : 8 + 0 ≤ _)⟩)
    dsimp only [Pt.U, Pt.locs, Pt.cells, Pt.slots] at X178 l178 y178 z178 st178 hQ178
    subst l178 y178 z178
    obtain ⟨rfl, N178q, e178⟩ := hQ178
    have N178 := Fr.app N173 N178q
    have c179 : own_G p e below T178 (mkF m 162 #[oa r0, oi 3, oi 1, oi 3] [(.ref r0), (.int (3 : Int32))]) (mkF m 150 #[oa r0, oi 2, oi 1, .unset] [(.int (3 : Int32))]) := by
      intro t kt
      show oS T178 (mkF m 150 #[oa r0, oi 2, oi 1, .unset] [(.int (3 : Int32))]) _
      refine XS.istoreN X178.here hx rfl (hb hby d11_150) rfl (l' := #[oa r0, oi 2, oi 1, oi 3]) rfl ?_
      show oS T178 (mkF m 151 #[oa r0, oi 2, oi 1, oi 3] []) _
      refine XS.iloadN X178.here hx rfl (hb hby d11_151) rfl ?_
      show oS T178 (mkF m 152 #[oa r0, oi 2, oi 1, oi 3] [(.int (3 : Int32))]) _
      refine XS.iloadN X178.here hx rfl (hb hby d11_152) rfl ?_
      show oS T178 (mkF m 153 #[oa r0, oi 2, oi 1, oi 3] [(.int (2 : Int32)), (.int (3 : Int32))]) _
      refine XS.icmpYes X178.here hx rfl (pc0 := 153) (pc' := 158) rfl (hb hby d11_153) rfl (feq (by decide : ¬ ((3 : Int32) = (2 : Int32)))).2 (by decide) (by decide) ?_
      show oS T178 (mkF m 158 #[oa r0, oi 2, oi 1, oi 3] []) _
      refine XS.iloadN X178.here hx rfl (hb hby d11_158) rfl ?_
      show oS T178 (mkF m 159 #[oa r0, oi 2, oi 1, oi 3] [(.int (3 : Int32))]) _
      refine XS.istoreN X178.here hx rfl (hb hby d11_159) rfl (l' := #[oa r0, oi 3, oi 1, oi 3]) rfl ?_
      show oS T178 (mkF m 160 #[oa r0, oi 3, oi 1, oi 3] []) _
      refine XS.iloadN X178.here hx rfl (hb hby d11_160) rfl ?_
      show oS T178 (mkF m 161 #[oa r0, oi 3, oi 1, oi 3] [(.int (3 : Int32))]) _
      refine XS.aloadN X178.here hx rfl (hb hby d11_161) rfl rfl ?_
      exact kt
    obtain ⟨cq180, kq180, q180a, q180b, q180c⟩ := isOf hZ e178 f132
    obtain ⟨_, _, ⟨T181, L181, k181, n181⟩, -, X181, ⟨Lc181, hQ181, l181, y181, z181⟩, st181⟩ := X178.virtualBack hx (y := yy_6) (z := yy_6) hown (mvT hZ (own_t hw 108 rfl)) (mvT hZ (own_t hw 67 rfl)) (notFace_of_selects (args := #[]) (mvT hZ (own_t hw 69 rfl))) (mvT hZ (own_t hw 69 rfl)) (mvT hZ (own_t hw 68 rfl)) (by decide) (backOf (W := 1) (rm14 l Z a0 hw [] r0 ba ka (3 : Int32) [(.int (d.toInt8.toInt32)), (.int ((101 : Int32).toInt8.toInt32)), (.int (ez.toInt8.toInt32))] (.int 0) cs h129 n0 f131 f132 f133 f135 (SC.ext f136.2) hcs f134) hZ (own_t hw 70 rfl) (own_t hw 7 rfl) (by decide) (by decide)) q180a q180c (g := (mkF m 162 #[oa r0, oi 3, oi 1, oi 3] [(.ref r0), (.int (3 : Int32))])) rfl (by rw [hml]; rfl) (Steps.refl _) (argsL := []) (rest := [(.int (3 : Int32))]) (lenOf pd_5 rfl) rfl (by show 2 * 0 + _ ≤ _; exact Nat.le_of_eq rfl) (hb hby d11_162) (fun _ _ => ⟨rfl, e178, (by decide : 2 + 0 ≤ _), (by decide : 8 + 0 ≤ _)⟩)
    dsimp only [Pt.U, Pt.locs, Pt.cells, Pt.slots] at X181 l181 y181 z181 st181 hQ181
    subst l181 y181 z181
    obtain ⟨rfl, N181q, e181⟩ := hQ181
    have N181 := Fr.app N178 N181q
    have c182 : own_G p e below T181 (mkF m 173 #[oa r0, oi 3, oi 1, oi 3] [(.int (1 : Int32))]) (mkF m 165 #[oa r0, oi 3, oi 1, oi 3] [(.int (3 : Int32)), (.int (3 : Int32))]) := by
      intro t kt
      show oS T181 (mkF m 165 #[oa r0, oi 3, oi 1, oi 3] [(.int (3 : Int32)), (.int (3 : Int32))]) _
      refine XS.icmpNo X181.here hx rfl (hb hby d11_165) rfl (teq (by decide : (3 : Int32) = (3 : Int32))).2 ?_
      show oS T181 (mkF m 168 #[oa r0, oi 3, oi 1, oi 3] []) _
      refine XS.iconst X181.here hx rfl (hb hby d11_168) ?_
      show oS T181 (mkF m 169 #[oa r0, oi 3, oi 1, oi 3] [(.int (1 : Int32))]) _
      refine XS.goto X181.here hx rfl (pc0 := 169) (pc' := 173) rfl (hb hby d11_169) (by decide) (by decide) ?_
      exact kt
    obtain ⟨fs, hr, hrun, hended, hwd⟩ := Stand.leaveW (s := s) (vm₁ := T129.vm) X181 hS129 (by rw [e181]; exact hk129) (v := some (.int (1 : Int32))) (fun h => by rw [Bd.returns] at h; cases h)
    have hCr : CHr Z consts_1 s.vm s.heap (T181.setFrames fs).vm (T181.setFrames fs).heap := by
      show CHr Z consts_1 s.vm s.heap T181.vm T181.heap
      rw [hh, e181]
      exact ch129.trans (CHv.at (s := s) (vm0 := T129.vm) X181 hZ hEL ch129.1)
    have f184 := ((Keep.refl h0 []).ext E129)
    refine ⟨_, _, pre0 _ (c130 _ (st129 _ (st138.trans (c139 _ (c140 _ (st141 _ (c142 _ (st144.trans (c145 _ (c146 _ (c147 _ (st149.trans (c150 _ (st152.trans (c153 _ (c154 _ (st156.trans (c157 _ (st159.trans (c160 _ (c161 _ (st163.trans (c164 _ (c165 _ (st167.trans (c168 _ (c170 _ (c171 _ (st173.trans (c174 _ (c176 _ (c177 _ (st178 _ (c179 _ (st181.trans (c182 _ (?_))))))))))))))))))))))))))))))))))))), hrun, hended, _, _, rfl, ?_, hCr, hwd.1, hwd.2.1, hwd.2.2.1, hwd.2.2.2.mono (by decide) (by decide)⟩
    · show Steps p.tables e below (T181.setTop (mkF m 173 #[oa r0, oi 3, oi 1, oi 3] [(.int (1 : Int32))])) _
      exact retN X181 hx (t := .boolean) Bd.returns (by simp) (hb hby d11_173) hr
    · show Q11 Z r0 ba ka cs fm tx h0 n0 _ T181.heap _
      rw [e181]
      exact ⟨rfl, N181, f184⟩
  · skip
    rw [htx] at Va
    have Vx : Arv Z h0 ba ka .byte (3 : Int32) [(.int (d.toInt8.toInt32)), (.int ((69 : Int32).toInt8.toInt32)), (.int (ez.toInt8.toInt32))] (.int 0) := Va
    have c186 : own_G p e below s₁ (mkF m 1 #[oa r0, .unset, .unset, .unset] [(.ref r0)]) (mkF m 0 #[oa r0, .unset, .unset, .unset] []) := by
      intro t kt
      show oS s₁ (mkF m 0 #[oa r0, .unset, .unset, .unset] []) _
      refine XS.aloadN X0.here hx rfl (hb hby d11_0) rfl rfl ?_
      exact kt
    obtain ⟨a185, T185, h185, j185, b185, kb185, X185, e185, E185, hS185, hk185, hZ, hown, Es185, Fc185, Fv185, Va185, la185, lb185, CH185, Lt185, Sf185, st185⟩ := ldcCH (s := s) (vm0 := s.vm) X0 hx hZ hown (own_t hw 55 rfl) hwS e0 hS0 (Nat.zero_le _) hEL (List.mem_of_getElem? (i := 1) rfl) (CHr.refl hCH).1 (vs := [(.int (45 : Int32))]) (z := (1 : Int32)) ⟨by decide, rfl⟩ (by decide) rfl (g := (mkF m 1 #[oa r0, .unset, .unset, .unset] [(.ref r0)])) rfl (hb hby d11_1) (n := 4) (by decide) (by decide) (by decide) (by decide)
    have ch185 := (CHr.refl hCH).trans CH185
    have f187 := (Nat.le_trans Z0 E185.1)
    have f188 := (Ea.ext E185)
    have f189 := (Fa.ext E185)
    have f190 := (Ca.ext E185)
    have f191 := (Vx.ext E185)
    have f192 := (O0.ext E185)
    obtain ⟨cq193, kq193, q193a, q193b, q193c⟩ := isOf hZ e185 f188
    obtain ⟨_, _, ⟨T194, L194, k194, n194⟩, -, X194, ⟨Lc194, hQ194, l194, y194, z194⟩, st194⟩ := X185.virtualBack hx (y := yy_9) (z := yy_9) hown (mvT hZ (own_t hw 56 rfl)) (mvT hZ (own_t hw 57 rfl)) (notFace_of_selects (args := #[]) (mvT hZ (own_t hw 59 rfl))) (mvT hZ (own_t hw 59 rfl)) (mvT hZ (own_t hw 58 rfl)) (by decide) (backOf (W := 0) (rm12 l Z a0 hw [] r0 a185 ba b185 ka kb185 cs (3 : Int32) [(.int (d.toInt8.toInt32)), (.int ((69 : Int32).toInt8.toInt32)), (.int (ez.toInt8.toInt32))] (d.toInt8.toInt32) h185 n0 f187 f188 f189 f190 f191 Es185 Fv185 Fc185 Va185 (SC.ext f192.2) hcs ⟨by decide, by decide⟩ rfl (by decide)) hZ (own_t hw 60 rfl) (own_t hw 7 rfl) (by decide) (by decide)) q193a q193c (g := (mkF m 3 #[oa r0, .unset, .unset, .unset] [(.ref a185), (.ref r0)])) rfl (by rw [hml]; rfl) (Steps.refl _) (argsL := [(.ref a185)]) (rest := []) (lenOf pd_9 rfl) rfl (by show 2 * 0 + _ ≤ _; exact Nat.le_of_eq rfl) (hb hby d11_3) (fun _ _ => ⟨rfl, e185, (by decide : 2 + 0 ≤ _), (by decide : 8 + 0 ≤ _)⟩)
    dsimp only [Pt.U, Pt.locs, Pt.cells, Pt.slots] at X194 l194 y194 z194 st194 hQ194
    subst l194 y194 z194
    obtain ⟨rfl, N194q, e194⟩ := hQ194
    have N194 := Fr.app N0 N194q
    have c195 : own_G p e below T194 (mkF m 6 #[oa r0, .unset, .unset, .unset] [(.int (0 : Int32))]) (mkF m 6 #[oa r0, .unset, .unset, .unset] [(.int ((own_sw (d.toInt8.toInt32)) &&& 1))]) := fun t kt => castTop (congrArg (fun zv => (mkF m 6 #[oa r0, .unset, .unset, .unset] [(.int zv)])) (show ((own_sw (d.toInt8.toInt32)) &&& 1) = (0 : Int32) from own_swd h_d)) kt
    have c196 : own_G p e below T194 (mkF m 17 #[oa r0, oi 0, .unset, .unset] [(.int (0 : Int32)), (.ref r0)]) (mkF m 6 #[oa r0, .unset, .unset, .unset] [(.int (0 : Int32))]) := by
      intro t kt
      show oS T194 (mkF m 6 #[oa r0, .unset, .unset, .unset] [(.int (0 : Int32))]) _
      refine XS.ifYes X194.here hx rfl (pc0 := 6) (pc' := 13) rfl (hb hby d11_6) rfl ((if0 _ _).trans (teq (by decide : (0 : Int32) = (0 : Int32))).1) (by decide) (by decide) ?_
      show oS T194 (mkF m 13 #[oa r0, .unset, .unset, .unset] []) _
      refine XS.iconst X194.here hx rfl (hb hby d11_13) ?_
      show oS T194 (mkF m 14 #[oa r0, .unset, .unset, .unset] [(.int (0 : Int32))]) _
      refine XS.istoreN X194.here hx rfl (hb hby d11_14) rfl (l' := #[oa r0, oi 0, .unset, .unset]) rfl ?_
      show oS T194 (mkF m 15 #[oa r0, oi 0, .unset, .unset] []) _
      refine XS.aloadN X194.here hx rfl (hb hby d11_15) rfl rfl ?_
      show oS T194 (mkF m 16 #[oa r0, oi 0, .unset, .unset] [(.ref r0)]) _
      refine XS.iloadN X194.here hx rfl (hb hby d11_16) rfl ?_
      exact kt
    obtain ⟨_, _, ⟨T197, L197, k197, n197⟩, -, X197, ⟨Lc197, hQ197, l197, y197, z197⟩, st197⟩ := Jvm.LawKit.callS X194 hx (y := yy_10) hown (mvT hZ (own_t hw 80 rfl)) (mvT hZ (own_t hw 81 rfl)) (mvT hZ (own_t hw 82 rfl)) (mvT hZ (own_t hw 83 rfl)) (by decide) (backOf (W := 0) (rm17_d l Z a0 hw []  r0 ba ka cs fm d (69 : Int32) ez h185 n0 f187 f188 f189 f190 f191 (SC.ext f192.2) hcs (SF.ext f192.2) hfm h_d (by unfold own_r; decide)) hZ (own_t hw 83 rfl) (own_t hw 82 rfl) (by decide) (by decide)) (g := (mkF m 17 #[oa r0, oi 0, .unset, .unset] [(.int (0 : Int32)), (.ref r0)])) rfl (by rw [hml]; rfl) (argsL := [(.ref r0), (.int (0 : Int32))]) (rest := []) (lenOf pd_10 rfl) rfl (by show 2 * 0 + _ ≤ _; exact Nat.le_of_eq rfl) (hb hby d11_17) (fun _ _ => ⟨rfl, e194, (by decide : 2 + 0 ≤ _), (by decide : 8 + 0 ≤ _)⟩)
    dsimp only [Pt.U, Pt.locs, Pt.cells, Pt.slots] at X197 l197 y197 z197 st197 hQ197
    subst l197 y197 z197
    obtain ⟨rfl, N197q, e197⟩ := hQ197
    have N197 := Fr.app N194 N197q
    have c198 : own_G p e below T197 (mkF m 30 #[oa r0, oi 0, oi 1, .unset] [(.int (0 : Int32)), (.ref r0)]) (mkF m 20 #[oa r0, oi 0, .unset, .unset] [(.int (1 : Int32))]) := by
      intro t kt
      show oS T197 (mkF m 20 #[oa r0, oi 0, .unset, .unset] [(.int (1 : Int32))]) _
      refine XS.istoreN X197.here hx rfl (hb hby d11_20) rfl (l' := #[oa r0, oi 0, oi 1, .unset]) rfl ?_
      show oS T197 (mkF m 21 #[oa r0, oi 0, oi 1, .unset] []) _
      refine XS.iloadN X197.here hx rfl (hb hby d11_21) rfl ?_
      show oS T197 (mkF m 22 #[oa r0, oi 0, oi 1, .unset] [(.int (1 : Int32))]) _
      refine XS.iloadN X197.here hx rfl (hb hby d11_22) rfl ?_
      show oS T197 (mkF m 23 #[oa r0, oi 0, oi 1, .unset] [(.int (0 : Int32)), (.int (1 : Int32))]) _
      refine XS.icmpYes X197.here hx rfl (pc0 := 23) (pc' := 28) rfl (hb hby d11_23) rfl (feq (by decide : ¬ ((1 : Int32) = (0 : Int32)))).2 (by decide) (by decide) ?_
      show oS T197 (mkF m 28 #[oa r0, oi 0, oi 1, .unset] []) _
      refine XS.aloadN X197.here hx rfl (hb hby d11_28) rfl rfl ?_
      show oS T197 (mkF m 29 #[oa r0, oi 0, oi 1, .unset] [(.ref r0)]) _
      refine XS.iloadN X197.here hx rfl (hb hby d11_29) rfl ?_
      exact kt
    obtain ⟨cq199, kq199, q199a, q199b, q199c⟩ := isOf hZ e197 f188
    obtain ⟨_, _, ⟨T200, L200, k200, n200⟩, -, X200, ⟨Lc200, hQ200, l200, y200, z200⟩, st200⟩ := X197.virtualBack hx (y := yy_4) (z := yy_4) hown (mvT hZ (own_t hw 107 rfl)) (mvT hZ (own_t hw 86 rfl)) (notFace_of_selects (args := #[]) (mvT hZ (own_t hw 88 rfl))) (mvT hZ (own_t hw 88 rfl)) (mvT hZ (own_t hw 87 rfl)) (by decide) (backOf (W := 0) (rm18 l Z a0 hw [] r0 (0 : Int32) ba ka (3 : Int32) [(.int (d.toInt8.toInt32)), (.int ((69 : Int32).toInt8.toInt32)), (.int (ez.toInt8.toInt32))] (.int 0) (d.toInt8.toInt32) fm cs h185 n0 f187 f188 f189 f191 ⟨by decide, by decide⟩ rfl (SF.ext f192.2) hfm (SC.ext f192.2) hcs f190) hZ (own_t hw 89 rfl) (own_t hw 7 rfl) (by decide) (by decide)) q199a q199c (g := (mkF m 30 #[oa r0, oi 0, oi 1, .unset] [(.int (0 : Int32)), (.ref r0)])) rfl (by rw [hml]; rfl) (Steps.refl _) (argsL := [(.int (0 : Int32))]) (rest := []) (lenOf pd_8 rfl) rfl (by show 2 * 0 + _ ≤ _; exact Nat.le_of_eq rfl) (hb hby d11_30) (fun _ _ => ⟨rfl, e197, (by decide : 2 + 0 ≤ _), (by decide : 8 + 0 ≤ _)⟩)
    dsimp only [Pt.U, Pt.locs, Pt.cells, Pt.slots] at X200 l200 y200 z200 st200 hQ200
    subst l200 y200 z200
    obtain ⟨rfl, N200q, e200⟩ := hQ200
    have N200 := Fr.app N197 N200q
    have c201 : own_G p e below T200 (mkF m 33 #[oa r0, oi 0, oi 1, .unset] [(.int d)]) (mkF m 33 #[oa r0, oi 0, oi 1, .unset] [(.int (own_cc (d.toInt8.toInt32)))]) := fun t kt => castTop (congrArg (fun zv => (mkF m 33 #[oa r0, oi 0, oi 1, .unset] [(.int zv)])) (show (own_cc (d.toInt8.toInt32)) = d from own_ccv _ (own_dr h_d).1 (own_dr h_d).2)) kt
    have c202 : ∀ t, own_S p e below T200 (mkF m 45 #[oa r0, oi 0, oi 1, .unset] [(.int (1 : Int32))]) t → own_S p e below T200 (mkF m 33 #[oa r0, oi 0, oi 1, .unset] [(.int d)]) t := by
      intro t kt
      show oS T200 (mkF m 33 #[oa r0, oi 0, oi 1, .unset] [(.int d)]) _
      refine XS.bipush X200.here hx rfl (hb hby d11_33) ?_
      by_cases hc35 : d = (48 : Int32)
      · -- it is
        show oS T200 (mkF m 35 #[oa r0, oi 0, oi 1, .unset] [(.int (48 : Int32)), (.int d)]) _
        refine XS.icmpNo X200.here hx rfl (hb hby d11_35) rfl (teq hc35).2 ?_
        show oS T200 (mkF m 38 #[oa r0, oi 0, oi 1, .unset] []) _
        refine XS.iloadN X200.here hx rfl (hb hby d11_38) rfl ?_
        show oS T200 (mkF m 39 #[oa r0, oi 0, oi 1, .unset] [(.int (0 : Int32))]) _
        refine XS.iconst X200.here hx rfl (hb hby d11_39) ?_
        show oS T200 (mkF m 40 #[oa r0, oi 0, oi 1, .unset] [(.int (1 : Int32)), (.int (0 : Int32))]) _
        refine XS.iadd X200.here hx rfl (hb hby d11_40) rfl ?_
        show oS T200 (mkF m 41 #[oa r0, oi 0, oi 1, .unset] [(.int ((0 : Int32) + (1 : Int32)))]) _
        refine XS.goto X200.here hx rfl (pc0 := 41) (pc' := 45) rfl (hb hby d11_41) (by decide) (by decide) ?_
        rw [show (1 : Int32) = ((0 : Int32) + (1 : Int32)) from by decide] at kt
        exact kt
      · -- it isn't
        show oS T200 (mkF m 35 #[oa r0, oi 0, oi 1, .unset] [(.int (48 : Int32)), (.int d)]) _
        refine XS.icmpYes X200.here hx rfl (pc0 := 35) (pc' := 44) rfl (hb hby d11_35) rfl (feq hc35).2 (by decide) (by decide) ?_
        show oS T200 (mkF m 44 #[oa r0, oi 0, oi 1, .unset] []) _
        refine XS.iloadN X200.here hx rfl (hb hby d11_44) rfl ?_
        exact kt
    have c203 : own_G p e below T200 (mkF m 48 #[oa r0, oi 1, oi 1, .unset] [(.ref r0), (.int (1 : Int32))]) (mkF m 45 #[oa r0, oi 0, oi 1, .unset] [(.int (1 : Int32))]) := by
      intro t kt
      show oS T200 (mkF m 45 #[oa r0, oi 0, oi 1, .unset] [(.int (1 : Int32))]) _
      refine XS.istoreN X200.here hx rfl (hb hby d11_45) rfl (l' := #[oa r0, oi 1, oi 1, .unset]) rfl ?_
      show oS T200 (mkF m 46 #[oa r0, oi 1, oi 1, .unset] []) _
      refine XS.iloadN X200.here hx rfl (hb hby d11_46) rfl ?_
      show oS T200 (mkF m 47 #[oa r0, oi 1, oi 1, .unset] [(.int (1 : Int32))]) _
      refine XS.aloadN X200.here hx rfl (hb hby d11_47) rfl rfl ?_
      exact kt
    obtain ⟨cq204, kq204, q204a, q204b, q204c⟩ := isOf hZ e200 f188
    obtain ⟨_, _, ⟨T205, L205, k205, n205⟩, -, X205, ⟨Lc205, hQ205, l205, y205, z205⟩, st205⟩ := X200.virtualBack hx (y := yy_6) (z := yy_6) hown (mvT hZ (own_t hw 108 rfl)) (mvT hZ (own_t hw 67 rfl)) (notFace_of_selects (args := #[]) (mvT hZ (own_t hw 69 rfl))) (mvT hZ (own_t hw 69 rfl)) (mvT hZ (own_t hw 68 rfl)) (by decide) (backOf (W := 1) (rm14 l Z a0 hw [] r0 ba ka (3 : Int32) [(.int (d.toInt8.toInt32)), (.int ((69 : Int32).toInt8.toInt32)), (.int (ez.toInt8.toInt32))] (.int 0) cs h185 n0 f187 f188 f189 f191 (SC.ext f192.2) hcs f190) hZ (own_t hw 70 rfl) (own_t hw 7 rfl) (by decide) (by decide)) q204a q204c (g := (mkF m 48 #[oa r0, oi 1, oi 1, .unset] [(.ref r0), (.int (1 : Int32))])) rfl (by rw [hml]; rfl) (Steps.refl _) (argsL := []) (rest := [(.int (1 : Int32))]) (lenOf pd_5 rfl) rfl (by show 2 * 0 + _ ≤ _; exact Nat.le_of_eq rfl) (hb hby d11_48) (fun _ _ => ⟨rfl, e200, (by decide : 2 + 0 ≤ _), (by decide : 8 + 0 ≤ _)⟩)
    dsimp only [Pt.U, Pt.locs, Pt.cells, Pt.slots] at X205 l205 y205 z205 st205 hQ205
    subst l205 y205 z205
    obtain ⟨rfl, N205q, e205⟩ := hQ205
    have N205 := Fr.app N200 N205q
    have c206 : own_G p e below T205 (mkF m 56 #[oa r0, oi 1, oi 1, .unset] [(.int (1 : Int32)), (.ref r0)]) (mkF m 51 #[oa r0, oi 1, oi 1, .unset] [(.int (3 : Int32)), (.int (1 : Int32))]) := by
      intro t kt
      show oS T205 (mkF m 51 #[oa r0, oi 1, oi 1, .unset] [(.int (3 : Int32)), (.int (1 : Int32))]) _
      refine XS.icmpNo X205.here hx rfl (hb hby d11_51) rfl (tlt (by decide : (1 : Int32) < (3 : Int32))).2.1 ?_
      show oS T205 (mkF m 54 #[oa r0, oi 1, oi 1, .unset] []) _
      refine XS.aloadN X205.here hx rfl (hb hby d11_54) rfl rfl ?_
      show oS T205 (mkF m 55 #[oa r0, oi 1, oi 1, .unset] [(.ref r0)]) _
      refine XS.iloadN X205.here hx rfl (hb hby d11_55) rfl ?_
      exact kt
    obtain ⟨cq207, kq207, q207a, q207b, q207c⟩ := isOf hZ e205 f188
    obtain ⟨_, _, ⟨T208, L208, k208, n208⟩, -, X208, ⟨Lc208, hQ208, l208, y208, z208⟩, st208⟩ := X205.virtualBack hx (y := yy_4) (z := yy_4) hown (mvT hZ (own_t hw 107 rfl)) (mvT hZ (own_t hw 86 rfl)) (notFace_of_selects (args := #[]) (mvT hZ (own_t hw 88 rfl))) (mvT hZ (own_t hw 88 rfl)) (mvT hZ (own_t hw 87 rfl)) (by decide) (backOf (W := 0) (rm18 l Z a0 hw [] r0 (1 : Int32) ba ka (3 : Int32) [(.int (d.toInt8.toInt32)), (.int ((69 : Int32).toInt8.toInt32)), (.int (ez.toInt8.toInt32))] (.int 0) ((69 : Int32).toInt8.toInt32) fm cs h185 n0 f187 f188 f189 f191 ⟨by decide, by decide⟩ rfl (SF.ext f192.2) hfm (SC.ext f192.2) hcs f190) hZ (own_t hw 89 rfl) (own_t hw 7 rfl) (by decide) (by decide)) q207a q207c (g := (mkF m 56 #[oa r0, oi 1, oi 1, .unset] [(.int (1 : Int32)), (.ref r0)])) rfl (by rw [hml]; rfl) (Steps.refl _) (argsL := [(.int (1 : Int32))]) (rest := []) (lenOf pd_8 rfl) rfl (by show 2 * 0 + _ ≤ _; exact Nat.le_of_eq rfl) (hb hby d11_56) (fun _ _ => ⟨rfl, e205, (by decide : 2 + 0 ≤ _), (by decide : 8 + 0 ≤ _)⟩)
    dsimp only [Pt.U, Pt.locs, Pt.cells, Pt.slots] at X208 l208 y208 z208 st208 hQ208
    subst l208 y208 z208
    obtain ⟨rfl, N208q, e208⟩ := hQ208
    have N208 := Fr.app N205 N208q
    have c209 : own_G p e below T208 (mkF m 59 #[oa r0, oi 1, oi 1, .unset] [(.int (69 : Int32))]) (mkF m 59 #[oa r0, oi 1, oi 1, .unset] [(.int (own_cc ((69 : Int32).toInt8.toInt32)))]) := fun t kt => castTop (congrArg (fun zv => (mkF m 59 #[oa r0, oi 1, oi 1, .unset] [(.int zv)])) (show (own_cc ((69 : Int32).toInt8.toInt32)) = (69 : Int32) from by decide)) kt
    have c210 : own_G p e below T208 (mkF m 85 #[oa r0, oi 1, oi 1, .unset] [(.ref r0), (.int (1 : Int32))]) (mkF m 59 #[oa r0, oi 1, oi 1, .unset] [(.int (69 : Int32))]) := by
      intro t kt
      show oS T208 (mkF m 59 #[oa r0, oi 1, oi 1, .unset] [(.int (69 : Int32))]) _
      refine XS.bipush X208.here hx rfl (hb hby d11_59) ?_
      show oS T208 (mkF m 61 #[oa r0, oi 1, oi 1, .unset] [(.int (46 : Int32)), (.int (69 : Int32))]) _
      refine XS.icmpYes X208.here hx rfl (pc0 := 61) (pc' := 83) rfl (hb hby d11_61) rfl (feq (by decide : ¬ ((69 : Int32) = (46 : Int32)))).2 (by decide) (by decide) ?_
      show oS T208 (mkF m 83 #[oa r0, oi 1, oi 1, .unset] []) _
      refine XS.iloadN X208.here hx rfl (hb hby d11_83) rfl ?_
      show oS T208 (mkF m 84 #[oa r0, oi 1, oi 1, .unset] [(.int (1 : Int32))]) _
      refine XS.aloadN X208.here hx rfl (hb hby d11_84) rfl rfl ?_
      exact kt
    obtain ⟨cq211, kq211, q211a, q211b, q211c⟩ := isOf hZ e208 f188
    obtain ⟨_, _, ⟨T212, L212, k212, n212⟩, -, X212, ⟨Lc212, hQ212, l212, y212, z212⟩, st212⟩ := X208.virtualBack hx (y := yy_6) (z := yy_6) hown (mvT hZ (own_t hw 108 rfl)) (mvT hZ (own_t hw 67 rfl)) (notFace_of_selects (args := #[]) (mvT hZ (own_t hw 69 rfl))) (mvT hZ (own_t hw 69 rfl)) (mvT hZ (own_t hw 68 rfl)) (by decide) (backOf (W := 1) (rm14 l Z a0 hw [] r0 ba ka (3 : Int32) [(.int (d.toInt8.toInt32)), (.int ((69 : Int32).toInt8.toInt32)), (.int (ez.toInt8.toInt32))] (.int 0) cs h185 n0 f187 f188 f189 f191 (SC.ext f192.2) hcs f190) hZ (own_t hw 70 rfl) (own_t hw 7 rfl) (by decide) (by decide)) q211a q211c (g := (mkF m 85 #[oa r0, oi 1, oi 1, .unset] [(.ref r0), (.int (1 : Int32))])) rfl (by rw [hml]; rfl) (Steps.refl _) (argsL := []) (rest := [(.int (1 : Int32))]) (lenOf pd_5 rfl) rfl (by show 2 * 0 + _ ≤ _; exact Nat.le_of_eq rfl) (hb hby d11_85) (fun _ _ => ⟨rfl, e208, (by decide : 2 + 0 ≤ _), (by decide : 8 + 0 ≤ _)⟩)
    dsimp only [Pt.U, Pt.locs, Pt.cells, Pt.slots] at X212 l212 y212 z212 st212 hQ212
    subst l212 y212 z212
    obtain ⟨rfl, N212q, e212⟩ := hQ212
    have N212 := Fr.app N208 N212q
    have c213 : own_G p e below T212 (mkF m 93 #[oa r0, oi 1, oi 1, .unset] [(.int (1 : Int32)), (.ref r0)]) (mkF m 88 #[oa r0, oi 1, oi 1, .unset] [(.int (3 : Int32)), (.int (1 : Int32))]) := by
      intro t kt
      show oS T212 (mkF m 88 #[oa r0, oi 1, oi 1, .unset] [(.int (3 : Int32)), (.int (1 : Int32))]) _
      refine XS.icmpNo X212.here hx rfl (hb hby d11_88) rfl (tlt (by decide : (1 : Int32) < (3 : Int32))).2.1 ?_
      show oS T212 (mkF m 91 #[oa r0, oi 1, oi 1, .unset] []) _
      refine XS.aloadN X212.here hx rfl (hb hby d11_91) rfl rfl ?_
      show oS T212 (mkF m 92 #[oa r0, oi 1, oi 1, .unset] [(.ref r0)]) _
      refine XS.iloadN X212.here hx rfl (hb hby d11_92) rfl ?_
      exact kt
    obtain ⟨cq214, kq214, q214a, q214b, q214c⟩ := isOf hZ e212 f188
    obtain ⟨_, _, ⟨T215, L215, k215, n215⟩, -, X215, ⟨Lc215, hQ215, l215, y215, z215⟩, st215⟩ := X212.virtualBack hx (y := yy_4) (z := yy_4) hown (mvT hZ (own_t hw 107 rfl)) (mvT hZ (own_t hw 86 rfl)) (notFace_of_selects (args := #[]) (mvT hZ (own_t hw 88 rfl))) (mvT hZ (own_t hw 88 rfl)) (mvT hZ (own_t hw 87 rfl)) (by decide) (backOf (W := 0) (rm18 l Z a0 hw [] r0 (1 : Int32) ba ka (3 : Int32) [(.int (d.toInt8.toInt32)), (.int ((69 : Int32).toInt8.toInt32)), (.int (ez.toInt8.toInt32))] (.int 0) ((69 : Int32).toInt8.toInt32) fm cs h185 n0 f187 f188 f189 f191 ⟨by decide, by decide⟩ rfl (SF.ext f192.2) hfm (SC.ext f192.2) hcs f190) hZ (own_t hw 89 rfl) (own_t hw 7 rfl) (by decide) (by decide)) q214a q214c (g := (mkF m 93 #[oa r0, oi 1, oi 1, .unset] [(.int (1 : Int32)), (.ref r0)])) rfl (by rw [hml]; rfl) (Steps.refl _) (argsL := [(.int (1 : Int32))]) (rest := []) (lenOf pd_8 rfl) rfl (by show 2 * 0 + _ ≤ _; exact Nat.le_of_eq rfl) (hb hby d11_93) (fun _ _ => ⟨rfl, e212, (by decide : 2 + 0 ≤ _), (by decide : 8 + 0 ≤ _)⟩)
    dsimp only [Pt.U, Pt.locs, Pt.cells, Pt.slots] at X215 l215 y215 z215 st215 hQ215
    subst l215 y215 z215
    obtain ⟨rfl, N215q, e215⟩ := hQ215
    have N215 := Fr.app N212 N215q
    have c216 : own_G p e below T215 (mkF m 96 #[oa r0, oi 1, oi 1, .unset] [(.int (69 : Int32))]) (mkF m 96 #[oa r0, oi 1, oi 1, .unset] [(.int (own_cc ((69 : Int32).toInt8.toInt32)))]) := fun t kt => castTop (congrArg (fun zv => (mkF m 96 #[oa r0, oi 1, oi 1, .unset] [(.int zv)])) (show (own_cc ((69 : Int32).toInt8.toInt32)) = (69 : Int32) from by decide)) kt
    have c217 : own_G p e below T215 (mkF m 103 #[oa r0, oi 1, oi 1, .unset] [(.int (1 : Int32)), (.ref r0)]) (mkF m 96 #[oa r0, oi 1, oi 1, .unset] [(.int (69 : Int32))]) := by
      intro t kt
      show oS T215 (mkF m 96 #[oa r0, oi 1, oi 1, .unset] [(.int (69 : Int32))]) _
      refine XS.bipush X215.here hx rfl (hb hby d11_96) ?_
      show oS T215 (mkF m 98 #[oa r0, oi 1, oi 1, .unset] [(.int (101 : Int32)), (.int (69 : Int32))]) _
      refine XS.icmpNo X215.here hx rfl (hb hby d11_98) rfl (feq (by decide : ¬ ((69 : Int32) = (101 : Int32)))).1 ?_
      show oS T215 (mkF m 101 #[oa r0, oi 1, oi 1, .unset] []) _
      refine XS.aloadN X215.here hx rfl (hb hby d11_101) rfl rfl ?_
      show oS T215 (mkF m 102 #[oa r0, oi 1, oi 1, .unset] [(.ref r0)]) _
      refine XS.iloadN X215.here hx rfl (hb hby d11_102) rfl ?_
      exact kt
    obtain ⟨cq218, kq218, q218a, q218b, q218c⟩ := isOf hZ e215 f188
    obtain ⟨_, _, ⟨T219, L219, k219, n219⟩, -, X219, ⟨Lc219, hQ219, l219, y219, z219⟩, st219⟩ := X215.virtualBack hx (y := yy_4) (z := yy_4) hown (mvT hZ (own_t hw 107 rfl)) (mvT hZ (own_t hw 86 rfl)) (notFace_of_selects (args := #[]) (mvT hZ (own_t hw 88 rfl))) (mvT hZ (own_t hw 88 rfl)) (mvT hZ (own_t hw 87 rfl)) (by decide) (backOf (W := 0) (rm18 l Z a0 hw [] r0 (1 : Int32) ba ka (3 : Int32) [(.int (d.toInt8.toInt32)), (.int ((69 : Int32).toInt8.toInt32)), (.int (ez.toInt8.toInt32))] (.int 0) ((69 : Int32).toInt8.toInt32) fm cs h185 n0 f187 f188 f189 f191 ⟨by decide, by decide⟩ rfl (SF.ext f192.2) hfm (SC.ext f192.2) hcs f190) hZ (own_t hw 89 rfl) (own_t hw 7 rfl) (by decide) (by decide)) q218a q218c (g := (mkF m 103 #[oa r0, oi 1, oi 1, .unset] [(.int (1 : Int32)), (.ref r0)])) rfl (by rw [hml]; rfl) (Steps.refl _) (argsL := [(.int (1 : Int32))]) (rest := []) (lenOf pd_8 rfl) rfl (by show 2 * 0 + _ ≤ _; exact Nat.le_of_eq rfl) (hb hby d11_103) (fun _ _ => ⟨rfl, e215, (by decide : 2 + 0 ≤ _), (by decide : 8 + 0 ≤ _)⟩)
    dsimp only [Pt.U, Pt.locs, Pt.cells, Pt.slots] at X219 l219 y219 z219 st219 hQ219
    subst l219 y219 z219
    obtain ⟨rfl, N219q, e219⟩ := hQ219
    have N219 := Fr.app N215 N219q
    have c220 : own_G p e below T219 (mkF m 106 #[oa r0, oi 1, oi 1, .unset] [(.int (69 : Int32))]) (mkF m 106 #[oa r0, oi 1, oi 1, .unset] [(.int (own_cc ((69 : Int32).toInt8.toInt32)))]) := fun t kt => castTop (congrArg (fun zv => (mkF m 106 #[oa r0, oi 1, oi 1, .unset] [(.int zv)])) (show (own_cc ((69 : Int32).toInt8.toInt32)) = (69 : Int32) from by decide)) kt
    have c221 : own_G p e below T219 (mkF m 116 #[oa r0, oi ((1 : Int32) + (1 : Int32)), oi 1, .unset] [(.ref r0), (.int ((1 : Int32) + (1 : Int32)))]) (mkF m 106 #[oa r0, oi 1, oi 1, .unset] [(.int (69 : Int32))]) := by
      intro t kt
      show oS T219 (mkF m 106 #[oa r0, oi 1, oi 1, .unset] [(.int (69 : Int32))]) _
      refine XS.bipush X219.here hx rfl (hb hby d11_106) ?_
      show oS T219 (mkF m 108 #[oa r0, oi 1, oi 1, .unset] [(.int (69 : Int32)), (.int (69 : Int32))]) _
      refine XS.icmpNo X219.here hx rfl (hb hby d11_108) rfl (teq (by decide : (69 : Int32) = (69 : Int32))).2 ?_
      show oS T219 (mkF m 111 #[oa r0, oi 1, oi 1, .unset] []) _
      refine XS.iinc X219.here hx rfl (hb hby d11_111) rfl (l' := #[oa r0, oi ((1 : Int32) + (1 : Int32)), oi 1, .unset]) rfl ?_
      show oS T219 (mkF m 114 #[oa r0, oi ((1 : Int32) + (1 : Int32)), oi 1, .unset] []) _
      refine XS.iloadN X219.here hx rfl (hb hby d11_114) rfl ?_
      show oS T219 (mkF m 115 #[oa r0, oi ((1 : Int32) + (1 : Int32)), oi 1, .unset] [(.int ((1 : Int32) + (1 : Int32)))]) _
      refine XS.aloadN X219.here hx rfl (hb hby d11_115) rfl rfl ?_
      exact kt
    obtain ⟨cq222, kq222, q222a, q222b, q222c⟩ := isOf hZ e219 f188
    obtain ⟨_, _, ⟨T223, L223, k223, n223⟩, -, X223, ⟨Lc223, hQ223, l223, y223, z223⟩, st223⟩ := X219.virtualBack hx (y := yy_6) (z := yy_6) hown (mvT hZ (own_t hw 108 rfl)) (mvT hZ (own_t hw 67 rfl)) (notFace_of_selects (args := #[]) (mvT hZ (own_t hw 69 rfl))) (mvT hZ (own_t hw 69 rfl)) (mvT hZ (own_t hw 68 rfl)) (by decide) (backOf (W := 1) (rm14 l Z a0 hw [] r0 ba ka (3 : Int32) [(.int (d.toInt8.toInt32)), (.int ((69 : Int32).toInt8.toInt32)), (.int (ez.toInt8.toInt32))] (.int 0) cs h185 n0 f187 f188 f189 f191 (SC.ext f192.2) hcs f190) hZ (own_t hw 70 rfl) (own_t hw 7 rfl) (by decide) (by decide)) q222a q222c (g := (mkF m 116 #[oa r0, oi ((1 : Int32) + (1 : Int32)), oi 1, .unset] [(.ref r0), (.int ((1 : Int32) + (1 : Int32)))])) rfl (by rw [hml]; rfl) (Steps.refl _) (argsL := []) (rest := [(.int ((1 : Int32) + (1 : Int32)))]) (lenOf pd_5 rfl) rfl (by show 2 * 0 + _ ≤ _; exact Nat.le_of_eq rfl) (hb hby d11_116) (fun _ _ => ⟨rfl, e219, (by decide : 2 + 0 ≤ _), (by decide : 8 + 0 ≤ _)⟩)
    dsimp only [Pt.U, Pt.locs, Pt.cells, Pt.slots] at X223 l223 y223 z223 st223 hQ223
    subst l223 y223 z223
    obtain ⟨rfl, N223q, e223⟩ := hQ223
    have N223 := Fr.app N219 N223q
    have c224 : own_G p e below T223 (mkF m 124 #[oa r0, oi ((1 : Int32) + (1 : Int32)), oi 1, .unset] [(.int ((1 : Int32) + (1 : Int32))), (.ref r0)]) (mkF m 119 #[oa r0, oi ((1 : Int32) + (1 : Int32)), oi 1, .unset] [(.int (3 : Int32)), (.int ((1 : Int32) + (1 : Int32)))]) := by
      intro t kt
      show oS T223 (mkF m 119 #[oa r0, oi ((1 : Int32) + (1 : Int32)), oi 1, .unset] [(.int (3 : Int32)), (.int ((1 : Int32) + (1 : Int32)))]) _
      refine XS.icmpNo X223.here hx rfl (hb hby d11_119) rfl (tlt (by decide : ((1 : Int32) + (1 : Int32)) < (3 : Int32))).2.1 ?_
      show oS T223 (mkF m 122 #[oa r0, oi ((1 : Int32) + (1 : Int32)), oi 1, .unset] []) _
      refine XS.aloadN X223.here hx rfl (hb hby d11_122) rfl rfl ?_
      show oS T223 (mkF m 123 #[oa r0, oi ((1 : Int32) + (1 : Int32)), oi 1, .unset] [(.ref r0)]) _
      refine XS.iloadN X223.here hx rfl (hb hby d11_123) rfl ?_
      exact kt
    have c225 : own_G p e below T223 (mkF m 124 #[oa r0, oi 2, oi 1, .unset] [(.int (2 : Int32)), (.ref r0)]) (mkF m 124 #[oa r0, oi ((1 : Int32) + (1 : Int32)), oi 1, .unset] [(.int ((1 : Int32) + (1 : Int32))), (.ref r0)]) := fun t kt => castTop (congrArg (fun zv => (mkF m 124 #[oa r0, oi zv, oi 1, .unset] [(.int zv), (.ref r0)])) (show ((1 : Int32) + (1 : Int32)) = (2 : Int32) from by decide)) kt
    obtain ⟨cq226, kq226, q226a, q226b, q226c⟩ := isOf hZ e223 f188
    obtain ⟨_, _, ⟨T227, L227, k227, n227⟩, -, X227, ⟨Lc227, hQ227, l227, y227, z227⟩, st227⟩ := X223.virtualBack hx (y := yy_4) (z := yy_4) hown (mvT hZ (own_t hw 107 rfl)) (mvT hZ (own_t hw 86 rfl)) (notFace_of_selects (args := #[]) (mvT hZ (own_t hw 88 rfl))) (mvT hZ (own_t hw 88 rfl)) (mvT hZ (own_t hw 87 rfl)) (by decide) (backOf (W := 0) (rm18 l Z a0 hw [] r0 (2 : Int32) ba ka (3 : Int32) [(.int (d.toInt8.toInt32)), (.int ((69 : Int32).toInt8.toInt32)), (.int (ez.toInt8.toInt32))] (.int 0) (ez.toInt8.toInt32) fm cs h185 n0 f187 f188 f189 f191 ⟨by decide, by decide⟩ rfl (SF.ext f192.2) hfm (SC.ext f192.2) hcs f190) hZ (own_t hw 89 rfl) (own_t hw 7 rfl) (by decide) (by decide)) q226a q226c (g := (mkF m 124 #[oa r0, oi 2, oi 1, .unset] [(.int (2 : Int32)), (.ref r0)])) rfl (by rw [hml]; rfl) (Steps.refl _) (argsL := [(.int (2 : Int32))]) (rest := []) (lenOf pd_8 rfl) rfl (by show 2 * 0 + _ ≤ _; exact Nat.le_of_eq rfl) (hb hby d11_124) (fun _ _ => ⟨rfl, e223, (by decide : 2 + 0 ≤ _), (by decide : 8 + 0 ≤ _)⟩)
    dsimp only [Pt.U, Pt.locs, Pt.cells, Pt.slots] at X227 l227 y227 z227 st227 hQ227
    subst l227 y227 z227
    obtain ⟨rfl, N227q, e227⟩ := hQ227
    have N227 := Fr.app N223 N227q
    have c228 : own_G p e below T227 (mkF m 127 #[oa r0, oi 2, oi 1, .unset] [(.int ez)]) (mkF m 127 #[oa r0, oi 2, oi 1, .unset] [(.int (own_cc (ez.toInt8.toInt32)))]) := fun t kt => castTop (congrArg (fun zv => (mkF m 127 #[oa r0, oi 2, oi 1, .unset] [(.int zv)])) (show (own_cc (ez.toInt8.toInt32)) = ez from own_ccv _ (own_dr h_ez).1 (own_dr h_ez).2)) kt
    have c230 : own_G p e below T227 (mkF m 129 #[oa r0, oi 2, oi 1, .unset] [(.int (43 : Int32)), (.int ez)]) (mkF m 127 #[oa r0, oi 2, oi 1, .unset] [(.int ez)]) := by
      intro t kt
      show oS T227 (mkF m 127 #[oa r0, oi 2, oi 1, .unset] [(.int ez)]) _
      refine XS.bipush X227.here hx rfl (hb hby d11_127) ?_
      exact kt
    have hd229 : ¬ (ez = (43 : Int32)) := own_dne h_ez (by decide)
    have c231 : own_G p e below T227 (mkF m 134 #[oa r0, oi 2, oi 1, .unset] [(.int (2 : Int32)), (.ref r0)]) (mkF m 129 #[oa r0, oi 2, oi 1, .unset] [(.int (43 : Int32)), (.int ez)]) := by
      intro t kt
      show oS T227 (mkF m 129 #[oa r0, oi 2, oi 1, .unset] [(.int (43 : Int32)), (.int ez)]) _
      refine XS.icmpNo X227.here hx rfl (hb hby d11_129) rfl (feq hd229).1 ?_
      show oS T227 (mkF m 132 #[oa r0, oi 2, oi 1, .unset] []) _
      refine XS.aloadN X227.here hx rfl (hb hby d11_132) rfl rfl ?_
      show oS T227 (mkF m 133 #[oa r0, oi 2, oi 1, .unset] [(.ref r0)]) _
      refine XS.iloadN X227.here hx rfl (hb hby d11_133) rfl ?_
      exact kt
    obtain ⟨cq232, kq232, q232a, q232b, q232c⟩ := isOf hZ e227 f188
    obtain ⟨_, _, ⟨T233, L233, k233, n233⟩, -, X233, ⟨Lc233, hQ233, l233, y233, z233⟩, st233⟩ := X227.virtualBack hx (y := yy_4) (z := yy_4) hown (mvT hZ (own_t hw 107 rfl)) (mvT hZ (own_t hw 86 rfl)) (notFace_of_selects (args := #[]) (mvT hZ (own_t hw 88 rfl))) (mvT hZ (own_t hw 88 rfl)) (mvT hZ (own_t hw 87 rfl)) (by decide) (backOf (W := 0) (rm18 l Z a0 hw [] r0 (2 : Int32) ba ka (3 : Int32) [(.int (d.toInt8.toInt32)), (.int ((69 : Int32).toInt8.toInt32)), (.int (ez.toInt8.toInt32))] (.int 0) (ez.toInt8.toInt32) fm cs h185 n0 f187 f188 f189 f191 ⟨by decide, by decide⟩ rfl (SF.ext f192.2) hfm (SC.ext f192.2) hcs f190) hZ (own_t hw 89 rfl) (own_t hw 7 rfl) (by decide) (by decide)) q232a q232c (g := (mkF m 134 #[oa r0, oi 2, oi 1, .unset] [(.int (2 : Int32)), (.ref r0)])) rfl (by rw [hml]; rfl) (Steps.refl _) (argsL := [(.int (2 : Int32))]) (rest := []) (lenOf pd_8 rfl) rfl (by show 2 * 0 + _ ≤ _; exact Nat.le_of_eq rfl) (hb hby d11_134) (fun _ _ => ⟨rfl, e227, (by decide : 2 + 0 ≤ _), (by decide : 8 + 0 ≤ _)⟩)
    dsimp only [Pt.U, Pt.locs, Pt.cells, Pt.slots] at X233 l233 y233 z233 st233 hQ233
    subst l233 y233 z233
    obtain ⟨rfl, N233q, e233⟩ := hQ233
    have N233 := Fr.app N227 N233q
    have c234 : own_G p e below T233 (mkF m 137 #[oa r0, oi 2, oi 1, .unset] [(.int ez)]) (mkF m 137 #[oa r0, oi 2, oi 1, .unset] [(.int (own_cc (ez.toInt8.toInt32)))]) := fun t kt => castTop (congrArg (fun zv => (mkF m 137 #[oa r0, oi 2, oi 1, .unset] [(.int zv)])) (show (own_cc (ez.toInt8.toInt32)) = ez from own_ccv _ (own_dr h_ez).1 (own_dr h_ez).2)) kt
    have c236 : own_G p e below T233 (mkF m 139 #[oa r0, oi 2, oi 1, .unset] [(.int (45 : Int32)), (.int ez)]) (mkF m 137 #[oa r0, oi 2, oi 1, .unset] [(.int ez)]) := by
      intro t kt
      show oS T233 (mkF m 137 #[oa r0, oi 2, oi 1, .unset] [(.int ez)]) _
      refine XS.bipush X233.here hx rfl (hb hby d11_137) ?_
      exact kt
    have hd235 : ¬ (ez = (45 : Int32)) := own_dne h_ez (by decide)
    have c237 : own_G p e below T233 (mkF m 147 #[oa r0, oi 2, oi 1, .unset] [(.int (2 : Int32)), (.ref r0)]) (mkF m 139 #[oa r0, oi 2, oi 1, .unset] [(.int (45 : Int32)), (.int ez)]) := by
      intro t kt
      show oS T233 (mkF m 139 #[oa r0, oi 2, oi 1, .unset] [(.int (45 : Int32)), (.int ez)]) _
      refine XS.icmpYes X233.here hx rfl (pc0 := 139) (pc' := 145) rfl (hb hby d11_139) rfl (feq hd235).2 (by decide) (by decide) ?_
      show oS T233 (mkF m 145 #[oa r0, oi 2, oi 1, .unset] []) _
      refine XS.aloadN X233.here hx rfl (hb hby d11_145) rfl rfl ?_
      show oS T233 (mkF m 146 #[oa r0, oi 2, oi 1, .unset] [(.ref r0)]) _
      refine XS.iloadN X233.here hx rfl (hb hby d11_146) rfl ?_
      exact kt
    obtain ⟨_, _, ⟨T238, L238, k238, n238⟩, -, X238, ⟨Lc238, hQ238, l238, y238, z238⟩, st238⟩ := Jvm.LawKit.callS X233 hx (y := yy_10) hown (mvT hZ (own_t hw 80 rfl)) (mvT hZ (own_t hw 81 rfl)) (mvT hZ (own_t hw 82 rfl)) (mvT hZ (own_t hw 83 rfl)) (by decide) (backOf (W := 0) (rm17_e l Z a0 hw []  r0 ba ka cs fm d (69 : Int32) ez h185 n0 f187 f188 f189 f190 f191 (SC.ext f192.2) hcs (SF.ext f192.2) hfm h_ez) hZ (own_t hw 83 rfl) (own_t hw 82 rfl) (by decide) (by decide)) (g := (mkF m 147 #[oa r0, oi 2, oi 1, .unset] [(.int (2 : Int32)), (.ref r0)])) rfl (by rw [hml]; rfl) (argsL := [(.ref r0), (.int (2 : Int32))]) (rest := []) (lenOf pd_10 rfl) rfl (by show 2 * 0 + _ ≤ _; exact Nat.le_of_eq rfl) (hb hby d11_147) (fun _ _ => ⟨rfl, e233, (by decide : 2 + 0 ≤ _), (by decide : 8 + 0 ≤ _)⟩)
    dsimp only [Pt.U, Pt.locs, Pt.cells, Pt.slots] at X238 l238 y238 z238 st238 hQ238
    subst l238 y238 z238
    obtain ⟨rfl, N238q, e238⟩ := hQ238
    have N238 := Fr.app N233 N238q
    have c239 : own_G p e below T238 (mkF m 162 #[oa r0, oi 3, oi 1, oi 3] [(.ref r0), (.int (3 : Int32))]) (mkF m 150 #[oa r0, oi 2, oi 1, .unset] [(.int (3 : Int32))]) := by
      intro t kt
      show oS T238 (mkF m 150 #[oa r0, oi 2, oi 1, .unset] [(.int (3 : Int32))]) _
      refine XS.istoreN X238.here hx rfl (hb hby d11_150) rfl (l' := #[oa r0, oi 2, oi 1, oi 3]) rfl ?_
      show oS T238 (mkF m 151 #[oa r0, oi 2, oi 1, oi 3] []) _
      refine XS.iloadN X238.here hx rfl (hb hby d11_151) rfl ?_
      show oS T238 (mkF m 152 #[oa r0, oi 2, oi 1, oi 3] [(.int (3 : Int32))]) _
      refine XS.iloadN X238.here hx rfl (hb hby d11_152) rfl ?_
      show oS T238 (mkF m 153 #[oa r0, oi 2, oi 1, oi 3] [(.int (2 : Int32)), (.int (3 : Int32))]) _
      refine XS.icmpYes X238.here hx rfl (pc0 := 153) (pc' := 158) rfl (hb hby d11_153) rfl (feq (by decide : ¬ ((3 : Int32) = (2 : Int32)))).2 (by decide) (by decide) ?_
      show oS T238 (mkF m 158 #[oa r0, oi 2, oi 1, oi 3] []) _
      refine XS.iloadN X238.here hx rfl (hb hby d11_158) rfl ?_
      show oS T238 (mkF m 159 #[oa r0, oi 2, oi 1, oi 3] [(.int (3 : Int32))]) _
      refine XS.istoreN X238.here hx rfl (hb hby d11_159) rfl (l' := #[oa r0, oi 3, oi 1, oi 3]) rfl ?_
      show oS T238 (mkF m 160 #[oa r0, oi 3, oi 1, oi 3] []) _
      refine XS.iloadN X238.here hx rfl (hb hby d11_160) rfl ?_
      show oS T238 (mkF m 161 #[oa r0, oi 3, oi 1, oi 3] [(.int (3 : Int32))]) _
      refine XS.aloadN X238.here hx rfl (hb hby d11_161) rfl rfl ?_
      exact kt
    obtain ⟨cq240, kq240, q240a, q240b, q240c⟩ := isOf hZ e238 f188
    obtain ⟨_, _, ⟨T241, L241, k241, n241⟩, -, X241, ⟨Lc241, hQ241, l241, y241, z241⟩, st241⟩ := X238.virtualBack hx (y := yy_6) (z := yy_6) hown (mvT hZ (own_t hw 108 rfl)) (mvT hZ (own_t hw 67 rfl)) (notFace_of_selects (args := #[]) (mvT hZ (own_t hw 69 rfl))) (mvT hZ (own_t hw 69 rfl)) (mvT hZ (own_t hw 68 rfl)) (by decide) (backOf (W := 1) (rm14 l Z a0 hw [] r0 ba ka (3 : Int32) [(.int (d.toInt8.toInt32)), (.int ((69 : Int32).toInt8.toInt32)), (.int (ez.toInt8.toInt32))] (.int 0) cs h185 n0 f187 f188 f189 f191 (SC.ext f192.2) hcs f190) hZ (own_t hw 70 rfl) (own_t hw 7 rfl) (by decide) (by decide)) q240a q240c (g := (mkF m 162 #[oa r0, oi 3, oi 1, oi 3] [(.ref r0), (.int (3 : Int32))])) rfl (by rw [hml]; rfl) (Steps.refl _) (argsL := []) (rest := [(.int (3 : Int32))]) (lenOf pd_5 rfl) rfl (by show 2 * 0 + _ ≤ _; exact Nat.le_of_eq rfl) (hb hby d11_162) (fun _ _ => ⟨rfl, e238, (by decide : 2 + 0 ≤ _), (by decide : 8 + 0 ≤ _)⟩)
    dsimp only [Pt.U, Pt.locs, Pt.cells, Pt.slots] at X241 l241 y241 z241 st241 hQ241
    subst l241 y241 z241
    obtain ⟨rfl, N241q, e241⟩ := hQ241
    have N241 := Fr.app N238 N241q
    have c242 : own_G p e below T241 (mkF m 173 #[oa r0, oi 3, oi 1, oi 3] [(.int (1 : Int32))]) (mkF m 165 #[oa r0, oi 3, oi 1, oi 3] [(.int (3 : Int32)), (.int (3 : Int32))]) := by
      intro t kt
      show oS T241 (mkF m 165 #[oa r0, oi 3, oi 1, oi 3] [(.int (3 : Int32)), (.int (3 : Int32))]) _
      refine XS.icmpNo X241.here hx rfl (hb hby d11_165) rfl (teq (by decide : (3 : Int32) = (3 : Int32))).2 ?_
      show oS T241 (mkF m 168 #[oa r0, oi 3, oi 1, oi 3] []) _
      refine XS.iconst X241.here hx rfl (hb hby d11_168) ?_
      show oS T241 (mkF m 169 #[oa r0, oi 3, oi 1, oi 3] [(.int (1 : Int32))]) _
      refine XS.goto X241.here hx rfl (pc0 := 169) (pc' := 173) rfl (hb hby d11_169) (by decide) (by decide) ?_
      exact kt
    obtain ⟨fs, hr, hrun, hended, hwd⟩ := Stand.leaveW (s := s) (vm₁ := T185.vm) X241 hS185 (by rw [e241]; exact hk185) (v := some (.int (1 : Int32))) (fun h => by rw [Bd.returns] at h; cases h)
    have hCr : CHr Z consts_1 s.vm s.heap (T241.setFrames fs).vm (T241.setFrames fs).heap := by
      show CHr Z consts_1 s.vm s.heap T241.vm T241.heap
      rw [hh, e241]
      exact ch185.trans (CHv.at (s := s) (vm0 := T185.vm) X241 hZ hEL ch185.1)
    have f244 := ((Keep.refl h0 []).ext E185)
    refine ⟨_, _, pre0 _ (c186 _ (st185 _ (st194.trans (c195 _ (c196 _ (st197 _ (c198 _ (st200.trans (c201 _ (c202 _ (c203 _ (st205.trans (c206 _ (st208.trans (c209 _ (c210 _ (st212.trans (c213 _ (st215.trans (c216 _ (c217 _ (st219.trans (c220 _ (c221 _ (st223.trans (c224 _ (c225 _ (st227.trans (c228 _ (c230 _ (c231 _ (st233.trans (c234 _ (c236 _ (c237 _ (st238 _ (c239 _ (st241.trans (c242 _ (?_)))))))))))))))))))))))))))))))))))))))), hrun, hended, _, _, rfl, ?_, hCr, hwd.1, hwd.2.1, hwd.2.2.1, hwd.2.2.2.mono (by decide) (by decide)⟩
    · show Steps p.tables e below (T241.setTop (mkF m 173 #[oa r0, oi 3, oi 1, oi 3] [(.int (1 : Int32))])) _
      exact retN X241 hx (t := .boolean) Bd.returns (by simp) (hb hby d11_173) hr
    · show Q11 Z r0 ba ka cs fm tx h0 n0 _ T241.heap _
      rw [e241]
      exact ⟨rfl, N241, f244⟩
theorem d10_0 : decode jdk_31_method_11_code 0 = .ok (.aload_n 0, 1) := by decide +kernel
theorem d10_1 : decode jdk_31_method_11_code 1 = .ok (.ifnonnull 12, 3) := by decide +kernel
theorem d10_13 : decode jdk_31_method_11_code 13 = .ok (.aload_n 0, 1) := by decide +kernel
theorem d10_14 : decode jdk_31_method_11_code 14 = .ok (.areturn, 1) := by decide +kernel
theorem pn_10 : plainName "java/util/Objects" = true := by first | (simp [plainName, overriddenIn]; done) | decide +kernel
theorem ef_10 (m : MethodId) (x0 : Addr) (x1 : Addr) : entryFrame m #[(.ref x0), (.ref x1)] 2 = mkF m 0 #[.val (.ref x0), .val (.ref x1)] [] := by first | (simp [entryFrame, mkF, argsToLocals, Value.category]; done) | rfl
def Q10 (Z : State) (r0 : Addr) (r1 : Addr) (h0 : Heap) (n0 : Nat) (v : Option Value) (h : Heap) (L : List Loc) : Prop := v = some (.ref r0) ∧ Fr n0 L ∧ h = h0
set_option maxRecDepth 65536 in
set_option maxHeartbeats 40000000 in
theorem rm10 (l : Launch) (Z : State) (a0 : Array Value) (hw : ∀ d ∈ tables_1, d.before a0 Z = true) (ws : List Jvm.Cond) (r0 : Addr) (r1 : Addr)  (h0 : Heap) (n0 : Nat) (Z0 : n0 ≤ h0.size) :
    MetFree l yy_12 (head1 (Jvm.Cond.code yy_12 jdk_31_method_11_code 2 (some (.object "java/lang/Object")) :: ws) ({ frames := 0, cells := 0, slots := 0, locals := 0 } : Room)) (fun a U => a = #[(.ref r0), (.ref r1)] ∧ Z.Warmed39 U.vm ∧ U.heap = h0) (fun _ _ _ _ _ => True) (fun _ U o U' => ∃ v L, o = .returned v ∧ Q10 Z r0 r1 h0 n0 v U'.heap L ∧ FrameEnd U o U' L ({ frames := 0, cells := 0, slots := 0, locals := 0 } : Room).cells ({ frames := 0, cells := 0, slots := 0, locals := 0 } : Room).slots) := by
  refine MetFree.of_bodySF (plainFor_of_name pn_10) hisR ?_
  intro p e s m args below meth c s₁ Bd hml0 hP hK
  obtain ⟨rfl, hZ, hh⟩ := hP
  have hx := Bd.exec
  have hby := Bd.bytes
  have hml : c.maxLocals = 2 := hml0
  have hown : s.vm.findClass "java/util/Objects" = some m.cls := findClass_of_methodNamed Bd.named
  have hnm := (name_of_methodNamed Bd.named Bd.method).1
  have X0 : Stand p l e ({ frames := 0, cells := 0, slots := 0, locals := 0 } : Room) s m #[(.ref r0), (.ref r1)] below meth c s₁ [] 0 0 := Stand.of_body Bd
  have e0 : s₁.heap = h0 := by rw [← hh, Bd.state]; rfl
  have N0 := Fr.nil n0
  have pre0 : ∀ t, Steps p.tables e below (s₁.setTop (mkF m 0 #[oa r0, oa r1] [])) t → Steps p.tables e below (s₁.setTop (entryFrame m #[(.ref r0), (.ref r1)] 2)) t := fun t k => castTop (ef_10 m r0 r1) k
  have c1 : own_G p e below s₁ (mkF m 14 #[oa r0, oa r1] [(.ref r0)]) (mkF m 0 #[oa r0, oa r1] []) := by
    intro t kt
    show oS s₁ (mkF m 0 #[oa r0, oa r1] []) _
    refine XS.aloadN X0.here hx rfl (hb hby d10_0) rfl rfl ?_
    show oS s₁ (mkF m 1 #[oa r0, oa r1] [(.ref r0)]) _
    refine XS.ifnonnullYes X0.here hx rfl (pc0 := 1) (pc' := 13) rfl (hb hby d10_1) rfl (by decide) (by decide) ?_
    show oS s₁ (mkF m 13 #[oa r0, oa r1] []) _
    refine XS.aloadN X0.here hx rfl (hb hby d10_13) rfl rfl ?_
    exact kt
  obtain ⟨fs, hr, hrun, hended, hW, hsame⟩ := X0.leave (v := some (.ref r0)) (fun h => by rw [Bd.returns] at h; cases h)
  refine ⟨_, _, pre0 _ (c1 _ (?_)), hrun, hended, _, _, rfl, ?_, ⟨_, rfl⟩, hW, hsame.mono (by decide) (by decide)⟩
  · show Steps p.tables e below (s₁.setTop (mkF m 14 #[oa r0, oa r1] [(.ref r0)])) _
    jvm_step X0.here [X0.here.top, hx, (hb hby d10_14), X0.method', Bd.returns, Value.isRef, FieldType.isReference]
    first | (intro acts; rw [hr _ acts rfl rfl rfl]) | rw [hr _ _ rfl rfl rfl]
    exact Steps.refl _
  · show Q10 Z r0 r1 h0 n0 _ s₁.heap _
    rw [e0]
    exact ⟨congrArg (fun z => some (Value.ref z)) (show r0 = r0 from rfl), N0, rfl⟩
theorem d9_0 : decode prog_37_method_1_code 0 = .ok (.aload_n 0, 1) := by decide +kernel
theorem d9_1 : decode prog_37_method_1_code 1 = .ok (.invokespecial 1, 3) := by decide +kernel
theorem d9_4 : decode prog_37_method_1_code 4 = .ok (.aload_n 1, 1) := by decide +kernel
theorem d9_5 : decode prog_37_method_1_code 5 = .ok (.ldc 7, 2) := by decide +kernel
theorem d9_7 : decode prog_37_method_1_code 7 = .ok (.invokestatic 9, 3) := by decide +kernel
theorem d9_10 : decode prog_37_method_1_code 10 = .ok (.pop, 1) := by decide +kernel
theorem d9_11 : decode prog_37_method_1_code 11 = .ok (.aload_n 1, 1) := by decide +kernel
theorem d9_12 : decode prog_37_method_1_code 12 = .ok (.invokestatic 15, 3) := by decide +kernel
theorem d9_15 : decode prog_37_method_1_code 15 = .ok (.ifCond .ne 17, 3) := by decide +kernel
theorem d9_32 : decode prog_37_method_1_code 32 = .ok (.aload_n 0, 1) := by decide +kernel
theorem d9_33 : decode prog_37_method_1_code 33 = .ok (.aload_n 1, 1) := by decide +kernel
theorem d9_34 : decode prog_37_method_1_code 34 = .ok (.putfield 30, 3) := by decide +kernel
theorem d9_37 : decode prog_37_method_1_code 37 = .ok (.return_, 1) := by decide +kernel
theorem pn_9 : plainName "com/example/millrace/millrace/model/Numeral" = true := by first | (simp [plainName, overriddenIn]; done) | decide +kernel
theorem ef_9 (m : MethodId) (x0 : Addr) (x1 : Addr) : entryFrame m #[(.ref x0), (.ref x1)] 2 = mkF m 0 #[.val (.ref x0), .val (.ref x1)] [] := by first | (simp [entryFrame, mkF, argsToLocals, Value.category]; done) | rfl
def Q9 (Z : State) (r0 : Addr) (r1 : Addr) (ba : Addr) (ka : ClassId) (cs : Int32) (fm : Value) (tx : List Int32) (h0 : Heap) (n0 : Nat) (v : Option Value) (h : Heap) (L : List Loc) : Prop := v = none ∧ Fr n0 L ∧ Keep h0 h [r0] ∧ Exa Z h r0 "com/example/millrace/millrace/model/Numeral" ∧ Fld Z h r0 "com/example/millrace/millrace/model/Numeral" "text" "Ljava/lang/String;" (.ref r1)
set_option maxRecDepth 65536 in
set_option maxHeartbeats 40000000 in
theorem rm9 (l : Launch) (Z : State) (a0 : Array Value) (hw : ∀ d ∈ tables_1, d.before a0 Z = true) (ws : List Jvm.Cond) (r0 : Addr) (r1 : Addr) (ba : Addr) (ka : ClassId) (cs : Int32) (fm : Value) (tx : List Int32) (h0 : Heap) (n0 : Nat) (Z0 : n0 ≤ h0.size) (O0 : Old Z n0 h0) (Eb : Exa Z h0 r1 "java/lang/String") (Fb : Fld Z h0 r1 "java/lang/String" "value" "[B" (.ref ba)) (Cb : Fld Z h0 r1 "java/lang/String" "coder" "B" (.int (0 : Int32))) (Vb : Arv Z h0 ba ka .byte (Int32.ofNat tx.length) ((tx.map (fun c => c.toInt8.toInt32)).map Value.int) (.int 0)) (SC : Sta Z Z.heap "java/lang/String" "COMPACT_STRINGS" "Z" (.int cs)) (hcs : ¬ cs = (0 : Int32)) (SF : Sta Z Z.heap "jdk/internal/util/Preconditions" "SIOOBE_FORMATTER" "Ljava/util/function/BiFunction;" fm) (hfm : fm.isRef = true) (hn_tx : own_num tx) (Eo : Exa Z h0 r0 "com/example/millrace/millrace/model/Numeral") (Fo : Fld Z h0 r0 "com/example/millrace/millrace/model/Numeral" "text" "Ljava/lang/String;" .null) (g_r0 : n0 ≤ r0) (hne : r1 ≠ r0) (hne2 : ba ≠ r0) :
    MetFree l yy_13 (head1 (Jvm.Cond.code yy_13 prog_37_method_1_code 2 none :: ws) ({ frames := 6, cells := 4, slots := 28, locals := 82 } : Room)) (fun a U => a = #[(.ref r0), (.ref r1)] ∧ Z.Warmed39 U.vm ∧ U.heap = h0 ∧ CHv Z consts_1 U.vm h0) (fun _ _ _ _ _ => True) (fun _ U o U' => ∃ v L, o = .returned v ∧ Q9 Z r0 r1 ba ka cs fm tx h0 n0 v U'.heap L ∧ CHr Z consts_1 U.vm U.heap U'.vm U'.heap ∧ ReturnedEndW U o U' L ({ frames := 6, cells := 4, slots := 28, locals := 82 } : Room).cells ({ frames := 6, cells := 4, slots := 28, locals := 82 } : Room).slots) := by
  refine MetFree.of_bodySF (plainFor_of_name pn_9) hisR ?_
  intro p e s m args below meth c s₁ Bd hml0 hP hK
  obtain ⟨rfl, hZ, hh, hCH⟩ := hP
  have hx := Bd.exec
  have hby := Bd.bytes
  have hml : c.maxLocals = 2 := hml0
  have hown : s.vm.findClass "com/example/millrace/millrace/model/Numeral" = some m.cls := findClass_of_methodNamed Bd.named
  have hnm := (name_of_methodNamed Bd.named Bd.method).1
  have X0 : Stand p l e ({ frames := 6, cells := 4, slots := 28, locals := 82 } : Room) s m #[(.ref r0), (.ref r1)] below meth c s₁ [] 0 0 := Stand.of_body Bd
  have e0 : s₁.heap = h0 := by rw [← hh, Bd.state]; rfl
  have N0 := Fr.nil n0
  have pre0 : ∀ t, Steps p.tables e below (s₁.setTop (mkF m 0 #[oa r0, oa r1] [])) t → Steps p.tables e below (s₁.setTop (entryFrame m #[(.ref r0), (.ref r1)] 2)) t := fun t k => castTop (ef_9 m r0 r1) k
  have hS0 : s.Since s.vm 0 := (State.WarmedH.refl s).since 0
  have hEL : EW Z a0 consts_1 := (EW.cons (own_t hw 45 rfl) (by decide) (EW.cons (own_t hw 55 rfl) (by decide) EW.nil))
  have hwS : ∀ d ∈ Bundle.stringAtoms, d.before a0 Z = true := fun d hd => hw d ((by decide +kernel : ∀ d ∈ Bundle.stringAtoms, d ∈ tables_1) d hd)
  have c2 : own_G p e below s₁ (mkF m 1 #[oa r0, oa r1] [(.ref r0)]) (mkF m 0 #[oa r0, oa r1] []) := by
    intro t kt
    show oS s₁ (mkF m 0 #[oa r0, oa r1] []) _
    refine XS.aloadN X0.here hx rfl (hb hby d9_0) rfl rfl ?_
    exact kt
  obtain ⟨T1, X1, e1, st1⟩ := initO X0 hx hZ hown (own_t hw 44 rfl) (own_t hw 20 rfl) (own_t hw 21 rfl) e0 (g := (mkF m 1 #[oa r0, oa r1] [(.ref r0)])) rfl (by rw [hml]; rfl) rfl (hb hby d9_1) (by decide) (W := 0) (by show 2 * 0 + _ ≤ _; exact Nat.le_of_eq rfl) (by decide)
  have c4 : own_G p e below T1 (mkF m 5 #[oa r0, oa r1] [(.ref r1)]) (mkF m 4 #[oa r0, oa r1] []) := by
    intro t kt
    show oS T1 (mkF m 4 #[oa r0, oa r1] []) _
    refine XS.aloadN X1.here hx rfl (hb hby d9_4) rfl rfl ?_
    exact kt
  obtain ⟨a3, T3, h3, j3, b3, kb3, X3, e3, E3, hS3, hk3, hZ, hown, Es3, Fc3, Fv3, Va3, la3, lb3, CH3, Lt3, Sf3, st3⟩ := ldcCH (s := s) (vm0 := s.vm) X1 hx hZ hown (own_t hw 45 rfl) hwS e1 hS0 (Nat.zero_le _) hEL (List.mem_of_getElem? (i := 0) rfl) (CHr.refl hCH).1 (vs := [(.int (116 : Int32)), (.int (101 : Int32)), (.int (120 : Int32)), (.int (116 : Int32))]) (z := (4 : Int32)) ⟨by decide, rfl⟩ (by decide) rfl (g := (mkF m 5 #[oa r0, oa r1] [(.ref r1)])) rfl (hb hby d9_5) (n := 16) (by decide) (by decide) (by decide) (by decide)
  have ch3 := (CHr.refl hCH).trans CH3
  have f5 := (Nat.le_trans Z0 E3.1)
  obtain ⟨_, _, ⟨T6, L6, k6, n6⟩, -, X6, ⟨Lc6, hQ6, l6, y6, z6⟩, st6⟩ := Jvm.LawKit.callS X3 hx (y := yy_12) hown (mvT hZ (own_t hw 48 rfl)) (mvT hZ (own_t hw 49 rfl)) (mvT hZ (own_t hw 50 rfl)) (mvT hZ (own_t hw 51 rfl)) (by decide) (backOf (W := 0) (rm10 l Z a0 hw [] r1 a3  h3 n0 f5 ) hZ (own_t hw 51 rfl) (own_t hw 50 rfl) (by decide) (by decide)) (g := (mkF m 7 #[oa r0, oa r1] [(.ref a3), (.ref r1)])) rfl (by rw [hml]; rfl) (argsL := [(.ref r1), (.ref a3)]) (rest := []) (lenOf pd_11 rfl) rfl (by show 2 * 0 + _ ≤ _; exact Nat.le_of_eq rfl) (hb hby d9_7) (fun _ _ => ⟨rfl, e3, (by decide : 2 + 0 ≤ _), (by decide : 20 + 0 ≤ _)⟩)
  dsimp only [Pt.U, Pt.locs, Pt.cells, Pt.slots] at X6 l6 y6 z6 st6 hQ6
  subst l6 y6 z6
  obtain ⟨rfl, N6q, e6⟩ := hQ6
  have N6 := Fr.app N0 N6q
  have c7 : own_G p e below T6 (mkF m 12 #[oa r0, oa r1] [(.ref r1)]) (mkF m 10 #[oa r0, oa r1] [(.ref r1)]) := by
    intro t kt
    show oS T6 (mkF m 10 #[oa r0, oa r1] [(.ref r1)]) _
    refine XS.pop X6.here hx rfl (hb hby d9_10) rfl rfl ?_
    show oS T6 (mkF m 11 #[oa r0, oa r1] []) _
    refine XS.aloadN X6.here hx rfl (hb hby d9_11) rfl rfl ?_
    exact kt
  have f8 := (Eb.ext E3)
  have f9 := (Fb.ext E3)
  have f10 := (Cb.ext E3)
  have f11 := (Vb.ext E3)
  have f12 := (O0.ext E3)
  have f13 := ((Keep.refl h0 [r0]).ext E3)
  obtain ⟨_, _, ⟨T14, L14, k14, n14⟩, -, X14, hSq14, gr14, ⟨Lc14, hQ14, l14, y14, z14, CHq14⟩, st14⟩ := callSS (s := s.setVm T3.vm) X6 hx (y := yy_11) hown (mvT hZ (own_t hw 52 rfl)) (mvT hZ (own_t hw 53 rfl)) (mvT hZ (own_t hw 40 rfl)) (mvT hZ (own_t hw 54 rfl)) (by decide) (backOfSH (s := s) (vm0 := T3.vm) (W := 0) (rm11 l Z a0 hw [] r1 ba ka cs fm tx h3 n0 f5 f12 f8 f9 f10 f11 SC hcs SF hfm hn_tx) hZ (own_t hw 54 rfl) (own_t hw 40 rfl) (by decide) (by decide) hEL ch3.1) (g := (mkF m 12 #[oa r0, oa r1] [(.ref r1)])) rfl (by rw [hml]; rfl) (argsL := [(.ref r1)]) (rest := []) (lenOf pd_9 rfl) rfl (by show 2 * 0 + _ ≤ _; exact Nat.le_of_eq rfl) (hb hby d9_12) (fun _ _ => ⟨rfl, e6, (by decide : 2 + 2 ≤ _), (by decide : 20 + 8 ≤ _)⟩)
  dsimp only [Pt.U, Pt.locs, Pt.cells, Pt.slots] at X14 l14 y14 z14 st14 hQ14 hSq14 gr14 CHq14
  subst l14 y14 z14
  have hS14 : s.Since T14.vm T14.heap.size := foldS (T := T6) hS3 (by rw [e6]; exact hk3) hSq14 gr14
  have hZ14 : Z.Warmed39 (s.setVm T14.vm).vm := State.Warmed39.trans (t := s.setVm T3.vm) hZ hSq14.1
  have hown14 : (s.setVm T14.vm).vm.findClass "com/example/millrace/millrace/model/Numeral" = some m.cls := by rw [show (s.setVm T14.vm).vm = T14.vm from rfl, hSq14.1.alike.findClass]; exact hown
  replace hZ := hZ14
  replace hown := hown14
  have ch14 := ch3.trans CHq14
  obtain ⟨rfl, N14q, Kq14⟩ := hQ14
  have N14 := Fr.app N6 N14q
  have f15 := ((Eo.ext E3).keep Kq14)
  have sf16_r0 : Safe Z consts_1 T14.vm T14.heap r0 := Safe.exa hZ.alike f15 (by decide) (by decide)
  have f17 := ((Fo.ext E3).keep Kq14 nin0)
  have c19 : own_G p e below T14 (mkF m 34 #[oa r0, oa r1] [(.ref r1), (.ref r0)]) (mkF m 15 #[oa r0, oa r1] [(.int (1 : Int32))]) := by
    intro t kt
    show oS T14 (mkF m 15 #[oa r0, oa r1] [(.int (1 : Int32))]) _
    refine XS.ifYes X14.here hx rfl (pc0 := 15) (pc' := 32) rfl (hb hby d9_15) rfl ((if0 _ _).trans (feq (by decide : ¬ ((1 : Int32) = (0 : Int32)))).2) (by decide) (by decide) ?_
    show oS T14 (mkF m 32 #[oa r0, oa r1] []) _
    refine XS.aloadN X14.here hx rfl (hb hby d9_32) rfl rfl ?_
    show oS T14 (mkF m 33 #[oa r0, oa r1] [(.ref r0)]) _
    refine XS.aloadN X14.here hx rfl (hb hby d9_33) rfl rfl ?_
    exact kt
  obtain ⟨T18, h18, X18, e18, W18, st18⟩ := putF X14 hx hZ hown (host := "") (Or.inl (own_t hw 109 rfl)) Via.refl rfl f17 f15 (Or.inr ⟨(own_t hw 110 rfl), rfl, hnm⟩) (own_t hw 39 rfl) (ty := (.object "java/lang/String")) (by decide) rfl rfl (g := (mkF m 34 #[oa r0, oa r1] [(.ref r1), (.ref r0)])) rfl rfl (hb hby d9_34)
  have Fw18 := f17.same W18
  have N18 := Fr.snoc X18 N14 g_r0
  have ch21 := ch14.trans (CHr.wr W18 sf16_r0 ch14.1)
  have sf21_r0 := Safe.wr W18 sf16_r0 ch14.1 sf16_r0
  have f22 := (Nat.le_trans (Nat.le_refl _) (Keep.of_wr W18).1)
  obtain ⟨fs, hr, hrun, hended, hwd⟩ := Stand.leaveW (s := s) (vm₁ := T14.vm) X18 hS14 (by rw [e18]; exact f22) (v := none) (fun _ => rfl)
  have hCr : CHr Z consts_1 s.vm s.heap (T18.setFrames fs).vm (T18.setFrames fs).heap := by
    show CHr Z consts_1 s.vm s.heap T18.vm T18.heap
    rw [hh, e18]
    exact ch21.trans (CHv.at (s := s) (vm0 := T14.vm) X18 hZ hEL ch21.1)
  have f23 := ((f13.trans Kq14 all0).wr W18 (Or.inl (List.mem_of_getElem? (i := 0) rfl)))
  have f24 := (f15.wr W18)
  refine ⟨_, _, pre0 _ (c2 _ (st1 _ (c4 _ (st3 _ (st6 _ (c7 _ (st14.trans (c19 _ (st18 _ (?_)))))))))), hrun, hended, _, _, rfl, ?_, hCr, hwd.1, hwd.2.1, hwd.2.2.1, hwd.2.2.2.mono (by decide) (by decide)⟩
  · show Steps p.tables e below (T18.setTop (mkF m 37 #[oa r0, oa r1] [])) _
    exact X18.returnOut hx Bd.returns (hb hby d9_37) hr
  · show Q9 Z r0 r1 ba ka cs fm tx h0 n0 _ T18.heap _
    rw [e18]
    exact ⟨rfl, N18, f23, f24, Fw18⟩
theorem d2_0 : decode method_2_code 0 = .ok (.bipush 48, 2) := by decide +kernel
theorem d2_2 : decode method_2_code 2 = .ok (.iload_n 0, 1) := by decide +kernel
theorem d2_3 : decode method_2_code 3 = .ok (.iadd, 1) := by decide +kernel
theorem d2_4 : decode method_2_code 4 = .ok (.i2c, 1) := by decide +kernel
theorem d2_5 : decode method_2_code 5 = .ok (.ireturn, 1) := by decide +kernel
theorem pn_2 : plainName "com/example/millrace/millrace/model/NumeralEqualsPinLaw" = true := by first | (simp [plainName, overriddenIn]; done) | decide +kernel
theorem ef_2 (m : MethodId) (x0 : Int32) : entryFrame m #[(.int x0)] 1 = mkF m 0 #[.val (.int x0)] [] := by first | (simp [entryFrame, mkF, argsToLocals, Value.category]; done) | rfl
def Q2 (Z : State) (p0 : Int32) (h0 : Heap) (n0 : Nat) (v : Option Value) (h : Heap) (L : List Loc) : Prop := v = some (.int (own_dig p0)) ∧ Fr n0 L ∧ h = h0
set_option maxRecDepth 65536 in
set_option maxHeartbeats 40000000 in
theorem rm2 (l : Launch) (Z : State) (a0 : Array Value) (hw : ∀ d ∈ tables_1, d.before a0 Z = true) (ws : List Jvm.Cond) (p0 : Int32)  (h0 : Heap) (n0 : Nat) (Z0 : n0 ≤ h0.size) :
    MetFree l yy_14 (head1 (Jvm.Cond.code yy_14 method_2_code 1 (some .char) :: ws) ({ frames := 0, cells := 0, slots := 0, locals := 0 } : Room)) (fun a U => a = #[(.int p0)] ∧ Z.Warmed39 U.vm ∧ U.heap = h0) (fun _ _ _ _ _ => True) (fun _ U o U' => ∃ v L, o = .returned v ∧ Q2 Z p0 h0 n0 v U'.heap L ∧ FrameEnd U o U' L ({ frames := 0, cells := 0, slots := 0, locals := 0 } : Room).cells ({ frames := 0, cells := 0, slots := 0, locals := 0 } : Room).slots) := by
  refine MetFree.of_bodySF (plainFor_of_name pn_2) hisR ?_
  intro p e s m args below meth c s₁ Bd hml0 hP hK
  obtain ⟨rfl, hZ, hh⟩ := hP
  have hx := Bd.exec
  have hby := Bd.bytes
  have hml : c.maxLocals = 1 := hml0
  have hown : s.vm.findClass "com/example/millrace/millrace/model/NumeralEqualsPinLaw" = some m.cls := findClass_of_methodNamed Bd.named
  have hnm := (name_of_methodNamed Bd.named Bd.method).1
  have X0 : Stand p l e ({ frames := 0, cells := 0, slots := 0, locals := 0 } : Room) s m #[(.int p0)] below meth c s₁ [] 0 0 := Stand.of_body Bd
  have e0 : s₁.heap = h0 := by rw [← hh, Bd.state]; rfl
  have N0 := Fr.nil n0
  have pre0 : ∀ t, Steps p.tables e below (s₁.setTop (mkF m 0 #[oi p0] [])) t → Steps p.tables e below (s₁.setTop (entryFrame m #[(.int p0)] 1)) t := fun t k => castTop (ef_2 m p0) k
  have c1 : own_G p e below s₁ (mkF m 5 #[oi p0] [(.int (((48 : Int32) + p0).toUInt32.toUInt16.toUInt32.toInt32))]) (mkF m 0 #[oi p0] []) := by
    intro t kt
    show oS s₁ (mkF m 0 #[oi p0] []) _
    refine XS.bipush X0.here hx rfl (hb hby d2_0) ?_
    show oS s₁ (mkF m 2 #[oi p0] [(.int (48 : Int32))]) _
    refine XS.iloadN X0.here hx rfl (hb hby d2_2) rfl ?_
    show oS s₁ (mkF m 3 #[oi p0] [(.int p0), (.int (48 : Int32))]) _
    refine XS.iadd X0.here hx rfl (hb hby d2_3) rfl ?_
    show oS s₁ (mkF m 4 #[oi p0] [(.int ((48 : Int32) + p0))]) _
    refine XS.i2c X0.here hx rfl (hb hby d2_4) rfl ?_
    exact kt
  obtain ⟨fs, hr, hrun, hended, hW, hsame⟩ := X0.leave (v := some (.int ((((48 : Int32) + p0).toUInt32.toUInt16.toUInt32.toInt32).toUInt32.toUInt16.toUInt32.toInt32))) (fun h => by rw [Bd.returns] at h; cases h)
  refine ⟨_, _, pre0 _ (c1 _ (?_)), hrun, hended, _, _, rfl, ?_, ⟨_, rfl⟩, hW, hsame.mono (by decide) (by decide)⟩
  · show Steps p.tables e below (s₁.setTop (mkF m 5 #[oi p0] [(.int (((48 : Int32) + p0).toUInt32.toUInt16.toUInt32.toInt32))])) _
    exact retN X0 hx (t := .char) Bd.returns (by simp) (hb hby d2_5) hr
  · show Q2 Z p0 h0 n0 _ s₁.heap _
    rw [e0]
    exact ⟨congrArg (fun z => some (Value.int z)) (show ((((48 : Int32) + p0).toUInt32.toUInt16.toUInt32.toInt32).toUInt32.toUInt16.toUInt32.toInt32) = (own_dig p0) from by rfl), N0, rfl⟩
theorem d1_0 : decode method_3_code 0 = .ok (.iload_n 0, 1) := by decide +kernel
theorem d1_1 : decode method_3_code 1 = .ok (.ldc 7, 2) := by decide +kernel
theorem d1_3 : decode method_3_code 3 = .ok (.iand, 1) := by decide +kernel
theorem d1_4 : decode method_3_code 4 = .ok (.iconst 5, 1) := by decide +kernel
theorem d1_5 : decode method_3_code 5 = .ok (.irem, 1) := by decide +kernel
theorem d1_6 : decode method_3_code 6 = .ok (.istore_n 1, 1) := by decide +kernel
theorem d1_7 : decode method_3_code 7 = .ok (.iload_n 0, 1) := by decide +kernel
theorem d1_8 : decode method_3_code 8 = .ok (.bipush 8, 2) := by decide +kernel
theorem d1_10 : decode method_3_code 10 = .ok (.iushr, 1) := by decide +kernel
theorem d1_11 : decode method_3_code 11 = .ok (.istore_n 2, 1) := by decide +kernel
theorem d1_12 : decode method_3_code 12 = .ok (.iload_n 2, 1) := by decide +kernel
theorem d1_13 : decode method_3_code 13 = .ok (.bipush 10, 2) := by decide +kernel
theorem d1_15 : decode method_3_code 15 = .ok (.irem, 1) := by decide +kernel
theorem d1_16 : decode method_3_code 16 = .ok (.istore_n 3, 1) := by decide +kernel
theorem d1_17 : decode method_3_code 17 = .ok (.iload_n 2, 1) := by decide +kernel
theorem d1_18 : decode method_3_code 18 = .ok (.bipush 10, 2) := by decide +kernel
theorem d1_20 : decode method_3_code 20 = .ok (.idiv, 1) := by decide +kernel
theorem d1_21 : decode method_3_code 21 = .ok (.bipush 10, 2) := by decide +kernel
theorem d1_23 : decode method_3_code 23 = .ok (.irem, 1) := by decide +kernel
theorem d1_24 : decode method_3_code 24 = .ok (.istore 4, 2) := by decide +kernel
theorem d1_26 : decode method_3_code 26 = .ok (.iload_n 2, 1) := by decide +kernel
theorem d1_27 : decode method_3_code 27 = .ok (.bipush 100, 2) := by decide +kernel
theorem d1_29 : decode method_3_code 29 = .ok (.idiv, 1) := by decide +kernel
theorem d1_30 : decode method_3_code 30 = .ok (.iconst 1, 1) := by decide +kernel
theorem d1_31 : decode method_3_code 31 = .ok (.iand, 1) := by decide +kernel
theorem d1_32 : decode method_3_code 32 = .ok (.ifCond .eq 7, 3) := by decide +kernel
theorem d1_35 : decode method_3_code 35 = .ok (.iconst 1, 1) := by decide +kernel
theorem d1_36 : decode method_3_code 36 = .ok (.goto 4, 3) := by decide +kernel
theorem d1_39 : decode method_3_code 39 = .ok (.iconst 0, 1) := by decide +kernel
theorem d1_40 : decode method_3_code 40 = .ok (.istore 5, 2) := by decide +kernel
theorem d1_42 : decode method_3_code 42 = .ok (.iload_n 1, 1) := by decide +kernel
theorem d1_43 : decode method_3_code 43 = .ok (.ifCond .ne 21, 3) := by decide +kernel
theorem d1_46 : decode method_3_code 46 = .ok (.new 8, 3) := by decide +kernel
theorem d1_49 : decode method_3_code 49 = .ok (.dup, 1) := by decide +kernel
theorem d1_50 : decode method_3_code 50 = .ok (.iconst 1, 1) := by decide +kernel
theorem d1_51 : decode method_3_code 51 = .ok (.newarray .char, 2) := by decide +kernel
theorem d1_53 : decode method_3_code 53 = .ok (.dup, 1) := by decide +kernel
theorem d1_54 : decode method_3_code 54 = .ok (.iconst 0, 1) := by decide +kernel
theorem d1_55 : decode method_3_code 55 = .ok (.iload_n 3, 1) := by decide +kernel
theorem d1_56 : decode method_3_code 56 = .ok (.invokestatic 10, 3) := by decide +kernel
theorem d1_59 : decode method_3_code 59 = .ok (.castore, 1) := by decide +kernel
theorem d1_60 : decode method_3_code 60 = .ok (.invokespecial 16, 3) := by decide +kernel
theorem d1_63 : decode method_3_code 63 = .ok (.areturn, 1) := by decide +kernel
theorem d1_64 : decode method_3_code 64 = .ok (.iload_n 1, 1) := by decide +kernel
theorem d1_65 : decode method_3_code 65 = .ok (.iconst 1, 1) := by decide +kernel
theorem d1_66 : decode method_3_code 66 = .ok (.if_icmp .ne 26, 3) := by decide +kernel
theorem d1_69 : decode method_3_code 69 = .ok (.new 8, 3) := by decide +kernel
theorem d1_72 : decode method_3_code 72 = .ok (.dup, 1) := by decide +kernel
theorem d1_73 : decode method_3_code 73 = .ok (.iconst 2, 1) := by decide +kernel
theorem d1_74 : decode method_3_code 74 = .ok (.newarray .char, 2) := by decide +kernel
theorem d1_76 : decode method_3_code 76 = .ok (.dup, 1) := by decide +kernel
theorem d1_77 : decode method_3_code 77 = .ok (.iconst 0, 1) := by decide +kernel
theorem d1_78 : decode method_3_code 78 = .ok (.bipush 45, 2) := by decide +kernel
theorem d1_80 : decode method_3_code 80 = .ok (.castore, 1) := by decide +kernel
theorem d1_81 : decode method_3_code 81 = .ok (.dup, 1) := by decide +kernel
theorem d1_82 : decode method_3_code 82 = .ok (.iconst 1, 1) := by decide +kernel
theorem d1_83 : decode method_3_code 83 = .ok (.iload_n 3, 1) := by decide +kernel
theorem d1_84 : decode method_3_code 84 = .ok (.invokestatic 10, 3) := by decide +kernel
theorem d1_87 : decode method_3_code 87 = .ok (.castore, 1) := by decide +kernel
theorem d1_88 : decode method_3_code 88 = .ok (.invokespecial 16, 3) := by decide +kernel
theorem d1_91 : decode method_3_code 91 = .ok (.areturn, 1) := by decide +kernel
theorem d1_92 : decode method_3_code 92 = .ok (.iload_n 1, 1) := by decide +kernel
theorem d1_93 : decode method_3_code 93 = .ok (.iconst 2, 1) := by decide +kernel
theorem d1_94 : decode method_3_code 94 = .ok (.if_icmp .ne 34, 3) := by decide +kernel
theorem d1_97 : decode method_3_code 97 = .ok (.new 8, 3) := by decide +kernel
theorem d1_100 : decode method_3_code 100 = .ok (.dup, 1) := by decide +kernel
theorem d1_101 : decode method_3_code 101 = .ok (.iconst 2, 1) := by decide +kernel
theorem d1_102 : decode method_3_code 102 = .ok (.newarray .char, 2) := by decide +kernel
theorem d1_104 : decode method_3_code 104 = .ok (.dup, 1) := by decide +kernel
theorem d1_105 : decode method_3_code 105 = .ok (.iconst 0, 1) := by decide +kernel
theorem d1_106 : decode method_3_code 106 = .ok (.iconst 1, 1) := by decide +kernel
theorem d1_107 : decode method_3_code 107 = .ok (.iload_n 3, 1) := by decide +kernel
theorem d1_108 : decode method_3_code 108 = .ok (.bipush 9, 2) := by decide +kernel
theorem d1_110 : decode method_3_code 110 = .ok (.irem, 1) := by decide +kernel
theorem d1_111 : decode method_3_code 111 = .ok (.iadd, 1) := by decide +kernel
theorem d1_112 : decode method_3_code 112 = .ok (.invokestatic 10, 3) := by decide +kernel
theorem d1_115 : decode method_3_code 115 = .ok (.castore, 1) := by decide +kernel
theorem d1_116 : decode method_3_code 116 = .ok (.dup, 1) := by decide +kernel
theorem d1_117 : decode method_3_code 117 = .ok (.iconst 1, 1) := by decide +kernel
theorem d1_118 : decode method_3_code 118 = .ok (.iload 4, 2) := by decide +kernel
theorem d1_120 : decode method_3_code 120 = .ok (.invokestatic 10, 3) := by decide +kernel
theorem d1_123 : decode method_3_code 123 = .ok (.castore, 1) := by decide +kernel
theorem d1_124 : decode method_3_code 124 = .ok (.invokespecial 16, 3) := by decide +kernel
theorem d1_127 : decode method_3_code 127 = .ok (.areturn, 1) := by decide +kernel
theorem d1_128 : decode method_3_code 128 = .ok (.iload_n 1, 1) := by decide +kernel
theorem d1_129 : decode method_3_code 129 = .ok (.iconst 3, 1) := by decide +kernel
theorem d1_130 : decode method_3_code 130 = .ok (.if_icmp .ne 34, 3) := by decide +kernel
theorem d1_133 : decode method_3_code 133 = .ok (.new 8, 3) := by decide +kernel
theorem d1_136 : decode method_3_code 136 = .ok (.dup, 1) := by decide +kernel
theorem d1_137 : decode method_3_code 137 = .ok (.iconst 3, 1) := by decide +kernel
theorem d1_138 : decode method_3_code 138 = .ok (.newarray .char, 2) := by decide +kernel
theorem d1_140 : decode method_3_code 140 = .ok (.dup, 1) := by decide +kernel
theorem d1_141 : decode method_3_code 141 = .ok (.iconst 0, 1) := by decide +kernel
theorem d1_142 : decode method_3_code 142 = .ok (.iload_n 3, 1) := by decide +kernel
theorem d1_143 : decode method_3_code 143 = .ok (.invokestatic 10, 3) := by decide +kernel
theorem d1_146 : decode method_3_code 146 = .ok (.castore, 1) := by decide +kernel
theorem d1_147 : decode method_3_code 147 = .ok (.dup, 1) := by decide +kernel
theorem d1_148 : decode method_3_code 148 = .ok (.iconst 1, 1) := by decide +kernel
theorem d1_149 : decode method_3_code 149 = .ok (.bipush 46, 2) := by decide +kernel
theorem d1_151 : decode method_3_code 151 = .ok (.castore, 1) := by decide +kernel
theorem d1_152 : decode method_3_code 152 = .ok (.dup, 1) := by decide +kernel
theorem d1_153 : decode method_3_code 153 = .ok (.iconst 2, 1) := by decide +kernel
theorem d1_154 : decode method_3_code 154 = .ok (.iload 4, 2) := by decide +kernel
theorem d1_156 : decode method_3_code 156 = .ok (.invokestatic 10, 3) := by decide +kernel
theorem d1_159 : decode method_3_code 159 = .ok (.castore, 1) := by decide +kernel
theorem d1_160 : decode method_3_code 160 = .ok (.invokespecial 16, 3) := by decide +kernel
theorem d1_163 : decode method_3_code 163 = .ok (.areturn, 1) := by decide +kernel
theorem d1_164 : decode method_3_code 164 = .ok (.new 8, 3) := by decide +kernel
theorem d1_167 : decode method_3_code 167 = .ok (.dup, 1) := by decide +kernel
theorem d1_168 : decode method_3_code 168 = .ok (.iconst 3, 1) := by decide +kernel
theorem d1_169 : decode method_3_code 169 = .ok (.newarray .char, 2) := by decide +kernel
theorem d1_171 : decode method_3_code 171 = .ok (.dup, 1) := by decide +kernel
theorem d1_172 : decode method_3_code 172 = .ok (.iconst 0, 1) := by decide +kernel
theorem d1_173 : decode method_3_code 173 = .ok (.iload_n 3, 1) := by decide +kernel
theorem d1_174 : decode method_3_code 174 = .ok (.invokestatic 10, 3) := by decide +kernel
theorem d1_177 : decode method_3_code 177 = .ok (.castore, 1) := by decide +kernel
theorem d1_178 : decode method_3_code 178 = .ok (.dup, 1) := by decide +kernel
theorem d1_179 : decode method_3_code 179 = .ok (.iconst 1, 1) := by decide +kernel
theorem d1_180 : decode method_3_code 180 = .ok (.iload 5, 2) := by decide +kernel
theorem d1_182 : decode method_3_code 182 = .ok (.ifCond .eq 8, 3) := by decide +kernel
theorem d1_185 : decode method_3_code 185 = .ok (.bipush 101, 2) := by decide +kernel
theorem d1_187 : decode method_3_code 187 = .ok (.goto 5, 3) := by decide +kernel
theorem d1_190 : decode method_3_code 190 = .ok (.bipush 69, 2) := by decide +kernel
theorem d1_192 : decode method_3_code 192 = .ok (.castore, 1) := by decide +kernel
theorem d1_193 : decode method_3_code 193 = .ok (.dup, 1) := by decide +kernel
theorem d1_194 : decode method_3_code 194 = .ok (.iconst 2, 1) := by decide +kernel
theorem d1_195 : decode method_3_code 195 = .ok (.iload 4, 2) := by decide +kernel
theorem d1_197 : decode method_3_code 197 = .ok (.invokestatic 10, 3) := by decide +kernel
theorem d1_200 : decode method_3_code 200 = .ok (.castore, 1) := by decide +kernel
theorem d1_201 : decode method_3_code 201 = .ok (.invokespecial 16, 3) := by decide +kernel
theorem d1_204 : decode method_3_code 204 = .ok (.areturn, 1) := by decide +kernel
theorem pn_1 : plainName "com/example/millrace/millrace/model/NumeralEqualsPinLaw" = true := by first | (simp [plainName, overriddenIn]; done) | decide +kernel
theorem ef_1 (m : MethodId) (x0 : Int32) : entryFrame m #[(.int x0)] 6 = mkF m 0 #[.val (.int x0), .unset, .unset, .unset, .unset, .unset] [] := by first | (simp [entryFrame, mkF, argsToLocals, Value.category]; done) | rfl
def Q1 (Z : State) (p0 : Int32) (cs : Int32) (fm : Value) (h0 : Heap) (n0 : Nat) (v : Option Value) (h : Heap) (L : List Loc) : Prop := ∃ sa rb kb tx, v = some (.ref sa) ∧ own_num tx ∧ Fr n0 L ∧ Keep h0 h [] ∧ h0.size ≤ sa ∧ h0.size ≤ rb ∧ Exa Z h sa "java/lang/String" ∧ Fld Z h sa "java/lang/String" "value" "[B" (.ref rb) ∧ Fld Z h sa "java/lang/String" "coder" "B" (.int (0 : Int32)) ∧ Arv Z h rb kb .byte (Int32.ofNat tx.length) ((tx.map (fun c => c.toInt8.toInt32)).map Value.int) (.int 0)
set_option maxRecDepth 65536 in
set_option maxHeartbeats 40000000 in
theorem rm1 (l : Launch) (Z : State) (a0 : Array Value) (hw : ∀ d ∈ tables_1, d.before a0 Z = true) (ws : List Jvm.Cond) (p0 : Int32) (cs : Int32) (fm : Value) (h0 : Heap) (n0 : Nat) (Z0 : n0 ≤ h0.size) (O0 : Old Z n0 h0) (SC : Sta Z Z.heap "java/lang/String" "COMPACT_STRINGS" "Z" (.int cs)) (hcs : ¬ cs = (0 : Int32)) (SF : Sta Z Z.heap "jdk/internal/util/Preconditions" "SIOOBE_FORMATTER" "Ljava/util/function/BiFunction;" fm) (hfm : fm.isRef = true) :
    MetFree l yy_16 (head1 (Jvm.Cond.code yy_16 method_3_code 6 (some (.object "java/lang/String")) :: ws) ({ frames := 4, cells := 3, slots := 10, locals := 66 } : Room)) (fun a U => a = #[(.int p0)] ∧ Z.Warmed39 U.vm ∧ U.heap = h0) (fun _ _ _ _ _ => True) (fun _ U o U' => ∃ v L, o = .returned v ∧ Q1 Z p0 cs fm h0 n0 v U'.heap L ∧ FrameEnd U o U' L ({ frames := 4, cells := 3, slots := 10, locals := 66 } : Room).cells ({ frames := 4, cells := 3, slots := 10, locals := 66 } : Room).slots) := by
  refine MetFree.of_bodySF (plainFor_of_name pn_1) hisR ?_
  intro p e s m args below meth c s₁ Bd hml0 hP hK
  obtain ⟨rfl, hZ, hh⟩ := hP
  have hx := Bd.exec
  have hby := Bd.bytes
  have hml : c.maxLocals = 6 := hml0
  have hown : s.vm.findClass "com/example/millrace/millrace/model/NumeralEqualsPinLaw" = some m.cls := findClass_of_methodNamed Bd.named
  have hnm := (name_of_methodNamed Bd.named Bd.method).1
  have X0 : Stand p l e ({ frames := 4, cells := 3, slots := 10, locals := 66 } : Room) s m #[(.int p0)] below meth c s₁ [] 0 0 := Stand.of_body Bd
  have e0 : s₁.heap = h0 := by rw [← hh, Bd.state]; rfl
  have N0 := Fr.nil n0
  have pre0 : ∀ t, Steps p.tables e below (s₁.setTop (mkF m 0 #[oi p0, .unset, .unset, .unset, .unset, .unset] [])) t → Steps p.tables e below (s₁.setTop (entryFrame m #[(.int p0)] 6)) t := fun t k => castTop (ef_1 m p0) k
  have hws : ∀ d ∈ StrChars.Road.words, d.before a0 Z = true := fun d hd => hw d ((by decide +kernel : ∀ d ∈ StrChars.Road.words, d ∈ tables_1) d hd)
  have c1 : own_G p e below s₁ (mkF m 26 #[oi p0, oi ((p0 &&& (2147483647 : Int32)) % (5 : Int32)), oi ((p0.toUInt32 >>> ((8 : Int32) &&& 31).toUInt32).toInt32), oi (((p0.toUInt32 >>> ((8 : Int32) &&& 31).toUInt32).toInt32) % (10 : Int32)), oi ((((p0.toUInt32 >>> ((8 : Int32) &&& 31).toUInt32).toInt32) / (10 : Int32)) % (10 : Int32)), .unset] []) (mkF m 0 #[oi p0, .unset, .unset, .unset, .unset, .unset] []) := by
    intro t kt
    show oS s₁ (mkF m 0 #[oi p0, .unset, .unset, .unset, .unset, .unset] []) _
    refine XS.iloadN X0.here hx rfl (hb hby d1_0) rfl ?_
    show oS s₁ (mkF m 1 #[oi p0, .unset, .unset, .unset, .unset, .unset] [(.int p0)]) _
    refine X0.ldcInt hx hown (mvT hZ (own_t hw 4 rfl)) (g := (mkF m 1 #[oi p0, .unset, .unset, .unset, .unset, .unset] [(.int p0)])) rfl (hb hby d1_1) _ ?_
    show oS s₁ (mkF m 3 #[oi p0, .unset, .unset, .unset, .unset, .unset] [(.int (2147483647 : Int32)), (.int p0)]) _
    refine XS.iand X0.here hx rfl (hb hby d1_3) rfl ?_
    show oS s₁ (mkF m 4 #[oi p0, .unset, .unset, .unset, .unset, .unset] [(.int (p0 &&& (2147483647 : Int32)))]) _
    refine XS.iconst X0.here hx rfl (hb hby d1_4) ?_
    show oS s₁ (mkF m 5 #[oi p0, .unset, .unset, .unset, .unset, .unset] [(.int (5 : Int32)), (.int (p0 &&& (2147483647 : Int32)))]) _
    refine iremM X0 hx rfl (hb hby d1_5) rfl (by decide) ?_
    show oS s₁ (mkF m 6 #[oi p0, .unset, .unset, .unset, .unset, .unset] [(.int ((p0 &&& (2147483647 : Int32)) % (5 : Int32)))]) _
    refine XS.istoreN X0.here hx rfl (hb hby d1_6) rfl (l' := #[oi p0, oi ((p0 &&& (2147483647 : Int32)) % (5 : Int32)), .unset, .unset, .unset, .unset]) rfl ?_
    show oS s₁ (mkF m 7 #[oi p0, oi ((p0 &&& (2147483647 : Int32)) % (5 : Int32)), .unset, .unset, .unset, .unset] []) _
    refine XS.iloadN X0.here hx rfl (hb hby d1_7) rfl ?_
    show oS s₁ (mkF m 8 #[oi p0, oi ((p0 &&& (2147483647 : Int32)) % (5 : Int32)), .unset, .unset, .unset, .unset] [(.int p0)]) _
    refine XS.bipush X0.here hx rfl (hb hby d1_8) ?_
    show oS s₁ (mkF m 10 #[oi p0, oi ((p0 &&& (2147483647 : Int32)) % (5 : Int32)), .unset, .unset, .unset, .unset] [(.int (8 : Int32)), (.int p0)]) _
    refine XS.iushr X0.here hx rfl (hb hby d1_10) rfl ?_
    show oS s₁ (mkF m 11 #[oi p0, oi ((p0 &&& (2147483647 : Int32)) % (5 : Int32)), .unset, .unset, .unset, .unset] [(.int ((p0.toUInt32 >>> ((8 : Int32) &&& 31).toUInt32).toInt32))]) _
    refine XS.istoreN X0.here hx rfl (hb hby d1_11) rfl (l' := #[oi p0, oi ((p0 &&& (2147483647 : Int32)) % (5 : Int32)), oi ((p0.toUInt32 >>> ((8 : Int32) &&& 31).toUInt32).toInt32), .unset, .unset, .unset]) rfl ?_
    show oS s₁ (mkF m 12 #[oi p0, oi ((p0 &&& (2147483647 : Int32)) % (5 : Int32)), oi ((p0.toUInt32 >>> ((8 : Int32) &&& 31).toUInt32).toInt32), .unset, .unset, .unset] []) _
    refine XS.iloadN X0.here hx rfl (hb hby d1_12) rfl ?_
    show oS s₁ (mkF m 13 #[oi p0, oi ((p0 &&& (2147483647 : Int32)) % (5 : Int32)), oi ((p0.toUInt32 >>> ((8 : Int32) &&& 31).toUInt32).toInt32), .unset, .unset, .unset] [(.int ((p0.toUInt32 >>> ((8 : Int32) &&& 31).toUInt32).toInt32))]) _
    refine XS.bipush X0.here hx rfl (hb hby d1_13) ?_
    show oS s₁ (mkF m 15 #[oi p0, oi ((p0 &&& (2147483647 : Int32)) % (5 : Int32)), oi ((p0.toUInt32 >>> ((8 : Int32) &&& 31).toUInt32).toInt32), .unset, .unset, .unset] [(.int (10 : Int32)), (.int ((p0.toUInt32 >>> ((8 : Int32) &&& 31).toUInt32).toInt32))]) _
    refine iremM X0 hx rfl (hb hby d1_15) rfl (by decide) ?_
    show oS s₁ (mkF m 16 #[oi p0, oi ((p0 &&& (2147483647 : Int32)) % (5 : Int32)), oi ((p0.toUInt32 >>> ((8 : Int32) &&& 31).toUInt32).toInt32), .unset, .unset, .unset] [(.int (((p0.toUInt32 >>> ((8 : Int32) &&& 31).toUInt32).toInt32) % (10 : Int32)))]) _
    refine XS.istoreN X0.here hx rfl (hb hby d1_16) rfl (l' := #[oi p0, oi ((p0 &&& (2147483647 : Int32)) % (5 : Int32)), oi ((p0.toUInt32 >>> ((8 : Int32) &&& 31).toUInt32).toInt32), oi (((p0.toUInt32 >>> ((8 : Int32) &&& 31).toUInt32).toInt32) % (10 : Int32)), .unset, .unset]) rfl ?_
    show oS s₁ (mkF m 17 #[oi p0, oi ((p0 &&& (2147483647 : Int32)) % (5 : Int32)), oi ((p0.toUInt32 >>> ((8 : Int32) &&& 31).toUInt32).toInt32), oi (((p0.toUInt32 >>> ((8 : Int32) &&& 31).toUInt32).toInt32) % (10 : Int32)), .unset, .unset] []) _
    refine XS.iloadN X0.here hx rfl (hb hby d1_17) rfl ?_
    show oS s₁ (mkF m 18 #[oi p0, oi ((p0 &&& (2147483647 : Int32)) % (5 : Int32)), oi ((p0.toUInt32 >>> ((8 : Int32) &&& 31).toUInt32).toInt32), oi (((p0.toUInt32 >>> ((8 : Int32) &&& 31).toUInt32).toInt32) % (10 : Int32)), .unset, .unset] [(.int ((p0.toUInt32 >>> ((8 : Int32) &&& 31).toUInt32).toInt32))]) _
    refine XS.bipush X0.here hx rfl (hb hby d1_18) ?_
    show oS s₁ (mkF m 20 #[oi p0, oi ((p0 &&& (2147483647 : Int32)) % (5 : Int32)), oi ((p0.toUInt32 >>> ((8 : Int32) &&& 31).toUInt32).toInt32), oi (((p0.toUInt32 >>> ((8 : Int32) &&& 31).toUInt32).toInt32) % (10 : Int32)), .unset, .unset] [(.int (10 : Int32)), (.int ((p0.toUInt32 >>> ((8 : Int32) &&& 31).toUInt32).toInt32))]) _
    refine XS.idiv X0.here hx rfl (hb hby d1_20) rfl (by decide) ?_
    show oS s₁ (mkF m 21 #[oi p0, oi ((p0 &&& (2147483647 : Int32)) % (5 : Int32)), oi ((p0.toUInt32 >>> ((8 : Int32) &&& 31).toUInt32).toInt32), oi (((p0.toUInt32 >>> ((8 : Int32) &&& 31).toUInt32).toInt32) % (10 : Int32)), .unset, .unset] [(.int (((p0.toUInt32 >>> ((8 : Int32) &&& 31).toUInt32).toInt32) / (10 : Int32)))]) _
    refine XS.bipush X0.here hx rfl (hb hby d1_21) ?_
    show oS s₁ (mkF m 23 #[oi p0, oi ((p0 &&& (2147483647 : Int32)) % (5 : Int32)), oi ((p0.toUInt32 >>> ((8 : Int32) &&& 31).toUInt32).toInt32), oi (((p0.toUInt32 >>> ((8 : Int32) &&& 31).toUInt32).toInt32) % (10 : Int32)), .unset, .unset] [(.int (10 : Int32)), (.int (((p0.toUInt32 >>> ((8 : Int32) &&& 31).toUInt32).toInt32) / (10 : Int32)))]) _
    refine iremM X0 hx rfl (hb hby d1_23) rfl (by decide) ?_
    show oS s₁ (mkF m 24 #[oi p0, oi ((p0 &&& (2147483647 : Int32)) % (5 : Int32)), oi ((p0.toUInt32 >>> ((8 : Int32) &&& 31).toUInt32).toInt32), oi (((p0.toUInt32 >>> ((8 : Int32) &&& 31).toUInt32).toInt32) % (10 : Int32)), .unset, .unset] [(.int ((((p0.toUInt32 >>> ((8 : Int32) &&& 31).toUInt32).toInt32) / (10 : Int32)) % (10 : Int32)))]) _
    refine XS.istore X0.here hx rfl (hb hby d1_24) rfl (l' := #[oi p0, oi ((p0 &&& (2147483647 : Int32)) % (5 : Int32)), oi ((p0.toUInt32 >>> ((8 : Int32) &&& 31).toUInt32).toInt32), oi (((p0.toUInt32 >>> ((8 : Int32) &&& 31).toUInt32).toInt32) % (10 : Int32)), oi ((((p0.toUInt32 >>> ((8 : Int32) &&& 31).toUInt32).toInt32) / (10 : Int32)) % (10 : Int32)), .unset]) rfl ?_
    exact kt
  obtain ⟨ve, hve⟩ : ∃ z, z = ((((p0.toUInt32 >>> ((8 : Int32) &&& 31).toUInt32).toInt32) / (10 : Int32)) % (10 : Int32)) := ⟨_, rfl⟩
  have c2 : ∀ t, own_S p e below s₁ (mkF m 26 #[oi p0, oi ((p0 &&& (2147483647 : Int32)) % (5 : Int32)), oi ((p0.toUInt32 >>> ((8 : Int32) &&& 31).toUInt32).toInt32), oi (((p0.toUInt32 >>> ((8 : Int32) &&& 31).toUInt32).toInt32) % (10 : Int32)), oi ve, .unset] []) t → own_S p e below s₁ (mkF m 26 #[oi p0, oi ((p0 &&& (2147483647 : Int32)) % (5 : Int32)), oi ((p0.toUInt32 >>> ((8 : Int32) &&& 31).toUInt32).toInt32), oi (((p0.toUInt32 >>> ((8 : Int32) &&& 31).toUInt32).toInt32) % (10 : Int32)), oi ((((p0.toUInt32 >>> ((8 : Int32) &&& 31).toUInt32).toInt32) / (10 : Int32)) % (10 : Int32)), .unset] []) t := fun t kt => by rw [hve] at kt; exact kt
  obtain ⟨vd, hvd⟩ : ∃ z, z = (((p0.toUInt32 >>> ((8 : Int32) &&& 31).toUInt32).toInt32) % (10 : Int32)) := ⟨_, rfl⟩
  have c3 : ∀ t, own_S p e below s₁ (mkF m 26 #[oi p0, oi ((p0 &&& (2147483647 : Int32)) % (5 : Int32)), oi ((p0.toUInt32 >>> ((8 : Int32) &&& 31).toUInt32).toInt32), oi vd, oi ve, .unset] []) t → own_S p e below s₁ (mkF m 26 #[oi p0, oi ((p0 &&& (2147483647 : Int32)) % (5 : Int32)), oi ((p0.toUInt32 >>> ((8 : Int32) &&& 31).toUInt32).toInt32), oi (((p0.toUInt32 >>> ((8 : Int32) &&& 31).toUInt32).toInt32) % (10 : Int32)), oi ve, .unset] []) t := fun t kt => by rw [hvd] at kt; exact kt
  obtain ⟨vk, hvk⟩ : ∃ z, z = ((p0 &&& (2147483647 : Int32)) % (5 : Int32)) := ⟨_, rfl⟩
  have c4 : ∀ t, own_S p e below s₁ (mkF m 26 #[oi p0, oi vk, oi ((p0.toUInt32 >>> ((8 : Int32) &&& 31).toUInt32).toInt32), oi vd, oi ve, .unset] []) t → own_S p e below s₁ (mkF m 26 #[oi p0, oi ((p0 &&& (2147483647 : Int32)) % (5 : Int32)), oi ((p0.toUInt32 >>> ((8 : Int32) &&& 31).toUInt32).toInt32), oi vd, oi ve, .unset] []) t := fun t kt => by rw [hvk] at kt; exact kt
  obtain ⟨vl, hvl⟩ : ∃ z, z = ((((p0.toUInt32 >>> ((8 : Int32) &&& 31).toUInt32).toInt32) / (100 : Int32)) &&& (1 : Int32)) := ⟨_, rfl⟩
  have q_d : own_isd (own_dc vd) := by rw [hvd]; exact own_d0 p0
  have q_e : own_isd (own_dc ve) := by rw [hve]; exact own_d1 p0
  have q_9 := own_d9 vd (by rw [hvd]; exact (own_mod _ (own_m p0)).1)
  have c5 : ∀ t, own_S p e below s₁ (mkF m 42 #[oi p0, oi vk, oi ((p0.toUInt32 >>> ((8 : Int32) &&& 31).toUInt32).toInt32), oi vd, oi ve, oi (own_low vl)] []) t → own_S p e below s₁ (mkF m 26 #[oi p0, oi vk, oi ((p0.toUInt32 >>> ((8 : Int32) &&& 31).toUInt32).toInt32), oi vd, oi ve, .unset] []) t := by
    intro t kt
    show oS s₁ (mkF m 26 #[oi p0, oi vk, oi ((p0.toUInt32 >>> ((8 : Int32) &&& 31).toUInt32).toInt32), oi vd, oi ve, .unset] []) _
    refine XS.iloadN X0.here hx rfl (hb hby d1_26) rfl ?_
    show oS s₁ (mkF m 27 #[oi p0, oi vk, oi ((p0.toUInt32 >>> ((8 : Int32) &&& 31).toUInt32).toInt32), oi vd, oi ve, .unset] [(.int ((p0.toUInt32 >>> ((8 : Int32) &&& 31).toUInt32).toInt32))]) _
    refine XS.bipush X0.here hx rfl (hb hby d1_27) ?_
    show oS s₁ (mkF m 29 #[oi p0, oi vk, oi ((p0.toUInt32 >>> ((8 : Int32) &&& 31).toUInt32).toInt32), oi vd, oi ve, .unset] [(.int (100 : Int32)), (.int ((p0.toUInt32 >>> ((8 : Int32) &&& 31).toUInt32).toInt32))]) _
    refine XS.idiv X0.here hx rfl (hb hby d1_29) rfl (by decide) ?_
    show oS s₁ (mkF m 30 #[oi p0, oi vk, oi ((p0.toUInt32 >>> ((8 : Int32) &&& 31).toUInt32).toInt32), oi vd, oi ve, .unset] [(.int (((p0.toUInt32 >>> ((8 : Int32) &&& 31).toUInt32).toInt32) / (100 : Int32)))]) _
    refine XS.iconst X0.here hx rfl (hb hby d1_30) ?_
    show oS s₁ (mkF m 31 #[oi p0, oi vk, oi ((p0.toUInt32 >>> ((8 : Int32) &&& 31).toUInt32).toInt32), oi vd, oi ve, .unset] [(.int (1 : Int32)), (.int (((p0.toUInt32 >>> ((8 : Int32) &&& 31).toUInt32).toInt32) / (100 : Int32)))]) _
    refine XS.iand X0.here hx rfl (hb hby d1_31) rfl ?_
    by_cases hc32 : ((((p0.toUInt32 >>> ((8 : Int32) &&& 31).toUInt32).toInt32) / (100 : Int32)) &&& (1 : Int32)) = (0 : Int32)
    · -- it is
      show oS s₁ (mkF m 32 #[oi p0, oi vk, oi ((p0.toUInt32 >>> ((8 : Int32) &&& 31).toUInt32).toInt32), oi vd, oi ve, .unset] [(.int ((((p0.toUInt32 >>> ((8 : Int32) &&& 31).toUInt32).toInt32) / (100 : Int32)) &&& (1 : Int32)))]) _
      refine XS.ifYes X0.here hx rfl (pc0 := 32) (pc' := 39) rfl (hb hby d1_32) rfl ((if0 _ _).trans (teq hc32).1) (by decide) (by decide) ?_
      show oS s₁ (mkF m 39 #[oi p0, oi vk, oi ((p0.toUInt32 >>> ((8 : Int32) &&& 31).toUInt32).toInt32), oi vd, oi ve, .unset] []) _
      refine XS.iconst X0.here hx rfl (hb hby d1_39) ?_
      show oS s₁ (mkF m 40 #[oi p0, oi vk, oi ((p0.toUInt32 >>> ((8 : Int32) &&& 31).toUInt32).toInt32), oi vd, oi ve, .unset] [(.int (0 : Int32))]) _
      refine XS.istore X0.here hx rfl (hb hby d1_40) rfl (l' := #[oi p0, oi vk, oi ((p0.toUInt32 >>> ((8 : Int32) &&& 31).toUInt32).toInt32), oi vd, oi ve, oi 0]) rfl ?_
      rw [show (own_low vl) = (0 : Int32) from by rw [hvl]; unfold own_low; rw [if_pos hc32]] at kt
      exact kt
    · -- it isn't
      show oS s₁ (mkF m 32 #[oi p0, oi vk, oi ((p0.toUInt32 >>> ((8 : Int32) &&& 31).toUInt32).toInt32), oi vd, oi ve, .unset] [(.int ((((p0.toUInt32 >>> ((8 : Int32) &&& 31).toUInt32).toInt32) / (100 : Int32)) &&& (1 : Int32)))]) _
      refine XS.ifNo X0.here hx rfl (hb hby d1_32) rfl ((if0 _ _).trans (feq hc32).1) ?_
      show oS s₁ (mkF m 35 #[oi p0, oi vk, oi ((p0.toUInt32 >>> ((8 : Int32) &&& 31).toUInt32).toInt32), oi vd, oi ve, .unset] []) _
      refine XS.iconst X0.here hx rfl (hb hby d1_35) ?_
      show oS s₁ (mkF m 36 #[oi p0, oi vk, oi ((p0.toUInt32 >>> ((8 : Int32) &&& 31).toUInt32).toInt32), oi vd, oi ve, .unset] [(.int (1 : Int32))]) _
      refine XS.goto X0.here hx rfl (pc0 := 36) (pc' := 40) rfl (hb hby d1_36) (by decide) (by decide) ?_
      show oS s₁ (mkF m 40 #[oi p0, oi vk, oi ((p0.toUInt32 >>> ((8 : Int32) &&& 31).toUInt32).toInt32), oi vd, oi ve, .unset] [(.int (1 : Int32))]) _
      refine XS.istore X0.here hx rfl (hb hby d1_40) rfl (l' := #[oi p0, oi vk, oi ((p0.toUInt32 >>> ((8 : Int32) &&& 31).toUInt32).toInt32), oi vd, oi ve, oi 1]) rfl ?_
      rw [show (own_low vl) = (1 : Int32) from by rw [hvl]; unfold own_low; rw [if_neg hc32]] at kt
      exact kt
  obtain ⟨vm, hvm⟩ : ∃ z, z = ((p0.toUInt32 >>> ((8 : Int32) &&& 31).toUInt32).toInt32) := ⟨_, rfl⟩
  have c6 : ∀ t, own_S p e below s₁ (mkF m 42 #[oi p0, oi vk, oi vm, oi vd, oi ve, oi (own_low vl)] []) t → own_S p e below s₁ (mkF m 42 #[oi p0, oi vk, oi ((p0.toUInt32 >>> ((8 : Int32) &&& 31).toUInt32).toInt32), oi vd, oi ve, oi (own_low vl)] []) t := fun t kt => by rw [hvm] at kt; exact kt
  have c7 : own_G p e below s₁ (mkF m 43 #[oi p0, oi vk, oi vm, oi vd, oi ve, oi (own_low vl)] [(.int vk)]) (mkF m 42 #[oi p0, oi vk, oi vm, oi vd, oi ve, oi (own_low vl)] []) := by
    intro t kt
    show oS s₁ (mkF m 42 #[oi p0, oi vk, oi vm, oi vd, oi ve, oi (own_low vl)] []) _
    refine XS.iloadN X0.here hx rfl (hb hby d1_42) rfl ?_
    exact kt
  by_cases hc43 : vk = (0 : Int32)
  · -- it is
    have c9 : own_G p e below s₁ (mkF m 46 #[oi p0, oi vk, oi vm, oi vd, oi ve, oi (own_low vl)] []) (mkF m 43 #[oi p0, oi vk, oi vm, oi vd, oi ve, oi (own_low vl)] [(.int vk)]) := by
      intro t kt
      show oS s₁ (mkF m 43 #[oi p0, oi vk, oi vm, oi vd, oi ve, oi (own_low vl)] [(.int vk)]) _
      refine XS.ifNo X0.here hx rfl (hb hby d1_43) rfl ((if0 _ _).trans (teq hc43).2) ?_
      exact kt
    obtain ⟨T8, h8, X8, e8, E8, A8, D8, U8, st8⟩ := newO X0 hx hZ hown (own_t hw 5 rfl) (own_t hw 6 rfl) (own_t hw 7 rfl) e0 (g := (mkF m 46 #[oi p0, oi vk, oi vm, oi vd, oi ve, oi (own_low vl)] [])) rfl (hb hby d1_46) (by decide) (by decide)
    obtain ⟨b8, g8⟩ : ∃ z, z = h0.size := ⟨_, rfl⟩
    rw [← g8] at A8 D8 U8 st8
    have g_b8 : n0 ≤ b8 := Nat.le_trans Z0 (Nat.le_of_eq g8.symm)
    have sz_b8 : h0.size ≤ b8 := Nat.le_trans (Keep.refl h0 []).1 (Nat.le_of_eq g8.symm)
    have F8_coder : Fld Z h8 b8 "java/lang/String" "coder" "B" (.int (0 : Int32)) := D8 (Or.inr (own_t hw 35 rfl)) (ty := .byte) (by decide)
    have F8_value : Fld Z h8 b8 "java/lang/String" "value" "[B" .null := D8 (Or.inr (own_t hw 37 rfl)) (ty := (.array .byte)) (by decide)
    have c11 : own_G p e below T8 (mkF m 51 #[oi p0, oi vk, oi vm, oi vd, oi ve, oi (own_low vl)] [(.int (1 : Int32)), (.ref b8), (.ref b8)]) (mkF m 49 #[oi p0, oi vk, oi vm, oi vd, oi ve, oi (own_low vl)] [(.ref b8)]) := by
      intro t kt
      show oS T8 (mkF m 49 #[oi p0, oi vk, oi vm, oi vd, oi ve, oi (own_low vl)] [(.ref b8)]) _
      refine XS.dup X8.here hx rfl (hb hby d1_49) rfl rfl ?_
      show oS T8 (mkF m 50 #[oi p0, oi vk, oi vm, oi vd, oi ve, oi (own_low vl)] [(.ref b8), (.ref b8)]) _
      refine XS.iconst X8.here hx rfl (hb hby d1_50) ?_
      exact kt
    obtain ⟨T10, h10, k10, X10, e10, E10, A10, st10⟩ := newP X8 hx hZ (own_t hw 8 rfl) e8 (g := (mkF m 51 #[oi p0, oi vk, oi vm, oi vd, oi ve, oi (own_low vl)] [(.int (1 : Int32)), (.ref b8), (.ref b8)])) rfl (hb hby d1_51) rfl (by decide) (cap := 1) (by decide) (by decide) (by decide) (by decide)
    obtain ⟨b10, g10⟩ : ∃ z, z = h8.size := ⟨_, rfl⟩
    rw [← g10] at A10 st10
    have f12 := (Nat.le_trans Z0 E8.1)
    have f13 := ((Keep.refl h0 []).ext E8)
    have g_b10 : n0 ≤ b10 := Nat.le_trans f12 (Nat.le_of_eq g10.symm)
    have sz_b10 : h0.size ≤ b10 := Nat.le_trans f13.1 (Nat.le_of_eq g10.symm)
    have lt_b8_10 := A8.lt
    have V10 : Arv Z h10 b10 k10 .char (1 : Int32) [(.int (0 : Int32))] (.int (0 : Int32)) := (Arv.new A10 (by decide)).pad (pad_rep [] (.int (0 : Int32)) 1)
    have c14 : own_G p e below T10 (mkF m 56 #[oi p0, oi vk, oi vm, oi vd, oi ve, oi (own_low vl)] [(.int vd), (.int (0 : Int32)), (.ref b10), (.ref b10), (.ref b8), (.ref b8)]) (mkF m 53 #[oi p0, oi vk, oi vm, oi vd, oi ve, oi (own_low vl)] [(.ref b10), (.ref b8), (.ref b8)]) := by
      intro t kt
      show oS T10 (mkF m 53 #[oi p0, oi vk, oi vm, oi vd, oi ve, oi (own_low vl)] [(.ref b10), (.ref b8), (.ref b8)]) _
      refine XS.dup X10.here hx rfl (hb hby d1_53) rfl rfl ?_
      show oS T10 (mkF m 54 #[oi p0, oi vk, oi vm, oi vd, oi ve, oi (own_low vl)] [(.ref b10), (.ref b10), (.ref b8), (.ref b8)]) _
      refine XS.iconst X10.here hx rfl (hb hby d1_54) ?_
      show oS T10 (mkF m 55 #[oi p0, oi vk, oi vm, oi vd, oi ve, oi (own_low vl)] [(.int (0 : Int32)), (.ref b10), (.ref b10), (.ref b8), (.ref b8)]) _
      refine XS.iloadN X10.here hx rfl (hb hby d1_55) rfl ?_
      exact kt
    have f15 := (Nat.le_trans f12 E10.1)
    obtain ⟨_, _, ⟨T16, L16, k16, n16⟩, -, X16, ⟨Lc16, hQ16, l16, y16, z16⟩, st16⟩ := Jvm.LawKit.callS X10 hx (y := yy_14) hown (mvT hZ (own_t hw 9 rfl)) (mvT hZ (own_t hw 10 rfl)) (mvT hZ (own_t hw 2 rfl)) (mvT hZ (own_t hw 11 rfl)) (by decide) (backOf (W := 5) (rm2 l Z a0 hw [] vd  h10 n0 f15 ) hZ (own_t hw 11 rfl) (own_t hw 2 rfl) (by decide) (by decide)) (g := (mkF m 56 #[oi p0, oi vk, oi vm, oi vd, oi ve, oi (own_low vl)] [(.int vd), (.int (0 : Int32)), (.ref b10), (.ref b10), (.ref b8), (.ref b8)])) rfl (by rw [hml]; rfl) (argsL := [(.int vd)]) (rest := [(.int (0 : Int32)), (.ref b10), (.ref b10), (.ref b8), (.ref b8)]) (lenOf pd_8 rfl) rfl (by show 2 * 0 + _ ≤ _; exact Nat.le_of_eq rfl) (hb hby d1_56) (fun _ _ => ⟨rfl, e10, (by decide : 2 + 0 ≤ _), (by decide : 5 + 0 ≤ _)⟩)
    dsimp only [Pt.U, Pt.locs, Pt.cells, Pt.slots] at X16 l16 y16 z16 st16 hQ16
    subst l16 y16 z16
    obtain ⟨rfl, N16q, e16⟩ := hQ16
    have N16 := Fr.app N0 N16q
    have Vc17 := V10
    obtain ⟨cl17, Ar17, qk17, S17, M17, H17, G17⟩ := Vc17
    have hin17 : ¬ ((0 : Int32) < 0 ∨ cl17.slots.size ≤ ((0 : Int32)).toNatClampNeg) := inb_of S17 ⟨by decide, by decide⟩
    obtain ⟨T18, h18, X18, e18, W18, st18⟩ := stC X16 hx hZ e16 Ar17 (j := (0 : Int32)) hin17 (g := (mkF m 59 #[oi p0, oi vk, oi vm, oi vd, oi ve, oi (own_low vl)] [(.int (own_dig vd)), (.int (0 : Int32)), (.ref b10), (.ref b10), (.ref b8), (.ref b8)])) rfl rfl (hb hby d1_59)
    have V18 : Arv Z h18 b10 k10 .char (1 : Int32) [(.int ((own_dig vd).toUInt32.toUInt16.toUInt32.toInt32))] (.int (0 : Int32)) := Arv.set Ar17 qk17 S17 M17 H17 G17 (fits_nar_char _) W18 0 rfl (Nat.le_of_ble_eq_true rfl)
    have N18 := Fr.snoc X18 N16 g_b10
    have f19 := (Nat.le_trans f15 (Keep.of_wr W18).1)
    have hnum : own_num [(own_dc vd)] := Or.inl ⟨_, rfl, q_d⟩
    have hrng : ∀ c ∈ [(own_dc vd)], ¬ c < 0 ∧ ¬ (255 : Int32) < c := own_rall (own_nl hnum)
    have f20 := ((A8.ext E10).wr W18)
    have f21 := ((F8_value.ext E10).other W18 (Or.inl (Nat.ne_of_lt (Nat.lt_of_lt_of_le lt_b8_10 (Nat.le_of_eq g10.symm)))))
    have f22 := ((F8_coder.ext E10).other W18 (Or.inl (Nat.ne_of_lt (Nat.lt_of_lt_of_le lt_b8_10 (Nat.le_of_eq g10.symm)))))
    have f23 := (((O0.ext E8).ext E10).wr W18 g_b10)
    obtain ⟨_, _, ⟨T24, L24, k24, n24⟩, -, X24, ⟨Lc24, hQ24, l24, y24, z24⟩, st24⟩ := X18.specialBack hx (y := yy_15) rfl hown (mvT hZ (own_t hw 12 rfl)) (mvT hZ (own_t hw 13 rfl)) (mvT hZ (own_t hw 14 rfl)) (by decide) (StrChars.Road.backV (W := 1) hZ hws (kI := 4) (own_t hw 6 rfl) (cs := [(own_dc vd)]) (bs := ([(own_dc vd)]).map (fun c => c.toInt8.toInt32)) (n := 1) g_b8 f19 f20 f21 f22 (show Arv Z _ _ _ _ _ (([(own_dc vd)]).map Value.int) _ from V18) (SC.ext f23.2) hcs rfl rfl (by decide) (by decide) hrng rfl (by decide) (by decide)) (g := (mkF m 60 #[oi p0, oi vk, oi vm, oi vd, oi ve, oi (own_low vl)] [(.ref b10), (.ref b8), (.ref b8)])) rfl (by rw [hml]; rfl) (Steps.refl _) (a := b8) (argsL := [(.ref b10)]) (rest := [(.ref b8)]) (lenOf pd_12 rfl) rfl (by show 2 * 0 + _ ≤ _; exact Nat.le_of_eq rfl) (hb hby d1_60) (fun _ _ => ⟨rfl, e18, (by decide : 2 + 1 ≤ _), (by decide : 5 + 1 ≤ _)⟩)
    dsimp only [Pt.U, Pt.locs, Pt.cells, Pt.slots] at X24 l24 y24 z24 st24 hQ24
    subst l24 y24 z24
    obtain ⟨rfl, N24q, Kq24, Eq24, Fc24, ot24, kb24, g_ot24, szq24, nt24, Fv24, Vb24⟩ := hQ24
    have N24 := Fr.app N18 N24q
    have lt_b8_24 := f20.lt
    have lt_b10_24 := (show Arv Z _ _ _ _ _ (([(own_dc vd)]).map Value.int) _ from V18).lt
    have f25 := ((f13.ext E10).wr W18 (Or.inr sz_b10))
    have sz_ot24 : h0.size ≤ ot24 := Nat.le_trans f25.1 szq24
    obtain ⟨fs, hr, hrun, hended, hW, hsame⟩ := X24.leave (v := some (.ref b8)) (fun h => by rw [Bd.returns] at h; cases h)
    have f27 := (f25.trans Kq24 (allS (Or.inr sz_b8) all0))
    refine ⟨_, _, pre0 _ (c1 _ (c2 _ (c3 _ (c4 _ (c5 _ (c6 _ (c7 _ (c9 _ (st8 _ (c11 _ (st10 _ (c14 _ (st16 _ (st18 _ (st24.trans (?_)))))))))))))))), hrun, hended, _, _, rfl, ?_, ⟨_, rfl⟩, hW, hsame.mono (by decide) (by decide)⟩
    · show Steps p.tables e below (T24.setTop (mkF m 63 #[oi p0, oi vk, oi vm, oi vd, oi ve, oi (own_low vl)] [(.ref b8)])) _
      jvm_step X24.here [X24.here.top, hx, (hb hby d1_63), X24.method', Bd.returns, Value.isRef, FieldType.isReference]
      first | (intro acts; rw [hr _ acts rfl rfl rfl]) | rw [hr _ _ rfl rfl rfl]
      exact Steps.refl _
    · show Q1 Z p0 cs fm h0 n0 _ T24.heap _
      exact ⟨b8, ot24, kb24, [(own_dc vd)], rfl, hnum, N24, f27, sz_b8, sz_ot24, Eq24, Fv24, Fc24, Vb24⟩
  · -- it isn't
    have c28 : own_G p e below s₁ (mkF m 66 #[oi p0, oi vk, oi vm, oi vd, oi ve, oi (own_low vl)] [(.int (1 : Int32)), (.int vk)]) (mkF m 43 #[oi p0, oi vk, oi vm, oi vd, oi ve, oi (own_low vl)] [(.int vk)]) := by
      intro t kt
      show oS s₁ (mkF m 43 #[oi p0, oi vk, oi vm, oi vd, oi ve, oi (own_low vl)] [(.int vk)]) _
      refine XS.ifYes X0.here hx rfl (pc0 := 43) (pc' := 64) rfl (hb hby d1_43) rfl ((if0 _ _).trans (feq hc43).2) (by decide) (by decide) ?_
      show oS s₁ (mkF m 64 #[oi p0, oi vk, oi vm, oi vd, oi ve, oi (own_low vl)] []) _
      refine XS.iloadN X0.here hx rfl (hb hby d1_64) rfl ?_
      show oS s₁ (mkF m 65 #[oi p0, oi vk, oi vm, oi vd, oi ve, oi (own_low vl)] [(.int vk)]) _
      refine XS.iconst X0.here hx rfl (hb hby d1_65) ?_
      exact kt
    by_cases hc66 : vk = (1 : Int32)
    · -- it is
      have c30 : own_G p e below s₁ (mkF m 69 #[oi p0, oi vk, oi vm, oi vd, oi ve, oi (own_low vl)] []) (mkF m 66 #[oi p0, oi vk, oi vm, oi vd, oi ve, oi (own_low vl)] [(.int (1 : Int32)), (.int vk)]) := by
        intro t kt
        show oS s₁ (mkF m 66 #[oi p0, oi vk, oi vm, oi vd, oi ve, oi (own_low vl)] [(.int (1 : Int32)), (.int vk)]) _
        refine XS.icmpNo X0.here hx rfl (hb hby d1_66) rfl (teq hc66).2 ?_
        exact kt
      obtain ⟨T29, h29, X29, e29, E29, A29, D29, U29, st29⟩ := newO X0 hx hZ hown (own_t hw 5 rfl) (own_t hw 6 rfl) (own_t hw 7 rfl) e0 (g := (mkF m 69 #[oi p0, oi vk, oi vm, oi vd, oi ve, oi (own_low vl)] [])) rfl (hb hby d1_69) (by decide) (by decide)
      obtain ⟨b29, g29⟩ : ∃ z, z = h0.size := ⟨_, rfl⟩
      rw [← g29] at A29 D29 U29 st29
      have g_b29 : n0 ≤ b29 := Nat.le_trans Z0 (Nat.le_of_eq g29.symm)
      have sz_b29 : h0.size ≤ b29 := Nat.le_trans (Keep.refl h0 []).1 (Nat.le_of_eq g29.symm)
      have F29_coder : Fld Z h29 b29 "java/lang/String" "coder" "B" (.int (0 : Int32)) := D29 (Or.inr (own_t hw 35 rfl)) (ty := .byte) (by decide)
      have F29_value : Fld Z h29 b29 "java/lang/String" "value" "[B" .null := D29 (Or.inr (own_t hw 37 rfl)) (ty := (.array .byte)) (by decide)
      have c32 : own_G p e below T29 (mkF m 74 #[oi p0, oi vk, oi vm, oi vd, oi ve, oi (own_low vl)] [(.int (2 : Int32)), (.ref b29), (.ref b29)]) (mkF m 72 #[oi p0, oi vk, oi vm, oi vd, oi ve, oi (own_low vl)] [(.ref b29)]) := by
        intro t kt
        show oS T29 (mkF m 72 #[oi p0, oi vk, oi vm, oi vd, oi ve, oi (own_low vl)] [(.ref b29)]) _
        refine XS.dup X29.here hx rfl (hb hby d1_72) rfl rfl ?_
        show oS T29 (mkF m 73 #[oi p0, oi vk, oi vm, oi vd, oi ve, oi (own_low vl)] [(.ref b29), (.ref b29)]) _
        refine XS.iconst X29.here hx rfl (hb hby d1_73) ?_
        exact kt
      obtain ⟨T31, h31, k31, X31, e31, E31, A31, st31⟩ := newP X29 hx hZ (own_t hw 8 rfl) e29 (g := (mkF m 74 #[oi p0, oi vk, oi vm, oi vd, oi ve, oi (own_low vl)] [(.int (2 : Int32)), (.ref b29), (.ref b29)])) rfl (hb hby d1_74) rfl (by decide) (cap := 2) (by decide) (by decide) (by decide) (by decide)
      obtain ⟨b31, g31⟩ : ∃ z, z = h29.size := ⟨_, rfl⟩
      rw [← g31] at A31 st31
      have f33 := (Nat.le_trans Z0 E29.1)
      have f34 := ((Keep.refl h0 []).ext E29)
      have g_b31 : n0 ≤ b31 := Nat.le_trans f33 (Nat.le_of_eq g31.symm)
      have sz_b31 : h0.size ≤ b31 := Nat.le_trans f34.1 (Nat.le_of_eq g31.symm)
      have lt_b29_31 := A29.lt
      have V31 : Arv Z h31 b31 k31 .char (2 : Int32) [(.int (0 : Int32)), (.int (0 : Int32))] (.int (0 : Int32)) := (Arv.new A31 (by decide)).pad (pad_rep [] (.int (0 : Int32)) 2)
      have c35 : own_G p e below T31 (mkF m 80 #[oi p0, oi vk, oi vm, oi vd, oi ve, oi (own_low vl)] [(.int (45 : Int32)), (.int (0 : Int32)), (.ref b31), (.ref b31), (.ref b29), (.ref b29)]) (mkF m 76 #[oi p0, oi vk, oi vm, oi vd, oi ve, oi (own_low vl)] [(.ref b31), (.ref b29), (.ref b29)]) := by
        intro t kt
        show oS T31 (mkF m 76 #[oi p0, oi vk, oi vm, oi vd, oi ve, oi (own_low vl)] [(.ref b31), (.ref b29), (.ref b29)]) _
        refine XS.dup X31.here hx rfl (hb hby d1_76) rfl rfl ?_
        show oS T31 (mkF m 77 #[oi p0, oi vk, oi vm, oi vd, oi ve, oi (own_low vl)] [(.ref b31), (.ref b31), (.ref b29), (.ref b29)]) _
        refine XS.iconst X31.here hx rfl (hb hby d1_77) ?_
        show oS T31 (mkF m 78 #[oi p0, oi vk, oi vm, oi vd, oi ve, oi (own_low vl)] [(.int (0 : Int32)), (.ref b31), (.ref b31), (.ref b29), (.ref b29)]) _
        refine XS.bipush X31.here hx rfl (hb hby d1_78) ?_
        exact kt
      have Vc36 := V31
      obtain ⟨cl36, Ar36, qk36, S36, M36, H36, G36⟩ := Vc36
      have hin36 : ¬ ((0 : Int32) < 0 ∨ cl36.slots.size ≤ ((0 : Int32)).toNatClampNeg) := inb_of S36 ⟨by decide, by decide⟩
      obtain ⟨T37, h37, X37, e37, W37, st37⟩ := stC X31 hx hZ e31 Ar36 (j := (0 : Int32)) hin36 (g := (mkF m 80 #[oi p0, oi vk, oi vm, oi vd, oi ve, oi (own_low vl)] [(.int (45 : Int32)), (.int (0 : Int32)), (.ref b31), (.ref b31), (.ref b29), (.ref b29)])) rfl rfl (hb hby d1_80)
      have V37 : Arv Z h37 b31 k31 .char (2 : Int32) [(.int ((45 : Int32).toUInt32.toUInt16.toUInt32.toInt32)), (.int (0 : Int32))] (.int (0 : Int32)) := Arv.set Ar36 qk36 S36 M36 H36 G36 (fits_nar_char _) W37 0 rfl (Nat.le_of_ble_eq_true rfl)
      have N37 := Fr.snoc X37 N0 g_b31
      have c38 : own_G p e below T37 (mkF m 84 #[oi p0, oi vk, oi vm, oi vd, oi ve, oi (own_low vl)] [(.int vd), (.int (1 : Int32)), (.ref b31), (.ref b31), (.ref b29), (.ref b29)]) (mkF m 81 #[oi p0, oi vk, oi vm, oi vd, oi ve, oi (own_low vl)] [(.ref b31), (.ref b29), (.ref b29)]) := by
        intro t kt
        show oS T37 (mkF m 81 #[oi p0, oi vk, oi vm, oi vd, oi ve, oi (own_low vl)] [(.ref b31), (.ref b29), (.ref b29)]) _
        refine XS.dup X37.here hx rfl (hb hby d1_81) rfl rfl ?_
        show oS T37 (mkF m 82 #[oi p0, oi vk, oi vm, oi vd, oi ve, oi (own_low vl)] [(.ref b31), (.ref b31), (.ref b29), (.ref b29)]) _
        refine XS.iconst X37.here hx rfl (hb hby d1_82) ?_
        show oS T37 (mkF m 83 #[oi p0, oi vk, oi vm, oi vd, oi ve, oi (own_low vl)] [(.int (1 : Int32)), (.ref b31), (.ref b31), (.ref b29), (.ref b29)]) _
        refine XS.iloadN X37.here hx rfl (hb hby d1_83) rfl ?_
        exact kt
      have f39 := (Nat.le_trans (Nat.le_trans f33 E31.1) (Keep.of_wr W37).1)
      obtain ⟨_, _, ⟨T40, L40, k40, n40⟩, -, X40, ⟨Lc40, hQ40, l40, y40, z40⟩, st40⟩ := Jvm.LawKit.callS X37 hx (y := yy_14) hown (mvT hZ (own_t hw 9 rfl)) (mvT hZ (own_t hw 10 rfl)) (mvT hZ (own_t hw 2 rfl)) (mvT hZ (own_t hw 11 rfl)) (by decide) (backOf (W := 5) (rm2 l Z a0 hw [] vd  h37 n0 f39 ) hZ (own_t hw 11 rfl) (own_t hw 2 rfl) (by decide) (by decide)) (g := (mkF m 84 #[oi p0, oi vk, oi vm, oi vd, oi ve, oi (own_low vl)] [(.int vd), (.int (1 : Int32)), (.ref b31), (.ref b31), (.ref b29), (.ref b29)])) rfl (by rw [hml]; rfl) (argsL := [(.int vd)]) (rest := [(.int (1 : Int32)), (.ref b31), (.ref b31), (.ref b29), (.ref b29)]) (lenOf pd_8 rfl) rfl (by show 2 * 0 + _ ≤ _; exact Nat.le_of_eq rfl) (hb hby d1_84) (fun _ _ => ⟨rfl, e37, (by decide : 2 + 0 ≤ _), (by decide : 6 + 0 ≤ _)⟩)
      dsimp only [Pt.U, Pt.locs, Pt.cells, Pt.slots] at X40 l40 y40 z40 st40 hQ40
      subst l40 y40 z40
      obtain ⟨rfl, N40q, e40⟩ := hQ40
      have N40 := Fr.app N37 N40q
      have Vc41 := V37
      obtain ⟨cl41, Ar41, qk41, S41, M41, H41, G41⟩ := Vc41
      have hin41 : ¬ ((1 : Int32) < 0 ∨ cl41.slots.size ≤ ((1 : Int32)).toNatClampNeg) := inb_of S41 ⟨by decide, by decide⟩
      obtain ⟨T42, h42, X42, e42, W42, st42⟩ := stC X40 hx hZ e40 Ar41 (j := (1 : Int32)) hin41 (g := (mkF m 87 #[oi p0, oi vk, oi vm, oi vd, oi ve, oi (own_low vl)] [(.int (own_dig vd)), (.int (1 : Int32)), (.ref b31), (.ref b31), (.ref b29), (.ref b29)])) rfl rfl (hb hby d1_87)
      have V42 : Arv Z h42 b31 k31 .char (2 : Int32) [(.int ((45 : Int32).toUInt32.toUInt16.toUInt32.toInt32)), (.int ((own_dig vd).toUInt32.toUInt16.toUInt32.toInt32))] (.int (0 : Int32)) := Arv.set Ar41 qk41 S41 M41 H41 G41 (fits_nar_char _) W42 1 rfl (Nat.le_of_ble_eq_true rfl)
      have N42 := Fr.snoc X42 N40 g_b31
      have f43 := (Nat.le_trans f39 (Keep.of_wr W42).1)
      have hnum : own_num [(45 : Int32), (own_dc vd)] := Or.inr (Or.inl ⟨_, rfl, q_d⟩)
      have hrng : ∀ c ∈ [(45 : Int32), (own_dc vd)], ¬ c < 0 ∧ ¬ (255 : Int32) < c := own_rall (own_nl hnum)
      have f44 := (((A29.ext E31).wr W37).wr W42)
      have f45 := (((F29_value.ext E31).other W37 (Or.inl (Nat.ne_of_lt (Nat.lt_of_lt_of_le lt_b29_31 (Nat.le_of_eq g31.symm))))).other W42 (Or.inl (Nat.ne_of_lt (Nat.lt_of_lt_of_le lt_b29_31 (Nat.le_of_eq g31.symm)))))
      have f46 := (((F29_coder.ext E31).other W37 (Or.inl (Nat.ne_of_lt (Nat.lt_of_lt_of_le lt_b29_31 (Nat.le_of_eq g31.symm))))).other W42 (Or.inl (Nat.ne_of_lt (Nat.lt_of_lt_of_le lt_b29_31 (Nat.le_of_eq g31.symm)))))
      have f47 := ((((O0.ext E29).ext E31).wr W37 g_b31).wr W42 g_b31)
      obtain ⟨_, _, ⟨T48, L48, k48, n48⟩, -, X48, ⟨Lc48, hQ48, l48, y48, z48⟩, st48⟩ := X42.specialBack hx (y := yy_15) rfl hown (mvT hZ (own_t hw 12 rfl)) (mvT hZ (own_t hw 13 rfl)) (mvT hZ (own_t hw 14 rfl)) (by decide) (StrChars.Road.backV (W := 1) hZ hws (kI := 4) (own_t hw 6 rfl) (cs := [(45 : Int32), (own_dc vd)]) (bs := ([(45 : Int32), (own_dc vd)]).map (fun c => c.toInt8.toInt32)) (n := 2) g_b29 f43 f44 f45 f46 (show Arv Z _ _ _ _ _ (([(45 : Int32), (own_dc vd)]).map Value.int) _ from V42) (SC.ext f47.2) hcs rfl rfl (by decide) (by decide) hrng rfl (by decide) (by decide)) (g := (mkF m 88 #[oi p0, oi vk, oi vm, oi vd, oi ve, oi (own_low vl)] [(.ref b31), (.ref b29), (.ref b29)])) rfl (by rw [hml]; rfl) (Steps.refl _) (a := b29) (argsL := [(.ref b31)]) (rest := [(.ref b29)]) (lenOf pd_12 rfl) rfl (by show 2 * 0 + _ ≤ _; exact Nat.le_of_eq rfl) (hb hby d1_88) (fun _ _ => ⟨rfl, e42, (by decide : 2 + 1 ≤ _), (by decide : 6 + 2 ≤ _)⟩)
      dsimp only [Pt.U, Pt.locs, Pt.cells, Pt.slots] at X48 l48 y48 z48 st48 hQ48
      subst l48 y48 z48
      obtain ⟨rfl, N48q, Kq48, Eq48, Fc48, ot48, kb48, g_ot48, szq48, nt48, Fv48, Vb48⟩ := hQ48
      have N48 := Fr.app N42 N48q
      have lt_b29_48 := f44.lt
      have lt_b31_48 := (show Arv Z _ _ _ _ _ (([(45 : Int32), (own_dc vd)]).map Value.int) _ from V42).lt
      have f49 := (((f34.ext E31).wr W37 (Or.inr sz_b31)).wr W42 (Or.inr sz_b31))
      have sz_ot48 : h0.size ≤ ot48 := Nat.le_trans f49.1 szq48
      obtain ⟨fs, hr, hrun, hended, hW, hsame⟩ := X48.leave (v := some (.ref b29)) (fun h => by rw [Bd.returns] at h; cases h)
      have f51 := (f49.trans Kq48 (allS (Or.inr sz_b29) all0))
      refine ⟨_, _, pre0 _ (c1 _ (c2 _ (c3 _ (c4 _ (c5 _ (c6 _ (c7 _ (c28 _ (c30 _ (st29 _ (c32 _ (st31 _ (c35 _ (st37 _ (c38 _ (st40 _ (st42 _ (st48.trans (?_))))))))))))))))))), hrun, hended, _, _, rfl, ?_, ⟨_, rfl⟩, hW, hsame.mono (by decide) (by decide)⟩
      · show Steps p.tables e below (T48.setTop (mkF m 91 #[oi p0, oi vk, oi vm, oi vd, oi ve, oi (own_low vl)] [(.ref b29)])) _
        jvm_step X48.here [X48.here.top, hx, (hb hby d1_91), X48.method', Bd.returns, Value.isRef, FieldType.isReference]
        first | (intro acts; rw [hr _ acts rfl rfl rfl]) | rw [hr _ _ rfl rfl rfl]
        exact Steps.refl _
      · show Q1 Z p0 cs fm h0 n0 _ T48.heap _
        exact ⟨b29, ot48, kb48, [(45 : Int32), (own_dc vd)], rfl, hnum, N48, f51, sz_b29, sz_ot48, Eq48, Fv48, Fc48, Vb48⟩
    · -- it isn't
      have c52 : own_G p e below s₁ (mkF m 94 #[oi p0, oi vk, oi vm, oi vd, oi ve, oi (own_low vl)] [(.int (2 : Int32)), (.int vk)]) (mkF m 66 #[oi p0, oi vk, oi vm, oi vd, oi ve, oi (own_low vl)] [(.int (1 : Int32)), (.int vk)]) := by
        intro t kt
        show oS s₁ (mkF m 66 #[oi p0, oi vk, oi vm, oi vd, oi ve, oi (own_low vl)] [(.int (1 : Int32)), (.int vk)]) _
        refine XS.icmpYes X0.here hx rfl (pc0 := 66) (pc' := 92) rfl (hb hby d1_66) rfl (feq hc66).2 (by decide) (by decide) ?_
        show oS s₁ (mkF m 92 #[oi p0, oi vk, oi vm, oi vd, oi ve, oi (own_low vl)] []) _
        refine XS.iloadN X0.here hx rfl (hb hby d1_92) rfl ?_
        show oS s₁ (mkF m 93 #[oi p0, oi vk, oi vm, oi vd, oi ve, oi (own_low vl)] [(.int vk)]) _
        refine XS.iconst X0.here hx rfl (hb hby d1_93) ?_
        exact kt
      by_cases hc94 : vk = (2 : Int32)
      · -- it is
        have c54 : own_G p e below s₁ (mkF m 97 #[oi p0, oi vk, oi vm, oi vd, oi ve, oi (own_low vl)] []) (mkF m 94 #[oi p0, oi vk, oi vm, oi vd, oi ve, oi (own_low vl)] [(.int (2 : Int32)), (.int vk)]) := by
          intro t kt
          show oS s₁ (mkF m 94 #[oi p0, oi vk, oi vm, oi vd, oi ve, oi (own_low vl)] [(.int (2 : Int32)), (.int vk)]) _
          refine XS.icmpNo X0.here hx rfl (hb hby d1_94) rfl (teq hc94).2 ?_
          exact kt
        obtain ⟨T53, h53, X53, e53, E53, A53, D53, U53, st53⟩ := newO X0 hx hZ hown (own_t hw 5 rfl) (own_t hw 6 rfl) (own_t hw 7 rfl) e0 (g := (mkF m 97 #[oi p0, oi vk, oi vm, oi vd, oi ve, oi (own_low vl)] [])) rfl (hb hby d1_97) (by decide) (by decide)
        obtain ⟨b53, g53⟩ : ∃ z, z = h0.size := ⟨_, rfl⟩
        rw [← g53] at A53 D53 U53 st53
        have g_b53 : n0 ≤ b53 := Nat.le_trans Z0 (Nat.le_of_eq g53.symm)
        have sz_b53 : h0.size ≤ b53 := Nat.le_trans (Keep.refl h0 []).1 (Nat.le_of_eq g53.symm)
        have F53_coder : Fld Z h53 b53 "java/lang/String" "coder" "B" (.int (0 : Int32)) := D53 (Or.inr (own_t hw 35 rfl)) (ty := .byte) (by decide)
        have F53_value : Fld Z h53 b53 "java/lang/String" "value" "[B" .null := D53 (Or.inr (own_t hw 37 rfl)) (ty := (.array .byte)) (by decide)
        have c56 : own_G p e below T53 (mkF m 102 #[oi p0, oi vk, oi vm, oi vd, oi ve, oi (own_low vl)] [(.int (2 : Int32)), (.ref b53), (.ref b53)]) (mkF m 100 #[oi p0, oi vk, oi vm, oi vd, oi ve, oi (own_low vl)] [(.ref b53)]) := by
          intro t kt
          show oS T53 (mkF m 100 #[oi p0, oi vk, oi vm, oi vd, oi ve, oi (own_low vl)] [(.ref b53)]) _
          refine XS.dup X53.here hx rfl (hb hby d1_100) rfl rfl ?_
          show oS T53 (mkF m 101 #[oi p0, oi vk, oi vm, oi vd, oi ve, oi (own_low vl)] [(.ref b53), (.ref b53)]) _
          refine XS.iconst X53.here hx rfl (hb hby d1_101) ?_
          exact kt
        obtain ⟨T55, h55, k55, X55, e55, E55, A55, st55⟩ := newP X53 hx hZ (own_t hw 8 rfl) e53 (g := (mkF m 102 #[oi p0, oi vk, oi vm, oi vd, oi ve, oi (own_low vl)] [(.int (2 : Int32)), (.ref b53), (.ref b53)])) rfl (hb hby d1_102) rfl (by decide) (cap := 2) (by decide) (by decide) (by decide) (by decide)
        obtain ⟨b55, g55⟩ : ∃ z, z = h53.size := ⟨_, rfl⟩
        rw [← g55] at A55 st55
        have f57 := (Nat.le_trans Z0 E53.1)
        have f58 := ((Keep.refl h0 []).ext E53)
        have g_b55 : n0 ≤ b55 := Nat.le_trans f57 (Nat.le_of_eq g55.symm)
        have sz_b55 : h0.size ≤ b55 := Nat.le_trans f58.1 (Nat.le_of_eq g55.symm)
        have lt_b53_55 := A53.lt
        have V55 : Arv Z h55 b55 k55 .char (2 : Int32) [(.int (0 : Int32)), (.int (0 : Int32))] (.int (0 : Int32)) := (Arv.new A55 (by decide)).pad (pad_rep [] (.int (0 : Int32)) 2)
        have c59 : own_G p e below T55 (mkF m 112 #[oi p0, oi vk, oi vm, oi vd, oi ve, oi (own_low vl)] [(.int ((1 : Int32) + (vd % (9 : Int32)))), (.int (0 : Int32)), (.ref b55), (.ref b55), (.ref b53), (.ref b53)]) (mkF m 104 #[oi p0, oi vk, oi vm, oi vd, oi ve, oi (own_low vl)] [(.ref b55), (.ref b53), (.ref b53)]) := by
          intro t kt
          show oS T55 (mkF m 104 #[oi p0, oi vk, oi vm, oi vd, oi ve, oi (own_low vl)] [(.ref b55), (.ref b53), (.ref b53)]) _
          refine XS.dup X55.here hx rfl (hb hby d1_104) rfl rfl ?_
          show oS T55 (mkF m 105 #[oi p0, oi vk, oi vm, oi vd, oi ve, oi (own_low vl)] [(.ref b55), (.ref b55), (.ref b53), (.ref b53)]) _
          refine XS.iconst X55.here hx rfl (hb hby d1_105) ?_
          show oS T55 (mkF m 106 #[oi p0, oi vk, oi vm, oi vd, oi ve, oi (own_low vl)] [(.int (0 : Int32)), (.ref b55), (.ref b55), (.ref b53), (.ref b53)]) _
          refine XS.iconst X55.here hx rfl (hb hby d1_106) ?_
          show oS T55 (mkF m 107 #[oi p0, oi vk, oi vm, oi vd, oi ve, oi (own_low vl)] [(.int (1 : Int32)), (.int (0 : Int32)), (.ref b55), (.ref b55), (.ref b53), (.ref b53)]) _
          refine XS.iloadN X55.here hx rfl (hb hby d1_107) rfl ?_
          show oS T55 (mkF m 108 #[oi p0, oi vk, oi vm, oi vd, oi ve, oi (own_low vl)] [(.int vd), (.int (1 : Int32)), (.int (0 : Int32)), (.ref b55), (.ref b55), (.ref b53), (.ref b53)]) _
          refine XS.bipush X55.here hx rfl (hb hby d1_108) ?_
          show oS T55 (mkF m 110 #[oi p0, oi vk, oi vm, oi vd, oi ve, oi (own_low vl)] [(.int (9 : Int32)), (.int vd), (.int (1 : Int32)), (.int (0 : Int32)), (.ref b55), (.ref b55), (.ref b53), (.ref b53)]) _
          refine iremM X55 hx rfl (hb hby d1_110) rfl (by decide) ?_
          show oS T55 (mkF m 111 #[oi p0, oi vk, oi vm, oi vd, oi ve, oi (own_low vl)] [(.int (vd % (9 : Int32))), (.int (1 : Int32)), (.int (0 : Int32)), (.ref b55), (.ref b55), (.ref b53), (.ref b53)]) _
          refine XS.iadd X55.here hx rfl (hb hby d1_111) rfl ?_
          exact kt
        have f60 := (Nat.le_trans f57 E55.1)
        obtain ⟨_, _, ⟨T61, L61, k61, n61⟩, -, X61, ⟨Lc61, hQ61, l61, y61, z61⟩, st61⟩ := Jvm.LawKit.callS X55 hx (y := yy_14) hown (mvT hZ (own_t hw 9 rfl)) (mvT hZ (own_t hw 10 rfl)) (mvT hZ (own_t hw 2 rfl)) (mvT hZ (own_t hw 11 rfl)) (by decide) (backOf (W := 5) (rm2 l Z a0 hw [] ((1 : Int32) + (vd % (9 : Int32)))  h55 n0 f60 ) hZ (own_t hw 11 rfl) (own_t hw 2 rfl) (by decide) (by decide)) (g := (mkF m 112 #[oi p0, oi vk, oi vm, oi vd, oi ve, oi (own_low vl)] [(.int ((1 : Int32) + (vd % (9 : Int32)))), (.int (0 : Int32)), (.ref b55), (.ref b55), (.ref b53), (.ref b53)])) rfl (by rw [hml]; rfl) (argsL := [(.int ((1 : Int32) + (vd % (9 : Int32))))]) (rest := [(.int (0 : Int32)), (.ref b55), (.ref b55), (.ref b53), (.ref b53)]) (lenOf pd_8 rfl) rfl (by show 2 * 0 + _ ≤ _; exact Nat.le_of_eq rfl) (hb hby d1_112) (fun _ _ => ⟨rfl, e55, (by decide : 2 + 0 ≤ _), (by decide : 6 + 0 ≤ _)⟩)
        dsimp only [Pt.U, Pt.locs, Pt.cells, Pt.slots] at X61 l61 y61 z61 st61 hQ61
        subst l61 y61 z61
        obtain ⟨rfl, N61q, e61⟩ := hQ61
        have N61 := Fr.app N0 N61q
        have Vc62 := V55
        obtain ⟨cl62, Ar62, qk62, S62, M62, H62, G62⟩ := Vc62
        have hin62 : ¬ ((0 : Int32) < 0 ∨ cl62.slots.size ≤ ((0 : Int32)).toNatClampNeg) := inb_of S62 ⟨by decide, by decide⟩
        obtain ⟨T63, h63, X63, e63, W63, st63⟩ := stC X61 hx hZ e61 Ar62 (j := (0 : Int32)) hin62 (g := (mkF m 115 #[oi p0, oi vk, oi vm, oi vd, oi ve, oi (own_low vl)] [(.int (own_dig ((1 : Int32) + (vd % (9 : Int32))))), (.int (0 : Int32)), (.ref b55), (.ref b55), (.ref b53), (.ref b53)])) rfl rfl (hb hby d1_115)
        have V63 : Arv Z h63 b55 k55 .char (2 : Int32) [(.int ((own_dig ((1 : Int32) + (vd % (9 : Int32)))).toUInt32.toUInt16.toUInt32.toInt32)), (.int (0 : Int32))] (.int (0 : Int32)) := Arv.set Ar62 qk62 S62 M62 H62 G62 (fits_nar_char _) W63 0 rfl (Nat.le_of_ble_eq_true rfl)
        have N63 := Fr.snoc X63 N61 g_b55
        have c64 : own_G p e below T63 (mkF m 120 #[oi p0, oi vk, oi vm, oi vd, oi ve, oi (own_low vl)] [(.int ve), (.int (1 : Int32)), (.ref b55), (.ref b55), (.ref b53), (.ref b53)]) (mkF m 116 #[oi p0, oi vk, oi vm, oi vd, oi ve, oi (own_low vl)] [(.ref b55), (.ref b53), (.ref b53)]) := by
          intro t kt
          show oS T63 (mkF m 116 #[oi p0, oi vk, oi vm, oi vd, oi ve, oi (own_low vl)] [(.ref b55), (.ref b53), (.ref b53)]) _
          refine XS.dup X63.here hx rfl (hb hby d1_116) rfl rfl ?_
          show oS T63 (mkF m 117 #[oi p0, oi vk, oi vm, oi vd, oi ve, oi (own_low vl)] [(.ref b55), (.ref b55), (.ref b53), (.ref b53)]) _
          refine XS.iconst X63.here hx rfl (hb hby d1_117) ?_
          show oS T63 (mkF m 118 #[oi p0, oi vk, oi vm, oi vd, oi ve, oi (own_low vl)] [(.int (1 : Int32)), (.ref b55), (.ref b55), (.ref b53), (.ref b53)]) _
          refine XS.iload X63.here hx rfl (hb hby d1_118) rfl ?_
          exact kt
        have f65 := (Nat.le_trans f60 (Keep.of_wr W63).1)
        obtain ⟨_, _, ⟨T66, L66, k66, n66⟩, -, X66, ⟨Lc66, hQ66, l66, y66, z66⟩, st66⟩ := Jvm.LawKit.callS X63 hx (y := yy_14) hown (mvT hZ (own_t hw 9 rfl)) (mvT hZ (own_t hw 10 rfl)) (mvT hZ (own_t hw 2 rfl)) (mvT hZ (own_t hw 11 rfl)) (by decide) (backOf (W := 5) (rm2 l Z a0 hw [] ve  h63 n0 f65 ) hZ (own_t hw 11 rfl) (own_t hw 2 rfl) (by decide) (by decide)) (g := (mkF m 120 #[oi p0, oi vk, oi vm, oi vd, oi ve, oi (own_low vl)] [(.int ve), (.int (1 : Int32)), (.ref b55), (.ref b55), (.ref b53), (.ref b53)])) rfl (by rw [hml]; rfl) (argsL := [(.int ve)]) (rest := [(.int (1 : Int32)), (.ref b55), (.ref b55), (.ref b53), (.ref b53)]) (lenOf pd_8 rfl) rfl (by show 2 * 0 + _ ≤ _; exact Nat.le_of_eq rfl) (hb hby d1_120) (fun _ _ => ⟨rfl, e63, (by decide : 2 + 0 ≤ _), (by decide : 6 + 0 ≤ _)⟩)
        dsimp only [Pt.U, Pt.locs, Pt.cells, Pt.slots] at X66 l66 y66 z66 st66 hQ66
        subst l66 y66 z66
        obtain ⟨rfl, N66q, e66⟩ := hQ66
        have N66 := Fr.app N63 N66q
        have Vc67 := V63
        obtain ⟨cl67, Ar67, qk67, S67, M67, H67, G67⟩ := Vc67
        have hin67 : ¬ ((1 : Int32) < 0 ∨ cl67.slots.size ≤ ((1 : Int32)).toNatClampNeg) := inb_of S67 ⟨by decide, by decide⟩
        obtain ⟨T68, h68, X68, e68, W68, st68⟩ := stC X66 hx hZ e66 Ar67 (j := (1 : Int32)) hin67 (g := (mkF m 123 #[oi p0, oi vk, oi vm, oi vd, oi ve, oi (own_low vl)] [(.int (own_dig ve)), (.int (1 : Int32)), (.ref b55), (.ref b55), (.ref b53), (.ref b53)])) rfl rfl (hb hby d1_123)
        have V68 : Arv Z h68 b55 k55 .char (2 : Int32) [(.int ((own_dig ((1 : Int32) + (vd % (9 : Int32)))).toUInt32.toUInt16.toUInt32.toInt32)), (.int ((own_dig ve).toUInt32.toUInt16.toUInt32.toInt32))] (.int (0 : Int32)) := Arv.set Ar67 qk67 S67 M67 H67 G67 (fits_nar_char _) W68 1 rfl (Nat.le_of_ble_eq_true rfl)
        have N68 := Fr.snoc X68 N66 g_b55
        have f69 := (Nat.le_trans f65 (Keep.of_wr W68).1)
        have hnum : own_num [(own_dc ((1 : Int32) + (vd % (9 : Int32)))), (own_dc ve)] := Or.inr (Or.inr (Or.inl ⟨_, _, rfl, q_9.1, q_e, q_9.2⟩))
        have hrng : ∀ c ∈ [(own_dc ((1 : Int32) + (vd % (9 : Int32)))), (own_dc ve)], ¬ c < 0 ∧ ¬ (255 : Int32) < c := own_rall (own_nl hnum)
        have f70 := (((A53.ext E55).wr W63).wr W68)
        have f71 := (((F53_value.ext E55).other W63 (Or.inl (Nat.ne_of_lt (Nat.lt_of_lt_of_le lt_b53_55 (Nat.le_of_eq g55.symm))))).other W68 (Or.inl (Nat.ne_of_lt (Nat.lt_of_lt_of_le lt_b53_55 (Nat.le_of_eq g55.symm)))))
        have f72 := (((F53_coder.ext E55).other W63 (Or.inl (Nat.ne_of_lt (Nat.lt_of_lt_of_le lt_b53_55 (Nat.le_of_eq g55.symm))))).other W68 (Or.inl (Nat.ne_of_lt (Nat.lt_of_lt_of_le lt_b53_55 (Nat.le_of_eq g55.symm)))))
        have f73 := ((((O0.ext E53).ext E55).wr W63 g_b55).wr W68 g_b55)
        obtain ⟨_, _, ⟨T74, L74, k74, n74⟩, -, X74, ⟨Lc74, hQ74, l74, y74, z74⟩, st74⟩ := X68.specialBack hx (y := yy_15) rfl hown (mvT hZ (own_t hw 12 rfl)) (mvT hZ (own_t hw 13 rfl)) (mvT hZ (own_t hw 14 rfl)) (by decide) (StrChars.Road.backV (W := 1) hZ hws (kI := 4) (own_t hw 6 rfl) (cs := [(own_dc ((1 : Int32) + (vd % (9 : Int32)))), (own_dc ve)]) (bs := ([(own_dc ((1 : Int32) + (vd % (9 : Int32)))), (own_dc ve)]).map (fun c => c.toInt8.toInt32)) (n := 2) g_b53 f69 f70 f71 f72 (show Arv Z _ _ _ _ _ (([(own_dc ((1 : Int32) + (vd % (9 : Int32)))), (own_dc ve)]).map Value.int) _ from V68) (SC.ext f73.2) hcs rfl rfl (by decide) (by decide) hrng rfl (by decide) (by decide)) (g := (mkF m 124 #[oi p0, oi vk, oi vm, oi vd, oi ve, oi (own_low vl)] [(.ref b55), (.ref b53), (.ref b53)])) rfl (by rw [hml]; rfl) (Steps.refl _) (a := b53) (argsL := [(.ref b55)]) (rest := [(.ref b53)]) (lenOf pd_12 rfl) rfl (by show 2 * 0 + _ ≤ _; exact Nat.le_of_eq rfl) (hb hby d1_124) (fun _ _ => ⟨rfl, e68, (by decide : 2 + 1 ≤ _), (by decide : 6 + 2 ≤ _)⟩)
        dsimp only [Pt.U, Pt.locs, Pt.cells, Pt.slots] at X74 l74 y74 z74 st74 hQ74
        subst l74 y74 z74
        obtain ⟨rfl, N74q, Kq74, Eq74, Fc74, ot74, kb74, g_ot74, szq74, nt74, Fv74, Vb74⟩ := hQ74
        have N74 := Fr.app N68 N74q
        have lt_b53_74 := f70.lt
        have lt_b55_74 := (show Arv Z _ _ _ _ _ (([(own_dc ((1 : Int32) + (vd % (9 : Int32)))), (own_dc ve)]).map Value.int) _ from V68).lt
        have f75 := (((f58.ext E55).wr W63 (Or.inr sz_b55)).wr W68 (Or.inr sz_b55))
        have sz_ot74 : h0.size ≤ ot74 := Nat.le_trans f75.1 szq74
        obtain ⟨fs, hr, hrun, hended, hW, hsame⟩ := X74.leave (v := some (.ref b53)) (fun h => by rw [Bd.returns] at h; cases h)
        have f77 := (f75.trans Kq74 (allS (Or.inr sz_b53) all0))
        refine ⟨_, _, pre0 _ (c1 _ (c2 _ (c3 _ (c4 _ (c5 _ (c6 _ (c7 _ (c28 _ (c52 _ (c54 _ (st53 _ (c56 _ (st55 _ (c59 _ (st61 _ (st63 _ (c64 _ (st66 _ (st68 _ (st74.trans (?_))))))))))))))))))))), hrun, hended, _, _, rfl, ?_, ⟨_, rfl⟩, hW, hsame.mono (by decide) (by decide)⟩
        · show Steps p.tables e below (T74.setTop (mkF m 127 #[oi p0, oi vk, oi vm, oi vd, oi ve, oi (own_low vl)] [(.ref b53)])) _
          jvm_step X74.here [X74.here.top, hx, (hb hby d1_127), X74.method', Bd.returns, Value.isRef, FieldType.isReference]
          first | (intro acts; rw [hr _ acts rfl rfl rfl]) | rw [hr _ _ rfl rfl rfl]
          exact Steps.refl _
        · show Q1 Z p0 cs fm h0 n0 _ T74.heap _
          exact ⟨b53, ot74, kb74, [(own_dc ((1 : Int32) + (vd % (9 : Int32)))), (own_dc ve)], rfl, hnum, N74, f77, sz_b53, sz_ot74, Eq74, Fv74, Fc74, Vb74⟩
      · -- it isn't
        have c78 : own_G p e below s₁ (mkF m 130 #[oi p0, oi vk, oi vm, oi vd, oi ve, oi (own_low vl)] [(.int (3 : Int32)), (.int vk)]) (mkF m 94 #[oi p0, oi vk, oi vm, oi vd, oi ve, oi (own_low vl)] [(.int (2 : Int32)), (.int vk)]) := by
          intro t kt
          show oS s₁ (mkF m 94 #[oi p0, oi vk, oi vm, oi vd, oi ve, oi (own_low vl)] [(.int (2 : Int32)), (.int vk)]) _
          refine XS.icmpYes X0.here hx rfl (pc0 := 94) (pc' := 128) rfl (hb hby d1_94) rfl (feq hc94).2 (by decide) (by decide) ?_
          show oS s₁ (mkF m 128 #[oi p0, oi vk, oi vm, oi vd, oi ve, oi (own_low vl)] []) _
          refine XS.iloadN X0.here hx rfl (hb hby d1_128) rfl ?_
          show oS s₁ (mkF m 129 #[oi p0, oi vk, oi vm, oi vd, oi ve, oi (own_low vl)] [(.int vk)]) _
          refine XS.iconst X0.here hx rfl (hb hby d1_129) ?_
          exact kt
        by_cases hc130 : vk = (3 : Int32)
        · -- it is
          have c80 : own_G p e below s₁ (mkF m 133 #[oi p0, oi vk, oi vm, oi vd, oi ve, oi (own_low vl)] []) (mkF m 130 #[oi p0, oi vk, oi vm, oi vd, oi ve, oi (own_low vl)] [(.int (3 : Int32)), (.int vk)]) := by
            intro t kt
            show oS s₁ (mkF m 130 #[oi p0, oi vk, oi vm, oi vd, oi ve, oi (own_low vl)] [(.int (3 : Int32)), (.int vk)]) _
            refine XS.icmpNo X0.here hx rfl (hb hby d1_130) rfl (teq hc130).2 ?_
            exact kt
          obtain ⟨T79, h79, X79, e79, E79, A79, D79, U79, st79⟩ := newO X0 hx hZ hown (own_t hw 5 rfl) (own_t hw 6 rfl) (own_t hw 7 rfl) e0 (g := (mkF m 133 #[oi p0, oi vk, oi vm, oi vd, oi ve, oi (own_low vl)] [])) rfl (hb hby d1_133) (by decide) (by decide)
          obtain ⟨b79, g79⟩ : ∃ z, z = h0.size := ⟨_, rfl⟩
          rw [← g79] at A79 D79 U79 st79
          have g_b79 : n0 ≤ b79 := Nat.le_trans Z0 (Nat.le_of_eq g79.symm)
          have sz_b79 : h0.size ≤ b79 := Nat.le_trans (Keep.refl h0 []).1 (Nat.le_of_eq g79.symm)
          have F79_coder : Fld Z h79 b79 "java/lang/String" "coder" "B" (.int (0 : Int32)) := D79 (Or.inr (own_t hw 35 rfl)) (ty := .byte) (by decide)
          have F79_value : Fld Z h79 b79 "java/lang/String" "value" "[B" .null := D79 (Or.inr (own_t hw 37 rfl)) (ty := (.array .byte)) (by decide)
          have c82 : own_G p e below T79 (mkF m 138 #[oi p0, oi vk, oi vm, oi vd, oi ve, oi (own_low vl)] [(.int (3 : Int32)), (.ref b79), (.ref b79)]) (mkF m 136 #[oi p0, oi vk, oi vm, oi vd, oi ve, oi (own_low vl)] [(.ref b79)]) := by
            intro t kt
            show oS T79 (mkF m 136 #[oi p0, oi vk, oi vm, oi vd, oi ve, oi (own_low vl)] [(.ref b79)]) _
            refine XS.dup X79.here hx rfl (hb hby d1_136) rfl rfl ?_
            show oS T79 (mkF m 137 #[oi p0, oi vk, oi vm, oi vd, oi ve, oi (own_low vl)] [(.ref b79), (.ref b79)]) _
            refine XS.iconst X79.here hx rfl (hb hby d1_137) ?_
            exact kt
          obtain ⟨T81, h81, k81, X81, e81, E81, A81, st81⟩ := newP X79 hx hZ (own_t hw 8 rfl) e79 (g := (mkF m 138 #[oi p0, oi vk, oi vm, oi vd, oi ve, oi (own_low vl)] [(.int (3 : Int32)), (.ref b79), (.ref b79)])) rfl (hb hby d1_138) rfl (by decide) (cap := 3) (by decide) (by decide) (by decide) (by decide)
          obtain ⟨b81, g81⟩ : ∃ z, z = h79.size := ⟨_, rfl⟩
          rw [← g81] at A81 st81
          have f83 := (Nat.le_trans Z0 E79.1)
          have f84 := ((Keep.refl h0 []).ext E79)
          have g_b81 : n0 ≤ b81 := Nat.le_trans f83 (Nat.le_of_eq g81.symm)
          have sz_b81 : h0.size ≤ b81 := Nat.le_trans f84.1 (Nat.le_of_eq g81.symm)
          have lt_b79_81 := A79.lt
          have V81 : Arv Z h81 b81 k81 .char (3 : Int32) [(.int (0 : Int32)), (.int (0 : Int32)), (.int (0 : Int32))] (.int (0 : Int32)) := (Arv.new A81 (by decide)).pad (pad_rep [] (.int (0 : Int32)) 3)
          have c85 : own_G p e below T81 (mkF m 143 #[oi p0, oi vk, oi vm, oi vd, oi ve, oi (own_low vl)] [(.int vd), (.int (0 : Int32)), (.ref b81), (.ref b81), (.ref b79), (.ref b79)]) (mkF m 140 #[oi p0, oi vk, oi vm, oi vd, oi ve, oi (own_low vl)] [(.ref b81), (.ref b79), (.ref b79)]) := by
            intro t kt
            show oS T81 (mkF m 140 #[oi p0, oi vk, oi vm, oi vd, oi ve, oi (own_low vl)] [(.ref b81), (.ref b79), (.ref b79)]) _
            refine XS.dup X81.here hx rfl (hb hby d1_140) rfl rfl ?_
            show oS T81 (mkF m 141 #[oi p0, oi vk, oi vm, oi vd, oi ve, oi (own_low vl)] [(.ref b81), (.ref b81), (.ref b79), (.ref b79)]) _
            refine XS.iconst X81.here hx rfl (hb hby d1_141) ?_
            show oS T81 (mkF m 142 #[oi p0, oi vk, oi vm, oi vd, oi ve, oi (own_low vl)] [(.int (0 : Int32)), (.ref b81), (.ref b81), (.ref b79), (.ref b79)]) _
            refine XS.iloadN X81.here hx rfl (hb hby d1_142) rfl ?_
            exact kt
          have f86 := (Nat.le_trans f83 E81.1)
          obtain ⟨_, _, ⟨T87, L87, k87, n87⟩, -, X87, ⟨Lc87, hQ87, l87, y87, z87⟩, st87⟩ := Jvm.LawKit.callS X81 hx (y := yy_14) hown (mvT hZ (own_t hw 9 rfl)) (mvT hZ (own_t hw 10 rfl)) (mvT hZ (own_t hw 2 rfl)) (mvT hZ (own_t hw 11 rfl)) (by decide) (backOf (W := 5) (rm2 l Z a0 hw [] vd  h81 n0 f86 ) hZ (own_t hw 11 rfl) (own_t hw 2 rfl) (by decide) (by decide)) (g := (mkF m 143 #[oi p0, oi vk, oi vm, oi vd, oi ve, oi (own_low vl)] [(.int vd), (.int (0 : Int32)), (.ref b81), (.ref b81), (.ref b79), (.ref b79)])) rfl (by rw [hml]; rfl) (argsL := [(.int vd)]) (rest := [(.int (0 : Int32)), (.ref b81), (.ref b81), (.ref b79), (.ref b79)]) (lenOf pd_8 rfl) rfl (by show 2 * 0 + _ ≤ _; exact Nat.le_of_eq rfl) (hb hby d1_143) (fun _ _ => ⟨rfl, e81, (by decide : 2 + 0 ≤ _), (by decide : 7 + 0 ≤ _)⟩)
          dsimp only [Pt.U, Pt.locs, Pt.cells, Pt.slots] at X87 l87 y87 z87 st87 hQ87
          subst l87 y87 z87
          obtain ⟨rfl, N87q, e87⟩ := hQ87
          have N87 := Fr.app N0 N87q
          have Vc88 := V81
          obtain ⟨cl88, Ar88, qk88, S88, M88, H88, G88⟩ := Vc88
          have hin88 : ¬ ((0 : Int32) < 0 ∨ cl88.slots.size ≤ ((0 : Int32)).toNatClampNeg) := inb_of S88 ⟨by decide, by decide⟩
          obtain ⟨T89, h89, X89, e89, W89, st89⟩ := stC X87 hx hZ e87 Ar88 (j := (0 : Int32)) hin88 (g := (mkF m 146 #[oi p0, oi vk, oi vm, oi vd, oi ve, oi (own_low vl)] [(.int (own_dig vd)), (.int (0 : Int32)), (.ref b81), (.ref b81), (.ref b79), (.ref b79)])) rfl rfl (hb hby d1_146)
          have V89 : Arv Z h89 b81 k81 .char (3 : Int32) [(.int ((own_dig vd).toUInt32.toUInt16.toUInt32.toInt32)), (.int (0 : Int32)), (.int (0 : Int32))] (.int (0 : Int32)) := Arv.set Ar88 qk88 S88 M88 H88 G88 (fits_nar_char _) W89 0 rfl (Nat.le_of_ble_eq_true rfl)
          have N89 := Fr.snoc X89 N87 g_b81
          have c90 : own_G p e below T89 (mkF m 151 #[oi p0, oi vk, oi vm, oi vd, oi ve, oi (own_low vl)] [(.int (46 : Int32)), (.int (1 : Int32)), (.ref b81), (.ref b81), (.ref b79), (.ref b79)]) (mkF m 147 #[oi p0, oi vk, oi vm, oi vd, oi ve, oi (own_low vl)] [(.ref b81), (.ref b79), (.ref b79)]) := by
            intro t kt
            show oS T89 (mkF m 147 #[oi p0, oi vk, oi vm, oi vd, oi ve, oi (own_low vl)] [(.ref b81), (.ref b79), (.ref b79)]) _
            refine XS.dup X89.here hx rfl (hb hby d1_147) rfl rfl ?_
            show oS T89 (mkF m 148 #[oi p0, oi vk, oi vm, oi vd, oi ve, oi (own_low vl)] [(.ref b81), (.ref b81), (.ref b79), (.ref b79)]) _
            refine XS.iconst X89.here hx rfl (hb hby d1_148) ?_
            show oS T89 (mkF m 149 #[oi p0, oi vk, oi vm, oi vd, oi ve, oi (own_low vl)] [(.int (1 : Int32)), (.ref b81), (.ref b81), (.ref b79), (.ref b79)]) _
            refine XS.bipush X89.here hx rfl (hb hby d1_149) ?_
            exact kt
          have Vc91 := V89
          obtain ⟨cl91, Ar91, qk91, S91, M91, H91, G91⟩ := Vc91
          have hin91 : ¬ ((1 : Int32) < 0 ∨ cl91.slots.size ≤ ((1 : Int32)).toNatClampNeg) := inb_of S91 ⟨by decide, by decide⟩
          obtain ⟨T92, h92, X92, e92, W92, st92⟩ := stC X89 hx hZ e89 Ar91 (j := (1 : Int32)) hin91 (g := (mkF m 151 #[oi p0, oi vk, oi vm, oi vd, oi ve, oi (own_low vl)] [(.int (46 : Int32)), (.int (1 : Int32)), (.ref b81), (.ref b81), (.ref b79), (.ref b79)])) rfl rfl (hb hby d1_151)
          have V92 : Arv Z h92 b81 k81 .char (3 : Int32) [(.int ((own_dig vd).toUInt32.toUInt16.toUInt32.toInt32)), (.int ((46 : Int32).toUInt32.toUInt16.toUInt32.toInt32)), (.int (0 : Int32))] (.int (0 : Int32)) := Arv.set Ar91 qk91 S91 M91 H91 G91 (fits_nar_char _) W92 1 rfl (Nat.le_of_ble_eq_true rfl)
          have N92 := Fr.snoc X92 N89 g_b81
          have c93 : own_G p e below T92 (mkF m 156 #[oi p0, oi vk, oi vm, oi vd, oi ve, oi (own_low vl)] [(.int ve), (.int (2 : Int32)), (.ref b81), (.ref b81), (.ref b79), (.ref b79)]) (mkF m 152 #[oi p0, oi vk, oi vm, oi vd, oi ve, oi (own_low vl)] [(.ref b81), (.ref b79), (.ref b79)]) := by
            intro t kt
            show oS T92 (mkF m 152 #[oi p0, oi vk, oi vm, oi vd, oi ve, oi (own_low vl)] [(.ref b81), (.ref b79), (.ref b79)]) _
            refine XS.dup X92.here hx rfl (hb hby d1_152) rfl rfl ?_
            show oS T92 (mkF m 153 #[oi p0, oi vk, oi vm, oi vd, oi ve, oi (own_low vl)] [(.ref b81), (.ref b81), (.ref b79), (.ref b79)]) _
            refine XS.iconst X92.here hx rfl (hb hby d1_153) ?_
            show oS T92 (mkF m 154 #[oi p0, oi vk, oi vm, oi vd, oi ve, oi (own_low vl)] [(.int (2 : Int32)), (.ref b81), (.ref b81), (.ref b79), (.ref b79)]) _
            refine XS.iload X92.here hx rfl (hb hby d1_154) rfl ?_
            exact kt
          have f94 := (Nat.le_trans (Nat.le_trans f86 (Keep.of_wr W89).1) (Keep.of_wr W92).1)
          obtain ⟨_, _, ⟨T95, L95, k95, n95⟩, -, X95, ⟨Lc95, hQ95, l95, y95, z95⟩, st95⟩ := Jvm.LawKit.callS X92 hx (y := yy_14) hown (mvT hZ (own_t hw 9 rfl)) (mvT hZ (own_t hw 10 rfl)) (mvT hZ (own_t hw 2 rfl)) (mvT hZ (own_t hw 11 rfl)) (by decide) (backOf (W := 5) (rm2 l Z a0 hw [] ve  h92 n0 f94 ) hZ (own_t hw 11 rfl) (own_t hw 2 rfl) (by decide) (by decide)) (g := (mkF m 156 #[oi p0, oi vk, oi vm, oi vd, oi ve, oi (own_low vl)] [(.int ve), (.int (2 : Int32)), (.ref b81), (.ref b81), (.ref b79), (.ref b79)])) rfl (by rw [hml]; rfl) (argsL := [(.int ve)]) (rest := [(.int (2 : Int32)), (.ref b81), (.ref b81), (.ref b79), (.ref b79)]) (lenOf pd_8 rfl) rfl (by show 2 * 0 + _ ≤ _; exact Nat.le_of_eq rfl) (hb hby d1_156) (fun _ _ => ⟨rfl, e92, (by decide : 2 + 0 ≤ _), (by decide : 7 + 0 ≤ _)⟩)
          dsimp only [Pt.U, Pt.locs, Pt.cells, Pt.slots] at X95 l95 y95 z95 st95 hQ95
          subst l95 y95 z95
          obtain ⟨rfl, N95q, e95⟩ := hQ95
          have N95 := Fr.app N92 N95q
          have Vc96 := V92
          obtain ⟨cl96, Ar96, qk96, S96, M96, H96, G96⟩ := Vc96
          have hin96 : ¬ ((2 : Int32) < 0 ∨ cl96.slots.size ≤ ((2 : Int32)).toNatClampNeg) := inb_of S96 ⟨by decide, by decide⟩
          obtain ⟨T97, h97, X97, e97, W97, st97⟩ := stC X95 hx hZ e95 Ar96 (j := (2 : Int32)) hin96 (g := (mkF m 159 #[oi p0, oi vk, oi vm, oi vd, oi ve, oi (own_low vl)] [(.int (own_dig ve)), (.int (2 : Int32)), (.ref b81), (.ref b81), (.ref b79), (.ref b79)])) rfl rfl (hb hby d1_159)
          have V97 : Arv Z h97 b81 k81 .char (3 : Int32) [(.int ((own_dig vd).toUInt32.toUInt16.toUInt32.toInt32)), (.int ((46 : Int32).toUInt32.toUInt16.toUInt32.toInt32)), (.int ((own_dig ve).toUInt32.toUInt16.toUInt32.toInt32))] (.int (0 : Int32)) := Arv.set Ar96 qk96 S96 M96 H96 G96 (fits_nar_char _) W97 2 rfl (Nat.le_of_ble_eq_true rfl)
          have N97 := Fr.snoc X97 N95 g_b81
          have f98 := (Nat.le_trans f94 (Keep.of_wr W97).1)
          have hnum : own_num [(own_dc vd), (46 : Int32), (own_dc ve)] := Or.inr (Or.inr (Or.inr (Or.inl ⟨_, _, rfl, q_d, q_e⟩)))
          have hrng : ∀ c ∈ [(own_dc vd), (46 : Int32), (own_dc ve)], ¬ c < 0 ∧ ¬ (255 : Int32) < c := own_rall (own_nl hnum)
          have f99 := ((((A79.ext E81).wr W89).wr W92).wr W97)
          have f100 := ((((F79_value.ext E81).other W89 (Or.inl (Nat.ne_of_lt (Nat.lt_of_lt_of_le lt_b79_81 (Nat.le_of_eq g81.symm))))).other W92 (Or.inl (Nat.ne_of_lt (Nat.lt_of_lt_of_le lt_b79_81 (Nat.le_of_eq g81.symm))))).other W97 (Or.inl (Nat.ne_of_lt (Nat.lt_of_lt_of_le lt_b79_81 (Nat.le_of_eq g81.symm)))))
          have f101 := ((((F79_coder.ext E81).other W89 (Or.inl (Nat.ne_of_lt (Nat.lt_of_lt_of_le lt_b79_81 (Nat.le_of_eq g81.symm))))).other W92 (Or.inl (Nat.ne_of_lt (Nat.lt_of_lt_of_le lt_b79_81 (Nat.le_of_eq g81.symm))))).other W97 (Or.inl (Nat.ne_of_lt (Nat.lt_of_lt_of_le lt_b79_81 (Nat.le_of_eq g81.symm)))))
          have f102 := (((((O0.ext E79).ext E81).wr W89 g_b81).wr W92 g_b81).wr W97 g_b81)
          obtain ⟨_, _, ⟨T103, L103, k103, n103⟩, -, X103, ⟨Lc103, hQ103, l103, y103, z103⟩, st103⟩ := X97.specialBack hx (y := yy_15) rfl hown (mvT hZ (own_t hw 12 rfl)) (mvT hZ (own_t hw 13 rfl)) (mvT hZ (own_t hw 14 rfl)) (by decide) (StrChars.Road.backV (W := 1) hZ hws (kI := 4) (own_t hw 6 rfl) (cs := [(own_dc vd), (46 : Int32), (own_dc ve)]) (bs := ([(own_dc vd), (46 : Int32), (own_dc ve)]).map (fun c => c.toInt8.toInt32)) (n := 3) g_b79 f98 f99 f100 f101 (show Arv Z _ _ _ _ _ (([(own_dc vd), (46 : Int32), (own_dc ve)]).map Value.int) _ from V97) (SC.ext f102.2) hcs rfl rfl (by decide) (by decide) hrng rfl (by decide) (by decide)) (g := (mkF m 160 #[oi p0, oi vk, oi vm, oi vd, oi ve, oi (own_low vl)] [(.ref b81), (.ref b79), (.ref b79)])) rfl (by rw [hml]; rfl) (Steps.refl _) (a := b79) (argsL := [(.ref b81)]) (rest := [(.ref b79)]) (lenOf pd_12 rfl) rfl (by show 2 * 0 + _ ≤ _; exact Nat.le_of_eq rfl) (hb hby d1_160) (fun _ _ => ⟨rfl, e97, (by decide : 2 + 1 ≤ _), (by decide : 7 + 3 ≤ _)⟩)
          dsimp only [Pt.U, Pt.locs, Pt.cells, Pt.slots] at X103 l103 y103 z103 st103 hQ103
          subst l103 y103 z103
          obtain ⟨rfl, N103q, Kq103, Eq103, Fc103, ot103, kb103, g_ot103, szq103, nt103, Fv103, Vb103⟩ := hQ103
          have N103 := Fr.app N97 N103q
          have lt_b79_103 := f99.lt
          have lt_b81_103 := (show Arv Z _ _ _ _ _ (([(own_dc vd), (46 : Int32), (own_dc ve)]).map Value.int) _ from V97).lt
          have f104 := ((((f84.ext E81).wr W89 (Or.inr sz_b81)).wr W92 (Or.inr sz_b81)).wr W97 (Or.inr sz_b81))
          have sz_ot103 : h0.size ≤ ot103 := Nat.le_trans f104.1 szq103
          obtain ⟨fs, hr, hrun, hended, hW, hsame⟩ := X103.leave (v := some (.ref b79)) (fun h => by rw [Bd.returns] at h; cases h)
          have f106 := (f104.trans Kq103 (allS (Or.inr sz_b79) all0))
          refine ⟨_, _, pre0 _ (c1 _ (c2 _ (c3 _ (c4 _ (c5 _ (c6 _ (c7 _ (c28 _ (c52 _ (c78 _ (c80 _ (st79 _ (c82 _ (st81 _ (c85 _ (st87 _ (st89 _ (c90 _ (st92 _ (c93 _ (st95 _ (st97 _ (st103.trans (?_)))))))))))))))))))))))), hrun, hended, _, _, rfl, ?_, ⟨_, rfl⟩, hW, hsame.mono (by decide) (by decide)⟩
          · show Steps p.tables e below (T103.setTop (mkF m 163 #[oi p0, oi vk, oi vm, oi vd, oi ve, oi (own_low vl)] [(.ref b79)])) _
            jvm_step X103.here [X103.here.top, hx, (hb hby d1_163), X103.method', Bd.returns, Value.isRef, FieldType.isReference]
            first | (intro acts; rw [hr _ acts rfl rfl rfl]) | rw [hr _ _ rfl rfl rfl]
            exact Steps.refl _
          · show Q1 Z p0 cs fm h0 n0 _ T103.heap _
            exact ⟨b79, ot103, kb103, [(own_dc vd), (46 : Int32), (own_dc ve)], rfl, hnum, N103, f106, sz_b79, sz_ot103, Eq103, Fv103, Fc103, Vb103⟩
        · -- it isn't
          have c108 : own_G p e below s₁ (mkF m 164 #[oi p0, oi vk, oi vm, oi vd, oi ve, oi (own_low vl)] []) (mkF m 130 #[oi p0, oi vk, oi vm, oi vd, oi ve, oi (own_low vl)] [(.int (3 : Int32)), (.int vk)]) := by
            intro t kt
            show oS s₁ (mkF m 130 #[oi p0, oi vk, oi vm, oi vd, oi ve, oi (own_low vl)] [(.int (3 : Int32)), (.int vk)]) _
            refine XS.icmpYes X0.here hx rfl (pc0 := 130) (pc' := 164) rfl (hb hby d1_130) rfl (feq hc130).2 (by decide) (by decide) ?_
            exact kt
          obtain ⟨T107, h107, X107, e107, E107, A107, D107, U107, st107⟩ := newO X0 hx hZ hown (own_t hw 5 rfl) (own_t hw 6 rfl) (own_t hw 7 rfl) e0 (g := (mkF m 164 #[oi p0, oi vk, oi vm, oi vd, oi ve, oi (own_low vl)] [])) rfl (hb hby d1_164) (by decide) (by decide)
          obtain ⟨b107, g107⟩ : ∃ z, z = h0.size := ⟨_, rfl⟩
          rw [← g107] at A107 D107 U107 st107
          have g_b107 : n0 ≤ b107 := Nat.le_trans Z0 (Nat.le_of_eq g107.symm)
          have sz_b107 : h0.size ≤ b107 := Nat.le_trans (Keep.refl h0 []).1 (Nat.le_of_eq g107.symm)
          have F107_coder : Fld Z h107 b107 "java/lang/String" "coder" "B" (.int (0 : Int32)) := D107 (Or.inr (own_t hw 35 rfl)) (ty := .byte) (by decide)
          have F107_value : Fld Z h107 b107 "java/lang/String" "value" "[B" .null := D107 (Or.inr (own_t hw 37 rfl)) (ty := (.array .byte)) (by decide)
          have c110 : own_G p e below T107 (mkF m 169 #[oi p0, oi vk, oi vm, oi vd, oi ve, oi (own_low vl)] [(.int (3 : Int32)), (.ref b107), (.ref b107)]) (mkF m 167 #[oi p0, oi vk, oi vm, oi vd, oi ve, oi (own_low vl)] [(.ref b107)]) := by
            intro t kt
            show oS T107 (mkF m 167 #[oi p0, oi vk, oi vm, oi vd, oi ve, oi (own_low vl)] [(.ref b107)]) _
            refine XS.dup X107.here hx rfl (hb hby d1_167) rfl rfl ?_
            show oS T107 (mkF m 168 #[oi p0, oi vk, oi vm, oi vd, oi ve, oi (own_low vl)] [(.ref b107), (.ref b107)]) _
            refine XS.iconst X107.here hx rfl (hb hby d1_168) ?_
            exact kt
          obtain ⟨T109, h109, k109, X109, e109, E109, A109, st109⟩ := newP X107 hx hZ (own_t hw 8 rfl) e107 (g := (mkF m 169 #[oi p0, oi vk, oi vm, oi vd, oi ve, oi (own_low vl)] [(.int (3 : Int32)), (.ref b107), (.ref b107)])) rfl (hb hby d1_169) rfl (by decide) (cap := 3) (by decide) (by decide) (by decide) (by decide)
          obtain ⟨b109, g109⟩ : ∃ z, z = h107.size := ⟨_, rfl⟩
          rw [← g109] at A109 st109
          have f111 := (Nat.le_trans Z0 E107.1)
          have f112 := ((Keep.refl h0 []).ext E107)
          have g_b109 : n0 ≤ b109 := Nat.le_trans f111 (Nat.le_of_eq g109.symm)
          have sz_b109 : h0.size ≤ b109 := Nat.le_trans f112.1 (Nat.le_of_eq g109.symm)
          have lt_b107_109 := A107.lt
          have V109 : Arv Z h109 b109 k109 .char (3 : Int32) [(.int (0 : Int32)), (.int (0 : Int32)), (.int (0 : Int32))] (.int (0 : Int32)) := (Arv.new A109 (by decide)).pad (pad_rep [] (.int (0 : Int32)) 3)
          have c113 : own_G p e below T109 (mkF m 174 #[oi p0, oi vk, oi vm, oi vd, oi ve, oi (own_low vl)] [(.int vd), (.int (0 : Int32)), (.ref b109), (.ref b109), (.ref b107), (.ref b107)]) (mkF m 171 #[oi p0, oi vk, oi vm, oi vd, oi ve, oi (own_low vl)] [(.ref b109), (.ref b107), (.ref b107)]) := by
            intro t kt
            show oS T109 (mkF m 171 #[oi p0, oi vk, oi vm, oi vd, oi ve, oi (own_low vl)] [(.ref b109), (.ref b107), (.ref b107)]) _
            refine XS.dup X109.here hx rfl (hb hby d1_171) rfl rfl ?_
            show oS T109 (mkF m 172 #[oi p0, oi vk, oi vm, oi vd, oi ve, oi (own_low vl)] [(.ref b109), (.ref b109), (.ref b107), (.ref b107)]) _
            refine XS.iconst X109.here hx rfl (hb hby d1_172) ?_
            show oS T109 (mkF m 173 #[oi p0, oi vk, oi vm, oi vd, oi ve, oi (own_low vl)] [(.int (0 : Int32)), (.ref b109), (.ref b109), (.ref b107), (.ref b107)]) _
            refine XS.iloadN X109.here hx rfl (hb hby d1_173) rfl ?_
            exact kt
          have f114 := (Nat.le_trans f111 E109.1)
          obtain ⟨_, _, ⟨T115, L115, k115, n115⟩, -, X115, ⟨Lc115, hQ115, l115, y115, z115⟩, st115⟩ := Jvm.LawKit.callS X109 hx (y := yy_14) hown (mvT hZ (own_t hw 9 rfl)) (mvT hZ (own_t hw 10 rfl)) (mvT hZ (own_t hw 2 rfl)) (mvT hZ (own_t hw 11 rfl)) (by decide) (backOf (W := 5) (rm2 l Z a0 hw [] vd  h109 n0 f114 ) hZ (own_t hw 11 rfl) (own_t hw 2 rfl) (by decide) (by decide)) (g := (mkF m 174 #[oi p0, oi vk, oi vm, oi vd, oi ve, oi (own_low vl)] [(.int vd), (.int (0 : Int32)), (.ref b109), (.ref b109), (.ref b107), (.ref b107)])) rfl (by rw [hml]; rfl) (argsL := [(.int vd)]) (rest := [(.int (0 : Int32)), (.ref b109), (.ref b109), (.ref b107), (.ref b107)]) (lenOf pd_8 rfl) rfl (by show 2 * 0 + _ ≤ _; exact Nat.le_of_eq rfl) (hb hby d1_174) (fun _ _ => ⟨rfl, e109, (by decide : 2 + 0 ≤ _), (by decide : 7 + 0 ≤ _)⟩)
          dsimp only [Pt.U, Pt.locs, Pt.cells, Pt.slots] at X115 l115 y115 z115 st115 hQ115
          subst l115 y115 z115
          obtain ⟨rfl, N115q, e115⟩ := hQ115
          have N115 := Fr.app N0 N115q
          have Vc116 := V109
          obtain ⟨cl116, Ar116, qk116, S116, M116, H116, G116⟩ := Vc116
          have hin116 : ¬ ((0 : Int32) < 0 ∨ cl116.slots.size ≤ ((0 : Int32)).toNatClampNeg) := inb_of S116 ⟨by decide, by decide⟩
          obtain ⟨T117, h117, X117, e117, W117, st117⟩ := stC X115 hx hZ e115 Ar116 (j := (0 : Int32)) hin116 (g := (mkF m 177 #[oi p0, oi vk, oi vm, oi vd, oi ve, oi (own_low vl)] [(.int (own_dig vd)), (.int (0 : Int32)), (.ref b109), (.ref b109), (.ref b107), (.ref b107)])) rfl rfl (hb hby d1_177)
          have V117 : Arv Z h117 b109 k109 .char (3 : Int32) [(.int ((own_dig vd).toUInt32.toUInt16.toUInt32.toInt32)), (.int (0 : Int32)), (.int (0 : Int32))] (.int (0 : Int32)) := Arv.set Ar116 qk116 S116 M116 H116 G116 (fits_nar_char _) W117 0 rfl (Nat.le_of_ble_eq_true rfl)
          have N117 := Fr.snoc X117 N115 g_b109
          have c118 : own_G p e below T117 (mkF m 182 #[oi p0, oi vk, oi vm, oi vd, oi ve, oi (own_low vl)] [(.int (own_low vl)), (.int (1 : Int32)), (.ref b109), (.ref b109), (.ref b107), (.ref b107)]) (mkF m 178 #[oi p0, oi vk, oi vm, oi vd, oi ve, oi (own_low vl)] [(.ref b109), (.ref b107), (.ref b107)]) := by
            intro t kt
            show oS T117 (mkF m 178 #[oi p0, oi vk, oi vm, oi vd, oi ve, oi (own_low vl)] [(.ref b109), (.ref b107), (.ref b107)]) _
            refine XS.dup X117.here hx rfl (hb hby d1_178) rfl rfl ?_
            show oS T117 (mkF m 179 #[oi p0, oi vk, oi vm, oi vd, oi ve, oi (own_low vl)] [(.ref b109), (.ref b109), (.ref b107), (.ref b107)]) _
            refine XS.iconst X117.here hx rfl (hb hby d1_179) ?_
            show oS T117 (mkF m 180 #[oi p0, oi vk, oi vm, oi vd, oi ve, oi (own_low vl)] [(.int (1 : Int32)), (.ref b109), (.ref b109), (.ref b107), (.ref b107)]) _
            refine XS.iload X117.here hx rfl (hb hby d1_180) rfl ?_
            exact kt
          by_cases hc182 : (own_low vl) = (0 : Int32)
          · -- it is
            have c119 : own_G p e below T117 (mkF m 192 #[oi p0, oi vk, oi vm, oi vd, oi ve, oi (own_low vl)] [(.int (69 : Int32)), (.int (1 : Int32)), (.ref b109), (.ref b109), (.ref b107), (.ref b107)]) (mkF m 182 #[oi p0, oi vk, oi vm, oi vd, oi ve, oi (own_low vl)] [(.int (own_low vl)), (.int (1 : Int32)), (.ref b109), (.ref b109), (.ref b107), (.ref b107)]) := by
              intro t kt
              show oS T117 (mkF m 182 #[oi p0, oi vk, oi vm, oi vd, oi ve, oi (own_low vl)] [(.int (own_low vl)), (.int (1 : Int32)), (.ref b109), (.ref b109), (.ref b107), (.ref b107)]) _
              refine XS.ifYes X117.here hx rfl (pc0 := 182) (pc' := 190) rfl (hb hby d1_182) rfl ((if0 _ _).trans (teq hc182).1) (by decide) (by decide) ?_
              show oS T117 (mkF m 190 #[oi p0, oi vk, oi vm, oi vd, oi ve, oi (own_low vl)] [(.int (1 : Int32)), (.ref b109), (.ref b109), (.ref b107), (.ref b107)]) _
              refine XS.bipush X117.here hx rfl (hb hby d1_190) ?_
              exact kt
            have Vc120 := V117
            obtain ⟨cl120, Ar120, qk120, S120, M120, H120, G120⟩ := Vc120
            have hin120 : ¬ ((1 : Int32) < 0 ∨ cl120.slots.size ≤ ((1 : Int32)).toNatClampNeg) := inb_of S120 ⟨by decide, by decide⟩
            obtain ⟨T121, h121, X121, e121, W121, st121⟩ := stC X117 hx hZ e117 Ar120 (j := (1 : Int32)) hin120 (g := (mkF m 192 #[oi p0, oi vk, oi vm, oi vd, oi ve, oi (own_low vl)] [(.int (69 : Int32)), (.int (1 : Int32)), (.ref b109), (.ref b109), (.ref b107), (.ref b107)])) rfl rfl (hb hby d1_192)
            have V121 : Arv Z h121 b109 k109 .char (3 : Int32) [(.int ((own_dig vd).toUInt32.toUInt16.toUInt32.toInt32)), (.int ((69 : Int32).toUInt32.toUInt16.toUInt32.toInt32)), (.int (0 : Int32))] (.int (0 : Int32)) := Arv.set Ar120 qk120 S120 M120 H120 G120 (fits_nar_char _) W121 1 rfl (Nat.le_of_ble_eq_true rfl)
            have N121 := Fr.snoc X121 N117 g_b109
            have c122 : own_G p e below T121 (mkF m 197 #[oi p0, oi vk, oi vm, oi vd, oi ve, oi (own_low vl)] [(.int ve), (.int (2 : Int32)), (.ref b109), (.ref b109), (.ref b107), (.ref b107)]) (mkF m 193 #[oi p0, oi vk, oi vm, oi vd, oi ve, oi (own_low vl)] [(.ref b109), (.ref b107), (.ref b107)]) := by
              intro t kt
              show oS T121 (mkF m 193 #[oi p0, oi vk, oi vm, oi vd, oi ve, oi (own_low vl)] [(.ref b109), (.ref b107), (.ref b107)]) _
              refine XS.dup X121.here hx rfl (hb hby d1_193) rfl rfl ?_
              show oS T121 (mkF m 194 #[oi p0, oi vk, oi vm, oi vd, oi ve, oi (own_low vl)] [(.ref b109), (.ref b109), (.ref b107), (.ref b107)]) _
              refine XS.iconst X121.here hx rfl (hb hby d1_194) ?_
              show oS T121 (mkF m 195 #[oi p0, oi vk, oi vm, oi vd, oi ve, oi (own_low vl)] [(.int (2 : Int32)), (.ref b109), (.ref b109), (.ref b107), (.ref b107)]) _
              refine XS.iload X121.here hx rfl (hb hby d1_195) rfl ?_
              exact kt
            have f123 := (Nat.le_trans (Nat.le_trans f114 (Keep.of_wr W117).1) (Keep.of_wr W121).1)
            obtain ⟨_, _, ⟨T124, L124, k124, n124⟩, -, X124, ⟨Lc124, hQ124, l124, y124, z124⟩, st124⟩ := Jvm.LawKit.callS X121 hx (y := yy_14) hown (mvT hZ (own_t hw 9 rfl)) (mvT hZ (own_t hw 10 rfl)) (mvT hZ (own_t hw 2 rfl)) (mvT hZ (own_t hw 11 rfl)) (by decide) (backOf (W := 5) (rm2 l Z a0 hw [] ve  h121 n0 f123 ) hZ (own_t hw 11 rfl) (own_t hw 2 rfl) (by decide) (by decide)) (g := (mkF m 197 #[oi p0, oi vk, oi vm, oi vd, oi ve, oi (own_low vl)] [(.int ve), (.int (2 : Int32)), (.ref b109), (.ref b109), (.ref b107), (.ref b107)])) rfl (by rw [hml]; rfl) (argsL := [(.int ve)]) (rest := [(.int (2 : Int32)), (.ref b109), (.ref b109), (.ref b107), (.ref b107)]) (lenOf pd_8 rfl) rfl (by show 2 * 0 + _ ≤ _; exact Nat.le_of_eq rfl) (hb hby d1_197) (fun _ _ => ⟨rfl, e121, (by decide : 2 + 0 ≤ _), (by decide : 7 + 0 ≤ _)⟩)
            dsimp only [Pt.U, Pt.locs, Pt.cells, Pt.slots] at X124 l124 y124 z124 st124 hQ124
            subst l124 y124 z124
            obtain ⟨rfl, N124q, e124⟩ := hQ124
            have N124 := Fr.app N121 N124q
            have Vc125 := V121
            obtain ⟨cl125, Ar125, qk125, S125, M125, H125, G125⟩ := Vc125
            have hin125 : ¬ ((2 : Int32) < 0 ∨ cl125.slots.size ≤ ((2 : Int32)).toNatClampNeg) := inb_of S125 ⟨by decide, by decide⟩
            obtain ⟨T126, h126, X126, e126, W126, st126⟩ := stC X124 hx hZ e124 Ar125 (j := (2 : Int32)) hin125 (g := (mkF m 200 #[oi p0, oi vk, oi vm, oi vd, oi ve, oi (own_low vl)] [(.int (own_dig ve)), (.int (2 : Int32)), (.ref b109), (.ref b109), (.ref b107), (.ref b107)])) rfl rfl (hb hby d1_200)
            have V126 : Arv Z h126 b109 k109 .char (3 : Int32) [(.int ((own_dig vd).toUInt32.toUInt16.toUInt32.toInt32)), (.int ((69 : Int32).toUInt32.toUInt16.toUInt32.toInt32)), (.int ((own_dig ve).toUInt32.toUInt16.toUInt32.toInt32))] (.int (0 : Int32)) := Arv.set Ar125 qk125 S125 M125 H125 G125 (fits_nar_char _) W126 2 rfl (Nat.le_of_ble_eq_true rfl)
            have N126 := Fr.snoc X126 N124 g_b109
            have f127 := (Nat.le_trans f123 (Keep.of_wr W126).1)
            have hnum : own_num [(own_dc vd), (69 : Int32), (own_dc ve)] := Or.inr (Or.inr (Or.inr (Or.inr (Or.inr ⟨_, _, rfl, q_d, q_e⟩))))
            have hrng : ∀ c ∈ [(own_dc vd), (69 : Int32), (own_dc ve)], ¬ c < 0 ∧ ¬ (255 : Int32) < c := own_rall (own_nl hnum)
            have f128 := ((((A107.ext E109).wr W117).wr W121).wr W126)
            have f129 := ((((F107_value.ext E109).other W117 (Or.inl (Nat.ne_of_lt (Nat.lt_of_lt_of_le lt_b107_109 (Nat.le_of_eq g109.symm))))).other W121 (Or.inl (Nat.ne_of_lt (Nat.lt_of_lt_of_le lt_b107_109 (Nat.le_of_eq g109.symm))))).other W126 (Or.inl (Nat.ne_of_lt (Nat.lt_of_lt_of_le lt_b107_109 (Nat.le_of_eq g109.symm)))))
            have f130 := ((((F107_coder.ext E109).other W117 (Or.inl (Nat.ne_of_lt (Nat.lt_of_lt_of_le lt_b107_109 (Nat.le_of_eq g109.symm))))).other W121 (Or.inl (Nat.ne_of_lt (Nat.lt_of_lt_of_le lt_b107_109 (Nat.le_of_eq g109.symm))))).other W126 (Or.inl (Nat.ne_of_lt (Nat.lt_of_lt_of_le lt_b107_109 (Nat.le_of_eq g109.symm)))))
            have f131 := (((((O0.ext E107).ext E109).wr W117 g_b109).wr W121 g_b109).wr W126 g_b109)
            obtain ⟨_, _, ⟨T132, L132, k132, n132⟩, -, X132, ⟨Lc132, hQ132, l132, y132, z132⟩, st132⟩ := X126.specialBack hx (y := yy_15) rfl hown (mvT hZ (own_t hw 12 rfl)) (mvT hZ (own_t hw 13 rfl)) (mvT hZ (own_t hw 14 rfl)) (by decide) (StrChars.Road.backV (W := 1) hZ hws (kI := 4) (own_t hw 6 rfl) (cs := [(own_dc vd), (69 : Int32), (own_dc ve)]) (bs := ([(own_dc vd), (69 : Int32), (own_dc ve)]).map (fun c => c.toInt8.toInt32)) (n := 3) g_b107 f127 f128 f129 f130 (show Arv Z _ _ _ _ _ (([(own_dc vd), (69 : Int32), (own_dc ve)]).map Value.int) _ from V126) (SC.ext f131.2) hcs rfl rfl (by decide) (by decide) hrng rfl (by decide) (by decide)) (g := (mkF m 201 #[oi p0, oi vk, oi vm, oi vd, oi ve, oi (own_low vl)] [(.ref b109), (.ref b107), (.ref b107)])) rfl (by rw [hml]; rfl) (Steps.refl _) (a := b107) (argsL := [(.ref b109)]) (rest := [(.ref b107)]) (lenOf pd_12 rfl) rfl (by show 2 * 0 + _ ≤ _; exact Nat.le_of_eq rfl) (hb hby d1_201) (fun _ _ => ⟨rfl, e126, (by decide : 2 + 1 ≤ _), (by decide : 7 + 3 ≤ _)⟩)
            dsimp only [Pt.U, Pt.locs, Pt.cells, Pt.slots] at X132 l132 y132 z132 st132 hQ132
            subst l132 y132 z132
            obtain ⟨rfl, N132q, Kq132, Eq132, Fc132, ot132, kb132, g_ot132, szq132, nt132, Fv132, Vb132⟩ := hQ132
            have N132 := Fr.app N126 N132q
            have lt_b107_132 := f128.lt
            have lt_b109_132 := (show Arv Z _ _ _ _ _ (([(own_dc vd), (69 : Int32), (own_dc ve)]).map Value.int) _ from V126).lt
            have f133 := ((((f112.ext E109).wr W117 (Or.inr sz_b109)).wr W121 (Or.inr sz_b109)).wr W126 (Or.inr sz_b109))
            have sz_ot132 : h0.size ≤ ot132 := Nat.le_trans f133.1 szq132
            obtain ⟨fs, hr, hrun, hended, hW, hsame⟩ := X132.leave (v := some (.ref b107)) (fun h => by rw [Bd.returns] at h; cases h)
            have f135 := (f133.trans Kq132 (allS (Or.inr sz_b107) all0))
            refine ⟨_, _, pre0 _ (c1 _ (c2 _ (c3 _ (c4 _ (c5 _ (c6 _ (c7 _ (c28 _ (c52 _ (c78 _ (c108 _ (st107 _ (c110 _ (st109 _ (c113 _ (st115 _ (st117 _ (c118 _ (c119 _ (st121 _ (c122 _ (st124 _ (st126 _ (st132.trans (?_))))))))))))))))))))))))), hrun, hended, _, _, rfl, ?_, ⟨_, rfl⟩, hW, hsame.mono (by decide) (by decide)⟩
            · show Steps p.tables e below (T132.setTop (mkF m 204 #[oi p0, oi vk, oi vm, oi vd, oi ve, oi (own_low vl)] [(.ref b107)])) _
              jvm_step X132.here [X132.here.top, hx, (hb hby d1_204), X132.method', Bd.returns, Value.isRef, FieldType.isReference]
              first | (intro acts; rw [hr _ acts rfl rfl rfl]) | rw [hr _ _ rfl rfl rfl]
              exact Steps.refl _
            · show Q1 Z p0 cs fm h0 n0 _ T132.heap _
              exact ⟨b107, ot132, kb132, [(own_dc vd), (69 : Int32), (own_dc ve)], rfl, hnum, N132, f135, sz_b107, sz_ot132, Eq132, Fv132, Fc132, Vb132⟩
          · -- it isn't
            have c136 : own_G p e below T117 (mkF m 192 #[oi p0, oi vk, oi vm, oi vd, oi ve, oi (own_low vl)] [(.int (101 : Int32)), (.int (1 : Int32)), (.ref b109), (.ref b109), (.ref b107), (.ref b107)]) (mkF m 182 #[oi p0, oi vk, oi vm, oi vd, oi ve, oi (own_low vl)] [(.int (own_low vl)), (.int (1 : Int32)), (.ref b109), (.ref b109), (.ref b107), (.ref b107)]) := by
              intro t kt
              show oS T117 (mkF m 182 #[oi p0, oi vk, oi vm, oi vd, oi ve, oi (own_low vl)] [(.int (own_low vl)), (.int (1 : Int32)), (.ref b109), (.ref b109), (.ref b107), (.ref b107)]) _
              refine XS.ifNo X117.here hx rfl (hb hby d1_182) rfl ((if0 _ _).trans (feq hc182).1) ?_
              show oS T117 (mkF m 185 #[oi p0, oi vk, oi vm, oi vd, oi ve, oi (own_low vl)] [(.int (1 : Int32)), (.ref b109), (.ref b109), (.ref b107), (.ref b107)]) _
              refine XS.bipush X117.here hx rfl (hb hby d1_185) ?_
              show oS T117 (mkF m 187 #[oi p0, oi vk, oi vm, oi vd, oi ve, oi (own_low vl)] [(.int (101 : Int32)), (.int (1 : Int32)), (.ref b109), (.ref b109), (.ref b107), (.ref b107)]) _
              refine XS.goto X117.here hx rfl (pc0 := 187) (pc' := 192) rfl (hb hby d1_187) (by decide) (by decide) ?_
              exact kt
            have Vc137 := V117
            obtain ⟨cl137, Ar137, qk137, S137, M137, H137, G137⟩ := Vc137
            have hin137 : ¬ ((1 : Int32) < 0 ∨ cl137.slots.size ≤ ((1 : Int32)).toNatClampNeg) := inb_of S137 ⟨by decide, by decide⟩
            obtain ⟨T138, h138, X138, e138, W138, st138⟩ := stC X117 hx hZ e117 Ar137 (j := (1 : Int32)) hin137 (g := (mkF m 192 #[oi p0, oi vk, oi vm, oi vd, oi ve, oi (own_low vl)] [(.int (101 : Int32)), (.int (1 : Int32)), (.ref b109), (.ref b109), (.ref b107), (.ref b107)])) rfl rfl (hb hby d1_192)
            have V138 : Arv Z h138 b109 k109 .char (3 : Int32) [(.int ((own_dig vd).toUInt32.toUInt16.toUInt32.toInt32)), (.int ((101 : Int32).toUInt32.toUInt16.toUInt32.toInt32)), (.int (0 : Int32))] (.int (0 : Int32)) := Arv.set Ar137 qk137 S137 M137 H137 G137 (fits_nar_char _) W138 1 rfl (Nat.le_of_ble_eq_true rfl)
            have N138 := Fr.snoc X138 N117 g_b109
            have c139 : own_G p e below T138 (mkF m 197 #[oi p0, oi vk, oi vm, oi vd, oi ve, oi (own_low vl)] [(.int ve), (.int (2 : Int32)), (.ref b109), (.ref b109), (.ref b107), (.ref b107)]) (mkF m 193 #[oi p0, oi vk, oi vm, oi vd, oi ve, oi (own_low vl)] [(.ref b109), (.ref b107), (.ref b107)]) := by
              intro t kt
              show oS T138 (mkF m 193 #[oi p0, oi vk, oi vm, oi vd, oi ve, oi (own_low vl)] [(.ref b109), (.ref b107), (.ref b107)]) _
              refine XS.dup X138.here hx rfl (hb hby d1_193) rfl rfl ?_
              show oS T138 (mkF m 194 #[oi p0, oi vk, oi vm, oi vd, oi ve, oi (own_low vl)] [(.ref b109), (.ref b109), (.ref b107), (.ref b107)]) _
              refine XS.iconst X138.here hx rfl (hb hby d1_194) ?_
              show oS T138 (mkF m 195 #[oi p0, oi vk, oi vm, oi vd, oi ve, oi (own_low vl)] [(.int (2 : Int32)), (.ref b109), (.ref b109), (.ref b107), (.ref b107)]) _
              refine XS.iload X138.here hx rfl (hb hby d1_195) rfl ?_
              exact kt
            have f140 := (Nat.le_trans (Nat.le_trans f114 (Keep.of_wr W117).1) (Keep.of_wr W138).1)
            obtain ⟨_, _, ⟨T141, L141, k141, n141⟩, -, X141, ⟨Lc141, hQ141, l141, y141, z141⟩, st141⟩ := Jvm.LawKit.callS X138 hx (y := yy_14) hown (mvT hZ (own_t hw 9 rfl)) (mvT hZ (own_t hw 10 rfl)) (mvT hZ (own_t hw 2 rfl)) (mvT hZ (own_t hw 11 rfl)) (by decide) (backOf (W := 5) (rm2 l Z a0 hw [] ve  h138 n0 f140 ) hZ (own_t hw 11 rfl) (own_t hw 2 rfl) (by decide) (by decide)) (g := (mkF m 197 #[oi p0, oi vk, oi vm, oi vd, oi ve, oi (own_low vl)] [(.int ve), (.int (2 : Int32)), (.ref b109), (.ref b109), (.ref b107), (.ref b107)])) rfl (by rw [hml]; rfl) (argsL := [(.int ve)]) (rest := [(.int (2 : Int32)), (.ref b109), (.ref b109), (.ref b107), (.ref b107)]) (lenOf pd_8 rfl) rfl (by show 2 * 0 + _ ≤ _; exact Nat.le_of_eq rfl) (hb hby d1_197) (fun _ _ => ⟨rfl, e138, (by decide : 2 + 0 ≤ _), (by decide : 7 + 0 ≤ _)⟩)
            dsimp only [Pt.U, Pt.locs, Pt.cells, Pt.slots] at X141 l141 y141 z141 st141 hQ141
            subst l141 y141 z141
            obtain ⟨rfl, N141q, e141⟩ := hQ141
            have N141 := Fr.app N138 N141q
            have Vc142 := V138
            obtain ⟨cl142, Ar142, qk142, S142, M142, H142, G142⟩ := Vc142
            have hin142 : ¬ ((2 : Int32) < 0 ∨ cl142.slots.size ≤ ((2 : Int32)).toNatClampNeg) := inb_of S142 ⟨by decide, by decide⟩
            obtain ⟨T143, h143, X143, e143, W143, st143⟩ := stC X141 hx hZ e141 Ar142 (j := (2 : Int32)) hin142 (g := (mkF m 200 #[oi p0, oi vk, oi vm, oi vd, oi ve, oi (own_low vl)] [(.int (own_dig ve)), (.int (2 : Int32)), (.ref b109), (.ref b109), (.ref b107), (.ref b107)])) rfl rfl (hb hby d1_200)
            have V143 : Arv Z h143 b109 k109 .char (3 : Int32) [(.int ((own_dig vd).toUInt32.toUInt16.toUInt32.toInt32)), (.int ((101 : Int32).toUInt32.toUInt16.toUInt32.toInt32)), (.int ((own_dig ve).toUInt32.toUInt16.toUInt32.toInt32))] (.int (0 : Int32)) := Arv.set Ar142 qk142 S142 M142 H142 G142 (fits_nar_char _) W143 2 rfl (Nat.le_of_ble_eq_true rfl)
            have N143 := Fr.snoc X143 N141 g_b109
            have f144 := (Nat.le_trans f140 (Keep.of_wr W143).1)
            have hnum : own_num [(own_dc vd), (101 : Int32), (own_dc ve)] := Or.inr (Or.inr (Or.inr (Or.inr (Or.inl ⟨_, _, rfl, q_d, q_e⟩))))
            have hrng : ∀ c ∈ [(own_dc vd), (101 : Int32), (own_dc ve)], ¬ c < 0 ∧ ¬ (255 : Int32) < c := own_rall (own_nl hnum)
            have f145 := ((((A107.ext E109).wr W117).wr W138).wr W143)
            have f146 := ((((F107_value.ext E109).other W117 (Or.inl (Nat.ne_of_lt (Nat.lt_of_lt_of_le lt_b107_109 (Nat.le_of_eq g109.symm))))).other W138 (Or.inl (Nat.ne_of_lt (Nat.lt_of_lt_of_le lt_b107_109 (Nat.le_of_eq g109.symm))))).other W143 (Or.inl (Nat.ne_of_lt (Nat.lt_of_lt_of_le lt_b107_109 (Nat.le_of_eq g109.symm)))))
            have f147 := ((((F107_coder.ext E109).other W117 (Or.inl (Nat.ne_of_lt (Nat.lt_of_lt_of_le lt_b107_109 (Nat.le_of_eq g109.symm))))).other W138 (Or.inl (Nat.ne_of_lt (Nat.lt_of_lt_of_le lt_b107_109 (Nat.le_of_eq g109.symm))))).other W143 (Or.inl (Nat.ne_of_lt (Nat.lt_of_lt_of_le lt_b107_109 (Nat.le_of_eq g109.symm)))))
            have f148 := (((((O0.ext E107).ext E109).wr W117 g_b109).wr W138 g_b109).wr W143 g_b109)
            obtain ⟨_, _, ⟨T149, L149, k149, n149⟩, -, X149, ⟨Lc149, hQ149, l149, y149, z149⟩, st149⟩ := X143.specialBack hx (y := yy_15) rfl hown (mvT hZ (own_t hw 12 rfl)) (mvT hZ (own_t hw 13 rfl)) (mvT hZ (own_t hw 14 rfl)) (by decide) (StrChars.Road.backV (W := 1) hZ hws (kI := 4) (own_t hw 6 rfl) (cs := [(own_dc vd), (101 : Int32), (own_dc ve)]) (bs := ([(own_dc vd), (101 : Int32), (own_dc ve)]).map (fun c => c.toInt8.toInt32)) (n := 3) g_b107 f144 f145 f146 f147 (show Arv Z _ _ _ _ _ (([(own_dc vd), (101 : Int32), (own_dc ve)]).map Value.int) _ from V143) (SC.ext f148.2) hcs rfl rfl (by decide) (by decide) hrng rfl (by decide) (by decide)) (g := (mkF m 201 #[oi p0, oi vk, oi vm, oi vd, oi ve, oi (own_low vl)] [(.ref b109), (.ref b107), (.ref b107)])) rfl (by rw [hml]; rfl) (Steps.refl _) (a := b107) (argsL := [(.ref b109)]) (rest := [(.ref b107)]) (lenOf pd_12 rfl) rfl (by show 2 * 0 + _ ≤ _; exact Nat.le_of_eq rfl) (hb hby d1_201) (fun _ _ => ⟨rfl, e143, (by decide : 2 + 1 ≤ _), (by decide : 7 + 3 ≤ _)⟩)
            dsimp only [Pt.U, Pt.locs, Pt.cells, Pt.slots] at X149 l149 y149 z149 st149 hQ149
            subst l149 y149 z149
            obtain ⟨rfl, N149q, Kq149, Eq149, Fc149, ot149, kb149, g_ot149, szq149, nt149, Fv149, Vb149⟩ := hQ149
            have N149 := Fr.app N143 N149q
            have lt_b107_149 := f145.lt
            have lt_b109_149 := (show Arv Z _ _ _ _ _ (([(own_dc vd), (101 : Int32), (own_dc ve)]).map Value.int) _ from V143).lt
            have f150 := ((((f112.ext E109).wr W117 (Or.inr sz_b109)).wr W138 (Or.inr sz_b109)).wr W143 (Or.inr sz_b109))
            have sz_ot149 : h0.size ≤ ot149 := Nat.le_trans f150.1 szq149
            obtain ⟨fs, hr, hrun, hended, hW, hsame⟩ := X149.leave (v := some (.ref b107)) (fun h => by rw [Bd.returns] at h; cases h)
            have f152 := (f150.trans Kq149 (allS (Or.inr sz_b107) all0))
            refine ⟨_, _, pre0 _ (c1 _ (c2 _ (c3 _ (c4 _ (c5 _ (c6 _ (c7 _ (c28 _ (c52 _ (c78 _ (c108 _ (st107 _ (c110 _ (st109 _ (c113 _ (st115 _ (st117 _ (c118 _ (c136 _ (st138 _ (c139 _ (st141 _ (st143 _ (st149.trans (?_))))))))))))))))))))))))), hrun, hended, _, _, rfl, ?_, ⟨_, rfl⟩, hW, hsame.mono (by decide) (by decide)⟩
            · show Steps p.tables e below (T149.setTop (mkF m 204 #[oi p0, oi vk, oi vm, oi vd, oi ve, oi (own_low vl)] [(.ref b107)])) _
              jvm_step X149.here [X149.here.top, hx, (hb hby d1_204), X149.method', Bd.returns, Value.isRef, FieldType.isReference]
              first | (intro acts; rw [hr _ acts rfl rfl rfl]) | rw [hr _ _ rfl rfl rfl]
              exact Steps.refl _
            · show Q1 Z p0 cs fm h0 n0 _ T149.heap _
              exact ⟨b107, ot149, kb149, [(own_dc vd), (101 : Int32), (own_dc ve)], rfl, hnum, N149, f152, sz_b107, sz_ot149, Eq149, Fv149, Fc149, Vb149⟩
theorem d23_0 : decode method_4_code 0 = .ok (.aload_n 0, 1) := by decide +kernel
theorem d23_1 : decode method_4_code 1 = .ok (.invokevirtual 19, 3) := by decide +kernel
theorem d23_4 : decode method_4_code 4 = .ok (.aload_n 1, 1) := by decide +kernel
theorem d23_5 : decode method_4_code 5 = .ok (.invokevirtual 19, 3) := by decide +kernel
theorem d23_8 : decode method_4_code 8 = .ok (.if_icmp .eq 5, 3) := by decide +kernel
theorem d23_11 : decode method_4_code 11 = .ok (.iconst 0, 1) := by decide +kernel
theorem d23_12 : decode method_4_code 12 = .ok (.ireturn, 1) := by decide +kernel
theorem d23_13 : decode method_4_code 13 = .ok (.aload_n 0, 1) := by decide +kernel
theorem d23_14 : decode method_4_code 14 = .ok (.invokevirtual 19, 3) := by decide +kernel
theorem d23_17 : decode method_4_code 17 = .ok (.istore_n 2, 1) := by decide +kernel
theorem d23_18 : decode method_4_code 18 = .ok (.aload_n 0, 1) := by decide +kernel
theorem d23_19 : decode method_4_code 19 = .ok (.iconst 0, 1) := by decide +kernel
theorem d23_20 : decode method_4_code 20 = .ok (.invokevirtual 23, 3) := by decide +kernel
theorem d23_23 : decode method_4_code 23 = .ok (.aload_n 1, 1) := by decide +kernel
theorem d23_24 : decode method_4_code 24 = .ok (.iconst 0, 1) := by decide +kernel
theorem d23_25 : decode method_4_code 25 = .ok (.invokevirtual 23, 3) := by decide +kernel
theorem d23_28 : decode method_4_code 28 = .ok (.if_icmp .ne 7, 3) := by decide +kernel
theorem d23_31 : decode method_4_code 31 = .ok (.iconst 1, 1) := by decide +kernel
theorem d23_32 : decode method_4_code 32 = .ok (.goto 4, 3) := by decide +kernel
theorem d23_35 : decode method_4_code 35 = .ok (.iconst 0, 1) := by decide +kernel
theorem d23_36 : decode method_4_code 36 = .ok (.istore_n 3, 1) := by decide +kernel
theorem d23_37 : decode method_4_code 37 = .ok (.iload_n 2, 1) := by decide +kernel
theorem d23_38 : decode method_4_code 38 = .ok (.iconst 1, 1) := by decide +kernel
theorem d23_39 : decode method_4_code 39 = .ok (.if_icmp .le 26, 3) := by decide +kernel
theorem d23_42 : decode method_4_code 42 = .ok (.iload_n 3, 1) := by decide +kernel
theorem d23_43 : decode method_4_code 43 = .ok (.ifCond .eq 20, 3) := by decide +kernel
theorem d23_46 : decode method_4_code 46 = .ok (.aload_n 0, 1) := by decide +kernel
theorem d23_47 : decode method_4_code 47 = .ok (.iconst 1, 1) := by decide +kernel
theorem d23_48 : decode method_4_code 48 = .ok (.invokevirtual 23, 3) := by decide +kernel
theorem d23_51 : decode method_4_code 51 = .ok (.aload_n 1, 1) := by decide +kernel
theorem d23_52 : decode method_4_code 52 = .ok (.iconst 1, 1) := by decide +kernel
theorem d23_53 : decode method_4_code 53 = .ok (.invokevirtual 23, 3) := by decide +kernel
theorem d23_56 : decode method_4_code 56 = .ok (.if_icmp .ne 7, 3) := by decide +kernel
theorem d23_59 : decode method_4_code 59 = .ok (.iconst 1, 1) := by decide +kernel
theorem d23_60 : decode method_4_code 60 = .ok (.goto 4, 3) := by decide +kernel
theorem d23_63 : decode method_4_code 63 = .ok (.iconst 0, 1) := by decide +kernel
theorem d23_64 : decode method_4_code 64 = .ok (.istore_n 3, 1) := by decide +kernel
theorem d23_65 : decode method_4_code 65 = .ok (.iload_n 2, 1) := by decide +kernel
theorem d23_66 : decode method_4_code 66 = .ok (.iconst 2, 1) := by decide +kernel
theorem d23_67 : decode method_4_code 67 = .ok (.if_icmp .le 26, 3) := by decide +kernel
theorem d23_70 : decode method_4_code 70 = .ok (.iload_n 3, 1) := by decide +kernel
theorem d23_71 : decode method_4_code 71 = .ok (.ifCond .eq 20, 3) := by decide +kernel
theorem d23_74 : decode method_4_code 74 = .ok (.aload_n 0, 1) := by decide +kernel
theorem d23_75 : decode method_4_code 75 = .ok (.iconst 2, 1) := by decide +kernel
theorem d23_76 : decode method_4_code 76 = .ok (.invokevirtual 23, 3) := by decide +kernel
theorem d23_79 : decode method_4_code 79 = .ok (.aload_n 1, 1) := by decide +kernel
theorem d23_80 : decode method_4_code 80 = .ok (.iconst 2, 1) := by decide +kernel
theorem d23_81 : decode method_4_code 81 = .ok (.invokevirtual 23, 3) := by decide +kernel
theorem d23_84 : decode method_4_code 84 = .ok (.if_icmp .ne 7, 3) := by decide +kernel
theorem d23_87 : decode method_4_code 87 = .ok (.iconst 1, 1) := by decide +kernel
theorem d23_88 : decode method_4_code 88 = .ok (.goto 4, 3) := by decide +kernel
theorem d23_91 : decode method_4_code 91 = .ok (.iconst 0, 1) := by decide +kernel
theorem d23_92 : decode method_4_code 92 = .ok (.istore_n 3, 1) := by decide +kernel
theorem d23_93 : decode method_4_code 93 = .ok (.iload_n 3, 1) := by decide +kernel
theorem d23_94 : decode method_4_code 94 = .ok (.ireturn, 1) := by decide +kernel
theorem pn_23 : plainName "com/example/millrace/millrace/model/NumeralEqualsPinLaw" = true := by first | (simp [plainName, overriddenIn]; done) | decide +kernel
theorem ef_23 (m : MethodId) (x0 : Addr) (x1 : Addr) : entryFrame m #[(.ref x0), (.ref x1)] 4 = mkF m 0 #[.val (.ref x0), .val (.ref x1), .unset, .unset] [] := by first | (simp [entryFrame, mkF, argsToLocals, Value.category]; done) | rfl
def Q23 (Z : State) (r0 : Addr) (r1 : Addr) (ba bb : Addr) (ka kb : ClassId) (cs : Int32) (fm : Value) (tx ty : List Int32) (h0 : Heap) (n0 : Nat) (v : Option Value) (h : Heap) (L : List Loc) : Prop := v = some (.int (own_same tx ty)) ∧ Fr n0 L ∧ h = h0
set_option maxRecDepth 65536 in
set_option maxHeartbeats 40000000 in
theorem rm23 (l : Launch) (Z : State) (a0 : Array Value) (hw : ∀ d ∈ tables_1, d.before a0 Z = true) (ws : List Jvm.Cond) (r0 : Addr) (r1 : Addr) (ba bb : Addr) (ka kb : ClassId) (cs : Int32) (fm : Value) (tx ty : List Int32) (h0 : Heap) (n0 : Nat) (Z0 : n0 ≤ h0.size) (Ea : Exa Z h0 r0 "java/lang/String") (Fa : Fld Z h0 r0 "java/lang/String" "value" "[B" (.ref ba)) (Ca : Fld Z h0 r0 "java/lang/String" "coder" "B" (.int (0 : Int32))) (Va : Arv Z h0 ba ka .byte (Int32.ofNat tx.length) ((tx.map (fun c => c.toInt8.toInt32)).map Value.int) (.int 0)) (Eb : Exa Z h0 r1 "java/lang/String") (Fb : Fld Z h0 r1 "java/lang/String" "value" "[B" (.ref bb)) (Cb : Fld Z h0 r1 "java/lang/String" "coder" "B" (.int (0 : Int32))) (Vb : Arv Z h0 bb kb .byte (Int32.ofNat ty.length) ((ty.map (fun c => c.toInt8.toInt32)).map Value.int) (.int 0)) (SC : Sta Z h0 "java/lang/String" "COMPACT_STRINGS" "Z" (.int cs)) (hcs : ¬ cs = (0 : Int32)) (SF : Sta Z h0 "jdk/internal/util/Preconditions" "SIOOBE_FORMATTER" "Ljava/util/function/BiFunction;" fm) (hfm : fm.isRef = true) (hlx : own_l3 tx) (hly : own_l3 ty) :
    MetFree l yy_17 (head1 (Jvm.Cond.code yy_17 method_4_code 4 (some .boolean) :: ws) ({ frames := 4, cells := 0, slots := 0, locals := 54 } : Room)) (fun a U => a = #[(.ref r0), (.ref r1)] ∧ Z.Warmed39 U.vm ∧ U.heap = h0) (fun _ _ _ _ _ => True) (fun _ U o U' => ∃ v L, o = .returned v ∧ Q23 Z r0 r1 ba bb ka kb cs fm tx ty h0 n0 v U'.heap L ∧ FrameEnd U o U' L ({ frames := 4, cells := 0, slots := 0, locals := 54 } : Room).cells ({ frames := 4, cells := 0, slots := 0, locals := 54 } : Room).slots) := by
  refine MetFree.of_bodySF (plainFor_of_name pn_23) hisR ?_
  intro p e s m args below meth c s₁ Bd hml0 hP hK
  obtain ⟨rfl, hZ, hh⟩ := hP
  have hx := Bd.exec
  have hby := Bd.bytes
  have hml : c.maxLocals = 4 := hml0
  have hown : s.vm.findClass "com/example/millrace/millrace/model/NumeralEqualsPinLaw" = some m.cls := findClass_of_methodNamed Bd.named
  have hnm := (name_of_methodNamed Bd.named Bd.method).1
  have X0 : Stand p l e ({ frames := 4, cells := 0, slots := 0, locals := 54 } : Room) s m #[(.ref r0), (.ref r1)] below meth c s₁ [] 0 0 := Stand.of_body Bd
  have e0 : s₁.heap = h0 := by rw [← hh, Bd.state]; rfl
  have N0 := Fr.nil n0
  have pre0 : ∀ t, Steps p.tables e below (s₁.setTop (mkF m 0 #[oa r0, oa r1, .unset, .unset] [])) t → Steps p.tables e below (s₁.setTop (entryFrame m #[(.ref r0), (.ref r1)] 4)) t := fun t k => castTop (ef_23 m r0 r1) k
  rcases hlx with ⟨ua, htx, rua⟩ | ⟨ua, ub, htx, rua, rub⟩ | ⟨ua, ub, uc, htx, rua, rub, ruc⟩
  · skip
    rw [htx] at Va
    have Vx0 : Arv Z h0 ba ka .byte (1 : Int32) [(.int (ua.toInt8.toInt32))] (.int 0) := Va
    rcases hly with ⟨va, hty, rva⟩ | ⟨va, vb, hty, rva, rvb⟩ | ⟨va, vb, vc, hty, rva, rvb, rvc⟩
    · skip
      rw [hty] at Vb
      have Vx1 : Arv Z h0 bb kb .byte (1 : Int32) [(.int (va.toInt8.toInt32))] (.int 0) := Vb
      have c1 : own_G p e below s₁ (mkF m 1 #[oa r0, oa r1, .unset, .unset] [(.ref r0)]) (mkF m 0 #[oa r0, oa r1, .unset, .unset] []) := by
        intro t kt
        show oS s₁ (mkF m 0 #[oa r0, oa r1, .unset, .unset] []) _
        refine XS.aloadN X0.here hx rfl (hb hby d23_0) rfl rfl ?_
        exact kt
      obtain ⟨cq2, kq2, q2a, q2b, q2c⟩ := isOf hZ e0 Ea
      obtain ⟨_, _, ⟨T3, L3, k3, n3⟩, -, X3, ⟨Lc3, hQ3, l3, y3, z3⟩, st3⟩ := X0.virtualBack hx (y := yy_6) (z := yy_6) hown (mvT hZ (own_t hw 114 rfl)) (mvT hZ (own_t hw 67 rfl)) (notFace_of_selects (args := #[]) (mvT hZ (own_t hw 69 rfl))) (mvT hZ (own_t hw 69 rfl)) (mvT hZ (own_t hw 68 rfl)) (by decide) (backOf (W := 0) (rm14 l Z a0 hw [] r0 ba ka (1 : Int32) [(.int (ua.toInt8.toInt32))] (.int 0) cs h0 n0 Z0 Ea Fa Vx0 SC hcs Ca) hZ (own_t hw 70 rfl) (own_t hw 7 rfl) (by decide) (by decide)) q2a q2c (g := (mkF m 1 #[oa r0, oa r1, .unset, .unset] [(.ref r0)])) rfl (by rw [hml]; rfl) (Steps.refl _) (argsL := []) (rest := []) (lenOf pd_5 rfl) rfl (by show 2 * 0 + _ ≤ _; exact Nat.le_of_eq rfl) (hb hby d23_1) (fun _ _ => ⟨rfl, e0, (by decide : 0 + 0 ≤ _), (by decide : 0 + 0 ≤ _)⟩)
      dsimp only [Pt.U, Pt.locs, Pt.cells, Pt.slots] at X3 l3 y3 z3 st3 hQ3
      subst l3 y3 z3
      obtain ⟨rfl, N3q, e3⟩ := hQ3
      have N3 := Fr.app N0 N3q
      have c4 : own_G p e below T3 (mkF m 5 #[oa r0, oa r1, .unset, .unset] [(.ref r1), (.int (1 : Int32))]) (mkF m 4 #[oa r0, oa r1, .unset, .unset] [(.int (1 : Int32))]) := by
        intro t kt
        show oS T3 (mkF m 4 #[oa r0, oa r1, .unset, .unset] [(.int (1 : Int32))]) _
        refine XS.aloadN X3.here hx rfl (hb hby d23_4) rfl rfl ?_
        exact kt
      obtain ⟨cq5, kq5, q5a, q5b, q5c⟩ := isOf hZ e3 Eb
      obtain ⟨_, _, ⟨T6, L6, k6, n6⟩, -, X6, ⟨Lc6, hQ6, l6, y6, z6⟩, st6⟩ := X3.virtualBack hx (y := yy_6) (z := yy_6) hown (mvT hZ (own_t hw 114 rfl)) (mvT hZ (own_t hw 67 rfl)) (notFace_of_selects (args := #[]) (mvT hZ (own_t hw 69 rfl))) (mvT hZ (own_t hw 69 rfl)) (mvT hZ (own_t hw 68 rfl)) (by decide) (backOf (W := 1) (rm14 l Z a0 hw [] r1 bb kb (1 : Int32) [(.int (va.toInt8.toInt32))] (.int 0) cs h0 n0 Z0 Eb Fb Vx1 SC hcs Cb) hZ (own_t hw 70 rfl) (own_t hw 7 rfl) (by decide) (by decide)) q5a q5c (g := (mkF m 5 #[oa r0, oa r1, .unset, .unset] [(.ref r1), (.int (1 : Int32))])) rfl (by rw [hml]; rfl) (Steps.refl _) (argsL := []) (rest := [(.int (1 : Int32))]) (lenOf pd_5 rfl) rfl (by show 2 * 0 + _ ≤ _; exact Nat.le_of_eq rfl) (hb hby d23_5) (fun _ _ => ⟨rfl, e3, (by decide : 0 + 0 ≤ _), (by decide : 0 + 0 ≤ _)⟩)
      dsimp only [Pt.U, Pt.locs, Pt.cells, Pt.slots] at X6 l6 y6 z6 st6 hQ6
      subst l6 y6 z6
      obtain ⟨rfl, N6q, e6⟩ := hQ6
      have N6 := Fr.app N3 N6q
      have c7 : own_G p e below T6 (mkF m 14 #[oa r0, oa r1, .unset, .unset] [(.ref r0)]) (mkF m 8 #[oa r0, oa r1, .unset, .unset] [(.int (1 : Int32)), (.int (1 : Int32))]) := by
        intro t kt
        show oS T6 (mkF m 8 #[oa r0, oa r1, .unset, .unset] [(.int (1 : Int32)), (.int (1 : Int32))]) _
        refine XS.icmpYes X6.here hx rfl (pc0 := 8) (pc' := 13) rfl (hb hby d23_8) rfl (teq (by decide : (1 : Int32) = (1 : Int32))).1 (by decide) (by decide) ?_
        show oS T6 (mkF m 13 #[oa r0, oa r1, .unset, .unset] []) _
        refine XS.aloadN X6.here hx rfl (hb hby d23_13) rfl rfl ?_
        exact kt
      obtain ⟨cq8, kq8, q8a, q8b, q8c⟩ := isOf hZ e6 Ea
      obtain ⟨_, _, ⟨T9, L9, k9, n9⟩, -, X9, ⟨Lc9, hQ9, l9, y9, z9⟩, st9⟩ := X6.virtualBack hx (y := yy_6) (z := yy_6) hown (mvT hZ (own_t hw 114 rfl)) (mvT hZ (own_t hw 67 rfl)) (notFace_of_selects (args := #[]) (mvT hZ (own_t hw 69 rfl))) (mvT hZ (own_t hw 69 rfl)) (mvT hZ (own_t hw 68 rfl)) (by decide) (backOf (W := 0) (rm14 l Z a0 hw [] r0 ba ka (1 : Int32) [(.int (ua.toInt8.toInt32))] (.int 0) cs h0 n0 Z0 Ea Fa Vx0 SC hcs Ca) hZ (own_t hw 70 rfl) (own_t hw 7 rfl) (by decide) (by decide)) q8a q8c (g := (mkF m 14 #[oa r0, oa r1, .unset, .unset] [(.ref r0)])) rfl (by rw [hml]; rfl) (Steps.refl _) (argsL := []) (rest := []) (lenOf pd_5 rfl) rfl (by show 2 * 0 + _ ≤ _; exact Nat.le_of_eq rfl) (hb hby d23_14) (fun _ _ => ⟨rfl, e6, (by decide : 0 + 0 ≤ _), (by decide : 0 + 0 ≤ _)⟩)
      dsimp only [Pt.U, Pt.locs, Pt.cells, Pt.slots] at X9 l9 y9 z9 st9 hQ9
      subst l9 y9 z9
      obtain ⟨rfl, N9q, e9⟩ := hQ9
      have N9 := Fr.app N6 N9q
      have c10 : own_G p e below T9 (mkF m 20 #[oa r0, oa r1, oi 1, .unset] [(.int (0 : Int32)), (.ref r0)]) (mkF m 17 #[oa r0, oa r1, .unset, .unset] [(.int (1 : Int32))]) := by
        intro t kt
        show oS T9 (mkF m 17 #[oa r0, oa r1, .unset, .unset] [(.int (1 : Int32))]) _
        refine XS.istoreN X9.here hx rfl (hb hby d23_17) rfl (l' := #[oa r0, oa r1, oi 1, .unset]) rfl ?_
        show oS T9 (mkF m 18 #[oa r0, oa r1, oi 1, .unset] []) _
        refine XS.aloadN X9.here hx rfl (hb hby d23_18) rfl rfl ?_
        show oS T9 (mkF m 19 #[oa r0, oa r1, oi 1, .unset] [(.ref r0)]) _
        refine XS.iconst X9.here hx rfl (hb hby d23_19) ?_
        exact kt
      obtain ⟨cq11, kq11, q11a, q11b, q11c⟩ := isOf hZ e9 Ea
      obtain ⟨_, _, ⟨T12, L12, k12, n12⟩, -, X12, ⟨Lc12, hQ12, l12, y12, z12⟩, st12⟩ := X9.virtualBack hx (y := yy_4) (z := yy_4) hown (mvT hZ (own_t hw 133 rfl)) (mvT hZ (own_t hw 86 rfl)) (notFace_of_selects (args := #[]) (mvT hZ (own_t hw 88 rfl))) (mvT hZ (own_t hw 88 rfl)) (mvT hZ (own_t hw 87 rfl)) (by decide) (backOf (W := 0) (rm18 l Z a0 hw [] r0 (0 : Int32) ba ka (1 : Int32) [(.int (ua.toInt8.toInt32))] (.int 0) (ua.toInt8.toInt32) fm cs h0 n0 Z0 Ea Fa Vx0 ⟨by decide, by decide⟩ rfl SF hfm SC hcs Ca) hZ (own_t hw 89 rfl) (own_t hw 7 rfl) (by decide) (by decide)) q11a q11c (g := (mkF m 20 #[oa r0, oa r1, oi 1, .unset] [(.int (0 : Int32)), (.ref r0)])) rfl (by rw [hml]; rfl) (Steps.refl _) (argsL := [(.int (0 : Int32))]) (rest := []) (lenOf pd_8 rfl) rfl (by show 2 * 0 + _ ≤ _; exact Nat.le_of_eq rfl) (hb hby d23_20) (fun _ _ => ⟨rfl, e9, (by decide : 0 + 0 ≤ _), (by decide : 0 + 0 ≤ _)⟩)
      dsimp only [Pt.U, Pt.locs, Pt.cells, Pt.slots] at X12 l12 y12 z12 st12 hQ12
      subst l12 y12 z12
      obtain ⟨rfl, N12q, e12⟩ := hQ12
      have N12 := Fr.app N9 N12q
      have c13 : own_G p e below T12 (mkF m 23 #[oa r0, oa r1, oi 1, .unset] [(.int ua)]) (mkF m 23 #[oa r0, oa r1, oi 1, .unset] [(.int (own_cc (ua.toInt8.toInt32)))]) := fun t kt => castTop (congrArg (fun zv => (mkF m 23 #[oa r0, oa r1, oi 1, .unset] [(.int zv)])) (show (own_cc (ua.toInt8.toInt32)) = ua from own_ccv _ (rua).1 (rua).2)) kt
      have c14 : own_G p e below T12 (mkF m 25 #[oa r0, oa r1, oi 1, .unset] [(.int (0 : Int32)), (.ref r1), (.int ua)]) (mkF m 23 #[oa r0, oa r1, oi 1, .unset] [(.int ua)]) := by
        intro t kt
        show oS T12 (mkF m 23 #[oa r0, oa r1, oi 1, .unset] [(.int ua)]) _
        refine XS.aloadN X12.here hx rfl (hb hby d23_23) rfl rfl ?_
        show oS T12 (mkF m 24 #[oa r0, oa r1, oi 1, .unset] [(.ref r1), (.int ua)]) _
        refine XS.iconst X12.here hx rfl (hb hby d23_24) ?_
        exact kt
      obtain ⟨cq15, kq15, q15a, q15b, q15c⟩ := isOf hZ e12 Eb
      obtain ⟨_, _, ⟨T16, L16, k16, n16⟩, -, X16, ⟨Lc16, hQ16, l16, y16, z16⟩, st16⟩ := X12.virtualBack hx (y := yy_4) (z := yy_4) hown (mvT hZ (own_t hw 133 rfl)) (mvT hZ (own_t hw 86 rfl)) (notFace_of_selects (args := #[]) (mvT hZ (own_t hw 88 rfl))) (mvT hZ (own_t hw 88 rfl)) (mvT hZ (own_t hw 87 rfl)) (by decide) (backOf (W := 1) (rm18 l Z a0 hw [] r1 (0 : Int32) bb kb (1 : Int32) [(.int (va.toInt8.toInt32))] (.int 0) (va.toInt8.toInt32) fm cs h0 n0 Z0 Eb Fb Vx1 ⟨by decide, by decide⟩ rfl SF hfm SC hcs Cb) hZ (own_t hw 89 rfl) (own_t hw 7 rfl) (by decide) (by decide)) q15a q15c (g := (mkF m 25 #[oa r0, oa r1, oi 1, .unset] [(.int (0 : Int32)), (.ref r1), (.int ua)])) rfl (by rw [hml]; rfl) (Steps.refl _) (argsL := [(.int (0 : Int32))]) (rest := [(.int ua)]) (lenOf pd_8 rfl) rfl (by show 2 * 0 + _ ≤ _; exact Nat.le_of_eq rfl) (hb hby d23_25) (fun _ _ => ⟨rfl, e12, (by decide : 0 + 0 ≤ _), (by decide : 0 + 0 ≤ _)⟩)
      dsimp only [Pt.U, Pt.locs, Pt.cells, Pt.slots] at X16 l16 y16 z16 st16 hQ16
      subst l16 y16 z16
      obtain ⟨rfl, N16q, e16⟩ := hQ16
      have N16 := Fr.app N12 N16q
      have c17 : own_G p e below T16 (mkF m 28 #[oa r0, oa r1, oi 1, .unset] [(.int va), (.int ua)]) (mkF m 28 #[oa r0, oa r1, oi 1, .unset] [(.int (own_cc (va.toInt8.toInt32))), (.int ua)]) := fun t kt => castTop (congrArg (fun zv => (mkF m 28 #[oa r0, oa r1, oi 1, .unset] [(.int zv), (.int ua)])) (show (own_cc (va.toInt8.toInt32)) = va from own_ccv _ (rva).1 (rva).2)) kt
      by_cases hc28 : ua = va
      · -- it is
        have c18 : own_G p e below T16 (mkF m 94 #[oa r0, oa r1, oi 1, oi 1] [(.int (1 : Int32))]) (mkF m 28 #[oa r0, oa r1, oi 1, .unset] [(.int va), (.int ua)]) := by
          intro t kt
          show oS T16 (mkF m 28 #[oa r0, oa r1, oi 1, .unset] [(.int va), (.int ua)]) _
          refine XS.icmpNo X16.here hx rfl (hb hby d23_28) rfl (teq hc28).2 ?_
          show oS T16 (mkF m 31 #[oa r0, oa r1, oi 1, .unset] []) _
          refine XS.iconst X16.here hx rfl (hb hby d23_31) ?_
          show oS T16 (mkF m 32 #[oa r0, oa r1, oi 1, .unset] [(.int (1 : Int32))]) _
          refine XS.goto X16.here hx rfl (pc0 := 32) (pc' := 36) rfl (hb hby d23_32) (by decide) (by decide) ?_
          show oS T16 (mkF m 36 #[oa r0, oa r1, oi 1, .unset] [(.int (1 : Int32))]) _
          refine XS.istoreN X16.here hx rfl (hb hby d23_36) rfl (l' := #[oa r0, oa r1, oi 1, oi 1]) rfl ?_
          show oS T16 (mkF m 37 #[oa r0, oa r1, oi 1, oi 1] []) _
          refine XS.iloadN X16.here hx rfl (hb hby d23_37) rfl ?_
          show oS T16 (mkF m 38 #[oa r0, oa r1, oi 1, oi 1] [(.int (1 : Int32))]) _
          refine XS.iconst X16.here hx rfl (hb hby d23_38) ?_
          show oS T16 (mkF m 39 #[oa r0, oa r1, oi 1, oi 1] [(.int (1 : Int32)), (.int (1 : Int32))]) _
          refine XS.icmpYes X16.here hx rfl (pc0 := 39) (pc' := 65) rfl (hb hby d23_39) rfl (flt (by decide : ¬ ((1 : Int32) < (1 : Int32)))).2.2.2 (by decide) (by decide) ?_
          show oS T16 (mkF m 65 #[oa r0, oa r1, oi 1, oi 1] []) _
          refine XS.iloadN X16.here hx rfl (hb hby d23_65) rfl ?_
          show oS T16 (mkF m 66 #[oa r0, oa r1, oi 1, oi 1] [(.int (1 : Int32))]) _
          refine XS.iconst X16.here hx rfl (hb hby d23_66) ?_
          show oS T16 (mkF m 67 #[oa r0, oa r1, oi 1, oi 1] [(.int (2 : Int32)), (.int (1 : Int32))]) _
          refine XS.icmpYes X16.here hx rfl (pc0 := 67) (pc' := 93) rfl (hb hby d23_67) rfl (flt (by decide : ¬ ((2 : Int32) < (1 : Int32)))).2.2.2 (by decide) (by decide) ?_
          show oS T16 (mkF m 93 #[oa r0, oa r1, oi 1, oi 1] []) _
          refine XS.iloadN X16.here hx rfl (hb hby d23_93) rfl ?_
          exact kt
        obtain ⟨fs, hr, hrun, hended, hW, hsame⟩ := X16.leave (v := some (.int (1 : Int32))) (fun h => by rw [Bd.returns] at h; cases h)
        refine ⟨_, _, pre0 _ (c1 _ (st3.trans (c4 _ (st6.trans (c7 _ (st9.trans (c10 _ (st12.trans (c13 _ (c14 _ (st16.trans (c17 _ (c18 _ (?_)))))))))))))), hrun, hended, _, _, rfl, ?_, ⟨_, rfl⟩, hW, hsame.mono (by decide) (by decide)⟩
        · show Steps p.tables e below (T16.setTop (mkF m 94 #[oa r0, oa r1, oi 1, oi 1] [(.int (1 : Int32))])) _
          exact retN X16 hx (t := .boolean) Bd.returns (by simp) (hb hby d23_94) hr
        · show Q23 Z r0 r1 ba bb ka kb cs fm tx ty h0 n0 _ T16.heap _
          rw [e16]
          exact ⟨congrArg (fun z => some (Value.int z)) (show (1 : Int32) = (own_same tx ty) from by rw [htx, hty]; unfold own_same; simp [hc28]), N16, rfl⟩
      · -- it isn't
        have c20 : own_G p e below T16 (mkF m 94 #[oa r0, oa r1, oi 1, oi 0] [(.int (0 : Int32))]) (mkF m 28 #[oa r0, oa r1, oi 1, .unset] [(.int va), (.int ua)]) := by
          intro t kt
          show oS T16 (mkF m 28 #[oa r0, oa r1, oi 1, .unset] [(.int va), (.int ua)]) _
          refine XS.icmpYes X16.here hx rfl (pc0 := 28) (pc' := 35) rfl (hb hby d23_28) rfl (feq hc28).2 (by decide) (by decide) ?_
          show oS T16 (mkF m 35 #[oa r0, oa r1, oi 1, .unset] []) _
          refine XS.iconst X16.here hx rfl (hb hby d23_35) ?_
          show oS T16 (mkF m 36 #[oa r0, oa r1, oi 1, .unset] [(.int (0 : Int32))]) _
          refine XS.istoreN X16.here hx rfl (hb hby d23_36) rfl (l' := #[oa r0, oa r1, oi 1, oi 0]) rfl ?_
          show oS T16 (mkF m 37 #[oa r0, oa r1, oi 1, oi 0] []) _
          refine XS.iloadN X16.here hx rfl (hb hby d23_37) rfl ?_
          show oS T16 (mkF m 38 #[oa r0, oa r1, oi 1, oi 0] [(.int (1 : Int32))]) _
          refine XS.iconst X16.here hx rfl (hb hby d23_38) ?_
          show oS T16 (mkF m 39 #[oa r0, oa r1, oi 1, oi 0] [(.int (1 : Int32)), (.int (1 : Int32))]) _
          refine XS.icmpYes X16.here hx rfl (pc0 := 39) (pc' := 65) rfl (hb hby d23_39) rfl (flt (by decide : ¬ ((1 : Int32) < (1 : Int32)))).2.2.2 (by decide) (by decide) ?_
          show oS T16 (mkF m 65 #[oa r0, oa r1, oi 1, oi 0] []) _
          refine XS.iloadN X16.here hx rfl (hb hby d23_65) rfl ?_
          show oS T16 (mkF m 66 #[oa r0, oa r1, oi 1, oi 0] [(.int (1 : Int32))]) _
          refine XS.iconst X16.here hx rfl (hb hby d23_66) ?_
          show oS T16 (mkF m 67 #[oa r0, oa r1, oi 1, oi 0] [(.int (2 : Int32)), (.int (1 : Int32))]) _
          refine XS.icmpYes X16.here hx rfl (pc0 := 67) (pc' := 93) rfl (hb hby d23_67) rfl (flt (by decide : ¬ ((2 : Int32) < (1 : Int32)))).2.2.2 (by decide) (by decide) ?_
          show oS T16 (mkF m 93 #[oa r0, oa r1, oi 1, oi 0] []) _
          refine XS.iloadN X16.here hx rfl (hb hby d23_93) rfl ?_
          exact kt
        obtain ⟨fs, hr, hrun, hended, hW, hsame⟩ := X16.leave (v := some (.int (0 : Int32))) (fun h => by rw [Bd.returns] at h; cases h)
        refine ⟨_, _, pre0 _ (c1 _ (st3.trans (c4 _ (st6.trans (c7 _ (st9.trans (c10 _ (st12.trans (c13 _ (c14 _ (st16.trans (c17 _ (c20 _ (?_)))))))))))))), hrun, hended, _, _, rfl, ?_, ⟨_, rfl⟩, hW, hsame.mono (by decide) (by decide)⟩
        · show Steps p.tables e below (T16.setTop (mkF m 94 #[oa r0, oa r1, oi 1, oi 0] [(.int (0 : Int32))])) _
          exact retN X16 hx (t := .boolean) Bd.returns (by simp) (hb hby d23_94) hr
        · show Q23 Z r0 r1 ba bb ka kb cs fm tx ty h0 n0 _ T16.heap _
          rw [e16]
          exact ⟨congrArg (fun z => some (Value.int z)) (show (0 : Int32) = (own_same tx ty) from by rw [htx, hty]; unfold own_same; simp [hc28]), N16, rfl⟩
    · skip
      rw [hty] at Vb
      have Vx1 : Arv Z h0 bb kb .byte (2 : Int32) [(.int (va.toInt8.toInt32)), (.int (vb.toInt8.toInt32))] (.int 0) := Vb
      have c22 : own_G p e below s₁ (mkF m 1 #[oa r0, oa r1, .unset, .unset] [(.ref r0)]) (mkF m 0 #[oa r0, oa r1, .unset, .unset] []) := by
        intro t kt
        show oS s₁ (mkF m 0 #[oa r0, oa r1, .unset, .unset] []) _
        refine XS.aloadN X0.here hx rfl (hb hby d23_0) rfl rfl ?_
        exact kt
      obtain ⟨cq23, kq23, q23a, q23b, q23c⟩ := isOf hZ e0 Ea
      obtain ⟨_, _, ⟨T24, L24, k24, n24⟩, -, X24, ⟨Lc24, hQ24, l24, y24, z24⟩, st24⟩ := X0.virtualBack hx (y := yy_6) (z := yy_6) hown (mvT hZ (own_t hw 114 rfl)) (mvT hZ (own_t hw 67 rfl)) (notFace_of_selects (args := #[]) (mvT hZ (own_t hw 69 rfl))) (mvT hZ (own_t hw 69 rfl)) (mvT hZ (own_t hw 68 rfl)) (by decide) (backOf (W := 0) (rm14 l Z a0 hw [] r0 ba ka (1 : Int32) [(.int (ua.toInt8.toInt32))] (.int 0) cs h0 n0 Z0 Ea Fa Vx0 SC hcs Ca) hZ (own_t hw 70 rfl) (own_t hw 7 rfl) (by decide) (by decide)) q23a q23c (g := (mkF m 1 #[oa r0, oa r1, .unset, .unset] [(.ref r0)])) rfl (by rw [hml]; rfl) (Steps.refl _) (argsL := []) (rest := []) (lenOf pd_5 rfl) rfl (by show 2 * 0 + _ ≤ _; exact Nat.le_of_eq rfl) (hb hby d23_1) (fun _ _ => ⟨rfl, e0, (by decide : 0 + 0 ≤ _), (by decide : 0 + 0 ≤ _)⟩)
      dsimp only [Pt.U, Pt.locs, Pt.cells, Pt.slots] at X24 l24 y24 z24 st24 hQ24
      subst l24 y24 z24
      obtain ⟨rfl, N24q, e24⟩ := hQ24
      have N24 := Fr.app N0 N24q
      have c25 : own_G p e below T24 (mkF m 5 #[oa r0, oa r1, .unset, .unset] [(.ref r1), (.int (1 : Int32))]) (mkF m 4 #[oa r0, oa r1, .unset, .unset] [(.int (1 : Int32))]) := by
        intro t kt
        show oS T24 (mkF m 4 #[oa r0, oa r1, .unset, .unset] [(.int (1 : Int32))]) _
        refine XS.aloadN X24.here hx rfl (hb hby d23_4) rfl rfl ?_
        exact kt
      obtain ⟨cq26, kq26, q26a, q26b, q26c⟩ := isOf hZ e24 Eb
      obtain ⟨_, _, ⟨T27, L27, k27, n27⟩, -, X27, ⟨Lc27, hQ27, l27, y27, z27⟩, st27⟩ := X24.virtualBack hx (y := yy_6) (z := yy_6) hown (mvT hZ (own_t hw 114 rfl)) (mvT hZ (own_t hw 67 rfl)) (notFace_of_selects (args := #[]) (mvT hZ (own_t hw 69 rfl))) (mvT hZ (own_t hw 69 rfl)) (mvT hZ (own_t hw 68 rfl)) (by decide) (backOf (W := 1) (rm14 l Z a0 hw [] r1 bb kb (2 : Int32) [(.int (va.toInt8.toInt32)), (.int (vb.toInt8.toInt32))] (.int 0) cs h0 n0 Z0 Eb Fb Vx1 SC hcs Cb) hZ (own_t hw 70 rfl) (own_t hw 7 rfl) (by decide) (by decide)) q26a q26c (g := (mkF m 5 #[oa r0, oa r1, .unset, .unset] [(.ref r1), (.int (1 : Int32))])) rfl (by rw [hml]; rfl) (Steps.refl _) (argsL := []) (rest := [(.int (1 : Int32))]) (lenOf pd_5 rfl) rfl (by show 2 * 0 + _ ≤ _; exact Nat.le_of_eq rfl) (hb hby d23_5) (fun _ _ => ⟨rfl, e24, (by decide : 0 + 0 ≤ _), (by decide : 0 + 0 ≤ _)⟩)
      dsimp only [Pt.U, Pt.locs, Pt.cells, Pt.slots] at X27 l27 y27 z27 st27 hQ27
      subst l27 y27 z27
      obtain ⟨rfl, N27q, e27⟩ := hQ27
      have N27 := Fr.app N24 N27q
      have c28 : own_G p e below T27 (mkF m 12 #[oa r0, oa r1, .unset, .unset] [(.int (0 : Int32))]) (mkF m 8 #[oa r0, oa r1, .unset, .unset] [(.int (2 : Int32)), (.int (1 : Int32))]) := by
        intro t kt
        show oS T27 (mkF m 8 #[oa r0, oa r1, .unset, .unset] [(.int (2 : Int32)), (.int (1 : Int32))]) _
        refine XS.icmpNo X27.here hx rfl (hb hby d23_8) rfl (feq (by decide : ¬ ((1 : Int32) = (2 : Int32)))).1 ?_
        show oS T27 (mkF m 11 #[oa r0, oa r1, .unset, .unset] []) _
        refine XS.iconst X27.here hx rfl (hb hby d23_11) ?_
        exact kt
      obtain ⟨fs, hr, hrun, hended, hW, hsame⟩ := X27.leave (v := some (.int (0 : Int32))) (fun h => by rw [Bd.returns] at h; cases h)
      refine ⟨_, _, pre0 _ (c22 _ (st24.trans (c25 _ (st27.trans (c28 _ (?_)))))), hrun, hended, _, _, rfl, ?_, ⟨_, rfl⟩, hW, hsame.mono (by decide) (by decide)⟩
      · show Steps p.tables e below (T27.setTop (mkF m 12 #[oa r0, oa r1, .unset, .unset] [(.int (0 : Int32))])) _
        exact retN X27 hx (t := .boolean) Bd.returns (by simp) (hb hby d23_12) hr
      · show Q23 Z r0 r1 ba bb ka kb cs fm tx ty h0 n0 _ T27.heap _
        rw [e27]
        exact ⟨congrArg (fun z => some (Value.int z)) (show (0 : Int32) = (own_same tx ty) from by rw [htx, hty]; unfold own_same; simp []), N27, rfl⟩
    · skip
      rw [hty] at Vb
      have Vx1 : Arv Z h0 bb kb .byte (3 : Int32) [(.int (va.toInt8.toInt32)), (.int (vb.toInt8.toInt32)), (.int (vc.toInt8.toInt32))] (.int 0) := Vb
      have c30 : own_G p e below s₁ (mkF m 1 #[oa r0, oa r1, .unset, .unset] [(.ref r0)]) (mkF m 0 #[oa r0, oa r1, .unset, .unset] []) := by
        intro t kt
        show oS s₁ (mkF m 0 #[oa r0, oa r1, .unset, .unset] []) _
        refine XS.aloadN X0.here hx rfl (hb hby d23_0) rfl rfl ?_
        exact kt
      obtain ⟨cq31, kq31, q31a, q31b, q31c⟩ := isOf hZ e0 Ea
      obtain ⟨_, _, ⟨T32, L32, k32, n32⟩, -, X32, ⟨Lc32, hQ32, l32, y32, z32⟩, st32⟩ := X0.virtualBack hx (y := yy_6) (z := yy_6) hown (mvT hZ (own_t hw 114 rfl)) (mvT hZ (own_t hw 67 rfl)) (notFace_of_selects (args := #[]) (mvT hZ (own_t hw 69 rfl))) (mvT hZ (own_t hw 69 rfl)) (mvT hZ (own_t hw 68 rfl)) (by decide) (backOf (W := 0) (rm14 l Z a0 hw [] r0 ba ka (1 : Int32) [(.int (ua.toInt8.toInt32))] (.int 0) cs h0 n0 Z0 Ea Fa Vx0 SC hcs Ca) hZ (own_t hw 70 rfl) (own_t hw 7 rfl) (by decide) (by decide)) q31a q31c (g := (mkF m 1 #[oa r0, oa r1, .unset, .unset] [(.ref r0)])) rfl (by rw [hml]; rfl) (Steps.refl _) (argsL := []) (rest := []) (lenOf pd_5 rfl) rfl (by show 2 * 0 + _ ≤ _; exact Nat.le_of_eq rfl) (hb hby d23_1) (fun _ _ => ⟨rfl, e0, (by decide : 0 + 0 ≤ _), (by decide : 0 + 0 ≤ _)⟩)
      dsimp only [Pt.U, Pt.locs, Pt.cells, Pt.slots] at X32 l32 y32 z32 st32 hQ32
      subst l32 y32 z32
      obtain ⟨rfl, N32q, e32⟩ := hQ32
      have N32 := Fr.app N0 N32q
      have c33 : own_G p e below T32 (mkF m 5 #[oa r0, oa r1, .unset, .unset] [(.ref r1), (.int (1 : Int32))]) (mkF m 4 #[oa r0, oa r1, .unset, .unset] [(.int (1 : Int32))]) := by
        intro t kt
        show oS T32 (mkF m 4 #[oa r0, oa r1, .unset, .unset] [(.int (1 : Int32))]) _
        refine XS.aloadN X32.here hx rfl (hb hby d23_4) rfl rfl ?_
        exact kt
      obtain ⟨cq34, kq34, q34a, q34b, q34c⟩ := isOf hZ e32 Eb
      obtain ⟨_, _, ⟨T35, L35, k35, n35⟩, -, X35, ⟨Lc35, hQ35, l35, y35, z35⟩, st35⟩ := X32.virtualBack hx (y := yy_6) (z := yy_6) hown (mvT hZ (own_t hw 114 rfl)) (mvT hZ (own_t hw 67 rfl)) (notFace_of_selects (args := #[]) (mvT hZ (own_t hw 69 rfl))) (mvT hZ (own_t hw 69 rfl)) (mvT hZ (own_t hw 68 rfl)) (by decide) (backOf (W := 1) (rm14 l Z a0 hw [] r1 bb kb (3 : Int32) [(.int (va.toInt8.toInt32)), (.int (vb.toInt8.toInt32)), (.int (vc.toInt8.toInt32))] (.int 0) cs h0 n0 Z0 Eb Fb Vx1 SC hcs Cb) hZ (own_t hw 70 rfl) (own_t hw 7 rfl) (by decide) (by decide)) q34a q34c (g := (mkF m 5 #[oa r0, oa r1, .unset, .unset] [(.ref r1), (.int (1 : Int32))])) rfl (by rw [hml]; rfl) (Steps.refl _) (argsL := []) (rest := [(.int (1 : Int32))]) (lenOf pd_5 rfl) rfl (by show 2 * 0 + _ ≤ _; exact Nat.le_of_eq rfl) (hb hby d23_5) (fun _ _ => ⟨rfl, e32, (by decide : 0 + 0 ≤ _), (by decide : 0 + 0 ≤ _)⟩)
      dsimp only [Pt.U, Pt.locs, Pt.cells, Pt.slots] at X35 l35 y35 z35 st35 hQ35
      subst l35 y35 z35
      obtain ⟨rfl, N35q, e35⟩ := hQ35
      have N35 := Fr.app N32 N35q
      have c36 : own_G p e below T35 (mkF m 12 #[oa r0, oa r1, .unset, .unset] [(.int (0 : Int32))]) (mkF m 8 #[oa r0, oa r1, .unset, .unset] [(.int (3 : Int32)), (.int (1 : Int32))]) := by
        intro t kt
        show oS T35 (mkF m 8 #[oa r0, oa r1, .unset, .unset] [(.int (3 : Int32)), (.int (1 : Int32))]) _
        refine XS.icmpNo X35.here hx rfl (hb hby d23_8) rfl (feq (by decide : ¬ ((1 : Int32) = (3 : Int32)))).1 ?_
        show oS T35 (mkF m 11 #[oa r0, oa r1, .unset, .unset] []) _
        refine XS.iconst X35.here hx rfl (hb hby d23_11) ?_
        exact kt
      obtain ⟨fs, hr, hrun, hended, hW, hsame⟩ := X35.leave (v := some (.int (0 : Int32))) (fun h => by rw [Bd.returns] at h; cases h)
      refine ⟨_, _, pre0 _ (c30 _ (st32.trans (c33 _ (st35.trans (c36 _ (?_)))))), hrun, hended, _, _, rfl, ?_, ⟨_, rfl⟩, hW, hsame.mono (by decide) (by decide)⟩
      · show Steps p.tables e below (T35.setTop (mkF m 12 #[oa r0, oa r1, .unset, .unset] [(.int (0 : Int32))])) _
        exact retN X35 hx (t := .boolean) Bd.returns (by simp) (hb hby d23_12) hr
      · show Q23 Z r0 r1 ba bb ka kb cs fm tx ty h0 n0 _ T35.heap _
        rw [e35]
        exact ⟨congrArg (fun z => some (Value.int z)) (show (0 : Int32) = (own_same tx ty) from by rw [htx, hty]; unfold own_same; simp []), N35, rfl⟩
  · skip
    rw [htx] at Va
    have Vx0 : Arv Z h0 ba ka .byte (2 : Int32) [(.int (ua.toInt8.toInt32)), (.int (ub.toInt8.toInt32))] (.int 0) := Va
    rcases hly with ⟨va, hty, rva⟩ | ⟨va, vb, hty, rva, rvb⟩ | ⟨va, vb, vc, hty, rva, rvb, rvc⟩
    · skip
      rw [hty] at Vb
      have Vx1 : Arv Z h0 bb kb .byte (1 : Int32) [(.int (va.toInt8.toInt32))] (.int 0) := Vb
      have c38 : own_G p e below s₁ (mkF m 1 #[oa r0, oa r1, .unset, .unset] [(.ref r0)]) (mkF m 0 #[oa r0, oa r1, .unset, .unset] []) := by
        intro t kt
        show oS s₁ (mkF m 0 #[oa r0, oa r1, .unset, .unset] []) _
        refine XS.aloadN X0.here hx rfl (hb hby d23_0) rfl rfl ?_
        exact kt
      obtain ⟨cq39, kq39, q39a, q39b, q39c⟩ := isOf hZ e0 Ea
      obtain ⟨_, _, ⟨T40, L40, k40, n40⟩, -, X40, ⟨Lc40, hQ40, l40, y40, z40⟩, st40⟩ := X0.virtualBack hx (y := yy_6) (z := yy_6) hown (mvT hZ (own_t hw 114 rfl)) (mvT hZ (own_t hw 67 rfl)) (notFace_of_selects (args := #[]) (mvT hZ (own_t hw 69 rfl))) (mvT hZ (own_t hw 69 rfl)) (mvT hZ (own_t hw 68 rfl)) (by decide) (backOf (W := 0) (rm14 l Z a0 hw [] r0 ba ka (2 : Int32) [(.int (ua.toInt8.toInt32)), (.int (ub.toInt8.toInt32))] (.int 0) cs h0 n0 Z0 Ea Fa Vx0 SC hcs Ca) hZ (own_t hw 70 rfl) (own_t hw 7 rfl) (by decide) (by decide)) q39a q39c (g := (mkF m 1 #[oa r0, oa r1, .unset, .unset] [(.ref r0)])) rfl (by rw [hml]; rfl) (Steps.refl _) (argsL := []) (rest := []) (lenOf pd_5 rfl) rfl (by show 2 * 0 + _ ≤ _; exact Nat.le_of_eq rfl) (hb hby d23_1) (fun _ _ => ⟨rfl, e0, (by decide : 0 + 0 ≤ _), (by decide : 0 + 0 ≤ _)⟩)
      dsimp only [Pt.U, Pt.locs, Pt.cells, Pt.slots] at X40 l40 y40 z40 st40 hQ40
      subst l40 y40 z40
      obtain ⟨rfl, N40q, e40⟩ := hQ40
      have N40 := Fr.app N0 N40q
      have c41 : own_G p e below T40 (mkF m 5 #[oa r0, oa r1, .unset, .unset] [(.ref r1), (.int (2 : Int32))]) (mkF m 4 #[oa r0, oa r1, .unset, .unset] [(.int (2 : Int32))]) := by
        intro t kt
        show oS T40 (mkF m 4 #[oa r0, oa r1, .unset, .unset] [(.int (2 : Int32))]) _
        refine XS.aloadN X40.here hx rfl (hb hby d23_4) rfl rfl ?_
        exact kt
      obtain ⟨cq42, kq42, q42a, q42b, q42c⟩ := isOf hZ e40 Eb
      obtain ⟨_, _, ⟨T43, L43, k43, n43⟩, -, X43, ⟨Lc43, hQ43, l43, y43, z43⟩, st43⟩ := X40.virtualBack hx (y := yy_6) (z := yy_6) hown (mvT hZ (own_t hw 114 rfl)) (mvT hZ (own_t hw 67 rfl)) (notFace_of_selects (args := #[]) (mvT hZ (own_t hw 69 rfl))) (mvT hZ (own_t hw 69 rfl)) (mvT hZ (own_t hw 68 rfl)) (by decide) (backOf (W := 1) (rm14 l Z a0 hw [] r1 bb kb (1 : Int32) [(.int (va.toInt8.toInt32))] (.int 0) cs h0 n0 Z0 Eb Fb Vx1 SC hcs Cb) hZ (own_t hw 70 rfl) (own_t hw 7 rfl) (by decide) (by decide)) q42a q42c (g := (mkF m 5 #[oa r0, oa r1, .unset, .unset] [(.ref r1), (.int (2 : Int32))])) rfl (by rw [hml]; rfl) (Steps.refl _) (argsL := []) (rest := [(.int (2 : Int32))]) (lenOf pd_5 rfl) rfl (by show 2 * 0 + _ ≤ _; exact Nat.le_of_eq rfl) (hb hby d23_5) (fun _ _ => ⟨rfl, e40, (by decide : 0 + 0 ≤ _), (by decide : 0 + 0 ≤ _)⟩)
      dsimp only [Pt.U, Pt.locs, Pt.cells, Pt.slots] at X43 l43 y43 z43 st43 hQ43
      subst l43 y43 z43
      obtain ⟨rfl, N43q, e43⟩ := hQ43
      have N43 := Fr.app N40 N43q
      have c44 : own_G p e below T43 (mkF m 12 #[oa r0, oa r1, .unset, .unset] [(.int (0 : Int32))]) (mkF m 8 #[oa r0, oa r1, .unset, .unset] [(.int (1 : Int32)), (.int (2 : Int32))]) := by
        intro t kt
        show oS T43 (mkF m 8 #[oa r0, oa r1, .unset, .unset] [(.int (1 : Int32)), (.int (2 : Int32))]) _
        refine XS.icmpNo X43.here hx rfl (hb hby d23_8) rfl (feq (by decide : ¬ ((2 : Int32) = (1 : Int32)))).1 ?_
        show oS T43 (mkF m 11 #[oa r0, oa r1, .unset, .unset] []) _
        refine XS.iconst X43.here hx rfl (hb hby d23_11) ?_
        exact kt
      obtain ⟨fs, hr, hrun, hended, hW, hsame⟩ := X43.leave (v := some (.int (0 : Int32))) (fun h => by rw [Bd.returns] at h; cases h)
      refine ⟨_, _, pre0 _ (c38 _ (st40.trans (c41 _ (st43.trans (c44 _ (?_)))))), hrun, hended, _, _, rfl, ?_, ⟨_, rfl⟩, hW, hsame.mono (by decide) (by decide)⟩
      · show Steps p.tables e below (T43.setTop (mkF m 12 #[oa r0, oa r1, .unset, .unset] [(.int (0 : Int32))])) _
        exact retN X43 hx (t := .boolean) Bd.returns (by simp) (hb hby d23_12) hr
      · show Q23 Z r0 r1 ba bb ka kb cs fm tx ty h0 n0 _ T43.heap _
        rw [e43]
        exact ⟨congrArg (fun z => some (Value.int z)) (show (0 : Int32) = (own_same tx ty) from by rw [htx, hty]; unfold own_same; simp []), N43, rfl⟩
    · skip
      rw [hty] at Vb
      have Vx1 : Arv Z h0 bb kb .byte (2 : Int32) [(.int (va.toInt8.toInt32)), (.int (vb.toInt8.toInt32))] (.int 0) := Vb
      have c46 : own_G p e below s₁ (mkF m 1 #[oa r0, oa r1, .unset, .unset] [(.ref r0)]) (mkF m 0 #[oa r0, oa r1, .unset, .unset] []) := by
        intro t kt
        show oS s₁ (mkF m 0 #[oa r0, oa r1, .unset, .unset] []) _
        refine XS.aloadN X0.here hx rfl (hb hby d23_0) rfl rfl ?_
        exact kt
      obtain ⟨cq47, kq47, q47a, q47b, q47c⟩ := isOf hZ e0 Ea
      obtain ⟨_, _, ⟨T48, L48, k48, n48⟩, -, X48, ⟨Lc48, hQ48, l48, y48, z48⟩, st48⟩ := X0.virtualBack hx (y := yy_6) (z := yy_6) hown (mvT hZ (own_t hw 114 rfl)) (mvT hZ (own_t hw 67 rfl)) (notFace_of_selects (args := #[]) (mvT hZ (own_t hw 69 rfl))) (mvT hZ (own_t hw 69 rfl)) (mvT hZ (own_t hw 68 rfl)) (by decide) (backOf (W := 0) (rm14 l Z a0 hw [] r0 ba ka (2 : Int32) [(.int (ua.toInt8.toInt32)), (.int (ub.toInt8.toInt32))] (.int 0) cs h0 n0 Z0 Ea Fa Vx0 SC hcs Ca) hZ (own_t hw 70 rfl) (own_t hw 7 rfl) (by decide) (by decide)) q47a q47c (g := (mkF m 1 #[oa r0, oa r1, .unset, .unset] [(.ref r0)])) rfl (by rw [hml]; rfl) (Steps.refl _) (argsL := []) (rest := []) (lenOf pd_5 rfl) rfl (by show 2 * 0 + _ ≤ _; exact Nat.le_of_eq rfl) (hb hby d23_1) (fun _ _ => ⟨rfl, e0, (by decide : 0 + 0 ≤ _), (by decide : 0 + 0 ≤ _)⟩)
      dsimp only [Pt.U, Pt.locs, Pt.cells, Pt.slots] at X48 l48 y48 z48 st48 hQ48
      subst l48 y48 z48
      obtain ⟨rfl, N48q, e48⟩ := hQ48
      have N48 := Fr.app N0 N48q
      have c49 : own_G p e below T48 (mkF m 5 #[oa r0, oa r1, .unset, .unset] [(.ref r1), (.int (2 : Int32))]) (mkF m 4 #[oa r0, oa r1, .unset, .unset] [(.int (2 : Int32))]) := by
        intro t kt
        show oS T48 (mkF m 4 #[oa r0, oa r1, .unset, .unset] [(.int (2 : Int32))]) _
        refine XS.aloadN X48.here hx rfl (hb hby d23_4) rfl rfl ?_
        exact kt
      obtain ⟨cq50, kq50, q50a, q50b, q50c⟩ := isOf hZ e48 Eb
      obtain ⟨_, _, ⟨T51, L51, k51, n51⟩, -, X51, ⟨Lc51, hQ51, l51, y51, z51⟩, st51⟩ := X48.virtualBack hx (y := yy_6) (z := yy_6) hown (mvT hZ (own_t hw 114 rfl)) (mvT hZ (own_t hw 67 rfl)) (notFace_of_selects (args := #[]) (mvT hZ (own_t hw 69 rfl))) (mvT hZ (own_t hw 69 rfl)) (mvT hZ (own_t hw 68 rfl)) (by decide) (backOf (W := 1) (rm14 l Z a0 hw [] r1 bb kb (2 : Int32) [(.int (va.toInt8.toInt32)), (.int (vb.toInt8.toInt32))] (.int 0) cs h0 n0 Z0 Eb Fb Vx1 SC hcs Cb) hZ (own_t hw 70 rfl) (own_t hw 7 rfl) (by decide) (by decide)) q50a q50c (g := (mkF m 5 #[oa r0, oa r1, .unset, .unset] [(.ref r1), (.int (2 : Int32))])) rfl (by rw [hml]; rfl) (Steps.refl _) (argsL := []) (rest := [(.int (2 : Int32))]) (lenOf pd_5 rfl) rfl (by show 2 * 0 + _ ≤ _; exact Nat.le_of_eq rfl) (hb hby d23_5) (fun _ _ => ⟨rfl, e48, (by decide : 0 + 0 ≤ _), (by decide : 0 + 0 ≤ _)⟩)
      dsimp only [Pt.U, Pt.locs, Pt.cells, Pt.slots] at X51 l51 y51 z51 st51 hQ51
      subst l51 y51 z51
      obtain ⟨rfl, N51q, e51⟩ := hQ51
      have N51 := Fr.app N48 N51q
      have c52 : own_G p e below T51 (mkF m 14 #[oa r0, oa r1, .unset, .unset] [(.ref r0)]) (mkF m 8 #[oa r0, oa r1, .unset, .unset] [(.int (2 : Int32)), (.int (2 : Int32))]) := by
        intro t kt
        show oS T51 (mkF m 8 #[oa r0, oa r1, .unset, .unset] [(.int (2 : Int32)), (.int (2 : Int32))]) _
        refine XS.icmpYes X51.here hx rfl (pc0 := 8) (pc' := 13) rfl (hb hby d23_8) rfl (teq (by decide : (2 : Int32) = (2 : Int32))).1 (by decide) (by decide) ?_
        show oS T51 (mkF m 13 #[oa r0, oa r1, .unset, .unset] []) _
        refine XS.aloadN X51.here hx rfl (hb hby d23_13) rfl rfl ?_
        exact kt
      obtain ⟨cq53, kq53, q53a, q53b, q53c⟩ := isOf hZ e51 Ea
      obtain ⟨_, _, ⟨T54, L54, k54, n54⟩, -, X54, ⟨Lc54, hQ54, l54, y54, z54⟩, st54⟩ := X51.virtualBack hx (y := yy_6) (z := yy_6) hown (mvT hZ (own_t hw 114 rfl)) (mvT hZ (own_t hw 67 rfl)) (notFace_of_selects (args := #[]) (mvT hZ (own_t hw 69 rfl))) (mvT hZ (own_t hw 69 rfl)) (mvT hZ (own_t hw 68 rfl)) (by decide) (backOf (W := 0) (rm14 l Z a0 hw [] r0 ba ka (2 : Int32) [(.int (ua.toInt8.toInt32)), (.int (ub.toInt8.toInt32))] (.int 0) cs h0 n0 Z0 Ea Fa Vx0 SC hcs Ca) hZ (own_t hw 70 rfl) (own_t hw 7 rfl) (by decide) (by decide)) q53a q53c (g := (mkF m 14 #[oa r0, oa r1, .unset, .unset] [(.ref r0)])) rfl (by rw [hml]; rfl) (Steps.refl _) (argsL := []) (rest := []) (lenOf pd_5 rfl) rfl (by show 2 * 0 + _ ≤ _; exact Nat.le_of_eq rfl) (hb hby d23_14) (fun _ _ => ⟨rfl, e51, (by decide : 0 + 0 ≤ _), (by decide : 0 + 0 ≤ _)⟩)
      dsimp only [Pt.U, Pt.locs, Pt.cells, Pt.slots] at X54 l54 y54 z54 st54 hQ54
      subst l54 y54 z54
      obtain ⟨rfl, N54q, e54⟩ := hQ54
      have N54 := Fr.app N51 N54q
      have c55 : own_G p e below T54 (mkF m 20 #[oa r0, oa r1, oi 2, .unset] [(.int (0 : Int32)), (.ref r0)]) (mkF m 17 #[oa r0, oa r1, .unset, .unset] [(.int (2 : Int32))]) := by
        intro t kt
        show oS T54 (mkF m 17 #[oa r0, oa r1, .unset, .unset] [(.int (2 : Int32))]) _
        refine XS.istoreN X54.here hx rfl (hb hby d23_17) rfl (l' := #[oa r0, oa r1, oi 2, .unset]) rfl ?_
        show oS T54 (mkF m 18 #[oa r0, oa r1, oi 2, .unset] []) _
        refine XS.aloadN X54.here hx rfl (hb hby d23_18) rfl rfl ?_
        show oS T54 (mkF m 19 #[oa r0, oa r1, oi 2, .unset] [(.ref r0)]) _
        refine XS.iconst X54.here hx rfl (hb hby d23_19) ?_
        exact kt
      obtain ⟨cq56, kq56, q56a, q56b, q56c⟩ := isOf hZ e54 Ea
      obtain ⟨_, _, ⟨T57, L57, k57, n57⟩, -, X57, ⟨Lc57, hQ57, l57, y57, z57⟩, st57⟩ := X54.virtualBack hx (y := yy_4) (z := yy_4) hown (mvT hZ (own_t hw 133 rfl)) (mvT hZ (own_t hw 86 rfl)) (notFace_of_selects (args := #[]) (mvT hZ (own_t hw 88 rfl))) (mvT hZ (own_t hw 88 rfl)) (mvT hZ (own_t hw 87 rfl)) (by decide) (backOf (W := 0) (rm18 l Z a0 hw [] r0 (0 : Int32) ba ka (2 : Int32) [(.int (ua.toInt8.toInt32)), (.int (ub.toInt8.toInt32))] (.int 0) (ua.toInt8.toInt32) fm cs h0 n0 Z0 Ea Fa Vx0 ⟨by decide, by decide⟩ rfl SF hfm SC hcs Ca) hZ (own_t hw 89 rfl) (own_t hw 7 rfl) (by decide) (by decide)) q56a q56c (g := (mkF m 20 #[oa r0, oa r1, oi 2, .unset] [(.int (0 : Int32)), (.ref r0)])) rfl (by rw [hml]; rfl) (Steps.refl _) (argsL := [(.int (0 : Int32))]) (rest := []) (lenOf pd_8 rfl) rfl (by show 2 * 0 + _ ≤ _; exact Nat.le_of_eq rfl) (hb hby d23_20) (fun _ _ => ⟨rfl, e54, (by decide : 0 + 0 ≤ _), (by decide : 0 + 0 ≤ _)⟩)
      dsimp only [Pt.U, Pt.locs, Pt.cells, Pt.slots] at X57 l57 y57 z57 st57 hQ57
      subst l57 y57 z57
      obtain ⟨rfl, N57q, e57⟩ := hQ57
      have N57 := Fr.app N54 N57q
      have c58 : own_G p e below T57 (mkF m 23 #[oa r0, oa r1, oi 2, .unset] [(.int ua)]) (mkF m 23 #[oa r0, oa r1, oi 2, .unset] [(.int (own_cc (ua.toInt8.toInt32)))]) := fun t kt => castTop (congrArg (fun zv => (mkF m 23 #[oa r0, oa r1, oi 2, .unset] [(.int zv)])) (show (own_cc (ua.toInt8.toInt32)) = ua from own_ccv _ (rua).1 (rua).2)) kt
      have c59 : own_G p e below T57 (mkF m 25 #[oa r0, oa r1, oi 2, .unset] [(.int (0 : Int32)), (.ref r1), (.int ua)]) (mkF m 23 #[oa r0, oa r1, oi 2, .unset] [(.int ua)]) := by
        intro t kt
        show oS T57 (mkF m 23 #[oa r0, oa r1, oi 2, .unset] [(.int ua)]) _
        refine XS.aloadN X57.here hx rfl (hb hby d23_23) rfl rfl ?_
        show oS T57 (mkF m 24 #[oa r0, oa r1, oi 2, .unset] [(.ref r1), (.int ua)]) _
        refine XS.iconst X57.here hx rfl (hb hby d23_24) ?_
        exact kt
      obtain ⟨cq60, kq60, q60a, q60b, q60c⟩ := isOf hZ e57 Eb
      obtain ⟨_, _, ⟨T61, L61, k61, n61⟩, -, X61, ⟨Lc61, hQ61, l61, y61, z61⟩, st61⟩ := X57.virtualBack hx (y := yy_4) (z := yy_4) hown (mvT hZ (own_t hw 133 rfl)) (mvT hZ (own_t hw 86 rfl)) (notFace_of_selects (args := #[]) (mvT hZ (own_t hw 88 rfl))) (mvT hZ (own_t hw 88 rfl)) (mvT hZ (own_t hw 87 rfl)) (by decide) (backOf (W := 1) (rm18 l Z a0 hw [] r1 (0 : Int32) bb kb (2 : Int32) [(.int (va.toInt8.toInt32)), (.int (vb.toInt8.toInt32))] (.int 0) (va.toInt8.toInt32) fm cs h0 n0 Z0 Eb Fb Vx1 ⟨by decide, by decide⟩ rfl SF hfm SC hcs Cb) hZ (own_t hw 89 rfl) (own_t hw 7 rfl) (by decide) (by decide)) q60a q60c (g := (mkF m 25 #[oa r0, oa r1, oi 2, .unset] [(.int (0 : Int32)), (.ref r1), (.int ua)])) rfl (by rw [hml]; rfl) (Steps.refl _) (argsL := [(.int (0 : Int32))]) (rest := [(.int ua)]) (lenOf pd_8 rfl) rfl (by show 2 * 0 + _ ≤ _; exact Nat.le_of_eq rfl) (hb hby d23_25) (fun _ _ => ⟨rfl, e57, (by decide : 0 + 0 ≤ _), (by decide : 0 + 0 ≤ _)⟩)
      dsimp only [Pt.U, Pt.locs, Pt.cells, Pt.slots] at X61 l61 y61 z61 st61 hQ61
      subst l61 y61 z61
      obtain ⟨rfl, N61q, e61⟩ := hQ61
      have N61 := Fr.app N57 N61q
      have c62 : own_G p e below T61 (mkF m 28 #[oa r0, oa r1, oi 2, .unset] [(.int va), (.int ua)]) (mkF m 28 #[oa r0, oa r1, oi 2, .unset] [(.int (own_cc (va.toInt8.toInt32))), (.int ua)]) := fun t kt => castTop (congrArg (fun zv => (mkF m 28 #[oa r0, oa r1, oi 2, .unset] [(.int zv), (.int ua)])) (show (own_cc (va.toInt8.toInt32)) = va from own_ccv _ (rva).1 (rva).2)) kt
      by_cases hc28 : ua = va
      · -- it is
        have c63 : own_G p e below T61 (mkF m 48 #[oa r0, oa r1, oi 2, oi 1] [(.int (1 : Int32)), (.ref r0)]) (mkF m 28 #[oa r0, oa r1, oi 2, .unset] [(.int va), (.int ua)]) := by
          intro t kt
          show oS T61 (mkF m 28 #[oa r0, oa r1, oi 2, .unset] [(.int va), (.int ua)]) _
          refine XS.icmpNo X61.here hx rfl (hb hby d23_28) rfl (teq hc28).2 ?_
          show oS T61 (mkF m 31 #[oa r0, oa r1, oi 2, .unset] []) _
          refine XS.iconst X61.here hx rfl (hb hby d23_31) ?_
          show oS T61 (mkF m 32 #[oa r0, oa r1, oi 2, .unset] [(.int (1 : Int32))]) _
          refine XS.goto X61.here hx rfl (pc0 := 32) (pc' := 36) rfl (hb hby d23_32) (by decide) (by decide) ?_
          show oS T61 (mkF m 36 #[oa r0, oa r1, oi 2, .unset] [(.int (1 : Int32))]) _
          refine XS.istoreN X61.here hx rfl (hb hby d23_36) rfl (l' := #[oa r0, oa r1, oi 2, oi 1]) rfl ?_
          show oS T61 (mkF m 37 #[oa r0, oa r1, oi 2, oi 1] []) _
          refine XS.iloadN X61.here hx rfl (hb hby d23_37) rfl ?_
          show oS T61 (mkF m 38 #[oa r0, oa r1, oi 2, oi 1] [(.int (2 : Int32))]) _
          refine XS.iconst X61.here hx rfl (hb hby d23_38) ?_
          show oS T61 (mkF m 39 #[oa r0, oa r1, oi 2, oi 1] [(.int (1 : Int32)), (.int (2 : Int32))]) _
          refine XS.icmpNo X61.here hx rfl (hb hby d23_39) rfl (tlt (by decide : (1 : Int32) < (2 : Int32))).2.2.2 ?_
          show oS T61 (mkF m 42 #[oa r0, oa r1, oi 2, oi 1] []) _
          refine XS.iloadN X61.here hx rfl (hb hby d23_42) rfl ?_
          show oS T61 (mkF m 43 #[oa r0, oa r1, oi 2, oi 1] [(.int (1 : Int32))]) _
          refine XS.ifNo X61.here hx rfl (hb hby d23_43) rfl ((if0 _ _).trans (feq (by decide : ¬ ((1 : Int32) = (0 : Int32)))).1) ?_
          show oS T61 (mkF m 46 #[oa r0, oa r1, oi 2, oi 1] []) _
          refine XS.aloadN X61.here hx rfl (hb hby d23_46) rfl rfl ?_
          show oS T61 (mkF m 47 #[oa r0, oa r1, oi 2, oi 1] [(.ref r0)]) _
          refine XS.iconst X61.here hx rfl (hb hby d23_47) ?_
          exact kt
        obtain ⟨cq64, kq64, q64a, q64b, q64c⟩ := isOf hZ e61 Ea
        obtain ⟨_, _, ⟨T65, L65, k65, n65⟩, -, X65, ⟨Lc65, hQ65, l65, y65, z65⟩, st65⟩ := X61.virtualBack hx (y := yy_4) (z := yy_4) hown (mvT hZ (own_t hw 133 rfl)) (mvT hZ (own_t hw 86 rfl)) (notFace_of_selects (args := #[]) (mvT hZ (own_t hw 88 rfl))) (mvT hZ (own_t hw 88 rfl)) (mvT hZ (own_t hw 87 rfl)) (by decide) (backOf (W := 0) (rm18 l Z a0 hw [] r0 (1 : Int32) ba ka (2 : Int32) [(.int (ua.toInt8.toInt32)), (.int (ub.toInt8.toInt32))] (.int 0) (ub.toInt8.toInt32) fm cs h0 n0 Z0 Ea Fa Vx0 ⟨by decide, by decide⟩ rfl SF hfm SC hcs Ca) hZ (own_t hw 89 rfl) (own_t hw 7 rfl) (by decide) (by decide)) q64a q64c (g := (mkF m 48 #[oa r0, oa r1, oi 2, oi 1] [(.int (1 : Int32)), (.ref r0)])) rfl (by rw [hml]; rfl) (Steps.refl _) (argsL := [(.int (1 : Int32))]) (rest := []) (lenOf pd_8 rfl) rfl (by show 2 * 0 + _ ≤ _; exact Nat.le_of_eq rfl) (hb hby d23_48) (fun _ _ => ⟨rfl, e61, (by decide : 0 + 0 ≤ _), (by decide : 0 + 0 ≤ _)⟩)
        dsimp only [Pt.U, Pt.locs, Pt.cells, Pt.slots] at X65 l65 y65 z65 st65 hQ65
        subst l65 y65 z65
        obtain ⟨rfl, N65q, e65⟩ := hQ65
        have N65 := Fr.app N61 N65q
        have c66 : own_G p e below T65 (mkF m 51 #[oa r0, oa r1, oi 2, oi 1] [(.int ub)]) (mkF m 51 #[oa r0, oa r1, oi 2, oi 1] [(.int (own_cc (ub.toInt8.toInt32)))]) := fun t kt => castTop (congrArg (fun zv => (mkF m 51 #[oa r0, oa r1, oi 2, oi 1] [(.int zv)])) (show (own_cc (ub.toInt8.toInt32)) = ub from own_ccv _ (rub).1 (rub).2)) kt
        have c67 : own_G p e below T65 (mkF m 53 #[oa r0, oa r1, oi 2, oi 1] [(.int (1 : Int32)), (.ref r1), (.int ub)]) (mkF m 51 #[oa r0, oa r1, oi 2, oi 1] [(.int ub)]) := by
          intro t kt
          show oS T65 (mkF m 51 #[oa r0, oa r1, oi 2, oi 1] [(.int ub)]) _
          refine XS.aloadN X65.here hx rfl (hb hby d23_51) rfl rfl ?_
          show oS T65 (mkF m 52 #[oa r0, oa r1, oi 2, oi 1] [(.ref r1), (.int ub)]) _
          refine XS.iconst X65.here hx rfl (hb hby d23_52) ?_
          exact kt
        obtain ⟨cq68, kq68, q68a, q68b, q68c⟩ := isOf hZ e65 Eb
        obtain ⟨_, _, ⟨T69, L69, k69, n69⟩, -, X69, ⟨Lc69, hQ69, l69, y69, z69⟩, st69⟩ := X65.virtualBack hx (y := yy_4) (z := yy_4) hown (mvT hZ (own_t hw 133 rfl)) (mvT hZ (own_t hw 86 rfl)) (notFace_of_selects (args := #[]) (mvT hZ (own_t hw 88 rfl))) (mvT hZ (own_t hw 88 rfl)) (mvT hZ (own_t hw 87 rfl)) (by decide) (backOf (W := 1) (rm18 l Z a0 hw [] r1 (1 : Int32) bb kb (2 : Int32) [(.int (va.toInt8.toInt32)), (.int (vb.toInt8.toInt32))] (.int 0) (vb.toInt8.toInt32) fm cs h0 n0 Z0 Eb Fb Vx1 ⟨by decide, by decide⟩ rfl SF hfm SC hcs Cb) hZ (own_t hw 89 rfl) (own_t hw 7 rfl) (by decide) (by decide)) q68a q68c (g := (mkF m 53 #[oa r0, oa r1, oi 2, oi 1] [(.int (1 : Int32)), (.ref r1), (.int ub)])) rfl (by rw [hml]; rfl) (Steps.refl _) (argsL := [(.int (1 : Int32))]) (rest := [(.int ub)]) (lenOf pd_8 rfl) rfl (by show 2 * 0 + _ ≤ _; exact Nat.le_of_eq rfl) (hb hby d23_53) (fun _ _ => ⟨rfl, e65, (by decide : 0 + 0 ≤ _), (by decide : 0 + 0 ≤ _)⟩)
        dsimp only [Pt.U, Pt.locs, Pt.cells, Pt.slots] at X69 l69 y69 z69 st69 hQ69
        subst l69 y69 z69
        obtain ⟨rfl, N69q, e69⟩ := hQ69
        have N69 := Fr.app N65 N69q
        have c70 : own_G p e below T69 (mkF m 56 #[oa r0, oa r1, oi 2, oi 1] [(.int vb), (.int ub)]) (mkF m 56 #[oa r0, oa r1, oi 2, oi 1] [(.int (own_cc (vb.toInt8.toInt32))), (.int ub)]) := fun t kt => castTop (congrArg (fun zv => (mkF m 56 #[oa r0, oa r1, oi 2, oi 1] [(.int zv), (.int ub)])) (show (own_cc (vb.toInt8.toInt32)) = vb from own_ccv _ (rvb).1 (rvb).2)) kt
        by_cases hc56 : ub = vb
        · -- it is
          have c71 : own_G p e below T69 (mkF m 94 #[oa r0, oa r1, oi 2, oi 1] [(.int (1 : Int32))]) (mkF m 56 #[oa r0, oa r1, oi 2, oi 1] [(.int vb), (.int ub)]) := by
            intro t kt
            show oS T69 (mkF m 56 #[oa r0, oa r1, oi 2, oi 1] [(.int vb), (.int ub)]) _
            refine XS.icmpNo X69.here hx rfl (hb hby d23_56) rfl (teq hc56).2 ?_
            show oS T69 (mkF m 59 #[oa r0, oa r1, oi 2, oi 1] []) _
            refine XS.iconst X69.here hx rfl (hb hby d23_59) ?_
            show oS T69 (mkF m 60 #[oa r0, oa r1, oi 2, oi 1] [(.int (1 : Int32))]) _
            refine XS.goto X69.here hx rfl (pc0 := 60) (pc' := 64) rfl (hb hby d23_60) (by decide) (by decide) ?_
            show oS T69 (mkF m 64 #[oa r0, oa r1, oi 2, oi 1] [(.int (1 : Int32))]) _
            refine XS.istoreN X69.here hx rfl (hb hby d23_64) rfl (l' := #[oa r0, oa r1, oi 2, oi 1]) rfl ?_
            show oS T69 (mkF m 65 #[oa r0, oa r1, oi 2, oi 1] []) _
            refine XS.iloadN X69.here hx rfl (hb hby d23_65) rfl ?_
            show oS T69 (mkF m 66 #[oa r0, oa r1, oi 2, oi 1] [(.int (2 : Int32))]) _
            refine XS.iconst X69.here hx rfl (hb hby d23_66) ?_
            show oS T69 (mkF m 67 #[oa r0, oa r1, oi 2, oi 1] [(.int (2 : Int32)), (.int (2 : Int32))]) _
            refine XS.icmpYes X69.here hx rfl (pc0 := 67) (pc' := 93) rfl (hb hby d23_67) rfl (flt (by decide : ¬ ((2 : Int32) < (2 : Int32)))).2.2.2 (by decide) (by decide) ?_
            show oS T69 (mkF m 93 #[oa r0, oa r1, oi 2, oi 1] []) _
            refine XS.iloadN X69.here hx rfl (hb hby d23_93) rfl ?_
            exact kt
          obtain ⟨fs, hr, hrun, hended, hW, hsame⟩ := X69.leave (v := some (.int (1 : Int32))) (fun h => by rw [Bd.returns] at h; cases h)
          refine ⟨_, _, pre0 _ (c46 _ (st48.trans (c49 _ (st51.trans (c52 _ (st54.trans (c55 _ (st57.trans (c58 _ (c59 _ (st61.trans (c62 _ (c63 _ (st65.trans (c66 _ (c67 _ (st69.trans (c70 _ (c71 _ (?_)))))))))))))))))))), hrun, hended, _, _, rfl, ?_, ⟨_, rfl⟩, hW, hsame.mono (by decide) (by decide)⟩
          · show Steps p.tables e below (T69.setTop (mkF m 94 #[oa r0, oa r1, oi 2, oi 1] [(.int (1 : Int32))])) _
            exact retN X69 hx (t := .boolean) Bd.returns (by simp) (hb hby d23_94) hr
          · show Q23 Z r0 r1 ba bb ka kb cs fm tx ty h0 n0 _ T69.heap _
            rw [e69]
            exact ⟨congrArg (fun z => some (Value.int z)) (show (1 : Int32) = (own_same tx ty) from by rw [htx, hty]; unfold own_same; simp [hc28, hc56]), N69, rfl⟩
        · -- it isn't
          have c73 : own_G p e below T69 (mkF m 94 #[oa r0, oa r1, oi 2, oi 0] [(.int (0 : Int32))]) (mkF m 56 #[oa r0, oa r1, oi 2, oi 1] [(.int vb), (.int ub)]) := by
            intro t kt
            show oS T69 (mkF m 56 #[oa r0, oa r1, oi 2, oi 1] [(.int vb), (.int ub)]) _
            refine XS.icmpYes X69.here hx rfl (pc0 := 56) (pc' := 63) rfl (hb hby d23_56) rfl (feq hc56).2 (by decide) (by decide) ?_
            show oS T69 (mkF m 63 #[oa r0, oa r1, oi 2, oi 1] []) _
            refine XS.iconst X69.here hx rfl (hb hby d23_63) ?_
            show oS T69 (mkF m 64 #[oa r0, oa r1, oi 2, oi 1] [(.int (0 : Int32))]) _
            refine XS.istoreN X69.here hx rfl (hb hby d23_64) rfl (l' := #[oa r0, oa r1, oi 2, oi 0]) rfl ?_
            show oS T69 (mkF m 65 #[oa r0, oa r1, oi 2, oi 0] []) _
            refine XS.iloadN X69.here hx rfl (hb hby d23_65) rfl ?_
            show oS T69 (mkF m 66 #[oa r0, oa r1, oi 2, oi 0] [(.int (2 : Int32))]) _
            refine XS.iconst X69.here hx rfl (hb hby d23_66) ?_
            show oS T69 (mkF m 67 #[oa r0, oa r1, oi 2, oi 0] [(.int (2 : Int32)), (.int (2 : Int32))]) _
            refine XS.icmpYes X69.here hx rfl (pc0 := 67) (pc' := 93) rfl (hb hby d23_67) rfl (flt (by decide : ¬ ((2 : Int32) < (2 : Int32)))).2.2.2 (by decide) (by decide) ?_
            show oS T69 (mkF m 93 #[oa r0, oa r1, oi 2, oi 0] []) _
            refine XS.iloadN X69.here hx rfl (hb hby d23_93) rfl ?_
            exact kt
          obtain ⟨fs, hr, hrun, hended, hW, hsame⟩ := X69.leave (v := some (.int (0 : Int32))) (fun h => by rw [Bd.returns] at h; cases h)
          refine ⟨_, _, pre0 _ (c46 _ (st48.trans (c49 _ (st51.trans (c52 _ (st54.trans (c55 _ (st57.trans (c58 _ (c59 _ (st61.trans (c62 _ (c63 _ (st65.trans (c66 _ (c67 _ (st69.trans (c70 _ (c73 _ (?_)))))))))))))))))))), hrun, hended, _, _, rfl, ?_, ⟨_, rfl⟩, hW, hsame.mono (by decide) (by decide)⟩
          · show Steps p.tables e below (T69.setTop (mkF m 94 #[oa r0, oa r1, oi 2, oi 0] [(.int (0 : Int32))])) _
            exact retN X69 hx (t := .boolean) Bd.returns (by simp) (hb hby d23_94) hr
          · show Q23 Z r0 r1 ba bb ka kb cs fm tx ty h0 n0 _ T69.heap _
            rw [e69]
            exact ⟨congrArg (fun z => some (Value.int z)) (show (0 : Int32) = (own_same tx ty) from by rw [htx, hty]; unfold own_same; simp [hc28, hc56]), N69, rfl⟩
      · -- it isn't
        have c75 : own_G p e below T61 (mkF m 94 #[oa r0, oa r1, oi 2, oi 0] [(.int (0 : Int32))]) (mkF m 28 #[oa r0, oa r1, oi 2, .unset] [(.int va), (.int ua)]) := by
          intro t kt
          show oS T61 (mkF m 28 #[oa r0, oa r1, oi 2, .unset] [(.int va), (.int ua)]) _
          refine XS.icmpYes X61.here hx rfl (pc0 := 28) (pc' := 35) rfl (hb hby d23_28) rfl (feq hc28).2 (by decide) (by decide) ?_
          show oS T61 (mkF m 35 #[oa r0, oa r1, oi 2, .unset] []) _
          refine XS.iconst X61.here hx rfl (hb hby d23_35) ?_
          show oS T61 (mkF m 36 #[oa r0, oa r1, oi 2, .unset] [(.int (0 : Int32))]) _
          refine XS.istoreN X61.here hx rfl (hb hby d23_36) rfl (l' := #[oa r0, oa r1, oi 2, oi 0]) rfl ?_
          show oS T61 (mkF m 37 #[oa r0, oa r1, oi 2, oi 0] []) _
          refine XS.iloadN X61.here hx rfl (hb hby d23_37) rfl ?_
          show oS T61 (mkF m 38 #[oa r0, oa r1, oi 2, oi 0] [(.int (2 : Int32))]) _
          refine XS.iconst X61.here hx rfl (hb hby d23_38) ?_
          show oS T61 (mkF m 39 #[oa r0, oa r1, oi 2, oi 0] [(.int (1 : Int32)), (.int (2 : Int32))]) _
          refine XS.icmpNo X61.here hx rfl (hb hby d23_39) rfl (tlt (by decide : (1 : Int32) < (2 : Int32))).2.2.2 ?_
          show oS T61 (mkF m 42 #[oa r0, oa r1, oi 2, oi 0] []) _
          refine XS.iloadN X61.here hx rfl (hb hby d23_42) rfl ?_
          show oS T61 (mkF m 43 #[oa r0, oa r1, oi 2, oi 0] [(.int (0 : Int32))]) _
          refine XS.ifYes X61.here hx rfl (pc0 := 43) (pc' := 63) rfl (hb hby d23_43) rfl ((if0 _ _).trans (teq (by decide : (0 : Int32) = (0 : Int32))).1) (by decide) (by decide) ?_
          show oS T61 (mkF m 63 #[oa r0, oa r1, oi 2, oi 0] []) _
          refine XS.iconst X61.here hx rfl (hb hby d23_63) ?_
          show oS T61 (mkF m 64 #[oa r0, oa r1, oi 2, oi 0] [(.int (0 : Int32))]) _
          refine XS.istoreN X61.here hx rfl (hb hby d23_64) rfl (l' := #[oa r0, oa r1, oi 2, oi 0]) rfl ?_
          show oS T61 (mkF m 65 #[oa r0, oa r1, oi 2, oi 0] []) _
          refine XS.iloadN X61.here hx rfl (hb hby d23_65) rfl ?_
          show oS T61 (mkF m 66 #[oa r0, oa r1, oi 2, oi 0] [(.int (2 : Int32))]) _
          refine XS.iconst X61.here hx rfl (hb hby d23_66) ?_
          show oS T61 (mkF m 67 #[oa r0, oa r1, oi 2, oi 0] [(.int (2 : Int32)), (.int (2 : Int32))]) _
          refine XS.icmpYes X61.here hx rfl (pc0 := 67) (pc' := 93) rfl (hb hby d23_67) rfl (flt (by decide : ¬ ((2 : Int32) < (2 : Int32)))).2.2.2 (by decide) (by decide) ?_
          show oS T61 (mkF m 93 #[oa r0, oa r1, oi 2, oi 0] []) _
          refine XS.iloadN X61.here hx rfl (hb hby d23_93) rfl ?_
          exact kt
        obtain ⟨fs, hr, hrun, hended, hW, hsame⟩ := X61.leave (v := some (.int (0 : Int32))) (fun h => by rw [Bd.returns] at h; cases h)
        refine ⟨_, _, pre0 _ (c46 _ (st48.trans (c49 _ (st51.trans (c52 _ (st54.trans (c55 _ (st57.trans (c58 _ (c59 _ (st61.trans (c62 _ (c75 _ (?_)))))))))))))), hrun, hended, _, _, rfl, ?_, ⟨_, rfl⟩, hW, hsame.mono (by decide) (by decide)⟩
        · show Steps p.tables e below (T61.setTop (mkF m 94 #[oa r0, oa r1, oi 2, oi 0] [(.int (0 : Int32))])) _
          exact retN X61 hx (t := .boolean) Bd.returns (by simp) (hb hby d23_94) hr
        · show Q23 Z r0 r1 ba bb ka kb cs fm tx ty h0 n0 _ T61.heap _
          rw [e61]
          exact ⟨congrArg (fun z => some (Value.int z)) (show (0 : Int32) = (own_same tx ty) from by rw [htx, hty]; unfold own_same; simp [hc28]), N61, rfl⟩
    · skip
      rw [hty] at Vb
      have Vx1 : Arv Z h0 bb kb .byte (3 : Int32) [(.int (va.toInt8.toInt32)), (.int (vb.toInt8.toInt32)), (.int (vc.toInt8.toInt32))] (.int 0) := Vb
      have c77 : own_G p e below s₁ (mkF m 1 #[oa r0, oa r1, .unset, .unset] [(.ref r0)]) (mkF m 0 #[oa r0, oa r1, .unset, .unset] []) := by
        intro t kt
        show oS s₁ (mkF m 0 #[oa r0, oa r1, .unset, .unset] []) _
        refine XS.aloadN X0.here hx rfl (hb hby d23_0) rfl rfl ?_
        exact kt
      obtain ⟨cq78, kq78, q78a, q78b, q78c⟩ := isOf hZ e0 Ea
      obtain ⟨_, _, ⟨T79, L79, k79, n79⟩, -, X79, ⟨Lc79, hQ79, l79, y79, z79⟩, st79⟩ := X0.virtualBack hx (y := yy_6) (z := yy_6) hown (mvT hZ (own_t hw 114 rfl)) (mvT hZ (own_t hw 67 rfl)) (notFace_of_selects (args := #[]) (mvT hZ (own_t hw 69 rfl))) (mvT hZ (own_t hw 69 rfl)) (mvT hZ (own_t hw 68 rfl)) (by decide) (backOf (W := 0) (rm14 l Z a0 hw [] r0 ba ka (2 : Int32) [(.int (ua.toInt8.toInt32)), (.int (ub.toInt8.toInt32))] (.int 0) cs h0 n0 Z0 Ea Fa Vx0 SC hcs Ca) hZ (own_t hw 70 rfl) (own_t hw 7 rfl) (by decide) (by decide)) q78a q78c (g := (mkF m 1 #[oa r0, oa r1, .unset, .unset] [(.ref r0)])) rfl (by rw [hml]; rfl) (Steps.refl _) (argsL := []) (rest := []) (lenOf pd_5 rfl) rfl (by show 2 * 0 + _ ≤ _; exact Nat.le_of_eq rfl) (hb hby d23_1) (fun _ _ => ⟨rfl, e0, (by decide : 0 + 0 ≤ _), (by decide : 0 + 0 ≤ _)⟩)
      dsimp only [Pt.U, Pt.locs, Pt.cells, Pt.slots] at X79 l79 y79 z79 st79 hQ79
      subst l79 y79 z79
      obtain ⟨rfl, N79q, e79⟩ := hQ79
      have N79 := Fr.app N0 N79q
      have c80 : own_G p e below T79 (mkF m 5 #[oa r0, oa r1, .unset, .unset] [(.ref r1), (.int (2 : Int32))]) (mkF m 4 #[oa r0, oa r1, .unset, .unset] [(.int (2 : Int32))]) := by
        intro t kt
        show oS T79 (mkF m 4 #[oa r0, oa r1, .unset, .unset] [(.int (2 : Int32))]) _
        refine XS.aloadN X79.here hx rfl (hb hby d23_4) rfl rfl ?_
        exact kt
      obtain ⟨cq81, kq81, q81a, q81b, q81c⟩ := isOf hZ e79 Eb
      obtain ⟨_, _, ⟨T82, L82, k82, n82⟩, -, X82, ⟨Lc82, hQ82, l82, y82, z82⟩, st82⟩ := X79.virtualBack hx (y := yy_6) (z := yy_6) hown (mvT hZ (own_t hw 114 rfl)) (mvT hZ (own_t hw 67 rfl)) (notFace_of_selects (args := #[]) (mvT hZ (own_t hw 69 rfl))) (mvT hZ (own_t hw 69 rfl)) (mvT hZ (own_t hw 68 rfl)) (by decide) (backOf (W := 1) (rm14 l Z a0 hw [] r1 bb kb (3 : Int32) [(.int (va.toInt8.toInt32)), (.int (vb.toInt8.toInt32)), (.int (vc.toInt8.toInt32))] (.int 0) cs h0 n0 Z0 Eb Fb Vx1 SC hcs Cb) hZ (own_t hw 70 rfl) (own_t hw 7 rfl) (by decide) (by decide)) q81a q81c (g := (mkF m 5 #[oa r0, oa r1, .unset, .unset] [(.ref r1), (.int (2 : Int32))])) rfl (by rw [hml]; rfl) (Steps.refl _) (argsL := []) (rest := [(.int (2 : Int32))]) (lenOf pd_5 rfl) rfl (by show 2 * 0 + _ ≤ _; exact Nat.le_of_eq rfl) (hb hby d23_5) (fun _ _ => ⟨rfl, e79, (by decide : 0 + 0 ≤ _), (by decide : 0 + 0 ≤ _)⟩)
      dsimp only [Pt.U, Pt.locs, Pt.cells, Pt.slots] at X82 l82 y82 z82 st82 hQ82
      subst l82 y82 z82
      obtain ⟨rfl, N82q, e82⟩ := hQ82
      have N82 := Fr.app N79 N82q
      have c83 : own_G p e below T82 (mkF m 12 #[oa r0, oa r1, .unset, .unset] [(.int (0 : Int32))]) (mkF m 8 #[oa r0, oa r1, .unset, .unset] [(.int (3 : Int32)), (.int (2 : Int32))]) := by
        intro t kt
        show oS T82 (mkF m 8 #[oa r0, oa r1, .unset, .unset] [(.int (3 : Int32)), (.int (2 : Int32))]) _
        refine XS.icmpNo X82.here hx rfl (hb hby d23_8) rfl (feq (by decide : ¬ ((2 : Int32) = (3 : Int32)))).1 ?_
        show oS T82 (mkF m 11 #[oa r0, oa r1, .unset, .unset] []) _
        refine XS.iconst X82.here hx rfl (hb hby d23_11) ?_
        exact kt
      obtain ⟨fs, hr, hrun, hended, hW, hsame⟩ := X82.leave (v := some (.int (0 : Int32))) (fun h => by rw [Bd.returns] at h; cases h)
      refine ⟨_, _, pre0 _ (c77 _ (st79.trans (c80 _ (st82.trans (c83 _ (?_)))))), hrun, hended, _, _, rfl, ?_, ⟨_, rfl⟩, hW, hsame.mono (by decide) (by decide)⟩
      · show Steps p.tables e below (T82.setTop (mkF m 12 #[oa r0, oa r1, .unset, .unset] [(.int (0 : Int32))])) _
        exact retN X82 hx (t := .boolean) Bd.returns (by simp) (hb hby d23_12) hr
      · show Q23 Z r0 r1 ba bb ka kb cs fm tx ty h0 n0 _ T82.heap _
        rw [e82]
        exact ⟨congrArg (fun z => some (Value.int z)) (show (0 : Int32) = (own_same tx ty) from by rw [htx, hty]; unfold own_same; simp []), N82, rfl⟩
  · skip
    rw [htx] at Va
    have Vx0 : Arv Z h0 ba ka .byte (3 : Int32) [(.int (ua.toInt8.toInt32)), (.int (ub.toInt8.toInt32)), (.int (uc.toInt8.toInt32))] (.int 0) := Va
    rcases hly with ⟨va, hty, rva⟩ | ⟨va, vb, hty, rva, rvb⟩ | ⟨va, vb, vc, hty, rva, rvb, rvc⟩
    · skip
      rw [hty] at Vb
      have Vx1 : Arv Z h0 bb kb .byte (1 : Int32) [(.int (va.toInt8.toInt32))] (.int 0) := Vb
      have c85 : own_G p e below s₁ (mkF m 1 #[oa r0, oa r1, .unset, .unset] [(.ref r0)]) (mkF m 0 #[oa r0, oa r1, .unset, .unset] []) := by
        intro t kt
        show oS s₁ (mkF m 0 #[oa r0, oa r1, .unset, .unset] []) _
        refine XS.aloadN X0.here hx rfl (hb hby d23_0) rfl rfl ?_
        exact kt
      obtain ⟨cq86, kq86, q86a, q86b, q86c⟩ := isOf hZ e0 Ea
      obtain ⟨_, _, ⟨T87, L87, k87, n87⟩, -, X87, ⟨Lc87, hQ87, l87, y87, z87⟩, st87⟩ := X0.virtualBack hx (y := yy_6) (z := yy_6) hown (mvT hZ (own_t hw 114 rfl)) (mvT hZ (own_t hw 67 rfl)) (notFace_of_selects (args := #[]) (mvT hZ (own_t hw 69 rfl))) (mvT hZ (own_t hw 69 rfl)) (mvT hZ (own_t hw 68 rfl)) (by decide) (backOf (W := 0) (rm14 l Z a0 hw [] r0 ba ka (3 : Int32) [(.int (ua.toInt8.toInt32)), (.int (ub.toInt8.toInt32)), (.int (uc.toInt8.toInt32))] (.int 0) cs h0 n0 Z0 Ea Fa Vx0 SC hcs Ca) hZ (own_t hw 70 rfl) (own_t hw 7 rfl) (by decide) (by decide)) q86a q86c (g := (mkF m 1 #[oa r0, oa r1, .unset, .unset] [(.ref r0)])) rfl (by rw [hml]; rfl) (Steps.refl _) (argsL := []) (rest := []) (lenOf pd_5 rfl) rfl (by show 2 * 0 + _ ≤ _; exact Nat.le_of_eq rfl) (hb hby d23_1) (fun _ _ => ⟨rfl, e0, (by decide : 0 + 0 ≤ _), (by decide : 0 + 0 ≤ _)⟩)
      dsimp only [Pt.U, Pt.locs, Pt.cells, Pt.slots] at X87 l87 y87 z87 st87 hQ87
      subst l87 y87 z87
      obtain ⟨rfl, N87q, e87⟩ := hQ87
      have N87 := Fr.app N0 N87q
      have c88 : own_G p e below T87 (mkF m 5 #[oa r0, oa r1, .unset, .unset] [(.ref r1), (.int (3 : Int32))]) (mkF m 4 #[oa r0, oa r1, .unset, .unset] [(.int (3 : Int32))]) := by
        intro t kt
        show oS T87 (mkF m 4 #[oa r0, oa r1, .unset, .unset] [(.int (3 : Int32))]) _
        refine XS.aloadN X87.here hx rfl (hb hby d23_4) rfl rfl ?_
        exact kt
      obtain ⟨cq89, kq89, q89a, q89b, q89c⟩ := isOf hZ e87 Eb
      obtain ⟨_, _, ⟨T90, L90, k90, n90⟩, -, X90, ⟨Lc90, hQ90, l90, y90, z90⟩, st90⟩ := X87.virtualBack hx (y := yy_6) (z := yy_6) hown (mvT hZ (own_t hw 114 rfl)) (mvT hZ (own_t hw 67 rfl)) (notFace_of_selects (args := #[]) (mvT hZ (own_t hw 69 rfl))) (mvT hZ (own_t hw 69 rfl)) (mvT hZ (own_t hw 68 rfl)) (by decide) (backOf (W := 1) (rm14 l Z a0 hw [] r1 bb kb (1 : Int32) [(.int (va.toInt8.toInt32))] (.int 0) cs h0 n0 Z0 Eb Fb Vx1 SC hcs Cb) hZ (own_t hw 70 rfl) (own_t hw 7 rfl) (by decide) (by decide)) q89a q89c (g := (mkF m 5 #[oa r0, oa r1, .unset, .unset] [(.ref r1), (.int (3 : Int32))])) rfl (by rw [hml]; rfl) (Steps.refl _) (argsL := []) (rest := [(.int (3 : Int32))]) (lenOf pd_5 rfl) rfl (by show 2 * 0 + _ ≤ _; exact Nat.le_of_eq rfl) (hb hby d23_5) (fun _ _ => ⟨rfl, e87, (by decide : 0 + 0 ≤ _), (by decide : 0 + 0 ≤ _)⟩)
      dsimp only [Pt.U, Pt.locs, Pt.cells, Pt.slots] at X90 l90 y90 z90 st90 hQ90
      subst l90 y90 z90
      obtain ⟨rfl, N90q, e90⟩ := hQ90
      have N90 := Fr.app N87 N90q
      have c91 : own_G p e below T90 (mkF m 12 #[oa r0, oa r1, .unset, .unset] [(.int (0 : Int32))]) (mkF m 8 #[oa r0, oa r1, .unset, .unset] [(.int (1 : Int32)), (.int (3 : Int32))]) := by
        intro t kt
        show oS T90 (mkF m 8 #[oa r0, oa r1, .unset, .unset] [(.int (1 : Int32)), (.int (3 : Int32))]) _
        refine XS.icmpNo X90.here hx rfl (hb hby d23_8) rfl (feq (by decide : ¬ ((3 : Int32) = (1 : Int32)))).1 ?_
        show oS T90 (mkF m 11 #[oa r0, oa r1, .unset, .unset] []) _
        refine XS.iconst X90.here hx rfl (hb hby d23_11) ?_
        exact kt
      obtain ⟨fs, hr, hrun, hended, hW, hsame⟩ := X90.leave (v := some (.int (0 : Int32))) (fun h => by rw [Bd.returns] at h; cases h)
      refine ⟨_, _, pre0 _ (c85 _ (st87.trans (c88 _ (st90.trans (c91 _ (?_)))))), hrun, hended, _, _, rfl, ?_, ⟨_, rfl⟩, hW, hsame.mono (by decide) (by decide)⟩
      · show Steps p.tables e below (T90.setTop (mkF m 12 #[oa r0, oa r1, .unset, .unset] [(.int (0 : Int32))])) _
        exact retN X90 hx (t := .boolean) Bd.returns (by simp) (hb hby d23_12) hr
      · show Q23 Z r0 r1 ba bb ka kb cs fm tx ty h0 n0 _ T90.heap _
        rw [e90]
        exact ⟨congrArg (fun z => some (Value.int z)) (show (0 : Int32) = (own_same tx ty) from by rw [htx, hty]; unfold own_same; simp []), N90, rfl⟩
    · skip
      rw [hty] at Vb
      have Vx1 : Arv Z h0 bb kb .byte (2 : Int32) [(.int (va.toInt8.toInt32)), (.int (vb.toInt8.toInt32))] (.int 0) := Vb
      have c93 : own_G p e below s₁ (mkF m 1 #[oa r0, oa r1, .unset, .unset] [(.ref r0)]) (mkF m 0 #[oa r0, oa r1, .unset, .unset] []) := by
        intro t kt
        show oS s₁ (mkF m 0 #[oa r0, oa r1, .unset, .unset] []) _
        refine XS.aloadN X0.here hx rfl (hb hby d23_0) rfl rfl ?_
        exact kt
      obtain ⟨cq94, kq94, q94a, q94b, q94c⟩ := isOf hZ e0 Ea
      obtain ⟨_, _, ⟨T95, L95, k95, n95⟩, -, X95, ⟨Lc95, hQ95, l95, y95, z95⟩, st95⟩ := X0.virtualBack hx (y := yy_6) (z := yy_6) hown (mvT hZ (own_t hw 114 rfl)) (mvT hZ (own_t hw 67 rfl)) (notFace_of_selects (args := #[]) (mvT hZ (own_t hw 69 rfl))) (mvT hZ (own_t hw 69 rfl)) (mvT hZ (own_t hw 68 rfl)) (by decide) (backOf (W := 0) (rm14 l Z a0 hw [] r0 ba ka (3 : Int32) [(.int (ua.toInt8.toInt32)), (.int (ub.toInt8.toInt32)), (.int (uc.toInt8.toInt32))] (.int 0) cs h0 n0 Z0 Ea Fa Vx0 SC hcs Ca) hZ (own_t hw 70 rfl) (own_t hw 7 rfl) (by decide) (by decide)) q94a q94c (g := (mkF m 1 #[oa r0, oa r1, .unset, .unset] [(.ref r0)])) rfl (by rw [hml]; rfl) (Steps.refl _) (argsL := []) (rest := []) (lenOf pd_5 rfl) rfl (by show 2 * 0 + _ ≤ _; exact Nat.le_of_eq rfl) (hb hby d23_1) (fun _ _ => ⟨rfl, e0, (by decide : 0 + 0 ≤ _), (by decide : 0 + 0 ≤ _)⟩)
      dsimp only [Pt.U, Pt.locs, Pt.cells, Pt.slots] at X95 l95 y95 z95 st95 hQ95
      subst l95 y95 z95
      obtain ⟨rfl, N95q, e95⟩ := hQ95
      have N95 := Fr.app N0 N95q
      have c96 : own_G p e below T95 (mkF m 5 #[oa r0, oa r1, .unset, .unset] [(.ref r1), (.int (3 : Int32))]) (mkF m 4 #[oa r0, oa r1, .unset, .unset] [(.int (3 : Int32))]) := by
        intro t kt
        show oS T95 (mkF m 4 #[oa r0, oa r1, .unset, .unset] [(.int (3 : Int32))]) _
        refine XS.aloadN X95.here hx rfl (hb hby d23_4) rfl rfl ?_
        exact kt
      obtain ⟨cq97, kq97, q97a, q97b, q97c⟩ := isOf hZ e95 Eb
      obtain ⟨_, _, ⟨T98, L98, k98, n98⟩, -, X98, ⟨Lc98, hQ98, l98, y98, z98⟩, st98⟩ := X95.virtualBack hx (y := yy_6) (z := yy_6) hown (mvT hZ (own_t hw 114 rfl)) (mvT hZ (own_t hw 67 rfl)) (notFace_of_selects (args := #[]) (mvT hZ (own_t hw 69 rfl))) (mvT hZ (own_t hw 69 rfl)) (mvT hZ (own_t hw 68 rfl)) (by decide) (backOf (W := 1) (rm14 l Z a0 hw [] r1 bb kb (2 : Int32) [(.int (va.toInt8.toInt32)), (.int (vb.toInt8.toInt32))] (.int 0) cs h0 n0 Z0 Eb Fb Vx1 SC hcs Cb) hZ (own_t hw 70 rfl) (own_t hw 7 rfl) (by decide) (by decide)) q97a q97c (g := (mkF m 5 #[oa r0, oa r1, .unset, .unset] [(.ref r1), (.int (3 : Int32))])) rfl (by rw [hml]; rfl) (Steps.refl _) (argsL := []) (rest := [(.int (3 : Int32))]) (lenOf pd_5 rfl) rfl (by show 2 * 0 + _ ≤ _; exact Nat.le_of_eq rfl) (hb hby d23_5) (fun _ _ => ⟨rfl, e95, (by decide : 0 + 0 ≤ _), (by decide : 0 + 0 ≤ _)⟩)
      dsimp only [Pt.U, Pt.locs, Pt.cells, Pt.slots] at X98 l98 y98 z98 st98 hQ98
      subst l98 y98 z98
      obtain ⟨rfl, N98q, e98⟩ := hQ98
      have N98 := Fr.app N95 N98q
      have c99 : own_G p e below T98 (mkF m 12 #[oa r0, oa r1, .unset, .unset] [(.int (0 : Int32))]) (mkF m 8 #[oa r0, oa r1, .unset, .unset] [(.int (2 : Int32)), (.int (3 : Int32))]) := by
        intro t kt
        show oS T98 (mkF m 8 #[oa r0, oa r1, .unset, .unset] [(.int (2 : Int32)), (.int (3 : Int32))]) _
        refine XS.icmpNo X98.here hx rfl (hb hby d23_8) rfl (feq (by decide : ¬ ((3 : Int32) = (2 : Int32)))).1 ?_
        show oS T98 (mkF m 11 #[oa r0, oa r1, .unset, .unset] []) _
        refine XS.iconst X98.here hx rfl (hb hby d23_11) ?_
        exact kt
      obtain ⟨fs, hr, hrun, hended, hW, hsame⟩ := X98.leave (v := some (.int (0 : Int32))) (fun h => by rw [Bd.returns] at h; cases h)
      refine ⟨_, _, pre0 _ (c93 _ (st95.trans (c96 _ (st98.trans (c99 _ (?_)))))), hrun, hended, _, _, rfl, ?_, ⟨_, rfl⟩, hW, hsame.mono (by decide) (by decide)⟩
      · show Steps p.tables e below (T98.setTop (mkF m 12 #[oa r0, oa r1, .unset, .unset] [(.int (0 : Int32))])) _
        exact retN X98 hx (t := .boolean) Bd.returns (by simp) (hb hby d23_12) hr
      · show Q23 Z r0 r1 ba bb ka kb cs fm tx ty h0 n0 _ T98.heap _
        rw [e98]
        exact ⟨congrArg (fun z => some (Value.int z)) (show (0 : Int32) = (own_same tx ty) from by rw [htx, hty]; unfold own_same; simp []), N98, rfl⟩
    · skip
      rw [hty] at Vb
      have Vx1 : Arv Z h0 bb kb .byte (3 : Int32) [(.int (va.toInt8.toInt32)), (.int (vb.toInt8.toInt32)), (.int (vc.toInt8.toInt32))] (.int 0) := Vb
      have c101 : own_G p e below s₁ (mkF m 1 #[oa r0, oa r1, .unset, .unset] [(.ref r0)]) (mkF m 0 #[oa r0, oa r1, .unset, .unset] []) := by
        intro t kt
        show oS s₁ (mkF m 0 #[oa r0, oa r1, .unset, .unset] []) _
        refine XS.aloadN X0.here hx rfl (hb hby d23_0) rfl rfl ?_
        exact kt
      obtain ⟨cq102, kq102, q102a, q102b, q102c⟩ := isOf hZ e0 Ea
      obtain ⟨_, _, ⟨T103, L103, k103, n103⟩, -, X103, ⟨Lc103, hQ103, l103, y103, z103⟩, st103⟩ := X0.virtualBack hx (y := yy_6) (z := yy_6) hown (mvT hZ (own_t hw 114 rfl)) (mvT hZ (own_t hw 67 rfl)) (notFace_of_selects (args := #[]) (mvT hZ (own_t hw 69 rfl))) (mvT hZ (own_t hw 69 rfl)) (mvT hZ (own_t hw 68 rfl)) (by decide) (backOf (W := 0) (rm14 l Z a0 hw [] r0 ba ka (3 : Int32) [(.int (ua.toInt8.toInt32)), (.int (ub.toInt8.toInt32)), (.int (uc.toInt8.toInt32))] (.int 0) cs h0 n0 Z0 Ea Fa Vx0 SC hcs Ca) hZ (own_t hw 70 rfl) (own_t hw 7 rfl) (by decide) (by decide)) q102a q102c (g := (mkF m 1 #[oa r0, oa r1, .unset, .unset] [(.ref r0)])) rfl (by rw [hml]; rfl) (Steps.refl _) (argsL := []) (rest := []) (lenOf pd_5 rfl) rfl (by show 2 * 0 + _ ≤ _; exact Nat.le_of_eq rfl) (hb hby d23_1) (fun _ _ => ⟨rfl, e0, (by decide : 0 + 0 ≤ _), (by decide : 0 + 0 ≤ _)⟩)
      dsimp only [Pt.U, Pt.locs, Pt.cells, Pt.slots] at X103 l103 y103 z103 st103 hQ103
      subst l103 y103 z103
      obtain ⟨rfl, N103q, e103⟩ := hQ103
      have N103 := Fr.app N0 N103q
      have c104 : own_G p e below T103 (mkF m 5 #[oa r0, oa r1, .unset, .unset] [(.ref r1), (.int (3 : Int32))]) (mkF m 4 #[oa r0, oa r1, .unset, .unset] [(.int (3 : Int32))]) := by
        intro t kt
        show oS T103 (mkF m 4 #[oa r0, oa r1, .unset, .unset] [(.int (3 : Int32))]) _
        refine XS.aloadN X103.here hx rfl (hb hby d23_4) rfl rfl ?_
        exact kt
      obtain ⟨cq105, kq105, q105a, q105b, q105c⟩ := isOf hZ e103 Eb
      obtain ⟨_, _, ⟨T106, L106, k106, n106⟩, -, X106, ⟨Lc106, hQ106, l106, y106, z106⟩, st106⟩ := X103.virtualBack hx (y := yy_6) (z := yy_6) hown (mvT hZ (own_t hw 114 rfl)) (mvT hZ (own_t hw 67 rfl)) (notFace_of_selects (args := #[]) (mvT hZ (own_t hw 69 rfl))) (mvT hZ (own_t hw 69 rfl)) (mvT hZ (own_t hw 68 rfl)) (by decide) (backOf (W := 1) (rm14 l Z a0 hw [] r1 bb kb (3 : Int32) [(.int (va.toInt8.toInt32)), (.int (vb.toInt8.toInt32)), (.int (vc.toInt8.toInt32))] (.int 0) cs h0 n0 Z0 Eb Fb Vx1 SC hcs Cb) hZ (own_t hw 70 rfl) (own_t hw 7 rfl) (by decide) (by decide)) q105a q105c (g := (mkF m 5 #[oa r0, oa r1, .unset, .unset] [(.ref r1), (.int (3 : Int32))])) rfl (by rw [hml]; rfl) (Steps.refl _) (argsL := []) (rest := [(.int (3 : Int32))]) (lenOf pd_5 rfl) rfl (by show 2 * 0 + _ ≤ _; exact Nat.le_of_eq rfl) (hb hby d23_5) (fun _ _ => ⟨rfl, e103, (by decide : 0 + 0 ≤ _), (by decide : 0 + 0 ≤ _)⟩)
      dsimp only [Pt.U, Pt.locs, Pt.cells, Pt.slots] at X106 l106 y106 z106 st106 hQ106
      subst l106 y106 z106
      obtain ⟨rfl, N106q, e106⟩ := hQ106
      have N106 := Fr.app N103 N106q
      have c107 : own_G p e below T106 (mkF m 14 #[oa r0, oa r1, .unset, .unset] [(.ref r0)]) (mkF m 8 #[oa r0, oa r1, .unset, .unset] [(.int (3 : Int32)), (.int (3 : Int32))]) := by
        intro t kt
        show oS T106 (mkF m 8 #[oa r0, oa r1, .unset, .unset] [(.int (3 : Int32)), (.int (3 : Int32))]) _
        refine XS.icmpYes X106.here hx rfl (pc0 := 8) (pc' := 13) rfl (hb hby d23_8) rfl (teq (by decide : (3 : Int32) = (3 : Int32))).1 (by decide) (by decide) ?_
        show oS T106 (mkF m 13 #[oa r0, oa r1, .unset, .unset] []) _
        refine XS.aloadN X106.here hx rfl (hb hby d23_13) rfl rfl ?_
        exact kt
      obtain ⟨cq108, kq108, q108a, q108b, q108c⟩ := isOf hZ e106 Ea
      obtain ⟨_, _, ⟨T109, L109, k109, n109⟩, -, X109, ⟨Lc109, hQ109, l109, y109, z109⟩, st109⟩ := X106.virtualBack hx (y := yy_6) (z := yy_6) hown (mvT hZ (own_t hw 114 rfl)) (mvT hZ (own_t hw 67 rfl)) (notFace_of_selects (args := #[]) (mvT hZ (own_t hw 69 rfl))) (mvT hZ (own_t hw 69 rfl)) (mvT hZ (own_t hw 68 rfl)) (by decide) (backOf (W := 0) (rm14 l Z a0 hw [] r0 ba ka (3 : Int32) [(.int (ua.toInt8.toInt32)), (.int (ub.toInt8.toInt32)), (.int (uc.toInt8.toInt32))] (.int 0) cs h0 n0 Z0 Ea Fa Vx0 SC hcs Ca) hZ (own_t hw 70 rfl) (own_t hw 7 rfl) (by decide) (by decide)) q108a q108c (g := (mkF m 14 #[oa r0, oa r1, .unset, .unset] [(.ref r0)])) rfl (by rw [hml]; rfl) (Steps.refl _) (argsL := []) (rest := []) (lenOf pd_5 rfl) rfl (by show 2 * 0 + _ ≤ _; exact Nat.le_of_eq rfl) (hb hby d23_14) (fun _ _ => ⟨rfl, e106, (by decide : 0 + 0 ≤ _), (by decide : 0 + 0 ≤ _)⟩)
      dsimp only [Pt.U, Pt.locs, Pt.cells, Pt.slots] at X109 l109 y109 z109 st109 hQ109
      subst l109 y109 z109
      obtain ⟨rfl, N109q, e109⟩ := hQ109
      have N109 := Fr.app N106 N109q
      have c110 : own_G p e below T109 (mkF m 20 #[oa r0, oa r1, oi 3, .unset] [(.int (0 : Int32)), (.ref r0)]) (mkF m 17 #[oa r0, oa r1, .unset, .unset] [(.int (3 : Int32))]) := by
        intro t kt
        show oS T109 (mkF m 17 #[oa r0, oa r1, .unset, .unset] [(.int (3 : Int32))]) _
        refine XS.istoreN X109.here hx rfl (hb hby d23_17) rfl (l' := #[oa r0, oa r1, oi 3, .unset]) rfl ?_
        show oS T109 (mkF m 18 #[oa r0, oa r1, oi 3, .unset] []) _
        refine XS.aloadN X109.here hx rfl (hb hby d23_18) rfl rfl ?_
        show oS T109 (mkF m 19 #[oa r0, oa r1, oi 3, .unset] [(.ref r0)]) _
        refine XS.iconst X109.here hx rfl (hb hby d23_19) ?_
        exact kt
      obtain ⟨cq111, kq111, q111a, q111b, q111c⟩ := isOf hZ e109 Ea
      obtain ⟨_, _, ⟨T112, L112, k112, n112⟩, -, X112, ⟨Lc112, hQ112, l112, y112, z112⟩, st112⟩ := X109.virtualBack hx (y := yy_4) (z := yy_4) hown (mvT hZ (own_t hw 133 rfl)) (mvT hZ (own_t hw 86 rfl)) (notFace_of_selects (args := #[]) (mvT hZ (own_t hw 88 rfl))) (mvT hZ (own_t hw 88 rfl)) (mvT hZ (own_t hw 87 rfl)) (by decide) (backOf (W := 0) (rm18 l Z a0 hw [] r0 (0 : Int32) ba ka (3 : Int32) [(.int (ua.toInt8.toInt32)), (.int (ub.toInt8.toInt32)), (.int (uc.toInt8.toInt32))] (.int 0) (ua.toInt8.toInt32) fm cs h0 n0 Z0 Ea Fa Vx0 ⟨by decide, by decide⟩ rfl SF hfm SC hcs Ca) hZ (own_t hw 89 rfl) (own_t hw 7 rfl) (by decide) (by decide)) q111a q111c (g := (mkF m 20 #[oa r0, oa r1, oi 3, .unset] [(.int (0 : Int32)), (.ref r0)])) rfl (by rw [hml]; rfl) (Steps.refl _) (argsL := [(.int (0 : Int32))]) (rest := []) (lenOf pd_8 rfl) rfl (by show 2 * 0 + _ ≤ _; exact Nat.le_of_eq rfl) (hb hby d23_20) (fun _ _ => ⟨rfl, e109, (by decide : 0 + 0 ≤ _), (by decide : 0 + 0 ≤ _)⟩)
      dsimp only [Pt.U, Pt.locs, Pt.cells, Pt.slots] at X112 l112 y112 z112 st112 hQ112
      subst l112 y112 z112
      obtain ⟨rfl, N112q, e112⟩ := hQ112
      have N112 := Fr.app N109 N112q
      have c113 : own_G p e below T112 (mkF m 23 #[oa r0, oa r1, oi 3, .unset] [(.int ua)]) (mkF m 23 #[oa r0, oa r1, oi 3, .unset] [(.int (own_cc (ua.toInt8.toInt32)))]) := fun t kt => castTop (congrArg (fun zv => (mkF m 23 #[oa r0, oa r1, oi 3, .unset] [(.int zv)])) (show (own_cc (ua.toInt8.toInt32)) = ua from own_ccv _ (rua).1 (rua).2)) kt
      have c114 : own_G p e below T112 (mkF m 25 #[oa r0, oa r1, oi 3, .unset] [(.int (0 : Int32)), (.ref r1), (.int ua)]) (mkF m 23 #[oa r0, oa r1, oi 3, .unset] [(.int ua)]) := by
        intro t kt
        show oS T112 (mkF m 23 #[oa r0, oa r1, oi 3, .unset] [(.int ua)]) _
        refine XS.aloadN X112.here hx rfl (hb hby d23_23) rfl rfl ?_
        show oS T112 (mkF m 24 #[oa r0, oa r1, oi 3, .unset] [(.ref r1), (.int ua)]) _
        refine XS.iconst X112.here hx rfl (hb hby d23_24) ?_
        exact kt
      obtain ⟨cq115, kq115, q115a, q115b, q115c⟩ := isOf hZ e112 Eb
      obtain ⟨_, _, ⟨T116, L116, k116, n116⟩, -, X116, ⟨Lc116, hQ116, l116, y116, z116⟩, st116⟩ := X112.virtualBack hx (y := yy_4) (z := yy_4) hown (mvT hZ (own_t hw 133 rfl)) (mvT hZ (own_t hw 86 rfl)) (notFace_of_selects (args := #[]) (mvT hZ (own_t hw 88 rfl))) (mvT hZ (own_t hw 88 rfl)) (mvT hZ (own_t hw 87 rfl)) (by decide) (backOf (W := 1) (rm18 l Z a0 hw [] r1 (0 : Int32) bb kb (3 : Int32) [(.int (va.toInt8.toInt32)), (.int (vb.toInt8.toInt32)), (.int (vc.toInt8.toInt32))] (.int 0) (va.toInt8.toInt32) fm cs h0 n0 Z0 Eb Fb Vx1 ⟨by decide, by decide⟩ rfl SF hfm SC hcs Cb) hZ (own_t hw 89 rfl) (own_t hw 7 rfl) (by decide) (by decide)) q115a q115c (g := (mkF m 25 #[oa r0, oa r1, oi 3, .unset] [(.int (0 : Int32)), (.ref r1), (.int ua)])) rfl (by rw [hml]; rfl) (Steps.refl _) (argsL := [(.int (0 : Int32))]) (rest := [(.int ua)]) (lenOf pd_8 rfl) rfl (by show 2 * 0 + _ ≤ _; exact Nat.le_of_eq rfl) (hb hby d23_25) (fun _ _ => ⟨rfl, e112, (by decide : 0 + 0 ≤ _), (by decide : 0 + 0 ≤ _)⟩)
      dsimp only [Pt.U, Pt.locs, Pt.cells, Pt.slots] at X116 l116 y116 z116 st116 hQ116
      subst l116 y116 z116
      obtain ⟨rfl, N116q, e116⟩ := hQ116
      have N116 := Fr.app N112 N116q
      have c117 : own_G p e below T116 (mkF m 28 #[oa r0, oa r1, oi 3, .unset] [(.int va), (.int ua)]) (mkF m 28 #[oa r0, oa r1, oi 3, .unset] [(.int (own_cc (va.toInt8.toInt32))), (.int ua)]) := fun t kt => castTop (congrArg (fun zv => (mkF m 28 #[oa r0, oa r1, oi 3, .unset] [(.int zv), (.int ua)])) (show (own_cc (va.toInt8.toInt32)) = va from own_ccv _ (rva).1 (rva).2)) kt
      by_cases hc28 : ua = va
      · -- it is
        have c118 : own_G p e below T116 (mkF m 48 #[oa r0, oa r1, oi 3, oi 1] [(.int (1 : Int32)), (.ref r0)]) (mkF m 28 #[oa r0, oa r1, oi 3, .unset] [(.int va), (.int ua)]) := by
          intro t kt
          show oS T116 (mkF m 28 #[oa r0, oa r1, oi 3, .unset] [(.int va), (.int ua)]) _
          refine XS.icmpNo X116.here hx rfl (hb hby d23_28) rfl (teq hc28).2 ?_
          show oS T116 (mkF m 31 #[oa r0, oa r1, oi 3, .unset] []) _
          refine XS.iconst X116.here hx rfl (hb hby d23_31) ?_
          show oS T116 (mkF m 32 #[oa r0, oa r1, oi 3, .unset] [(.int (1 : Int32))]) _
          refine XS.goto X116.here hx rfl (pc0 := 32) (pc' := 36) rfl (hb hby d23_32) (by decide) (by decide) ?_
          show oS T116 (mkF m 36 #[oa r0, oa r1, oi 3, .unset] [(.int (1 : Int32))]) _
          refine XS.istoreN X116.here hx rfl (hb hby d23_36) rfl (l' := #[oa r0, oa r1, oi 3, oi 1]) rfl ?_
          show oS T116 (mkF m 37 #[oa r0, oa r1, oi 3, oi 1] []) _
          refine XS.iloadN X116.here hx rfl (hb hby d23_37) rfl ?_
          show oS T116 (mkF m 38 #[oa r0, oa r1, oi 3, oi 1] [(.int (3 : Int32))]) _
          refine XS.iconst X116.here hx rfl (hb hby d23_38) ?_
          show oS T116 (mkF m 39 #[oa r0, oa r1, oi 3, oi 1] [(.int (1 : Int32)), (.int (3 : Int32))]) _
          refine XS.icmpNo X116.here hx rfl (hb hby d23_39) rfl (tlt (by decide : (1 : Int32) < (3 : Int32))).2.2.2 ?_
          show oS T116 (mkF m 42 #[oa r0, oa r1, oi 3, oi 1] []) _
          refine XS.iloadN X116.here hx rfl (hb hby d23_42) rfl ?_
          show oS T116 (mkF m 43 #[oa r0, oa r1, oi 3, oi 1] [(.int (1 : Int32))]) _
          refine XS.ifNo X116.here hx rfl (hb hby d23_43) rfl ((if0 _ _).trans (feq (by decide : ¬ ((1 : Int32) = (0 : Int32)))).1) ?_
          show oS T116 (mkF m 46 #[oa r0, oa r1, oi 3, oi 1] []) _
          refine XS.aloadN X116.here hx rfl (hb hby d23_46) rfl rfl ?_
          show oS T116 (mkF m 47 #[oa r0, oa r1, oi 3, oi 1] [(.ref r0)]) _
          refine XS.iconst X116.here hx rfl (hb hby d23_47) ?_
          exact kt
        obtain ⟨cq119, kq119, q119a, q119b, q119c⟩ := isOf hZ e116 Ea
        obtain ⟨_, _, ⟨T120, L120, k120, n120⟩, -, X120, ⟨Lc120, hQ120, l120, y120, z120⟩, st120⟩ := X116.virtualBack hx (y := yy_4) (z := yy_4) hown (mvT hZ (own_t hw 133 rfl)) (mvT hZ (own_t hw 86 rfl)) (notFace_of_selects (args := #[]) (mvT hZ (own_t hw 88 rfl))) (mvT hZ (own_t hw 88 rfl)) (mvT hZ (own_t hw 87 rfl)) (by decide) (backOf (W := 0) (rm18 l Z a0 hw [] r0 (1 : Int32) ba ka (3 : Int32) [(.int (ua.toInt8.toInt32)), (.int (ub.toInt8.toInt32)), (.int (uc.toInt8.toInt32))] (.int 0) (ub.toInt8.toInt32) fm cs h0 n0 Z0 Ea Fa Vx0 ⟨by decide, by decide⟩ rfl SF hfm SC hcs Ca) hZ (own_t hw 89 rfl) (own_t hw 7 rfl) (by decide) (by decide)) q119a q119c (g := (mkF m 48 #[oa r0, oa r1, oi 3, oi 1] [(.int (1 : Int32)), (.ref r0)])) rfl (by rw [hml]; rfl) (Steps.refl _) (argsL := [(.int (1 : Int32))]) (rest := []) (lenOf pd_8 rfl) rfl (by show 2 * 0 + _ ≤ _; exact Nat.le_of_eq rfl) (hb hby d23_48) (fun _ _ => ⟨rfl, e116, (by decide : 0 + 0 ≤ _), (by decide : 0 + 0 ≤ _)⟩)
        dsimp only [Pt.U, Pt.locs, Pt.cells, Pt.slots] at X120 l120 y120 z120 st120 hQ120
        subst l120 y120 z120
        obtain ⟨rfl, N120q, e120⟩ := hQ120
        have N120 := Fr.app N116 N120q
        have c121 : own_G p e below T120 (mkF m 51 #[oa r0, oa r1, oi 3, oi 1] [(.int ub)]) (mkF m 51 #[oa r0, oa r1, oi 3, oi 1] [(.int (own_cc (ub.toInt8.toInt32)))]) := fun t kt => castTop (congrArg (fun zv => (mkF m 51 #[oa r0, oa r1, oi 3, oi 1] [(.int zv)])) (show (own_cc (ub.toInt8.toInt32)) = ub from own_ccv _ (rub).1 (rub).2)) kt
        have c122 : own_G p e below T120 (mkF m 53 #[oa r0, oa r1, oi 3, oi 1] [(.int (1 : Int32)), (.ref r1), (.int ub)]) (mkF m 51 #[oa r0, oa r1, oi 3, oi 1] [(.int ub)]) := by
          intro t kt
          show oS T120 (mkF m 51 #[oa r0, oa r1, oi 3, oi 1] [(.int ub)]) _
          refine XS.aloadN X120.here hx rfl (hb hby d23_51) rfl rfl ?_
          show oS T120 (mkF m 52 #[oa r0, oa r1, oi 3, oi 1] [(.ref r1), (.int ub)]) _
          refine XS.iconst X120.here hx rfl (hb hby d23_52) ?_
          exact kt
        obtain ⟨cq123, kq123, q123a, q123b, q123c⟩ := isOf hZ e120 Eb
        obtain ⟨_, _, ⟨T124, L124, k124, n124⟩, -, X124, ⟨Lc124, hQ124, l124, y124, z124⟩, st124⟩ := X120.virtualBack hx (y := yy_4) (z := yy_4) hown (mvT hZ (own_t hw 133 rfl)) (mvT hZ (own_t hw 86 rfl)) (notFace_of_selects (args := #[]) (mvT hZ (own_t hw 88 rfl))) (mvT hZ (own_t hw 88 rfl)) (mvT hZ (own_t hw 87 rfl)) (by decide) (backOf (W := 1) (rm18 l Z a0 hw [] r1 (1 : Int32) bb kb (3 : Int32) [(.int (va.toInt8.toInt32)), (.int (vb.toInt8.toInt32)), (.int (vc.toInt8.toInt32))] (.int 0) (vb.toInt8.toInt32) fm cs h0 n0 Z0 Eb Fb Vx1 ⟨by decide, by decide⟩ rfl SF hfm SC hcs Cb) hZ (own_t hw 89 rfl) (own_t hw 7 rfl) (by decide) (by decide)) q123a q123c (g := (mkF m 53 #[oa r0, oa r1, oi 3, oi 1] [(.int (1 : Int32)), (.ref r1), (.int ub)])) rfl (by rw [hml]; rfl) (Steps.refl _) (argsL := [(.int (1 : Int32))]) (rest := [(.int ub)]) (lenOf pd_8 rfl) rfl (by show 2 * 0 + _ ≤ _; exact Nat.le_of_eq rfl) (hb hby d23_53) (fun _ _ => ⟨rfl, e120, (by decide : 0 + 0 ≤ _), (by decide : 0 + 0 ≤ _)⟩)
        dsimp only [Pt.U, Pt.locs, Pt.cells, Pt.slots] at X124 l124 y124 z124 st124 hQ124
        subst l124 y124 z124
        obtain ⟨rfl, N124q, e124⟩ := hQ124
        have N124 := Fr.app N120 N124q
        have c125 : own_G p e below T124 (mkF m 56 #[oa r0, oa r1, oi 3, oi 1] [(.int vb), (.int ub)]) (mkF m 56 #[oa r0, oa r1, oi 3, oi 1] [(.int (own_cc (vb.toInt8.toInt32))), (.int ub)]) := fun t kt => castTop (congrArg (fun zv => (mkF m 56 #[oa r0, oa r1, oi 3, oi 1] [(.int zv), (.int ub)])) (show (own_cc (vb.toInt8.toInt32)) = vb from own_ccv _ (rvb).1 (rvb).2)) kt
        by_cases hc56 : ub = vb
        · -- it is
          have c126 : own_G p e below T124 (mkF m 76 #[oa r0, oa r1, oi 3, oi 1] [(.int (2 : Int32)), (.ref r0)]) (mkF m 56 #[oa r0, oa r1, oi 3, oi 1] [(.int vb), (.int ub)]) := by
            intro t kt
            show oS T124 (mkF m 56 #[oa r0, oa r1, oi 3, oi 1] [(.int vb), (.int ub)]) _
            refine XS.icmpNo X124.here hx rfl (hb hby d23_56) rfl (teq hc56).2 ?_
            show oS T124 (mkF m 59 #[oa r0, oa r1, oi 3, oi 1] []) _
            refine XS.iconst X124.here hx rfl (hb hby d23_59) ?_
            show oS T124 (mkF m 60 #[oa r0, oa r1, oi 3, oi 1] [(.int (1 : Int32))]) _
            refine XS.goto X124.here hx rfl (pc0 := 60) (pc' := 64) rfl (hb hby d23_60) (by decide) (by decide) ?_
            show oS T124 (mkF m 64 #[oa r0, oa r1, oi 3, oi 1] [(.int (1 : Int32))]) _
            refine XS.istoreN X124.here hx rfl (hb hby d23_64) rfl (l' := #[oa r0, oa r1, oi 3, oi 1]) rfl ?_
            show oS T124 (mkF m 65 #[oa r0, oa r1, oi 3, oi 1] []) _
            refine XS.iloadN X124.here hx rfl (hb hby d23_65) rfl ?_
            show oS T124 (mkF m 66 #[oa r0, oa r1, oi 3, oi 1] [(.int (3 : Int32))]) _
            refine XS.iconst X124.here hx rfl (hb hby d23_66) ?_
            show oS T124 (mkF m 67 #[oa r0, oa r1, oi 3, oi 1] [(.int (2 : Int32)), (.int (3 : Int32))]) _
            refine XS.icmpNo X124.here hx rfl (hb hby d23_67) rfl (tlt (by decide : (2 : Int32) < (3 : Int32))).2.2.2 ?_
            show oS T124 (mkF m 70 #[oa r0, oa r1, oi 3, oi 1] []) _
            refine XS.iloadN X124.here hx rfl (hb hby d23_70) rfl ?_
            show oS T124 (mkF m 71 #[oa r0, oa r1, oi 3, oi 1] [(.int (1 : Int32))]) _
            refine XS.ifNo X124.here hx rfl (hb hby d23_71) rfl ((if0 _ _).trans (feq (by decide : ¬ ((1 : Int32) = (0 : Int32)))).1) ?_
            show oS T124 (mkF m 74 #[oa r0, oa r1, oi 3, oi 1] []) _
            refine XS.aloadN X124.here hx rfl (hb hby d23_74) rfl rfl ?_
            show oS T124 (mkF m 75 #[oa r0, oa r1, oi 3, oi 1] [(.ref r0)]) _
            refine XS.iconst X124.here hx rfl (hb hby d23_75) ?_
            exact kt
          obtain ⟨cq127, kq127, q127a, q127b, q127c⟩ := isOf hZ e124 Ea
          obtain ⟨_, _, ⟨T128, L128, k128, n128⟩, -, X128, ⟨Lc128, hQ128, l128, y128, z128⟩, st128⟩ := X124.virtualBack hx (y := yy_4) (z := yy_4) hown (mvT hZ (own_t hw 133 rfl)) (mvT hZ (own_t hw 86 rfl)) (notFace_of_selects (args := #[]) (mvT hZ (own_t hw 88 rfl))) (mvT hZ (own_t hw 88 rfl)) (mvT hZ (own_t hw 87 rfl)) (by decide) (backOf (W := 0) (rm18 l Z a0 hw [] r0 (2 : Int32) ba ka (3 : Int32) [(.int (ua.toInt8.toInt32)), (.int (ub.toInt8.toInt32)), (.int (uc.toInt8.toInt32))] (.int 0) (uc.toInt8.toInt32) fm cs h0 n0 Z0 Ea Fa Vx0 ⟨by decide, by decide⟩ rfl SF hfm SC hcs Ca) hZ (own_t hw 89 rfl) (own_t hw 7 rfl) (by decide) (by decide)) q127a q127c (g := (mkF m 76 #[oa r0, oa r1, oi 3, oi 1] [(.int (2 : Int32)), (.ref r0)])) rfl (by rw [hml]; rfl) (Steps.refl _) (argsL := [(.int (2 : Int32))]) (rest := []) (lenOf pd_8 rfl) rfl (by show 2 * 0 + _ ≤ _; exact Nat.le_of_eq rfl) (hb hby d23_76) (fun _ _ => ⟨rfl, e124, (by decide : 0 + 0 ≤ _), (by decide : 0 + 0 ≤ _)⟩)
          dsimp only [Pt.U, Pt.locs, Pt.cells, Pt.slots] at X128 l128 y128 z128 st128 hQ128
          subst l128 y128 z128
          obtain ⟨rfl, N128q, e128⟩ := hQ128
          have N128 := Fr.app N124 N128q
          have c129 : own_G p e below T128 (mkF m 79 #[oa r0, oa r1, oi 3, oi 1] [(.int uc)]) (mkF m 79 #[oa r0, oa r1, oi 3, oi 1] [(.int (own_cc (uc.toInt8.toInt32)))]) := fun t kt => castTop (congrArg (fun zv => (mkF m 79 #[oa r0, oa r1, oi 3, oi 1] [(.int zv)])) (show (own_cc (uc.toInt8.toInt32)) = uc from own_ccv _ (ruc).1 (ruc).2)) kt
          have c130 : own_G p e below T128 (mkF m 81 #[oa r0, oa r1, oi 3, oi 1] [(.int (2 : Int32)), (.ref r1), (.int uc)]) (mkF m 79 #[oa r0, oa r1, oi 3, oi 1] [(.int uc)]) := by
            intro t kt
            show oS T128 (mkF m 79 #[oa r0, oa r1, oi 3, oi 1] [(.int uc)]) _
            refine XS.aloadN X128.here hx rfl (hb hby d23_79) rfl rfl ?_
            show oS T128 (mkF m 80 #[oa r0, oa r1, oi 3, oi 1] [(.ref r1), (.int uc)]) _
            refine XS.iconst X128.here hx rfl (hb hby d23_80) ?_
            exact kt
          obtain ⟨cq131, kq131, q131a, q131b, q131c⟩ := isOf hZ e128 Eb
          obtain ⟨_, _, ⟨T132, L132, k132, n132⟩, -, X132, ⟨Lc132, hQ132, l132, y132, z132⟩, st132⟩ := X128.virtualBack hx (y := yy_4) (z := yy_4) hown (mvT hZ (own_t hw 133 rfl)) (mvT hZ (own_t hw 86 rfl)) (notFace_of_selects (args := #[]) (mvT hZ (own_t hw 88 rfl))) (mvT hZ (own_t hw 88 rfl)) (mvT hZ (own_t hw 87 rfl)) (by decide) (backOf (W := 1) (rm18 l Z a0 hw [] r1 (2 : Int32) bb kb (3 : Int32) [(.int (va.toInt8.toInt32)), (.int (vb.toInt8.toInt32)), (.int (vc.toInt8.toInt32))] (.int 0) (vc.toInt8.toInt32) fm cs h0 n0 Z0 Eb Fb Vx1 ⟨by decide, by decide⟩ rfl SF hfm SC hcs Cb) hZ (own_t hw 89 rfl) (own_t hw 7 rfl) (by decide) (by decide)) q131a q131c (g := (mkF m 81 #[oa r0, oa r1, oi 3, oi 1] [(.int (2 : Int32)), (.ref r1), (.int uc)])) rfl (by rw [hml]; rfl) (Steps.refl _) (argsL := [(.int (2 : Int32))]) (rest := [(.int uc)]) (lenOf pd_8 rfl) rfl (by show 2 * 0 + _ ≤ _; exact Nat.le_of_eq rfl) (hb hby d23_81) (fun _ _ => ⟨rfl, e128, (by decide : 0 + 0 ≤ _), (by decide : 0 + 0 ≤ _)⟩)
          dsimp only [Pt.U, Pt.locs, Pt.cells, Pt.slots] at X132 l132 y132 z132 st132 hQ132
          subst l132 y132 z132
          obtain ⟨rfl, N132q, e132⟩ := hQ132
          have N132 := Fr.app N128 N132q
          have c133 : own_G p e below T132 (mkF m 84 #[oa r0, oa r1, oi 3, oi 1] [(.int vc), (.int uc)]) (mkF m 84 #[oa r0, oa r1, oi 3, oi 1] [(.int (own_cc (vc.toInt8.toInt32))), (.int uc)]) := fun t kt => castTop (congrArg (fun zv => (mkF m 84 #[oa r0, oa r1, oi 3, oi 1] [(.int zv), (.int uc)])) (show (own_cc (vc.toInt8.toInt32)) = vc from own_ccv _ (rvc).1 (rvc).2)) kt
          by_cases hc84 : uc = vc
          · -- it is
            have c134 : own_G p e below T132 (mkF m 94 #[oa r0, oa r1, oi 3, oi 1] [(.int (1 : Int32))]) (mkF m 84 #[oa r0, oa r1, oi 3, oi 1] [(.int vc), (.int uc)]) := by
              intro t kt
              show oS T132 (mkF m 84 #[oa r0, oa r1, oi 3, oi 1] [(.int vc), (.int uc)]) _
              refine XS.icmpNo X132.here hx rfl (hb hby d23_84) rfl (teq hc84).2 ?_
              show oS T132 (mkF m 87 #[oa r0, oa r1, oi 3, oi 1] []) _
              refine XS.iconst X132.here hx rfl (hb hby d23_87) ?_
              show oS T132 (mkF m 88 #[oa r0, oa r1, oi 3, oi 1] [(.int (1 : Int32))]) _
              refine XS.goto X132.here hx rfl (pc0 := 88) (pc' := 92) rfl (hb hby d23_88) (by decide) (by decide) ?_
              show oS T132 (mkF m 92 #[oa r0, oa r1, oi 3, oi 1] [(.int (1 : Int32))]) _
              refine XS.istoreN X132.here hx rfl (hb hby d23_92) rfl (l' := #[oa r0, oa r1, oi 3, oi 1]) rfl ?_
              show oS T132 (mkF m 93 #[oa r0, oa r1, oi 3, oi 1] []) _
              refine XS.iloadN X132.here hx rfl (hb hby d23_93) rfl ?_
              exact kt
            obtain ⟨fs, hr, hrun, hended, hW, hsame⟩ := X132.leave (v := some (.int (1 : Int32))) (fun h => by rw [Bd.returns] at h; cases h)
            refine ⟨_, _, pre0 _ (c101 _ (st103.trans (c104 _ (st106.trans (c107 _ (st109.trans (c110 _ (st112.trans (c113 _ (c114 _ (st116.trans (c117 _ (c118 _ (st120.trans (c121 _ (c122 _ (st124.trans (c125 _ (c126 _ (st128.trans (c129 _ (c130 _ (st132.trans (c133 _ (c134 _ (?_)))))))))))))))))))))))))), hrun, hended, _, _, rfl, ?_, ⟨_, rfl⟩, hW, hsame.mono (by decide) (by decide)⟩
            · show Steps p.tables e below (T132.setTop (mkF m 94 #[oa r0, oa r1, oi 3, oi 1] [(.int (1 : Int32))])) _
              exact retN X132 hx (t := .boolean) Bd.returns (by simp) (hb hby d23_94) hr
            · show Q23 Z r0 r1 ba bb ka kb cs fm tx ty h0 n0 _ T132.heap _
              rw [e132]
              exact ⟨congrArg (fun z => some (Value.int z)) (show (1 : Int32) = (own_same tx ty) from by rw [htx, hty]; unfold own_same; simp [hc28, hc56, hc84]), N132, rfl⟩
          · -- it isn't
            have c136 : own_G p e below T132 (mkF m 94 #[oa r0, oa r1, oi 3, oi 0] [(.int (0 : Int32))]) (mkF m 84 #[oa r0, oa r1, oi 3, oi 1] [(.int vc), (.int uc)]) := by
              intro t kt
              show oS T132 (mkF m 84 #[oa r0, oa r1, oi 3, oi 1] [(.int vc), (.int uc)]) _
              refine XS.icmpYes X132.here hx rfl (pc0 := 84) (pc' := 91) rfl (hb hby d23_84) rfl (feq hc84).2 (by decide) (by decide) ?_
              show oS T132 (mkF m 91 #[oa r0, oa r1, oi 3, oi 1] []) _
              refine XS.iconst X132.here hx rfl (hb hby d23_91) ?_
              show oS T132 (mkF m 92 #[oa r0, oa r1, oi 3, oi 1] [(.int (0 : Int32))]) _
              refine XS.istoreN X132.here hx rfl (hb hby d23_92) rfl (l' := #[oa r0, oa r1, oi 3, oi 0]) rfl ?_
              show oS T132 (mkF m 93 #[oa r0, oa r1, oi 3, oi 0] []) _
              refine XS.iloadN X132.here hx rfl (hb hby d23_93) rfl ?_
              exact kt
            obtain ⟨fs, hr, hrun, hended, hW, hsame⟩ := X132.leave (v := some (.int (0 : Int32))) (fun h => by rw [Bd.returns] at h; cases h)
            refine ⟨_, _, pre0 _ (c101 _ (st103.trans (c104 _ (st106.trans (c107 _ (st109.trans (c110 _ (st112.trans (c113 _ (c114 _ (st116.trans (c117 _ (c118 _ (st120.trans (c121 _ (c122 _ (st124.trans (c125 _ (c126 _ (st128.trans (c129 _ (c130 _ (st132.trans (c133 _ (c136 _ (?_)))))))))))))))))))))))))), hrun, hended, _, _, rfl, ?_, ⟨_, rfl⟩, hW, hsame.mono (by decide) (by decide)⟩
            · show Steps p.tables e below (T132.setTop (mkF m 94 #[oa r0, oa r1, oi 3, oi 0] [(.int (0 : Int32))])) _
              exact retN X132 hx (t := .boolean) Bd.returns (by simp) (hb hby d23_94) hr
            · show Q23 Z r0 r1 ba bb ka kb cs fm tx ty h0 n0 _ T132.heap _
              rw [e132]
              exact ⟨congrArg (fun z => some (Value.int z)) (show (0 : Int32) = (own_same tx ty) from by rw [htx, hty]; unfold own_same; simp [hc28, hc56, hc84]), N132, rfl⟩
        · -- it isn't
          have c138 : own_G p e below T124 (mkF m 94 #[oa r0, oa r1, oi 3, oi 0] [(.int (0 : Int32))]) (mkF m 56 #[oa r0, oa r1, oi 3, oi 1] [(.int vb), (.int ub)]) := by
            intro t kt
            show oS T124 (mkF m 56 #[oa r0, oa r1, oi 3, oi 1] [(.int vb), (.int ub)]) _
            refine XS.icmpYes X124.here hx rfl (pc0 := 56) (pc' := 63) rfl (hb hby d23_56) rfl (feq hc56).2 (by decide) (by decide) ?_
            show oS T124 (mkF m 63 #[oa r0, oa r1, oi 3, oi 1] []) _
            refine XS.iconst X124.here hx rfl (hb hby d23_63) ?_
            show oS T124 (mkF m 64 #[oa r0, oa r1, oi 3, oi 1] [(.int (0 : Int32))]) _
            refine XS.istoreN X124.here hx rfl (hb hby d23_64) rfl (l' := #[oa r0, oa r1, oi 3, oi 0]) rfl ?_
            show oS T124 (mkF m 65 #[oa r0, oa r1, oi 3, oi 0] []) _
            refine XS.iloadN X124.here hx rfl (hb hby d23_65) rfl ?_
            show oS T124 (mkF m 66 #[oa r0, oa r1, oi 3, oi 0] [(.int (3 : Int32))]) _
            refine XS.iconst X124.here hx rfl (hb hby d23_66) ?_
            show oS T124 (mkF m 67 #[oa r0, oa r1, oi 3, oi 0] [(.int (2 : Int32)), (.int (3 : Int32))]) _
            refine XS.icmpNo X124.here hx rfl (hb hby d23_67) rfl (tlt (by decide : (2 : Int32) < (3 : Int32))).2.2.2 ?_
            show oS T124 (mkF m 70 #[oa r0, oa r1, oi 3, oi 0] []) _
            refine XS.iloadN X124.here hx rfl (hb hby d23_70) rfl ?_
            show oS T124 (mkF m 71 #[oa r0, oa r1, oi 3, oi 0] [(.int (0 : Int32))]) _
            refine XS.ifYes X124.here hx rfl (pc0 := 71) (pc' := 91) rfl (hb hby d23_71) rfl ((if0 _ _).trans (teq (by decide : (0 : Int32) = (0 : Int32))).1) (by decide) (by decide) ?_
            show oS T124 (mkF m 91 #[oa r0, oa r1, oi 3, oi 0] []) _
            refine XS.iconst X124.here hx rfl (hb hby d23_91) ?_
            show oS T124 (mkF m 92 #[oa r0, oa r1, oi 3, oi 0] [(.int (0 : Int32))]) _
            refine XS.istoreN X124.here hx rfl (hb hby d23_92) rfl (l' := #[oa r0, oa r1, oi 3, oi 0]) rfl ?_
            show oS T124 (mkF m 93 #[oa r0, oa r1, oi 3, oi 0] []) _
            refine XS.iloadN X124.here hx rfl (hb hby d23_93) rfl ?_
            exact kt
          obtain ⟨fs, hr, hrun, hended, hW, hsame⟩ := X124.leave (v := some (.int (0 : Int32))) (fun h => by rw [Bd.returns] at h; cases h)
          refine ⟨_, _, pre0 _ (c101 _ (st103.trans (c104 _ (st106.trans (c107 _ (st109.trans (c110 _ (st112.trans (c113 _ (c114 _ (st116.trans (c117 _ (c118 _ (st120.trans (c121 _ (c122 _ (st124.trans (c125 _ (c138 _ (?_)))))))))))))))))))), hrun, hended, _, _, rfl, ?_, ⟨_, rfl⟩, hW, hsame.mono (by decide) (by decide)⟩
          · show Steps p.tables e below (T124.setTop (mkF m 94 #[oa r0, oa r1, oi 3, oi 0] [(.int (0 : Int32))])) _
            exact retN X124 hx (t := .boolean) Bd.returns (by simp) (hb hby d23_94) hr
          · show Q23 Z r0 r1 ba bb ka kb cs fm tx ty h0 n0 _ T124.heap _
            rw [e124]
            exact ⟨congrArg (fun z => some (Value.int z)) (show (0 : Int32) = (own_same tx ty) from by rw [htx, hty]; unfold own_same; simp [hc28, hc56]), N124, rfl⟩
      · -- it isn't
        have c140 : own_G p e below T116 (mkF m 94 #[oa r0, oa r1, oi 3, oi 0] [(.int (0 : Int32))]) (mkF m 28 #[oa r0, oa r1, oi 3, .unset] [(.int va), (.int ua)]) := by
          intro t kt
          show oS T116 (mkF m 28 #[oa r0, oa r1, oi 3, .unset] [(.int va), (.int ua)]) _
          refine XS.icmpYes X116.here hx rfl (pc0 := 28) (pc' := 35) rfl (hb hby d23_28) rfl (feq hc28).2 (by decide) (by decide) ?_
          show oS T116 (mkF m 35 #[oa r0, oa r1, oi 3, .unset] []) _
          refine XS.iconst X116.here hx rfl (hb hby d23_35) ?_
          show oS T116 (mkF m 36 #[oa r0, oa r1, oi 3, .unset] [(.int (0 : Int32))]) _
          refine XS.istoreN X116.here hx rfl (hb hby d23_36) rfl (l' := #[oa r0, oa r1, oi 3, oi 0]) rfl ?_
          show oS T116 (mkF m 37 #[oa r0, oa r1, oi 3, oi 0] []) _
          refine XS.iloadN X116.here hx rfl (hb hby d23_37) rfl ?_
          show oS T116 (mkF m 38 #[oa r0, oa r1, oi 3, oi 0] [(.int (3 : Int32))]) _
          refine XS.iconst X116.here hx rfl (hb hby d23_38) ?_
          show oS T116 (mkF m 39 #[oa r0, oa r1, oi 3, oi 0] [(.int (1 : Int32)), (.int (3 : Int32))]) _
          refine XS.icmpNo X116.here hx rfl (hb hby d23_39) rfl (tlt (by decide : (1 : Int32) < (3 : Int32))).2.2.2 ?_
          show oS T116 (mkF m 42 #[oa r0, oa r1, oi 3, oi 0] []) _
          refine XS.iloadN X116.here hx rfl (hb hby d23_42) rfl ?_
          show oS T116 (mkF m 43 #[oa r0, oa r1, oi 3, oi 0] [(.int (0 : Int32))]) _
          refine XS.ifYes X116.here hx rfl (pc0 := 43) (pc' := 63) rfl (hb hby d23_43) rfl ((if0 _ _).trans (teq (by decide : (0 : Int32) = (0 : Int32))).1) (by decide) (by decide) ?_
          show oS T116 (mkF m 63 #[oa r0, oa r1, oi 3, oi 0] []) _
          refine XS.iconst X116.here hx rfl (hb hby d23_63) ?_
          show oS T116 (mkF m 64 #[oa r0, oa r1, oi 3, oi 0] [(.int (0 : Int32))]) _
          refine XS.istoreN X116.here hx rfl (hb hby d23_64) rfl (l' := #[oa r0, oa r1, oi 3, oi 0]) rfl ?_
          show oS T116 (mkF m 65 #[oa r0, oa r1, oi 3, oi 0] []) _
          refine XS.iloadN X116.here hx rfl (hb hby d23_65) rfl ?_
          show oS T116 (mkF m 66 #[oa r0, oa r1, oi 3, oi 0] [(.int (3 : Int32))]) _
          refine XS.iconst X116.here hx rfl (hb hby d23_66) ?_
          show oS T116 (mkF m 67 #[oa r0, oa r1, oi 3, oi 0] [(.int (2 : Int32)), (.int (3 : Int32))]) _
          refine XS.icmpNo X116.here hx rfl (hb hby d23_67) rfl (tlt (by decide : (2 : Int32) < (3 : Int32))).2.2.2 ?_
          show oS T116 (mkF m 70 #[oa r0, oa r1, oi 3, oi 0] []) _
          refine XS.iloadN X116.here hx rfl (hb hby d23_70) rfl ?_
          show oS T116 (mkF m 71 #[oa r0, oa r1, oi 3, oi 0] [(.int (0 : Int32))]) _
          refine XS.ifYes X116.here hx rfl (pc0 := 71) (pc' := 91) rfl (hb hby d23_71) rfl ((if0 _ _).trans (teq (by decide : (0 : Int32) = (0 : Int32))).1) (by decide) (by decide) ?_
          show oS T116 (mkF m 91 #[oa r0, oa r1, oi 3, oi 0] []) _
          refine XS.iconst X116.here hx rfl (hb hby d23_91) ?_
          show oS T116 (mkF m 92 #[oa r0, oa r1, oi 3, oi 0] [(.int (0 : Int32))]) _
          refine XS.istoreN X116.here hx rfl (hb hby d23_92) rfl (l' := #[oa r0, oa r1, oi 3, oi 0]) rfl ?_
          show oS T116 (mkF m 93 #[oa r0, oa r1, oi 3, oi 0] []) _
          refine XS.iloadN X116.here hx rfl (hb hby d23_93) rfl ?_
          exact kt
        obtain ⟨fs, hr, hrun, hended, hW, hsame⟩ := X116.leave (v := some (.int (0 : Int32))) (fun h => by rw [Bd.returns] at h; cases h)
        refine ⟨_, _, pre0 _ (c101 _ (st103.trans (c104 _ (st106.trans (c107 _ (st109.trans (c110 _ (st112.trans (c113 _ (c114 _ (st116.trans (c117 _ (c140 _ (?_)))))))))))))), hrun, hended, _, _, rfl, ?_, ⟨_, rfl⟩, hW, hsame.mono (by decide) (by decide)⟩
        · show Steps p.tables e below (T116.setTop (mkF m 94 #[oa r0, oa r1, oi 3, oi 0] [(.int (0 : Int32))])) _
          exact retN X116 hx (t := .boolean) Bd.returns (by simp) (hb hby d23_94) hr
        · show Q23 Z r0 r1 ba bb ka kb cs fm tx ty h0 n0 _ T116.heap _
          rw [e116]
          exact ⟨congrArg (fun z => some (Value.int z)) (show (0 : Int32) = (own_same tx ty) from by rw [htx, hty]; unfold own_same; simp [hc28]), N116, rfl⟩
theorem d26_0 : decode jdk_43_method_13_code 0 = .ok (.aload_n 0, 1) := by decide +kernel
theorem d26_1 : decode jdk_43_method_13_code 1 = .ok (.arraylength, 1) := by decide +kernel
theorem d26_2 : decode jdk_43_method_13_code 2 = .ok (.aload_n 1, 1) := by decide +kernel
theorem d26_3 : decode jdk_43_method_13_code 3 = .ok (.arraylength, 1) := by decide +kernel
theorem d26_4 : decode jdk_43_method_13_code 4 = .ok (.if_icmp .ne 30, 3) := by decide +kernel
theorem d26_7 : decode jdk_43_method_13_code 7 = .ok (.iconst 0, 1) := by decide +kernel
theorem d26_8 : decode jdk_43_method_13_code 8 = .ok (.istore_n 2, 1) := by decide +kernel
theorem d26_9 : decode jdk_43_method_13_code 9 = .ok (.iload_n 2, 1) := by decide +kernel
theorem d26_10 : decode jdk_43_method_13_code 10 = .ok (.aload_n 0, 1) := by decide +kernel
theorem d26_11 : decode jdk_43_method_13_code 11 = .ok (.arraylength, 1) := by decide +kernel
theorem d26_12 : decode jdk_43_method_13_code 12 = .ok (.if_icmp .ge 20, 3) := by decide +kernel
theorem d26_15 : decode jdk_43_method_13_code 15 = .ok (.aload_n 0, 1) := by decide +kernel
theorem d26_16 : decode jdk_43_method_13_code 16 = .ok (.iload_n 2, 1) := by decide +kernel
theorem d26_17 : decode jdk_43_method_13_code 17 = .ok (.baload, 1) := by decide +kernel
theorem d26_18 : decode jdk_43_method_13_code 18 = .ok (.aload_n 1, 1) := by decide +kernel
theorem d26_19 : decode jdk_43_method_13_code 19 = .ok (.iload_n 2, 1) := by decide +kernel
theorem d26_20 : decode jdk_43_method_13_code 20 = .ok (.baload, 1) := by decide +kernel
theorem d26_21 : decode jdk_43_method_13_code 21 = .ok (.if_icmp .eq 5, 3) := by decide +kernel
theorem d26_24 : decode jdk_43_method_13_code 24 = .ok (.iconst 0, 1) := by decide +kernel
theorem d26_25 : decode jdk_43_method_13_code 25 = .ok (.ireturn, 1) := by decide +kernel
theorem d26_26 : decode jdk_43_method_13_code 26 = .ok (.iinc 2 1, 3) := by decide +kernel
theorem d26_29 : decode jdk_43_method_13_code 29 = .ok (.goto (-20), 3) := by decide +kernel
theorem d26_32 : decode jdk_43_method_13_code 32 = .ok (.iconst 1, 1) := by decide +kernel
theorem d26_33 : decode jdk_43_method_13_code 33 = .ok (.ireturn, 1) := by decide +kernel
theorem d26_34 : decode jdk_43_method_13_code 34 = .ok (.iconst 0, 1) := by decide +kernel
theorem d26_35 : decode jdk_43_method_13_code 35 = .ok (.ireturn, 1) := by decide +kernel
theorem pn_26 : plainName "java/lang/StringLatin1" = true := by first | (simp [plainName, overriddenIn]; done) | decide +kernel
theorem ef_26 (m : MethodId) (x0 : Addr) (x1 : Addr) : entryFrame m #[(.ref x0), (.ref x1)] 3 = mkF m 0 #[.val (.ref x0), .val (.ref x1), .unset] [] := by first | (simp [entryFrame, mkF, argsToLocals, Value.category]; done) | rfl
def Q26 (Z : State) (r0 : Addr) (r1 : Addr) (ka kb : ClassId) (tx ty : List Int32) (h0 : Heap) (n0 : Nat) (v : Option Value) (h : Heap) (L : List Loc) : Prop := v = some (.int (own_same tx ty)) ∧ Fr n0 L ∧ h = h0
set_option maxRecDepth 65536 in
set_option maxHeartbeats 40000000 in
theorem rm26 (l : Launch) (Z : State) (a0 : Array Value) (hw : ∀ d ∈ tables_1, d.before a0 Z = true) (ws : List Jvm.Cond) (r0 : Addr) (r1 : Addr) (ka kb : ClassId) (tx ty : List Int32) (h0 : Heap) (n0 : Nat) (Z0 : n0 ≤ h0.size) (Va : Arv Z h0 r0 ka .byte (Int32.ofNat tx.length) ((tx.map (fun c => c.toInt8.toInt32)).map Value.int) (.int 0)) (Vb : Arv Z h0 r1 kb .byte (Int32.ofNat ty.length) ((ty.map (fun c => c.toInt8.toInt32)).map Value.int) (.int 0)) (hlx : own_l3 tx) (hly : own_l3 ty) :
    MetFree l yy_18 (head1 (Jvm.Cond.code yy_18 jdk_43_method_13_code 3 (some .boolean) :: ws) ({ frames := 0, cells := 0, slots := 0, locals := 0 } : Room)) (fun a U => a = #[(.ref r0), (.ref r1)] ∧ Z.Warmed39 U.vm ∧ U.heap = h0) (fun _ _ _ _ _ => True) (fun _ U o U' => ∃ v L, o = .returned v ∧ Q26 Z r0 r1 ka kb tx ty h0 n0 v U'.heap L ∧ FrameEnd U o U' L ({ frames := 0, cells := 0, slots := 0, locals := 0 } : Room).cells ({ frames := 0, cells := 0, slots := 0, locals := 0 } : Room).slots) := by
  refine MetFree.of_bodySF (plainFor_of_name pn_26) hisR ?_
  intro p e s m args below meth c s₁ Bd hml0 hP hK
  obtain ⟨rfl, hZ, hh⟩ := hP
  have hx := Bd.exec
  have hby := Bd.bytes
  have hml : c.maxLocals = 3 := hml0
  have hown : s.vm.findClass "java/lang/StringLatin1" = some m.cls := findClass_of_methodNamed Bd.named
  have hnm := (name_of_methodNamed Bd.named Bd.method).1
  have X0 : Stand p l e ({ frames := 0, cells := 0, slots := 0, locals := 0 } : Room) s m #[(.ref r0), (.ref r1)] below meth c s₁ [] 0 0 := Stand.of_body Bd
  have e0 : s₁.heap = h0 := by rw [← hh, Bd.state]; rfl
  have N0 := Fr.nil n0
  have pre0 : ∀ t, Steps p.tables e below (s₁.setTop (mkF m 0 #[oa r0, oa r1, .unset] [])) t → Steps p.tables e below (s₁.setTop (entryFrame m #[(.ref r0), (.ref r1)] 3)) t := fun t k => castTop (ef_26 m r0 r1) k
  rcases hlx with ⟨ua, htx, rua⟩ | ⟨ua, ub, htx, rua, rub⟩ | ⟨ua, ub, uc, htx, rua, rub, ruc⟩
  · skip
    rw [htx] at Va
    have Vx0 : Arv Z h0 r0 ka .byte (1 : Int32) [(.int (ua.toInt8.toInt32))] (.int 0) := Va
    rcases hly with ⟨va, hty, rva⟩ | ⟨va, vb, hty, rva, rvb⟩ | ⟨va, vb, vc, hty, rva, rvb, rvc⟩
    · skip
      rw [hty] at Vb
      have Vx1 : Arv Z h0 r1 kb .byte (1 : Int32) [(.int (va.toInt8.toInt32))] (.int 0) := Vb
      have Vc1 := Vx0
      obtain ⟨cl1, Ar1, qk1, S1, M1, H1, G1⟩ := Vc1
      have Vc2 := Vx1
      obtain ⟨cl2, Ar2, qk2, S2, M2, H2, G2⟩ := Vc2
      have Vc3 := Vx0
      obtain ⟨cl3, Ar3, qk3, S3, M3, H3, G3⟩ := Vc3
      have Vc4 := Vx0
      obtain ⟨cl4, Ar4, qk4, S4, M4, H4, G4⟩ := Vc4
      have hin4 : ¬ ((0 : Int32) < 0 ∨ cl4.slots.size ≤ ((0 : Int32)).toNatClampNeg) := inb_of S4 ⟨by decide, by decide⟩
      have hat4 : cl4.slots[((0 : Int32)).toNatClampNeg]? = some (.int (ua.toInt8.toInt32)) := H4.at hin4 rfl
      have Vc5 := Vx1
      obtain ⟨cl5, Ar5, qk5, S5, M5, H5, G5⟩ := Vc5
      have hin5 : ¬ ((0 : Int32) < 0 ∨ cl5.slots.size ≤ ((0 : Int32)).toNatClampNeg) := inb_of S5 ⟨by decide, by decide⟩
      have hat5 : cl5.slots[((0 : Int32)).toNatClampNeg]? = some (.int (va.toInt8.toInt32)) := H5.at hin5 rfl
      have c6 : own_G p e below s₁ (mkF m 21 #[oa r0, oa r1, oi 0] [(.int (va.toInt8.toInt32)), (.int (ua.toInt8.toInt32))]) (mkF m 0 #[oa r0, oa r1, .unset] []) := by
        intro t kt
        show oS s₁ (mkF m 0 #[oa r0, oa r1, .unset] []) _
        refine XS.aloadN X0.here hx rfl (hb hby d26_0) rfl rfl ?_
        show oS s₁ (mkF m 1 #[oa r0, oa r1, .unset] [(.ref r0)]) _
        refine X0.arraylength hx (by rw [e0]; exact Ar1.1) (State.isArrayOf_alike hZ.alike Ar1.2.1) (g := (mkF m 1 #[oa r0, oa r1, .unset] [(.ref r0)])) rfl rfl (hb hby d26_1) _ ?_
        rw [len_of S1 M1]
        show oS s₁ (mkF m 2 #[oa r0, oa r1, .unset] [(.int (1 : Int32))]) _
        refine XS.aloadN X0.here hx rfl (hb hby d26_2) rfl rfl ?_
        show oS s₁ (mkF m 3 #[oa r0, oa r1, .unset] [(.ref r1), (.int (1 : Int32))]) _
        refine X0.arraylength hx (by rw [e0]; exact Ar2.1) (State.isArrayOf_alike hZ.alike Ar2.2.1) (g := (mkF m 3 #[oa r0, oa r1, .unset] [(.ref r1), (.int (1 : Int32))])) rfl rfl (hb hby d26_3) _ ?_
        rw [len_of S2 M2]
        show oS s₁ (mkF m 4 #[oa r0, oa r1, .unset] [(.int (1 : Int32)), (.int (1 : Int32))]) _
        refine XS.icmpNo X0.here hx rfl (hb hby d26_4) rfl (teq (by decide : (1 : Int32) = (1 : Int32))).2 ?_
        show oS s₁ (mkF m 7 #[oa r0, oa r1, .unset] []) _
        refine XS.iconst X0.here hx rfl (hb hby d26_7) ?_
        show oS s₁ (mkF m 8 #[oa r0, oa r1, .unset] [(.int (0 : Int32))]) _
        refine XS.istoreN X0.here hx rfl (hb hby d26_8) rfl (l' := #[oa r0, oa r1, oi 0]) rfl ?_
        show oS s₁ (mkF m 9 #[oa r0, oa r1, oi 0] []) _
        refine XS.iloadN X0.here hx rfl (hb hby d26_9) rfl ?_
        show oS s₁ (mkF m 10 #[oa r0, oa r1, oi 0] [(.int (0 : Int32))]) _
        refine XS.aloadN X0.here hx rfl (hb hby d26_10) rfl rfl ?_
        show oS s₁ (mkF m 11 #[oa r0, oa r1, oi 0] [(.ref r0), (.int (0 : Int32))]) _
        refine X0.arraylength hx (by rw [e0]; exact Ar3.1) (State.isArrayOf_alike hZ.alike Ar3.2.1) (g := (mkF m 11 #[oa r0, oa r1, oi 0] [(.ref r0), (.int (0 : Int32))])) rfl rfl (hb hby d26_11) _ ?_
        rw [len_of S3 M3]
        show oS s₁ (mkF m 12 #[oa r0, oa r1, oi 0] [(.int (1 : Int32)), (.int (0 : Int32))]) _
        refine XS.icmpNo X0.here hx rfl (hb hby d26_12) rfl (tlt (by decide : (0 : Int32) < (1 : Int32))).2.1 ?_
        show oS s₁ (mkF m 15 #[oa r0, oa r1, oi 0] []) _
        refine XS.aloadN X0.here hx rfl (hb hby d26_15) rfl rfl ?_
        show oS s₁ (mkF m 16 #[oa r0, oa r1, oi 0] [(.ref r0)]) _
        refine XS.iloadN X0.here hx rfl (hb hby d26_16) rfl ?_
        show oS s₁ (mkF m 17 #[oa r0, oa r1, oi 0] [(.int (0 : Int32)), (.ref r0)]) _
        refine X0.baloadBytes hx (j := (0 : Int32)) (v := (.int (ua.toInt8.toInt32))) (by rw [e0]; exact Ar4.1) (State.isArrayOf_alike hZ.alike Ar4.2.1) Ar4.2.2 hin4 hat4 (g := (mkF m 17 #[oa r0, oa r1, oi 0] [(.int (0 : Int32)), (.ref r0)])) rfl rfl (hb hby d26_17) _ ?_
        show oS s₁ (mkF m 18 #[oa r0, oa r1, oi 0] [(.int (ua.toInt8.toInt32))]) _
        refine XS.aloadN X0.here hx rfl (hb hby d26_18) rfl rfl ?_
        show oS s₁ (mkF m 19 #[oa r0, oa r1, oi 0] [(.ref r1), (.int (ua.toInt8.toInt32))]) _
        refine XS.iloadN X0.here hx rfl (hb hby d26_19) rfl ?_
        show oS s₁ (mkF m 20 #[oa r0, oa r1, oi 0] [(.int (0 : Int32)), (.ref r1), (.int (ua.toInt8.toInt32))]) _
        refine X0.baloadBytes hx (j := (0 : Int32)) (v := (.int (va.toInt8.toInt32))) (by rw [e0]; exact Ar5.1) (State.isArrayOf_alike hZ.alike Ar5.2.1) Ar5.2.2 hin5 hat5 (g := (mkF m 20 #[oa r0, oa r1, oi 0] [(.int (0 : Int32)), (.ref r1), (.int (ua.toInt8.toInt32))])) rfl rfl (hb hby d26_20) _ ?_
        exact kt
      by_cases hc21 : (ua.toInt8.toInt32) = (va.toInt8.toInt32)
      · -- it is
        have Vc7 := Vx0
        obtain ⟨cl7, Ar7, qk7, S7, M7, H7, G7⟩ := Vc7
        have c8 : own_G p e below s₁ (mkF m 33 #[oa r0, oa r1, oi ((0 : Int32) + (1 : Int32))] [(.int (1 : Int32))]) (mkF m 21 #[oa r0, oa r1, oi 0] [(.int (va.toInt8.toInt32)), (.int (ua.toInt8.toInt32))]) := by
          intro t kt
          show oS s₁ (mkF m 21 #[oa r0, oa r1, oi 0] [(.int (va.toInt8.toInt32)), (.int (ua.toInt8.toInt32))]) _
          refine XS.icmpYes X0.here hx rfl (pc0 := 21) (pc' := 26) rfl (hb hby d26_21) rfl (teq hc21).1 (by decide) (by decide) ?_
          show oS s₁ (mkF m 26 #[oa r0, oa r1, oi 0] []) _
          refine XS.iinc X0.here hx rfl (hb hby d26_26) rfl (l' := #[oa r0, oa r1, oi ((0 : Int32) + (1 : Int32))]) rfl ?_
          show oS s₁ (mkF m 29 #[oa r0, oa r1, oi ((0 : Int32) + (1 : Int32))] []) _
          refine XS.goto X0.here hx rfl (pc0 := 29) (pc' := 9) rfl (hb hby d26_29) (by decide) (by decide) ?_
          show oS s₁ (mkF m 9 #[oa r0, oa r1, oi ((0 : Int32) + (1 : Int32))] []) _
          refine XS.iloadN X0.here hx rfl (hb hby d26_9) rfl ?_
          show oS s₁ (mkF m 10 #[oa r0, oa r1, oi ((0 : Int32) + (1 : Int32))] [(.int ((0 : Int32) + (1 : Int32)))]) _
          refine XS.aloadN X0.here hx rfl (hb hby d26_10) rfl rfl ?_
          show oS s₁ (mkF m 11 #[oa r0, oa r1, oi ((0 : Int32) + (1 : Int32))] [(.ref r0), (.int ((0 : Int32) + (1 : Int32)))]) _
          refine X0.arraylength hx (by rw [e0]; exact Ar7.1) (State.isArrayOf_alike hZ.alike Ar7.2.1) (g := (mkF m 11 #[oa r0, oa r1, oi ((0 : Int32) + (1 : Int32))] [(.ref r0), (.int ((0 : Int32) + (1 : Int32)))])) rfl rfl (hb hby d26_11) _ ?_
          rw [len_of S7 M7]
          show oS s₁ (mkF m 12 #[oa r0, oa r1, oi ((0 : Int32) + (1 : Int32))] [(.int (1 : Int32)), (.int ((0 : Int32) + (1 : Int32)))]) _
          refine XS.icmpYes X0.here hx rfl (pc0 := 12) (pc' := 32) rfl (hb hby d26_12) rfl (flt (by decide : ¬ (((0 : Int32) + (1 : Int32)) < (1 : Int32)))).2.1 (by decide) (by decide) ?_
          show oS s₁ (mkF m 32 #[oa r0, oa r1, oi ((0 : Int32) + (1 : Int32))] []) _
          refine XS.iconst X0.here hx rfl (hb hby d26_32) ?_
          exact kt
        obtain ⟨fs, hr, hrun, hended, hW, hsame⟩ := X0.leave (v := some (.int (1 : Int32))) (fun h => by rw [Bd.returns] at h; cases h)
        refine ⟨_, _, pre0 _ (c6 _ (c8 _ (?_))), hrun, hended, _, _, rfl, ?_, ⟨_, rfl⟩, hW, hsame.mono (by decide) (by decide)⟩
        · show Steps p.tables e below (s₁.setTop (mkF m 33 #[oa r0, oa r1, oi ((0 : Int32) + (1 : Int32))] [(.int (1 : Int32))])) _
          exact retN X0 hx (t := .boolean) Bd.returns (by simp) (hb hby d26_33) hr
        · show Q26 Z r0 r1 ka kb tx ty h0 n0 _ s₁.heap _
          rw [e0]
          exact ⟨congrArg (fun z => some (Value.int z)) (show (1 : Int32) = (own_same tx ty) from by rw [own_b8 rua rva] at hc21; rw [htx, hty]; unfold own_same; simp [hc21]), N0, rfl⟩
      · -- it isn't
        have c10 : own_G p e below s₁ (mkF m 25 #[oa r0, oa r1, oi 0] [(.int (0 : Int32))]) (mkF m 21 #[oa r0, oa r1, oi 0] [(.int (va.toInt8.toInt32)), (.int (ua.toInt8.toInt32))]) := by
          intro t kt
          show oS s₁ (mkF m 21 #[oa r0, oa r1, oi 0] [(.int (va.toInt8.toInt32)), (.int (ua.toInt8.toInt32))]) _
          refine XS.icmpNo X0.here hx rfl (hb hby d26_21) rfl (feq hc21).1 ?_
          show oS s₁ (mkF m 24 #[oa r0, oa r1, oi 0] []) _
          refine XS.iconst X0.here hx rfl (hb hby d26_24) ?_
          exact kt
        obtain ⟨fs, hr, hrun, hended, hW, hsame⟩ := X0.leave (v := some (.int (0 : Int32))) (fun h => by rw [Bd.returns] at h; cases h)
        refine ⟨_, _, pre0 _ (c6 _ (c10 _ (?_))), hrun, hended, _, _, rfl, ?_, ⟨_, rfl⟩, hW, hsame.mono (by decide) (by decide)⟩
        · show Steps p.tables e below (s₁.setTop (mkF m 25 #[oa r0, oa r1, oi 0] [(.int (0 : Int32))])) _
          exact retN X0 hx (t := .boolean) Bd.returns (by simp) (hb hby d26_25) hr
        · show Q26 Z r0 r1 ka kb tx ty h0 n0 _ s₁.heap _
          rw [e0]
          exact ⟨congrArg (fun z => some (Value.int z)) (show (0 : Int32) = (own_same tx ty) from by rw [own_b8 rua rva] at hc21; rw [htx, hty]; unfold own_same; simp [hc21]), N0, rfl⟩
    · skip
      rw [hty] at Vb
      have Vx1 : Arv Z h0 r1 kb .byte (2 : Int32) [(.int (va.toInt8.toInt32)), (.int (vb.toInt8.toInt32))] (.int 0) := Vb
      have Vc12 := Vx0
      obtain ⟨cl12, Ar12, qk12, S12, M12, H12, G12⟩ := Vc12
      have Vc13 := Vx1
      obtain ⟨cl13, Ar13, qk13, S13, M13, H13, G13⟩ := Vc13
      have c14 : own_G p e below s₁ (mkF m 35 #[oa r0, oa r1, .unset] [(.int (0 : Int32))]) (mkF m 0 #[oa r0, oa r1, .unset] []) := by
        intro t kt
        show oS s₁ (mkF m 0 #[oa r0, oa r1, .unset] []) _
        refine XS.aloadN X0.here hx rfl (hb hby d26_0) rfl rfl ?_
        show oS s₁ (mkF m 1 #[oa r0, oa r1, .unset] [(.ref r0)]) _
        refine X0.arraylength hx (by rw [e0]; exact Ar12.1) (State.isArrayOf_alike hZ.alike Ar12.2.1) (g := (mkF m 1 #[oa r0, oa r1, .unset] [(.ref r0)])) rfl rfl (hb hby d26_1) _ ?_
        rw [len_of S12 M12]
        show oS s₁ (mkF m 2 #[oa r0, oa r1, .unset] [(.int (1 : Int32))]) _
        refine XS.aloadN X0.here hx rfl (hb hby d26_2) rfl rfl ?_
        show oS s₁ (mkF m 3 #[oa r0, oa r1, .unset] [(.ref r1), (.int (1 : Int32))]) _
        refine X0.arraylength hx (by rw [e0]; exact Ar13.1) (State.isArrayOf_alike hZ.alike Ar13.2.1) (g := (mkF m 3 #[oa r0, oa r1, .unset] [(.ref r1), (.int (1 : Int32))])) rfl rfl (hb hby d26_3) _ ?_
        rw [len_of S13 M13]
        show oS s₁ (mkF m 4 #[oa r0, oa r1, .unset] [(.int (2 : Int32)), (.int (1 : Int32))]) _
        refine XS.icmpYes X0.here hx rfl (pc0 := 4) (pc' := 34) rfl (hb hby d26_4) rfl (feq (by decide : ¬ ((1 : Int32) = (2 : Int32)))).2 (by decide) (by decide) ?_
        show oS s₁ (mkF m 34 #[oa r0, oa r1, .unset] []) _
        refine XS.iconst X0.here hx rfl (hb hby d26_34) ?_
        exact kt
      obtain ⟨fs, hr, hrun, hended, hW, hsame⟩ := X0.leave (v := some (.int (0 : Int32))) (fun h => by rw [Bd.returns] at h; cases h)
      refine ⟨_, _, pre0 _ (c14 _ (?_)), hrun, hended, _, _, rfl, ?_, ⟨_, rfl⟩, hW, hsame.mono (by decide) (by decide)⟩
      · show Steps p.tables e below (s₁.setTop (mkF m 35 #[oa r0, oa r1, .unset] [(.int (0 : Int32))])) _
        exact retN X0 hx (t := .boolean) Bd.returns (by simp) (hb hby d26_35) hr
      · show Q26 Z r0 r1 ka kb tx ty h0 n0 _ s₁.heap _
        rw [e0]
        exact ⟨congrArg (fun z => some (Value.int z)) (show (0 : Int32) = (own_same tx ty) from by rw [htx, hty]; unfold own_same; simp []), N0, rfl⟩
    · skip
      rw [hty] at Vb
      have Vx1 : Arv Z h0 r1 kb .byte (3 : Int32) [(.int (va.toInt8.toInt32)), (.int (vb.toInt8.toInt32)), (.int (vc.toInt8.toInt32))] (.int 0) := Vb
      have Vc16 := Vx0
      obtain ⟨cl16, Ar16, qk16, S16, M16, H16, G16⟩ := Vc16
      have Vc17 := Vx1
      obtain ⟨cl17, Ar17, qk17, S17, M17, H17, G17⟩ := Vc17
      have c18 : own_G p e below s₁ (mkF m 35 #[oa r0, oa r1, .unset] [(.int (0 : Int32))]) (mkF m 0 #[oa r0, oa r1, .unset] []) := by
        intro t kt
        show oS s₁ (mkF m 0 #[oa r0, oa r1, .unset] []) _
        refine XS.aloadN X0.here hx rfl (hb hby d26_0) rfl rfl ?_
        show oS s₁ (mkF m 1 #[oa r0, oa r1, .unset] [(.ref r0)]) _
        refine X0.arraylength hx (by rw [e0]; exact Ar16.1) (State.isArrayOf_alike hZ.alike Ar16.2.1) (g := (mkF m 1 #[oa r0, oa r1, .unset] [(.ref r0)])) rfl rfl (hb hby d26_1) _ ?_
        rw [len_of S16 M16]
        show oS s₁ (mkF m 2 #[oa r0, oa r1, .unset] [(.int (1 : Int32))]) _
        refine XS.aloadN X0.here hx rfl (hb hby d26_2) rfl rfl ?_
        show oS s₁ (mkF m 3 #[oa r0, oa r1, .unset] [(.ref r1), (.int (1 : Int32))]) _
        refine X0.arraylength hx (by rw [e0]; exact Ar17.1) (State.isArrayOf_alike hZ.alike Ar17.2.1) (g := (mkF m 3 #[oa r0, oa r1, .unset] [(.ref r1), (.int (1 : Int32))])) rfl rfl (hb hby d26_3) _ ?_
        rw [len_of S17 M17]
        show oS s₁ (mkF m 4 #[oa r0, oa r1, .unset] [(.int (3 : Int32)), (.int (1 : Int32))]) _
        refine XS.icmpYes X0.here hx rfl (pc0 := 4) (pc' := 34) rfl (hb hby d26_4) rfl (feq (by decide : ¬ ((1 : Int32) = (3 : Int32)))).2 (by decide) (by decide) ?_
        show oS s₁ (mkF m 34 #[oa r0, oa r1, .unset] []) _
        refine XS.iconst X0.here hx rfl (hb hby d26_34) ?_
        exact kt
      obtain ⟨fs, hr, hrun, hended, hW, hsame⟩ := X0.leave (v := some (.int (0 : Int32))) (fun h => by rw [Bd.returns] at h; cases h)
      refine ⟨_, _, pre0 _ (c18 _ (?_)), hrun, hended, _, _, rfl, ?_, ⟨_, rfl⟩, hW, hsame.mono (by decide) (by decide)⟩
      · show Steps p.tables e below (s₁.setTop (mkF m 35 #[oa r0, oa r1, .unset] [(.int (0 : Int32))])) _
        exact retN X0 hx (t := .boolean) Bd.returns (by simp) (hb hby d26_35) hr
      · show Q26 Z r0 r1 ka kb tx ty h0 n0 _ s₁.heap _
        rw [e0]
        exact ⟨congrArg (fun z => some (Value.int z)) (show (0 : Int32) = (own_same tx ty) from by rw [htx, hty]; unfold own_same; simp []), N0, rfl⟩
  · skip
    rw [htx] at Va
    have Vx0 : Arv Z h0 r0 ka .byte (2 : Int32) [(.int (ua.toInt8.toInt32)), (.int (ub.toInt8.toInt32))] (.int 0) := Va
    rcases hly with ⟨va, hty, rva⟩ | ⟨va, vb, hty, rva, rvb⟩ | ⟨va, vb, vc, hty, rva, rvb, rvc⟩
    · skip
      rw [hty] at Vb
      have Vx1 : Arv Z h0 r1 kb .byte (1 : Int32) [(.int (va.toInt8.toInt32))] (.int 0) := Vb
      have Vc20 := Vx0
      obtain ⟨cl20, Ar20, qk20, S20, M20, H20, G20⟩ := Vc20
      have Vc21 := Vx1
      obtain ⟨cl21, Ar21, qk21, S21, M21, H21, G21⟩ := Vc21
      have c22 : own_G p e below s₁ (mkF m 35 #[oa r0, oa r1, .unset] [(.int (0 : Int32))]) (mkF m 0 #[oa r0, oa r1, .unset] []) := by
        intro t kt
        show oS s₁ (mkF m 0 #[oa r0, oa r1, .unset] []) _
        refine XS.aloadN X0.here hx rfl (hb hby d26_0) rfl rfl ?_
        show oS s₁ (mkF m 1 #[oa r0, oa r1, .unset] [(.ref r0)]) _
        refine X0.arraylength hx (by rw [e0]; exact Ar20.1) (State.isArrayOf_alike hZ.alike Ar20.2.1) (g := (mkF m 1 #[oa r0, oa r1, .unset] [(.ref r0)])) rfl rfl (hb hby d26_1) _ ?_
        rw [len_of S20 M20]
        show oS s₁ (mkF m 2 #[oa r0, oa r1, .unset] [(.int (2 : Int32))]) _
        refine XS.aloadN X0.here hx rfl (hb hby d26_2) rfl rfl ?_
        show oS s₁ (mkF m 3 #[oa r0, oa r1, .unset] [(.ref r1), (.int (2 : Int32))]) _
        refine X0.arraylength hx (by rw [e0]; exact Ar21.1) (State.isArrayOf_alike hZ.alike Ar21.2.1) (g := (mkF m 3 #[oa r0, oa r1, .unset] [(.ref r1), (.int (2 : Int32))])) rfl rfl (hb hby d26_3) _ ?_
        rw [len_of S21 M21]
        show oS s₁ (mkF m 4 #[oa r0, oa r1, .unset] [(.int (1 : Int32)), (.int (2 : Int32))]) _
        refine XS.icmpYes X0.here hx rfl (pc0 := 4) (pc' := 34) rfl (hb hby d26_4) rfl (feq (by decide : ¬ ((2 : Int32) = (1 : Int32)))).2 (by decide) (by decide) ?_
        show oS s₁ (mkF m 34 #[oa r0, oa r1, .unset] []) _
        refine XS.iconst X0.here hx rfl (hb hby d26_34) ?_
        exact kt
      obtain ⟨fs, hr, hrun, hended, hW, hsame⟩ := X0.leave (v := some (.int (0 : Int32))) (fun h => by rw [Bd.returns] at h; cases h)
      refine ⟨_, _, pre0 _ (c22 _ (?_)), hrun, hended, _, _, rfl, ?_, ⟨_, rfl⟩, hW, hsame.mono (by decide) (by decide)⟩
      · show Steps p.tables e below (s₁.setTop (mkF m 35 #[oa r0, oa r1, .unset] [(.int (0 : Int32))])) _
        exact retN X0 hx (t := .boolean) Bd.returns (by simp) (hb hby d26_35) hr
      · show Q26 Z r0 r1 ka kb tx ty h0 n0 _ s₁.heap _
        rw [e0]
        exact ⟨congrArg (fun z => some (Value.int z)) (show (0 : Int32) = (own_same tx ty) from by rw [htx, hty]; unfold own_same; simp []), N0, rfl⟩
    · skip
      rw [hty] at Vb
      have Vx1 : Arv Z h0 r1 kb .byte (2 : Int32) [(.int (va.toInt8.toInt32)), (.int (vb.toInt8.toInt32))] (.int 0) := Vb
      have Vc24 := Vx0
      obtain ⟨cl24, Ar24, qk24, S24, M24, H24, G24⟩ := Vc24
      have Vc25 := Vx1
      obtain ⟨cl25, Ar25, qk25, S25, M25, H25, G25⟩ := Vc25
      have Vc26 := Vx0
      obtain ⟨cl26, Ar26, qk26, S26, M26, H26, G26⟩ := Vc26
      have Vc27 := Vx0
      obtain ⟨cl27, Ar27, qk27, S27, M27, H27, G27⟩ := Vc27
      have hin27 : ¬ ((0 : Int32) < 0 ∨ cl27.slots.size ≤ ((0 : Int32)).toNatClampNeg) := inb_of S27 ⟨by decide, by decide⟩
      have hat27 : cl27.slots[((0 : Int32)).toNatClampNeg]? = some (.int (ua.toInt8.toInt32)) := H27.at hin27 rfl
      have Vc28 := Vx1
      obtain ⟨cl28, Ar28, qk28, S28, M28, H28, G28⟩ := Vc28
      have hin28 : ¬ ((0 : Int32) < 0 ∨ cl28.slots.size ≤ ((0 : Int32)).toNatClampNeg) := inb_of S28 ⟨by decide, by decide⟩
      have hat28 : cl28.slots[((0 : Int32)).toNatClampNeg]? = some (.int (va.toInt8.toInt32)) := H28.at hin28 rfl
      have c29 : own_G p e below s₁ (mkF m 21 #[oa r0, oa r1, oi 0] [(.int (va.toInt8.toInt32)), (.int (ua.toInt8.toInt32))]) (mkF m 0 #[oa r0, oa r1, .unset] []) := by
        intro t kt
        show oS s₁ (mkF m 0 #[oa r0, oa r1, .unset] []) _
        refine XS.aloadN X0.here hx rfl (hb hby d26_0) rfl rfl ?_
        show oS s₁ (mkF m 1 #[oa r0, oa r1, .unset] [(.ref r0)]) _
        refine X0.arraylength hx (by rw [e0]; exact Ar24.1) (State.isArrayOf_alike hZ.alike Ar24.2.1) (g := (mkF m 1 #[oa r0, oa r1, .unset] [(.ref r0)])) rfl rfl (hb hby d26_1) _ ?_
        rw [len_of S24 M24]
        show oS s₁ (mkF m 2 #[oa r0, oa r1, .unset] [(.int (2 : Int32))]) _
        refine XS.aloadN X0.here hx rfl (hb hby d26_2) rfl rfl ?_
        show oS s₁ (mkF m 3 #[oa r0, oa r1, .unset] [(.ref r1), (.int (2 : Int32))]) _
        refine X0.arraylength hx (by rw [e0]; exact Ar25.1) (State.isArrayOf_alike hZ.alike Ar25.2.1) (g := (mkF m 3 #[oa r0, oa r1, .unset] [(.ref r1), (.int (2 : Int32))])) rfl rfl (hb hby d26_3) _ ?_
        rw [len_of S25 M25]
        show oS s₁ (mkF m 4 #[oa r0, oa r1, .unset] [(.int (2 : Int32)), (.int (2 : Int32))]) _
        refine XS.icmpNo X0.here hx rfl (hb hby d26_4) rfl (teq (by decide : (2 : Int32) = (2 : Int32))).2 ?_
        show oS s₁ (mkF m 7 #[oa r0, oa r1, .unset] []) _
        refine XS.iconst X0.here hx rfl (hb hby d26_7) ?_
        show oS s₁ (mkF m 8 #[oa r0, oa r1, .unset] [(.int (0 : Int32))]) _
        refine XS.istoreN X0.here hx rfl (hb hby d26_8) rfl (l' := #[oa r0, oa r1, oi 0]) rfl ?_
        show oS s₁ (mkF m 9 #[oa r0, oa r1, oi 0] []) _
        refine XS.iloadN X0.here hx rfl (hb hby d26_9) rfl ?_
        show oS s₁ (mkF m 10 #[oa r0, oa r1, oi 0] [(.int (0 : Int32))]) _
        refine XS.aloadN X0.here hx rfl (hb hby d26_10) rfl rfl ?_
        show oS s₁ (mkF m 11 #[oa r0, oa r1, oi 0] [(.ref r0), (.int (0 : Int32))]) _
        refine X0.arraylength hx (by rw [e0]; exact Ar26.1) (State.isArrayOf_alike hZ.alike Ar26.2.1) (g := (mkF m 11 #[oa r0, oa r1, oi 0] [(.ref r0), (.int (0 : Int32))])) rfl rfl (hb hby d26_11) _ ?_
        rw [len_of S26 M26]
        show oS s₁ (mkF m 12 #[oa r0, oa r1, oi 0] [(.int (2 : Int32)), (.int (0 : Int32))]) _
        refine XS.icmpNo X0.here hx rfl (hb hby d26_12) rfl (tlt (by decide : (0 : Int32) < (2 : Int32))).2.1 ?_
        show oS s₁ (mkF m 15 #[oa r0, oa r1, oi 0] []) _
        refine XS.aloadN X0.here hx rfl (hb hby d26_15) rfl rfl ?_
        show oS s₁ (mkF m 16 #[oa r0, oa r1, oi 0] [(.ref r0)]) _
        refine XS.iloadN X0.here hx rfl (hb hby d26_16) rfl ?_
        show oS s₁ (mkF m 17 #[oa r0, oa r1, oi 0] [(.int (0 : Int32)), (.ref r0)]) _
        refine X0.baloadBytes hx (j := (0 : Int32)) (v := (.int (ua.toInt8.toInt32))) (by rw [e0]; exact Ar27.1) (State.isArrayOf_alike hZ.alike Ar27.2.1) Ar27.2.2 hin27 hat27 (g := (mkF m 17 #[oa r0, oa r1, oi 0] [(.int (0 : Int32)), (.ref r0)])) rfl rfl (hb hby d26_17) _ ?_
        show oS s₁ (mkF m 18 #[oa r0, oa r1, oi 0] [(.int (ua.toInt8.toInt32))]) _
        refine XS.aloadN X0.here hx rfl (hb hby d26_18) rfl rfl ?_
        show oS s₁ (mkF m 19 #[oa r0, oa r1, oi 0] [(.ref r1), (.int (ua.toInt8.toInt32))]) _
        refine XS.iloadN X0.here hx rfl (hb hby d26_19) rfl ?_
        show oS s₁ (mkF m 20 #[oa r0, oa r1, oi 0] [(.int (0 : Int32)), (.ref r1), (.int (ua.toInt8.toInt32))]) _
        refine X0.baloadBytes hx (j := (0 : Int32)) (v := (.int (va.toInt8.toInt32))) (by rw [e0]; exact Ar28.1) (State.isArrayOf_alike hZ.alike Ar28.2.1) Ar28.2.2 hin28 hat28 (g := (mkF m 20 #[oa r0, oa r1, oi 0] [(.int (0 : Int32)), (.ref r1), (.int (ua.toInt8.toInt32))])) rfl rfl (hb hby d26_20) _ ?_
        exact kt
      by_cases hc21 : (ua.toInt8.toInt32) = (va.toInt8.toInt32)
      · -- it is
        have Vc30 := Vx0
        obtain ⟨cl30, Ar30, qk30, S30, M30, H30, G30⟩ := Vc30
        have c31 : own_G p e below s₁ (mkF m 17 #[oa r0, oa r1, oi ((0 : Int32) + (1 : Int32))] [(.int ((0 : Int32) + (1 : Int32))), (.ref r0)]) (mkF m 21 #[oa r0, oa r1, oi 0] [(.int (va.toInt8.toInt32)), (.int (ua.toInt8.toInt32))]) := by
          intro t kt
          show oS s₁ (mkF m 21 #[oa r0, oa r1, oi 0] [(.int (va.toInt8.toInt32)), (.int (ua.toInt8.toInt32))]) _
          refine XS.icmpYes X0.here hx rfl (pc0 := 21) (pc' := 26) rfl (hb hby d26_21) rfl (teq hc21).1 (by decide) (by decide) ?_
          show oS s₁ (mkF m 26 #[oa r0, oa r1, oi 0] []) _
          refine XS.iinc X0.here hx rfl (hb hby d26_26) rfl (l' := #[oa r0, oa r1, oi ((0 : Int32) + (1 : Int32))]) rfl ?_
          show oS s₁ (mkF m 29 #[oa r0, oa r1, oi ((0 : Int32) + (1 : Int32))] []) _
          refine XS.goto X0.here hx rfl (pc0 := 29) (pc' := 9) rfl (hb hby d26_29) (by decide) (by decide) ?_
          show oS s₁ (mkF m 9 #[oa r0, oa r1, oi ((0 : Int32) + (1 : Int32))] []) _
          refine XS.iloadN X0.here hx rfl (hb hby d26_9) rfl ?_
          show oS s₁ (mkF m 10 #[oa r0, oa r1, oi ((0 : Int32) + (1 : Int32))] [(.int ((0 : Int32) + (1 : Int32)))]) _
          refine XS.aloadN X0.here hx rfl (hb hby d26_10) rfl rfl ?_
          show oS s₁ (mkF m 11 #[oa r0, oa r1, oi ((0 : Int32) + (1 : Int32))] [(.ref r0), (.int ((0 : Int32) + (1 : Int32)))]) _
          refine X0.arraylength hx (by rw [e0]; exact Ar30.1) (State.isArrayOf_alike hZ.alike Ar30.2.1) (g := (mkF m 11 #[oa r0, oa r1, oi ((0 : Int32) + (1 : Int32))] [(.ref r0), (.int ((0 : Int32) + (1 : Int32)))])) rfl rfl (hb hby d26_11) _ ?_
          rw [len_of S30 M30]
          show oS s₁ (mkF m 12 #[oa r0, oa r1, oi ((0 : Int32) + (1 : Int32))] [(.int (2 : Int32)), (.int ((0 : Int32) + (1 : Int32)))]) _
          refine XS.icmpNo X0.here hx rfl (hb hby d26_12) rfl (tlt (by decide : ((0 : Int32) + (1 : Int32)) < (2 : Int32))).2.1 ?_
          show oS s₁ (mkF m 15 #[oa r0, oa r1, oi ((0 : Int32) + (1 : Int32))] []) _
          refine XS.aloadN X0.here hx rfl (hb hby d26_15) rfl rfl ?_
          show oS s₁ (mkF m 16 #[oa r0, oa r1, oi ((0 : Int32) + (1 : Int32))] [(.ref r0)]) _
          refine XS.iloadN X0.here hx rfl (hb hby d26_16) rfl ?_
          exact kt
        have c32 : own_G p e below s₁ (mkF m 17 #[oa r0, oa r1, oi 1] [(.int (1 : Int32)), (.ref r0)]) (mkF m 17 #[oa r0, oa r1, oi ((0 : Int32) + (1 : Int32))] [(.int ((0 : Int32) + (1 : Int32))), (.ref r0)]) := fun t kt => castTop (congrArg (fun zv => (mkF m 17 #[oa r0, oa r1, oi zv] [(.int zv), (.ref r0)])) (show ((0 : Int32) + (1 : Int32)) = (1 : Int32) from by decide)) kt
        have Vc33 := Vx0
        obtain ⟨cl33, Ar33, qk33, S33, M33, H33, G33⟩ := Vc33
        have hin33 : ¬ ((1 : Int32) < 0 ∨ cl33.slots.size ≤ ((1 : Int32)).toNatClampNeg) := inb_of S33 ⟨by decide, by decide⟩
        have hat33 : cl33.slots[((1 : Int32)).toNatClampNeg]? = some (.int (ub.toInt8.toInt32)) := H33.at hin33 rfl
        have Vc34 := Vx1
        obtain ⟨cl34, Ar34, qk34, S34, M34, H34, G34⟩ := Vc34
        have hin34 : ¬ ((1 : Int32) < 0 ∨ cl34.slots.size ≤ ((1 : Int32)).toNatClampNeg) := inb_of S34 ⟨by decide, by decide⟩
        have hat34 : cl34.slots[((1 : Int32)).toNatClampNeg]? = some (.int (vb.toInt8.toInt32)) := H34.at hin34 rfl
        have c35 : own_G p e below s₁ (mkF m 21 #[oa r0, oa r1, oi 1] [(.int (vb.toInt8.toInt32)), (.int (ub.toInt8.toInt32))]) (mkF m 17 #[oa r0, oa r1, oi 1] [(.int (1 : Int32)), (.ref r0)]) := by
          intro t kt
          show oS s₁ (mkF m 17 #[oa r0, oa r1, oi 1] [(.int (1 : Int32)), (.ref r0)]) _
          refine X0.baloadBytes hx (j := (1 : Int32)) (v := (.int (ub.toInt8.toInt32))) (by rw [e0]; exact Ar33.1) (State.isArrayOf_alike hZ.alike Ar33.2.1) Ar33.2.2 hin33 hat33 (g := (mkF m 17 #[oa r0, oa r1, oi 1] [(.int (1 : Int32)), (.ref r0)])) rfl rfl (hb hby d26_17) _ ?_
          show oS s₁ (mkF m 18 #[oa r0, oa r1, oi 1] [(.int (ub.toInt8.toInt32))]) _
          refine XS.aloadN X0.here hx rfl (hb hby d26_18) rfl rfl ?_
          show oS s₁ (mkF m 19 #[oa r0, oa r1, oi 1] [(.ref r1), (.int (ub.toInt8.toInt32))]) _
          refine XS.iloadN X0.here hx rfl (hb hby d26_19) rfl ?_
          show oS s₁ (mkF m 20 #[oa r0, oa r1, oi 1] [(.int (1 : Int32)), (.ref r1), (.int (ub.toInt8.toInt32))]) _
          refine X0.baloadBytes hx (j := (1 : Int32)) (v := (.int (vb.toInt8.toInt32))) (by rw [e0]; exact Ar34.1) (State.isArrayOf_alike hZ.alike Ar34.2.1) Ar34.2.2 hin34 hat34 (g := (mkF m 20 #[oa r0, oa r1, oi 1] [(.int (1 : Int32)), (.ref r1), (.int (ub.toInt8.toInt32))])) rfl rfl (hb hby d26_20) _ ?_
          exact kt
        by_cases hc21_2 : (ub.toInt8.toInt32) = (vb.toInt8.toInt32)
        · -- it is
          have Vc36 := Vx0
          obtain ⟨cl36, Ar36, qk36, S36, M36, H36, G36⟩ := Vc36
          have c37 : own_G p e below s₁ (mkF m 33 #[oa r0, oa r1, oi ((1 : Int32) + (1 : Int32))] [(.int (1 : Int32))]) (mkF m 21 #[oa r0, oa r1, oi 1] [(.int (vb.toInt8.toInt32)), (.int (ub.toInt8.toInt32))]) := by
            intro t kt
            show oS s₁ (mkF m 21 #[oa r0, oa r1, oi 1] [(.int (vb.toInt8.toInt32)), (.int (ub.toInt8.toInt32))]) _
            refine XS.icmpYes X0.here hx rfl (pc0 := 21) (pc' := 26) rfl (hb hby d26_21) rfl (teq hc21_2).1 (by decide) (by decide) ?_
            show oS s₁ (mkF m 26 #[oa r0, oa r1, oi 1] []) _
            refine XS.iinc X0.here hx rfl (hb hby d26_26) rfl (l' := #[oa r0, oa r1, oi ((1 : Int32) + (1 : Int32))]) rfl ?_
            show oS s₁ (mkF m 29 #[oa r0, oa r1, oi ((1 : Int32) + (1 : Int32))] []) _
            refine XS.goto X0.here hx rfl (pc0 := 29) (pc' := 9) rfl (hb hby d26_29) (by decide) (by decide) ?_
            show oS s₁ (mkF m 9 #[oa r0, oa r1, oi ((1 : Int32) + (1 : Int32))] []) _
            refine XS.iloadN X0.here hx rfl (hb hby d26_9) rfl ?_
            show oS s₁ (mkF m 10 #[oa r0, oa r1, oi ((1 : Int32) + (1 : Int32))] [(.int ((1 : Int32) + (1 : Int32)))]) _
            refine XS.aloadN X0.here hx rfl (hb hby d26_10) rfl rfl ?_
            show oS s₁ (mkF m 11 #[oa r0, oa r1, oi ((1 : Int32) + (1 : Int32))] [(.ref r0), (.int ((1 : Int32) + (1 : Int32)))]) _
            refine X0.arraylength hx (by rw [e0]; exact Ar36.1) (State.isArrayOf_alike hZ.alike Ar36.2.1) (g := (mkF m 11 #[oa r0, oa r1, oi ((1 : Int32) + (1 : Int32))] [(.ref r0), (.int ((1 : Int32) + (1 : Int32)))])) rfl rfl (hb hby d26_11) _ ?_
            rw [len_of S36 M36]
            show oS s₁ (mkF m 12 #[oa r0, oa r1, oi ((1 : Int32) + (1 : Int32))] [(.int (2 : Int32)), (.int ((1 : Int32) + (1 : Int32)))]) _
            refine XS.icmpYes X0.here hx rfl (pc0 := 12) (pc' := 32) rfl (hb hby d26_12) rfl (flt (by decide : ¬ (((1 : Int32) + (1 : Int32)) < (2 : Int32)))).2.1 (by decide) (by decide) ?_
            show oS s₁ (mkF m 32 #[oa r0, oa r1, oi ((1 : Int32) + (1 : Int32))] []) _
            refine XS.iconst X0.here hx rfl (hb hby d26_32) ?_
            exact kt
          obtain ⟨fs, hr, hrun, hended, hW, hsame⟩ := X0.leave (v := some (.int (1 : Int32))) (fun h => by rw [Bd.returns] at h; cases h)
          refine ⟨_, _, pre0 _ (c29 _ (c31 _ (c32 _ (c35 _ (c37 _ (?_)))))), hrun, hended, _, _, rfl, ?_, ⟨_, rfl⟩, hW, hsame.mono (by decide) (by decide)⟩
          · show Steps p.tables e below (s₁.setTop (mkF m 33 #[oa r0, oa r1, oi ((1 : Int32) + (1 : Int32))] [(.int (1 : Int32))])) _
            exact retN X0 hx (t := .boolean) Bd.returns (by simp) (hb hby d26_33) hr
          · show Q26 Z r0 r1 ka kb tx ty h0 n0 _ s₁.heap _
            rw [e0]
            exact ⟨congrArg (fun z => some (Value.int z)) (show (1 : Int32) = (own_same tx ty) from by rw [own_b8 rua rva] at hc21; rw [own_b8 rub rvb] at hc21_2; rw [htx, hty]; unfold own_same; simp [hc21, hc21_2]), N0, rfl⟩
        · -- it isn't
          have c39 : own_G p e below s₁ (mkF m 25 #[oa r0, oa r1, oi 1] [(.int (0 : Int32))]) (mkF m 21 #[oa r0, oa r1, oi 1] [(.int (vb.toInt8.toInt32)), (.int (ub.toInt8.toInt32))]) := by
            intro t kt
            show oS s₁ (mkF m 21 #[oa r0, oa r1, oi 1] [(.int (vb.toInt8.toInt32)), (.int (ub.toInt8.toInt32))]) _
            refine XS.icmpNo X0.here hx rfl (hb hby d26_21) rfl (feq hc21_2).1 ?_
            show oS s₁ (mkF m 24 #[oa r0, oa r1, oi 1] []) _
            refine XS.iconst X0.here hx rfl (hb hby d26_24) ?_
            exact kt
          obtain ⟨fs, hr, hrun, hended, hW, hsame⟩ := X0.leave (v := some (.int (0 : Int32))) (fun h => by rw [Bd.returns] at h; cases h)
          refine ⟨_, _, pre0 _ (c29 _ (c31 _ (c32 _ (c35 _ (c39 _ (?_)))))), hrun, hended, _, _, rfl, ?_, ⟨_, rfl⟩, hW, hsame.mono (by decide) (by decide)⟩
          · show Steps p.tables e below (s₁.setTop (mkF m 25 #[oa r0, oa r1, oi 1] [(.int (0 : Int32))])) _
            exact retN X0 hx (t := .boolean) Bd.returns (by simp) (hb hby d26_25) hr
          · show Q26 Z r0 r1 ka kb tx ty h0 n0 _ s₁.heap _
            rw [e0]
            exact ⟨congrArg (fun z => some (Value.int z)) (show (0 : Int32) = (own_same tx ty) from by rw [own_b8 rua rva] at hc21; rw [own_b8 rub rvb] at hc21_2; rw [htx, hty]; unfold own_same; simp [hc21, hc21_2]), N0, rfl⟩
      · -- it isn't
        have c41 : own_G p e below s₁ (mkF m 25 #[oa r0, oa r1, oi 0] [(.int (0 : Int32))]) (mkF m 21 #[oa r0, oa r1, oi 0] [(.int (va.toInt8.toInt32)), (.int (ua.toInt8.toInt32))]) := by
          intro t kt
          show oS s₁ (mkF m 21 #[oa r0, oa r1, oi 0] [(.int (va.toInt8.toInt32)), (.int (ua.toInt8.toInt32))]) _
          refine XS.icmpNo X0.here hx rfl (hb hby d26_21) rfl (feq hc21).1 ?_
          show oS s₁ (mkF m 24 #[oa r0, oa r1, oi 0] []) _
          refine XS.iconst X0.here hx rfl (hb hby d26_24) ?_
          exact kt
        obtain ⟨fs, hr, hrun, hended, hW, hsame⟩ := X0.leave (v := some (.int (0 : Int32))) (fun h => by rw [Bd.returns] at h; cases h)
        refine ⟨_, _, pre0 _ (c29 _ (c41 _ (?_))), hrun, hended, _, _, rfl, ?_, ⟨_, rfl⟩, hW, hsame.mono (by decide) (by decide)⟩
        · show Steps p.tables e below (s₁.setTop (mkF m 25 #[oa r0, oa r1, oi 0] [(.int (0 : Int32))])) _
          exact retN X0 hx (t := .boolean) Bd.returns (by simp) (hb hby d26_25) hr
        · show Q26 Z r0 r1 ka kb tx ty h0 n0 _ s₁.heap _
          rw [e0]
          exact ⟨congrArg (fun z => some (Value.int z)) (show (0 : Int32) = (own_same tx ty) from by rw [own_b8 rua rva] at hc21; rw [htx, hty]; unfold own_same; simp [hc21]), N0, rfl⟩
    · skip
      rw [hty] at Vb
      have Vx1 : Arv Z h0 r1 kb .byte (3 : Int32) [(.int (va.toInt8.toInt32)), (.int (vb.toInt8.toInt32)), (.int (vc.toInt8.toInt32))] (.int 0) := Vb
      have Vc43 := Vx0
      obtain ⟨cl43, Ar43, qk43, S43, M43, H43, G43⟩ := Vc43
      have Vc44 := Vx1
      obtain ⟨cl44, Ar44, qk44, S44, M44, H44, G44⟩ := Vc44
      have c45 : own_G p e below s₁ (mkF m 35 #[oa r0, oa r1, .unset] [(.int (0 : Int32))]) (mkF m 0 #[oa r0, oa r1, .unset] []) := by
        intro t kt
        show oS s₁ (mkF m 0 #[oa r0, oa r1, .unset] []) _
        refine XS.aloadN X0.here hx rfl (hb hby d26_0) rfl rfl ?_
        show oS s₁ (mkF m 1 #[oa r0, oa r1, .unset] [(.ref r0)]) _
        refine X0.arraylength hx (by rw [e0]; exact Ar43.1) (State.isArrayOf_alike hZ.alike Ar43.2.1) (g := (mkF m 1 #[oa r0, oa r1, .unset] [(.ref r0)])) rfl rfl (hb hby d26_1) _ ?_
        rw [len_of S43 M43]
        show oS s₁ (mkF m 2 #[oa r0, oa r1, .unset] [(.int (2 : Int32))]) _
        refine XS.aloadN X0.here hx rfl (hb hby d26_2) rfl rfl ?_
        show oS s₁ (mkF m 3 #[oa r0, oa r1, .unset] [(.ref r1), (.int (2 : Int32))]) _
        refine X0.arraylength hx (by rw [e0]; exact Ar44.1) (State.isArrayOf_alike hZ.alike Ar44.2.1) (g := (mkF m 3 #[oa r0, oa r1, .unset] [(.ref r1), (.int (2 : Int32))])) rfl rfl (hb hby d26_3) _ ?_
        rw [len_of S44 M44]
        show oS s₁ (mkF m 4 #[oa r0, oa r1, .unset] [(.int (3 : Int32)), (.int (2 : Int32))]) _
        refine XS.icmpYes X0.here hx rfl (pc0 := 4) (pc' := 34) rfl (hb hby d26_4) rfl (feq (by decide : ¬ ((2 : Int32) = (3 : Int32)))).2 (by decide) (by decide) ?_
        show oS s₁ (mkF m 34 #[oa r0, oa r1, .unset] []) _
        refine XS.iconst X0.here hx rfl (hb hby d26_34) ?_
        exact kt
      obtain ⟨fs, hr, hrun, hended, hW, hsame⟩ := X0.leave (v := some (.int (0 : Int32))) (fun h => by rw [Bd.returns] at h; cases h)
      refine ⟨_, _, pre0 _ (c45 _ (?_)), hrun, hended, _, _, rfl, ?_, ⟨_, rfl⟩, hW, hsame.mono (by decide) (by decide)⟩
      · show Steps p.tables e below (s₁.setTop (mkF m 35 #[oa r0, oa r1, .unset] [(.int (0 : Int32))])) _
        exact retN X0 hx (t := .boolean) Bd.returns (by simp) (hb hby d26_35) hr
      · show Q26 Z r0 r1 ka kb tx ty h0 n0 _ s₁.heap _
        rw [e0]
        exact ⟨congrArg (fun z => some (Value.int z)) (show (0 : Int32) = (own_same tx ty) from by rw [htx, hty]; unfold own_same; simp []), N0, rfl⟩
  · skip
    rw [htx] at Va
    have Vx0 : Arv Z h0 r0 ka .byte (3 : Int32) [(.int (ua.toInt8.toInt32)), (.int (ub.toInt8.toInt32)), (.int (uc.toInt8.toInt32))] (.int 0) := Va
    rcases hly with ⟨va, hty, rva⟩ | ⟨va, vb, hty, rva, rvb⟩ | ⟨va, vb, vc, hty, rva, rvb, rvc⟩
    · skip
      rw [hty] at Vb
      have Vx1 : Arv Z h0 r1 kb .byte (1 : Int32) [(.int (va.toInt8.toInt32))] (.int 0) := Vb
      have Vc47 := Vx0
      obtain ⟨cl47, Ar47, qk47, S47, M47, H47, G47⟩ := Vc47
      have Vc48 := Vx1
      obtain ⟨cl48, Ar48, qk48, S48, M48, H48, G48⟩ := Vc48
      have c49 : own_G p e below s₁ (mkF m 35 #[oa r0, oa r1, .unset] [(.int (0 : Int32))]) (mkF m 0 #[oa r0, oa r1, .unset] []) := by
        intro t kt
        show oS s₁ (mkF m 0 #[oa r0, oa r1, .unset] []) _
        refine XS.aloadN X0.here hx rfl (hb hby d26_0) rfl rfl ?_
        show oS s₁ (mkF m 1 #[oa r0, oa r1, .unset] [(.ref r0)]) _
        refine X0.arraylength hx (by rw [e0]; exact Ar47.1) (State.isArrayOf_alike hZ.alike Ar47.2.1) (g := (mkF m 1 #[oa r0, oa r1, .unset] [(.ref r0)])) rfl rfl (hb hby d26_1) _ ?_
        rw [len_of S47 M47]
        show oS s₁ (mkF m 2 #[oa r0, oa r1, .unset] [(.int (3 : Int32))]) _
        refine XS.aloadN X0.here hx rfl (hb hby d26_2) rfl rfl ?_
        show oS s₁ (mkF m 3 #[oa r0, oa r1, .unset] [(.ref r1), (.int (3 : Int32))]) _
        refine X0.arraylength hx (by rw [e0]; exact Ar48.1) (State.isArrayOf_alike hZ.alike Ar48.2.1) (g := (mkF m 3 #[oa r0, oa r1, .unset] [(.ref r1), (.int (3 : Int32))])) rfl rfl (hb hby d26_3) _ ?_
        rw [len_of S48 M48]
        show oS s₁ (mkF m 4 #[oa r0, oa r1, .unset] [(.int (1 : Int32)), (.int (3 : Int32))]) _
        refine XS.icmpYes X0.here hx rfl (pc0 := 4) (pc' := 34) rfl (hb hby d26_4) rfl (feq (by decide : ¬ ((3 : Int32) = (1 : Int32)))).2 (by decide) (by decide) ?_
        show oS s₁ (mkF m 34 #[oa r0, oa r1, .unset] []) _
        refine XS.iconst X0.here hx rfl (hb hby d26_34) ?_
        exact kt
      obtain ⟨fs, hr, hrun, hended, hW, hsame⟩ := X0.leave (v := some (.int (0 : Int32))) (fun h => by rw [Bd.returns] at h; cases h)
      refine ⟨_, _, pre0 _ (c49 _ (?_)), hrun, hended, _, _, rfl, ?_, ⟨_, rfl⟩, hW, hsame.mono (by decide) (by decide)⟩
      · show Steps p.tables e below (s₁.setTop (mkF m 35 #[oa r0, oa r1, .unset] [(.int (0 : Int32))])) _
        exact retN X0 hx (t := .boolean) Bd.returns (by simp) (hb hby d26_35) hr
      · show Q26 Z r0 r1 ka kb tx ty h0 n0 _ s₁.heap _
        rw [e0]
        exact ⟨congrArg (fun z => some (Value.int z)) (show (0 : Int32) = (own_same tx ty) from by rw [htx, hty]; unfold own_same; simp []), N0, rfl⟩
    · skip
      rw [hty] at Vb
      have Vx1 : Arv Z h0 r1 kb .byte (2 : Int32) [(.int (va.toInt8.toInt32)), (.int (vb.toInt8.toInt32))] (.int 0) := Vb
      have Vc51 := Vx0
      obtain ⟨cl51, Ar51, qk51, S51, M51, H51, G51⟩ := Vc51
      have Vc52 := Vx1
      obtain ⟨cl52, Ar52, qk52, S52, M52, H52, G52⟩ := Vc52
      have c53 : own_G p e below s₁ (mkF m 35 #[oa r0, oa r1, .unset] [(.int (0 : Int32))]) (mkF m 0 #[oa r0, oa r1, .unset] []) := by
        intro t kt
        show oS s₁ (mkF m 0 #[oa r0, oa r1, .unset] []) _
        refine XS.aloadN X0.here hx rfl (hb hby d26_0) rfl rfl ?_
        show oS s₁ (mkF m 1 #[oa r0, oa r1, .unset] [(.ref r0)]) _
        refine X0.arraylength hx (by rw [e0]; exact Ar51.1) (State.isArrayOf_alike hZ.alike Ar51.2.1) (g := (mkF m 1 #[oa r0, oa r1, .unset] [(.ref r0)])) rfl rfl (hb hby d26_1) _ ?_
        rw [len_of S51 M51]
        show oS s₁ (mkF m 2 #[oa r0, oa r1, .unset] [(.int (3 : Int32))]) _
        refine XS.aloadN X0.here hx rfl (hb hby d26_2) rfl rfl ?_
        show oS s₁ (mkF m 3 #[oa r0, oa r1, .unset] [(.ref r1), (.int (3 : Int32))]) _
        refine X0.arraylength hx (by rw [e0]; exact Ar52.1) (State.isArrayOf_alike hZ.alike Ar52.2.1) (g := (mkF m 3 #[oa r0, oa r1, .unset] [(.ref r1), (.int (3 : Int32))])) rfl rfl (hb hby d26_3) _ ?_
        rw [len_of S52 M52]
        show oS s₁ (mkF m 4 #[oa r0, oa r1, .unset] [(.int (2 : Int32)), (.int (3 : Int32))]) _
        refine XS.icmpYes X0.here hx rfl (pc0 := 4) (pc' := 34) rfl (hb hby d26_4) rfl (feq (by decide : ¬ ((3 : Int32) = (2 : Int32)))).2 (by decide) (by decide) ?_
        show oS s₁ (mkF m 34 #[oa r0, oa r1, .unset] []) _
        refine XS.iconst X0.here hx rfl (hb hby d26_34) ?_
        exact kt
      obtain ⟨fs, hr, hrun, hended, hW, hsame⟩ := X0.leave (v := some (.int (0 : Int32))) (fun h => by rw [Bd.returns] at h; cases h)
      refine ⟨_, _, pre0 _ (c53 _ (?_)), hrun, hended, _, _, rfl, ?_, ⟨_, rfl⟩, hW, hsame.mono (by decide) (by decide)⟩
      · show Steps p.tables e below (s₁.setTop (mkF m 35 #[oa r0, oa r1, .unset] [(.int (0 : Int32))])) _
        exact retN X0 hx (t := .boolean) Bd.returns (by simp) (hb hby d26_35) hr
      · show Q26 Z r0 r1 ka kb tx ty h0 n0 _ s₁.heap _
        rw [e0]
        exact ⟨congrArg (fun z => some (Value.int z)) (show (0 : Int32) = (own_same tx ty) from by rw [htx, hty]; unfold own_same; simp []), N0, rfl⟩
    · skip
      rw [hty] at Vb
      have Vx1 : Arv Z h0 r1 kb .byte (3 : Int32) [(.int (va.toInt8.toInt32)), (.int (vb.toInt8.toInt32)), (.int (vc.toInt8.toInt32))] (.int 0) := Vb
      have Vc55 := Vx0
      obtain ⟨cl55, Ar55, qk55, S55, M55, H55, G55⟩ := Vc55
      have Vc56 := Vx1
      obtain ⟨cl56, Ar56, qk56, S56, M56, H56, G56⟩ := Vc56
      have Vc57 := Vx0
      obtain ⟨cl57, Ar57, qk57, S57, M57, H57, G57⟩ := Vc57
      have Vc58 := Vx0
      obtain ⟨cl58, Ar58, qk58, S58, M58, H58, G58⟩ := Vc58
      have hin58 : ¬ ((0 : Int32) < 0 ∨ cl58.slots.size ≤ ((0 : Int32)).toNatClampNeg) := inb_of S58 ⟨by decide, by decide⟩
      have hat58 : cl58.slots[((0 : Int32)).toNatClampNeg]? = some (.int (ua.toInt8.toInt32)) := H58.at hin58 rfl
      have Vc59 := Vx1
      obtain ⟨cl59, Ar59, qk59, S59, M59, H59, G59⟩ := Vc59
      have hin59 : ¬ ((0 : Int32) < 0 ∨ cl59.slots.size ≤ ((0 : Int32)).toNatClampNeg) := inb_of S59 ⟨by decide, by decide⟩
      have hat59 : cl59.slots[((0 : Int32)).toNatClampNeg]? = some (.int (va.toInt8.toInt32)) := H59.at hin59 rfl
      have c60 : own_G p e below s₁ (mkF m 21 #[oa r0, oa r1, oi 0] [(.int (va.toInt8.toInt32)), (.int (ua.toInt8.toInt32))]) (mkF m 0 #[oa r0, oa r1, .unset] []) := by
        intro t kt
        show oS s₁ (mkF m 0 #[oa r0, oa r1, .unset] []) _
        refine XS.aloadN X0.here hx rfl (hb hby d26_0) rfl rfl ?_
        show oS s₁ (mkF m 1 #[oa r0, oa r1, .unset] [(.ref r0)]) _
        refine X0.arraylength hx (by rw [e0]; exact Ar55.1) (State.isArrayOf_alike hZ.alike Ar55.2.1) (g := (mkF m 1 #[oa r0, oa r1, .unset] [(.ref r0)])) rfl rfl (hb hby d26_1) _ ?_
        rw [len_of S55 M55]
        show oS s₁ (mkF m 2 #[oa r0, oa r1, .unset] [(.int (3 : Int32))]) _
        refine XS.aloadN X0.here hx rfl (hb hby d26_2) rfl rfl ?_
        show oS s₁ (mkF m 3 #[oa r0, oa r1, .unset] [(.ref r1), (.int (3 : Int32))]) _
        refine X0.arraylength hx (by rw [e0]; exact Ar56.1) (State.isArrayOf_alike hZ.alike Ar56.2.1) (g := (mkF m 3 #[oa r0, oa r1, .unset] [(.ref r1), (.int (3 : Int32))])) rfl rfl (hb hby d26_3) _ ?_
        rw [len_of S56 M56]
        show oS s₁ (mkF m 4 #[oa r0, oa r1, .unset] [(.int (3 : Int32)), (.int (3 : Int32))]) _
        refine XS.icmpNo X0.here hx rfl (hb hby d26_4) rfl (teq (by decide : (3 : Int32) = (3 : Int32))).2 ?_
        show oS s₁ (mkF m 7 #[oa r0, oa r1, .unset] []) _
        refine XS.iconst X0.here hx rfl (hb hby d26_7) ?_
        show oS s₁ (mkF m 8 #[oa r0, oa r1, .unset] [(.int (0 : Int32))]) _
        refine XS.istoreN X0.here hx rfl (hb hby d26_8) rfl (l' := #[oa r0, oa r1, oi 0]) rfl ?_
        show oS s₁ (mkF m 9 #[oa r0, oa r1, oi 0] []) _
        refine XS.iloadN X0.here hx rfl (hb hby d26_9) rfl ?_
        show oS s₁ (mkF m 10 #[oa r0, oa r1, oi 0] [(.int (0 : Int32))]) _
        refine XS.aloadN X0.here hx rfl (hb hby d26_10) rfl rfl ?_
        show oS s₁ (mkF m 11 #[oa r0, oa r1, oi 0] [(.ref r0), (.int (0 : Int32))]) _
        refine X0.arraylength hx (by rw [e0]; exact Ar57.1) (State.isArrayOf_alike hZ.alike Ar57.2.1) (g := (mkF m 11 #[oa r0, oa r1, oi 0] [(.ref r0), (.int (0 : Int32))])) rfl rfl (hb hby d26_11) _ ?_
        rw [len_of S57 M57]
        show oS s₁ (mkF m 12 #[oa r0, oa r1, oi 0] [(.int (3 : Int32)), (.int (0 : Int32))]) _
        refine XS.icmpNo X0.here hx rfl (hb hby d26_12) rfl (tlt (by decide : (0 : Int32) < (3 : Int32))).2.1 ?_
        show oS s₁ (mkF m 15 #[oa r0, oa r1, oi 0] []) _
        refine XS.aloadN X0.here hx rfl (hb hby d26_15) rfl rfl ?_
        show oS s₁ (mkF m 16 #[oa r0, oa r1, oi 0] [(.ref r0)]) _
        refine XS.iloadN X0.here hx rfl (hb hby d26_16) rfl ?_
        show oS s₁ (mkF m 17 #[oa r0, oa r1, oi 0] [(.int (0 : Int32)), (.ref r0)]) _
        refine X0.baloadBytes hx (j := (0 : Int32)) (v := (.int (ua.toInt8.toInt32))) (by rw [e0]; exact Ar58.1) (State.isArrayOf_alike hZ.alike Ar58.2.1) Ar58.2.2 hin58 hat58 (g := (mkF m 17 #[oa r0, oa r1, oi 0] [(.int (0 : Int32)), (.ref r0)])) rfl rfl (hb hby d26_17) _ ?_
        show oS s₁ (mkF m 18 #[oa r0, oa r1, oi 0] [(.int (ua.toInt8.toInt32))]) _
        refine XS.aloadN X0.here hx rfl (hb hby d26_18) rfl rfl ?_
        show oS s₁ (mkF m 19 #[oa r0, oa r1, oi 0] [(.ref r1), (.int (ua.toInt8.toInt32))]) _
        refine XS.iloadN X0.here hx rfl (hb hby d26_19) rfl ?_
        show oS s₁ (mkF m 20 #[oa r0, oa r1, oi 0] [(.int (0 : Int32)), (.ref r1), (.int (ua.toInt8.toInt32))]) _
        refine X0.baloadBytes hx (j := (0 : Int32)) (v := (.int (va.toInt8.toInt32))) (by rw [e0]; exact Ar59.1) (State.isArrayOf_alike hZ.alike Ar59.2.1) Ar59.2.2 hin59 hat59 (g := (mkF m 20 #[oa r0, oa r1, oi 0] [(.int (0 : Int32)), (.ref r1), (.int (ua.toInt8.toInt32))])) rfl rfl (hb hby d26_20) _ ?_
        exact kt
      by_cases hc21 : (ua.toInt8.toInt32) = (va.toInt8.toInt32)
      · -- it is
        have Vc61 := Vx0
        obtain ⟨cl61, Ar61, qk61, S61, M61, H61, G61⟩ := Vc61
        have c62 : own_G p e below s₁ (mkF m 17 #[oa r0, oa r1, oi ((0 : Int32) + (1 : Int32))] [(.int ((0 : Int32) + (1 : Int32))), (.ref r0)]) (mkF m 21 #[oa r0, oa r1, oi 0] [(.int (va.toInt8.toInt32)), (.int (ua.toInt8.toInt32))]) := by
          intro t kt
          show oS s₁ (mkF m 21 #[oa r0, oa r1, oi 0] [(.int (va.toInt8.toInt32)), (.int (ua.toInt8.toInt32))]) _
          refine XS.icmpYes X0.here hx rfl (pc0 := 21) (pc' := 26) rfl (hb hby d26_21) rfl (teq hc21).1 (by decide) (by decide) ?_
          show oS s₁ (mkF m 26 #[oa r0, oa r1, oi 0] []) _
          refine XS.iinc X0.here hx rfl (hb hby d26_26) rfl (l' := #[oa r0, oa r1, oi ((0 : Int32) + (1 : Int32))]) rfl ?_
          show oS s₁ (mkF m 29 #[oa r0, oa r1, oi ((0 : Int32) + (1 : Int32))] []) _
          refine XS.goto X0.here hx rfl (pc0 := 29) (pc' := 9) rfl (hb hby d26_29) (by decide) (by decide) ?_
          show oS s₁ (mkF m 9 #[oa r0, oa r1, oi ((0 : Int32) + (1 : Int32))] []) _
          refine XS.iloadN X0.here hx rfl (hb hby d26_9) rfl ?_
          show oS s₁ (mkF m 10 #[oa r0, oa r1, oi ((0 : Int32) + (1 : Int32))] [(.int ((0 : Int32) + (1 : Int32)))]) _
          refine XS.aloadN X0.here hx rfl (hb hby d26_10) rfl rfl ?_
          show oS s₁ (mkF m 11 #[oa r0, oa r1, oi ((0 : Int32) + (1 : Int32))] [(.ref r0), (.int ((0 : Int32) + (1 : Int32)))]) _
          refine X0.arraylength hx (by rw [e0]; exact Ar61.1) (State.isArrayOf_alike hZ.alike Ar61.2.1) (g := (mkF m 11 #[oa r0, oa r1, oi ((0 : Int32) + (1 : Int32))] [(.ref r0), (.int ((0 : Int32) + (1 : Int32)))])) rfl rfl (hb hby d26_11) _ ?_
          rw [len_of S61 M61]
          show oS s₁ (mkF m 12 #[oa r0, oa r1, oi ((0 : Int32) + (1 : Int32))] [(.int (3 : Int32)), (.int ((0 : Int32) + (1 : Int32)))]) _
          refine XS.icmpNo X0.here hx rfl (hb hby d26_12) rfl (tlt (by decide : ((0 : Int32) + (1 : Int32)) < (3 : Int32))).2.1 ?_
          show oS s₁ (mkF m 15 #[oa r0, oa r1, oi ((0 : Int32) + (1 : Int32))] []) _
          refine XS.aloadN X0.here hx rfl (hb hby d26_15) rfl rfl ?_
          show oS s₁ (mkF m 16 #[oa r0, oa r1, oi ((0 : Int32) + (1 : Int32))] [(.ref r0)]) _
          refine XS.iloadN X0.here hx rfl (hb hby d26_16) rfl ?_
          exact kt
        have c63 : own_G p e below s₁ (mkF m 17 #[oa r0, oa r1, oi 1] [(.int (1 : Int32)), (.ref r0)]) (mkF m 17 #[oa r0, oa r1, oi ((0 : Int32) + (1 : Int32))] [(.int ((0 : Int32) + (1 : Int32))), (.ref r0)]) := fun t kt => castTop (congrArg (fun zv => (mkF m 17 #[oa r0, oa r1, oi zv] [(.int zv), (.ref r0)])) (show ((0 : Int32) + (1 : Int32)) = (1 : Int32) from by decide)) kt
        have Vc64 := Vx0
        obtain ⟨cl64, Ar64, qk64, S64, M64, H64, G64⟩ := Vc64
        have hin64 : ¬ ((1 : Int32) < 0 ∨ cl64.slots.size ≤ ((1 : Int32)).toNatClampNeg) := inb_of S64 ⟨by decide, by decide⟩
        have hat64 : cl64.slots[((1 : Int32)).toNatClampNeg]? = some (.int (ub.toInt8.toInt32)) := H64.at hin64 rfl
        have Vc65 := Vx1
        obtain ⟨cl65, Ar65, qk65, S65, M65, H65, G65⟩ := Vc65
        have hin65 : ¬ ((1 : Int32) < 0 ∨ cl65.slots.size ≤ ((1 : Int32)).toNatClampNeg) := inb_of S65 ⟨by decide, by decide⟩
        have hat65 : cl65.slots[((1 : Int32)).toNatClampNeg]? = some (.int (vb.toInt8.toInt32)) := H65.at hin65 rfl
        have c66 : own_G p e below s₁ (mkF m 21 #[oa r0, oa r1, oi 1] [(.int (vb.toInt8.toInt32)), (.int (ub.toInt8.toInt32))]) (mkF m 17 #[oa r0, oa r1, oi 1] [(.int (1 : Int32)), (.ref r0)]) := by
          intro t kt
          show oS s₁ (mkF m 17 #[oa r0, oa r1, oi 1] [(.int (1 : Int32)), (.ref r0)]) _
          refine X0.baloadBytes hx (j := (1 : Int32)) (v := (.int (ub.toInt8.toInt32))) (by rw [e0]; exact Ar64.1) (State.isArrayOf_alike hZ.alike Ar64.2.1) Ar64.2.2 hin64 hat64 (g := (mkF m 17 #[oa r0, oa r1, oi 1] [(.int (1 : Int32)), (.ref r0)])) rfl rfl (hb hby d26_17) _ ?_
          show oS s₁ (mkF m 18 #[oa r0, oa r1, oi 1] [(.int (ub.toInt8.toInt32))]) _
          refine XS.aloadN X0.here hx rfl (hb hby d26_18) rfl rfl ?_
          show oS s₁ (mkF m 19 #[oa r0, oa r1, oi 1] [(.ref r1), (.int (ub.toInt8.toInt32))]) _
          refine XS.iloadN X0.here hx rfl (hb hby d26_19) rfl ?_
          show oS s₁ (mkF m 20 #[oa r0, oa r1, oi 1] [(.int (1 : Int32)), (.ref r1), (.int (ub.toInt8.toInt32))]) _
          refine X0.baloadBytes hx (j := (1 : Int32)) (v := (.int (vb.toInt8.toInt32))) (by rw [e0]; exact Ar65.1) (State.isArrayOf_alike hZ.alike Ar65.2.1) Ar65.2.2 hin65 hat65 (g := (mkF m 20 #[oa r0, oa r1, oi 1] [(.int (1 : Int32)), (.ref r1), (.int (ub.toInt8.toInt32))])) rfl rfl (hb hby d26_20) _ ?_
          exact kt
        by_cases hc21_2 : (ub.toInt8.toInt32) = (vb.toInt8.toInt32)
        · -- it is
          have Vc67 := Vx0
          obtain ⟨cl67, Ar67, qk67, S67, M67, H67, G67⟩ := Vc67
          have c68 : own_G p e below s₁ (mkF m 17 #[oa r0, oa r1, oi ((1 : Int32) + (1 : Int32))] [(.int ((1 : Int32) + (1 : Int32))), (.ref r0)]) (mkF m 21 #[oa r0, oa r1, oi 1] [(.int (vb.toInt8.toInt32)), (.int (ub.toInt8.toInt32))]) := by
            intro t kt
            show oS s₁ (mkF m 21 #[oa r0, oa r1, oi 1] [(.int (vb.toInt8.toInt32)), (.int (ub.toInt8.toInt32))]) _
            refine XS.icmpYes X0.here hx rfl (pc0 := 21) (pc' := 26) rfl (hb hby d26_21) rfl (teq hc21_2).1 (by decide) (by decide) ?_
            show oS s₁ (mkF m 26 #[oa r0, oa r1, oi 1] []) _
            refine XS.iinc X0.here hx rfl (hb hby d26_26) rfl (l' := #[oa r0, oa r1, oi ((1 : Int32) + (1 : Int32))]) rfl ?_
            show oS s₁ (mkF m 29 #[oa r0, oa r1, oi ((1 : Int32) + (1 : Int32))] []) _
            refine XS.goto X0.here hx rfl (pc0 := 29) (pc' := 9) rfl (hb hby d26_29) (by decide) (by decide) ?_
            show oS s₁ (mkF m 9 #[oa r0, oa r1, oi ((1 : Int32) + (1 : Int32))] []) _
            refine XS.iloadN X0.here hx rfl (hb hby d26_9) rfl ?_
            show oS s₁ (mkF m 10 #[oa r0, oa r1, oi ((1 : Int32) + (1 : Int32))] [(.int ((1 : Int32) + (1 : Int32)))]) _
            refine XS.aloadN X0.here hx rfl (hb hby d26_10) rfl rfl ?_
            show oS s₁ (mkF m 11 #[oa r0, oa r1, oi ((1 : Int32) + (1 : Int32))] [(.ref r0), (.int ((1 : Int32) + (1 : Int32)))]) _
            refine X0.arraylength hx (by rw [e0]; exact Ar67.1) (State.isArrayOf_alike hZ.alike Ar67.2.1) (g := (mkF m 11 #[oa r0, oa r1, oi ((1 : Int32) + (1 : Int32))] [(.ref r0), (.int ((1 : Int32) + (1 : Int32)))])) rfl rfl (hb hby d26_11) _ ?_
            rw [len_of S67 M67]
            show oS s₁ (mkF m 12 #[oa r0, oa r1, oi ((1 : Int32) + (1 : Int32))] [(.int (3 : Int32)), (.int ((1 : Int32) + (1 : Int32)))]) _
            refine XS.icmpNo X0.here hx rfl (hb hby d26_12) rfl (tlt (by decide : ((1 : Int32) + (1 : Int32)) < (3 : Int32))).2.1 ?_
            show oS s₁ (mkF m 15 #[oa r0, oa r1, oi ((1 : Int32) + (1 : Int32))] []) _
            refine XS.aloadN X0.here hx rfl (hb hby d26_15) rfl rfl ?_
            show oS s₁ (mkF m 16 #[oa r0, oa r1, oi ((1 : Int32) + (1 : Int32))] [(.ref r0)]) _
            refine XS.iloadN X0.here hx rfl (hb hby d26_16) rfl ?_
            exact kt
          have c69 : own_G p e below s₁ (mkF m 17 #[oa r0, oa r1, oi 2] [(.int (2 : Int32)), (.ref r0)]) (mkF m 17 #[oa r0, oa r1, oi ((1 : Int32) + (1 : Int32))] [(.int ((1 : Int32) + (1 : Int32))), (.ref r0)]) := fun t kt => castTop (congrArg (fun zv => (mkF m 17 #[oa r0, oa r1, oi zv] [(.int zv), (.ref r0)])) (show ((1 : Int32) + (1 : Int32)) = (2 : Int32) from by decide)) kt
          have Vc70 := Vx0
          obtain ⟨cl70, Ar70, qk70, S70, M70, H70, G70⟩ := Vc70
          have hin70 : ¬ ((2 : Int32) < 0 ∨ cl70.slots.size ≤ ((2 : Int32)).toNatClampNeg) := inb_of S70 ⟨by decide, by decide⟩
          have hat70 : cl70.slots[((2 : Int32)).toNatClampNeg]? = some (.int (uc.toInt8.toInt32)) := H70.at hin70 rfl
          have Vc71 := Vx1
          obtain ⟨cl71, Ar71, qk71, S71, M71, H71, G71⟩ := Vc71
          have hin71 : ¬ ((2 : Int32) < 0 ∨ cl71.slots.size ≤ ((2 : Int32)).toNatClampNeg) := inb_of S71 ⟨by decide, by decide⟩
          have hat71 : cl71.slots[((2 : Int32)).toNatClampNeg]? = some (.int (vc.toInt8.toInt32)) := H71.at hin71 rfl
          have c72 : own_G p e below s₁ (mkF m 21 #[oa r0, oa r1, oi 2] [(.int (vc.toInt8.toInt32)), (.int (uc.toInt8.toInt32))]) (mkF m 17 #[oa r0, oa r1, oi 2] [(.int (2 : Int32)), (.ref r0)]) := by
            intro t kt
            show oS s₁ (mkF m 17 #[oa r0, oa r1, oi 2] [(.int (2 : Int32)), (.ref r0)]) _
            refine X0.baloadBytes hx (j := (2 : Int32)) (v := (.int (uc.toInt8.toInt32))) (by rw [e0]; exact Ar70.1) (State.isArrayOf_alike hZ.alike Ar70.2.1) Ar70.2.2 hin70 hat70 (g := (mkF m 17 #[oa r0, oa r1, oi 2] [(.int (2 : Int32)), (.ref r0)])) rfl rfl (hb hby d26_17) _ ?_
            show oS s₁ (mkF m 18 #[oa r0, oa r1, oi 2] [(.int (uc.toInt8.toInt32))]) _
            refine XS.aloadN X0.here hx rfl (hb hby d26_18) rfl rfl ?_
            show oS s₁ (mkF m 19 #[oa r0, oa r1, oi 2] [(.ref r1), (.int (uc.toInt8.toInt32))]) _
            refine XS.iloadN X0.here hx rfl (hb hby d26_19) rfl ?_
            show oS s₁ (mkF m 20 #[oa r0, oa r1, oi 2] [(.int (2 : Int32)), (.ref r1), (.int (uc.toInt8.toInt32))]) _
            refine X0.baloadBytes hx (j := (2 : Int32)) (v := (.int (vc.toInt8.toInt32))) (by rw [e0]; exact Ar71.1) (State.isArrayOf_alike hZ.alike Ar71.2.1) Ar71.2.2 hin71 hat71 (g := (mkF m 20 #[oa r0, oa r1, oi 2] [(.int (2 : Int32)), (.ref r1), (.int (uc.toInt8.toInt32))])) rfl rfl (hb hby d26_20) _ ?_
            exact kt
          by_cases hc21_3 : (uc.toInt8.toInt32) = (vc.toInt8.toInt32)
          · -- it is
            have Vc73 := Vx0
            obtain ⟨cl73, Ar73, qk73, S73, M73, H73, G73⟩ := Vc73
            have c74 : own_G p e below s₁ (mkF m 33 #[oa r0, oa r1, oi ((2 : Int32) + (1 : Int32))] [(.int (1 : Int32))]) (mkF m 21 #[oa r0, oa r1, oi 2] [(.int (vc.toInt8.toInt32)), (.int (uc.toInt8.toInt32))]) := by
              intro t kt
              show oS s₁ (mkF m 21 #[oa r0, oa r1, oi 2] [(.int (vc.toInt8.toInt32)), (.int (uc.toInt8.toInt32))]) _
              refine XS.icmpYes X0.here hx rfl (pc0 := 21) (pc' := 26) rfl (hb hby d26_21) rfl (teq hc21_3).1 (by decide) (by decide) ?_
              show oS s₁ (mkF m 26 #[oa r0, oa r1, oi 2] []) _
              refine XS.iinc X0.here hx rfl (hb hby d26_26) rfl (l' := #[oa r0, oa r1, oi ((2 : Int32) + (1 : Int32))]) rfl ?_
              show oS s₁ (mkF m 29 #[oa r0, oa r1, oi ((2 : Int32) + (1 : Int32))] []) _
              refine XS.goto X0.here hx rfl (pc0 := 29) (pc' := 9) rfl (hb hby d26_29) (by decide) (by decide) ?_
              show oS s₁ (mkF m 9 #[oa r0, oa r1, oi ((2 : Int32) + (1 : Int32))] []) _
              refine XS.iloadN X0.here hx rfl (hb hby d26_9) rfl ?_
              show oS s₁ (mkF m 10 #[oa r0, oa r1, oi ((2 : Int32) + (1 : Int32))] [(.int ((2 : Int32) + (1 : Int32)))]) _
              refine XS.aloadN X0.here hx rfl (hb hby d26_10) rfl rfl ?_
              show oS s₁ (mkF m 11 #[oa r0, oa r1, oi ((2 : Int32) + (1 : Int32))] [(.ref r0), (.int ((2 : Int32) + (1 : Int32)))]) _
              refine X0.arraylength hx (by rw [e0]; exact Ar73.1) (State.isArrayOf_alike hZ.alike Ar73.2.1) (g := (mkF m 11 #[oa r0, oa r1, oi ((2 : Int32) + (1 : Int32))] [(.ref r0), (.int ((2 : Int32) + (1 : Int32)))])) rfl rfl (hb hby d26_11) _ ?_
              rw [len_of S73 M73]
              show oS s₁ (mkF m 12 #[oa r0, oa r1, oi ((2 : Int32) + (1 : Int32))] [(.int (3 : Int32)), (.int ((2 : Int32) + (1 : Int32)))]) _
              refine XS.icmpYes X0.here hx rfl (pc0 := 12) (pc' := 32) rfl (hb hby d26_12) rfl (flt (by decide : ¬ (((2 : Int32) + (1 : Int32)) < (3 : Int32)))).2.1 (by decide) (by decide) ?_
              show oS s₁ (mkF m 32 #[oa r0, oa r1, oi ((2 : Int32) + (1 : Int32))] []) _
              refine XS.iconst X0.here hx rfl (hb hby d26_32) ?_
              exact kt
            obtain ⟨fs, hr, hrun, hended, hW, hsame⟩ := X0.leave (v := some (.int (1 : Int32))) (fun h => by rw [Bd.returns] at h; cases h)
            refine ⟨_, _, pre0 _ (c60 _ (c62 _ (c63 _ (c66 _ (c68 _ (c69 _ (c72 _ (c74 _ (?_))))))))), hrun, hended, _, _, rfl, ?_, ⟨_, rfl⟩, hW, hsame.mono (by decide) (by decide)⟩
            · show Steps p.tables e below (s₁.setTop (mkF m 33 #[oa r0, oa r1, oi ((2 : Int32) + (1 : Int32))] [(.int (1 : Int32))])) _
              exact retN X0 hx (t := .boolean) Bd.returns (by simp) (hb hby d26_33) hr
            · show Q26 Z r0 r1 ka kb tx ty h0 n0 _ s₁.heap _
              rw [e0]
              exact ⟨congrArg (fun z => some (Value.int z)) (show (1 : Int32) = (own_same tx ty) from by rw [own_b8 rua rva] at hc21; rw [own_b8 rub rvb] at hc21_2; rw [own_b8 ruc rvc] at hc21_3; rw [htx, hty]; unfold own_same; simp [hc21, hc21_2, hc21_3]), N0, rfl⟩
          · -- it isn't
            have c76 : own_G p e below s₁ (mkF m 25 #[oa r0, oa r1, oi 2] [(.int (0 : Int32))]) (mkF m 21 #[oa r0, oa r1, oi 2] [(.int (vc.toInt8.toInt32)), (.int (uc.toInt8.toInt32))]) := by
              intro t kt
              show oS s₁ (mkF m 21 #[oa r0, oa r1, oi 2] [(.int (vc.toInt8.toInt32)), (.int (uc.toInt8.toInt32))]) _
              refine XS.icmpNo X0.here hx rfl (hb hby d26_21) rfl (feq hc21_3).1 ?_
              show oS s₁ (mkF m 24 #[oa r0, oa r1, oi 2] []) _
              refine XS.iconst X0.here hx rfl (hb hby d26_24) ?_
              exact kt
            obtain ⟨fs, hr, hrun, hended, hW, hsame⟩ := X0.leave (v := some (.int (0 : Int32))) (fun h => by rw [Bd.returns] at h; cases h)
            refine ⟨_, _, pre0 _ (c60 _ (c62 _ (c63 _ (c66 _ (c68 _ (c69 _ (c72 _ (c76 _ (?_))))))))), hrun, hended, _, _, rfl, ?_, ⟨_, rfl⟩, hW, hsame.mono (by decide) (by decide)⟩
            · show Steps p.tables e below (s₁.setTop (mkF m 25 #[oa r0, oa r1, oi 2] [(.int (0 : Int32))])) _
              exact retN X0 hx (t := .boolean) Bd.returns (by simp) (hb hby d26_25) hr
            · show Q26 Z r0 r1 ka kb tx ty h0 n0 _ s₁.heap _
              rw [e0]
              exact ⟨congrArg (fun z => some (Value.int z)) (show (0 : Int32) = (own_same tx ty) from by rw [own_b8 rua rva] at hc21; rw [own_b8 rub rvb] at hc21_2; rw [own_b8 ruc rvc] at hc21_3; rw [htx, hty]; unfold own_same; simp [hc21, hc21_2, hc21_3]), N0, rfl⟩
        · -- it isn't
          have c78 : own_G p e below s₁ (mkF m 25 #[oa r0, oa r1, oi 1] [(.int (0 : Int32))]) (mkF m 21 #[oa r0, oa r1, oi 1] [(.int (vb.toInt8.toInt32)), (.int (ub.toInt8.toInt32))]) := by
            intro t kt
            show oS s₁ (mkF m 21 #[oa r0, oa r1, oi 1] [(.int (vb.toInt8.toInt32)), (.int (ub.toInt8.toInt32))]) _
            refine XS.icmpNo X0.here hx rfl (hb hby d26_21) rfl (feq hc21_2).1 ?_
            show oS s₁ (mkF m 24 #[oa r0, oa r1, oi 1] []) _
            refine XS.iconst X0.here hx rfl (hb hby d26_24) ?_
            exact kt
          obtain ⟨fs, hr, hrun, hended, hW, hsame⟩ := X0.leave (v := some (.int (0 : Int32))) (fun h => by rw [Bd.returns] at h; cases h)
          refine ⟨_, _, pre0 _ (c60 _ (c62 _ (c63 _ (c66 _ (c78 _ (?_)))))), hrun, hended, _, _, rfl, ?_, ⟨_, rfl⟩, hW, hsame.mono (by decide) (by decide)⟩
          · show Steps p.tables e below (s₁.setTop (mkF m 25 #[oa r0, oa r1, oi 1] [(.int (0 : Int32))])) _
            exact retN X0 hx (t := .boolean) Bd.returns (by simp) (hb hby d26_25) hr
          · show Q26 Z r0 r1 ka kb tx ty h0 n0 _ s₁.heap _
            rw [e0]
            exact ⟨congrArg (fun z => some (Value.int z)) (show (0 : Int32) = (own_same tx ty) from by rw [own_b8 rua rva] at hc21; rw [own_b8 rub rvb] at hc21_2; rw [htx, hty]; unfold own_same; simp [hc21, hc21_2]), N0, rfl⟩
      · -- it isn't
        have c80 : own_G p e below s₁ (mkF m 25 #[oa r0, oa r1, oi 0] [(.int (0 : Int32))]) (mkF m 21 #[oa r0, oa r1, oi 0] [(.int (va.toInt8.toInt32)), (.int (ua.toInt8.toInt32))]) := by
          intro t kt
          show oS s₁ (mkF m 21 #[oa r0, oa r1, oi 0] [(.int (va.toInt8.toInt32)), (.int (ua.toInt8.toInt32))]) _
          refine XS.icmpNo X0.here hx rfl (hb hby d26_21) rfl (feq hc21).1 ?_
          show oS s₁ (mkF m 24 #[oa r0, oa r1, oi 0] []) _
          refine XS.iconst X0.here hx rfl (hb hby d26_24) ?_
          exact kt
        obtain ⟨fs, hr, hrun, hended, hW, hsame⟩ := X0.leave (v := some (.int (0 : Int32))) (fun h => by rw [Bd.returns] at h; cases h)
        refine ⟨_, _, pre0 _ (c60 _ (c80 _ (?_))), hrun, hended, _, _, rfl, ?_, ⟨_, rfl⟩, hW, hsame.mono (by decide) (by decide)⟩
        · show Steps p.tables e below (s₁.setTop (mkF m 25 #[oa r0, oa r1, oi 0] [(.int (0 : Int32))])) _
          exact retN X0 hx (t := .boolean) Bd.returns (by simp) (hb hby d26_25) hr
        · show Q26 Z r0 r1 ka kb tx ty h0 n0 _ s₁.heap _
          rw [e0]
          exact ⟨congrArg (fun z => some (Value.int z)) (show (0 : Int32) = (own_same tx ty) from by rw [own_b8 rua rva] at hc21; rw [htx, hty]; unfold own_same; simp [hc21]), N0, rfl⟩
theorem d25_0 : decode jdk_42_method_66_code 0 = .ok (.aload_n 0, 1) := by decide +kernel
theorem d25_1 : decode jdk_42_method_66_code 1 = .ok (.aload_n 1, 1) := by decide +kernel
theorem d25_2 : decode jdk_42_method_66_code 2 = .ok (.if_acmp .ne 5, 3) := by decide +kernel
theorem d25_7 : decode jdk_42_method_66_code 7 = .ok (.aload_n 1, 1) := by decide +kernel
theorem d25_8 : decode jdk_42_method_66_code 8 = .ok (.instanceof 10, 3) := by decide +kernel
theorem d25_11 : decode jdk_42_method_66_code 11 = .ok (.ifCond .eq 43, 3) := by decide +kernel
theorem d25_14 : decode jdk_42_method_66_code 14 = .ok (.aload_n 1, 1) := by decide +kernel
theorem d25_15 : decode jdk_42_method_66_code 15 = .ok (.checkcast 10, 3) := by decide +kernel
theorem d25_18 : decode jdk_42_method_66_code 18 = .ok (.astore_n 2, 1) := by decide +kernel
theorem d25_19 : decode jdk_42_method_66_code 19 = .ok (.getstatic 38, 3) := by decide +kernel
theorem d25_22 : decode jdk_42_method_66_code 22 = .ok (.ifCond .eq 14, 3) := by decide +kernel
theorem d25_25 : decode jdk_42_method_66_code 25 = .ok (.aload_n 0, 1) := by decide +kernel
theorem d25_26 : decode jdk_42_method_66_code 26 = .ok (.getfield 15, 3) := by decide +kernel
theorem d25_29 : decode jdk_42_method_66_code 29 = .ok (.aload_n 2, 1) := by decide +kernel
theorem d25_30 : decode jdk_42_method_66_code 30 = .ok (.getfield 15, 3) := by decide +kernel
theorem d25_33 : decode jdk_42_method_66_code 33 = .ok (.if_icmp .ne 21, 3) := by decide +kernel
theorem d25_36 : decode jdk_42_method_66_code 36 = .ok (.aload_n 0, 1) := by decide +kernel
theorem d25_37 : decode jdk_42_method_66_code 37 = .ok (.getfield 9, 3) := by decide +kernel
theorem d25_40 : decode jdk_42_method_66_code 40 = .ok (.aload_n 2, 1) := by decide +kernel
theorem d25_41 : decode jdk_42_method_66_code 41 = .ok (.getfield 9, 3) := by decide +kernel
theorem d25_44 : decode jdk_42_method_66_code 44 = .ok (.invokestatic 541, 3) := by decide +kernel
theorem d25_47 : decode jdk_42_method_66_code 47 = .ok (.ifCond .eq 7, 3) := by decide +kernel
theorem d25_50 : decode jdk_42_method_66_code 50 = .ok (.iconst 1, 1) := by decide +kernel
theorem d25_51 : decode jdk_42_method_66_code 51 = .ok (.goto 4, 3) := by decide +kernel
theorem d25_54 : decode jdk_42_method_66_code 54 = .ok (.iconst 0, 1) := by decide +kernel
theorem d25_55 : decode jdk_42_method_66_code 55 = .ok (.ireturn, 1) := by decide +kernel
theorem pn_25 : plainName "java/lang/String" = true := by first | (simp [plainName, overriddenIn]; done) | decide +kernel
theorem ef_25 (m : MethodId) (x0 : Addr) (x1 : Addr) : entryFrame m #[(.ref x0), (.ref x1)] 3 = mkF m 0 #[.val (.ref x0), .val (.ref x1), .unset] [] := by first | (simp [entryFrame, mkF, argsToLocals, Value.category]; done) | rfl
def Q25 (Z : State) (r0 : Addr) (r1 : Addr) (ba bb : Addr) (ka kb : ClassId) (cs : Int32) (tx ty : List Int32) (h0 : Heap) (n0 : Nat) (v : Option Value) (h : Heap) (L : List Loc) : Prop := v = some (.int (own_same tx ty)) ∧ Fr n0 L ∧ h = h0
set_option maxRecDepth 65536 in
set_option maxHeartbeats 40000000 in
theorem rm25 (l : Launch) (Z : State) (a0 : Array Value) (hw : ∀ d ∈ tables_1, d.before a0 Z = true) (ws : List Jvm.Cond) (r0 : Addr) (r1 : Addr) (ba bb : Addr) (ka kb : ClassId) (cs : Int32) (tx ty : List Int32) (h0 : Heap) (n0 : Nat) (Z0 : n0 ≤ h0.size) (Ea : Exa Z h0 r0 "java/lang/String") (Fa : Fld Z h0 r0 "java/lang/String" "value" "[B" (.ref ba)) (Ca : Fld Z h0 r0 "java/lang/String" "coder" "B" (.int (0 : Int32))) (Va : Arv Z h0 ba ka .byte (Int32.ofNat tx.length) ((tx.map (fun c => c.toInt8.toInt32)).map Value.int) (.int 0)) (Eb : Exa Z h0 r1 "java/lang/String") (Fb : Fld Z h0 r1 "java/lang/String" "value" "[B" (.ref bb)) (Cb : Fld Z h0 r1 "java/lang/String" "coder" "B" (.int (0 : Int32))) (Vb : Arv Z h0 bb kb .byte (Int32.ofNat ty.length) ((ty.map (fun c => c.toInt8.toInt32)).map Value.int) (.int 0)) (SC : Sta Z h0 "java/lang/String" "COMPACT_STRINGS" "Z" (.int cs)) (hcs : ¬ cs = (0 : Int32)) (hlx : own_l3 tx) (hly : own_l3 ty) (hne : r0 ≠ r1) :
    MetFree l yy_19 (head1 (Jvm.Cond.code yy_19 jdk_42_method_66_code 3 (some .boolean) :: ws) ({ frames := 1, cells := 0, slots := 0, locals := 14 } : Room)) (fun a U => a = #[(.ref r0), (.ref r1)] ∧ Z.Warmed39 U.vm ∧ U.heap = h0) (fun _ _ _ _ _ => True) (fun _ U o U' => ∃ v L, o = .returned v ∧ Q25 Z r0 r1 ba bb ka kb cs tx ty h0 n0 v U'.heap L ∧ FrameEnd U o U' L ({ frames := 1, cells := 0, slots := 0, locals := 14 } : Room).cells ({ frames := 1, cells := 0, slots := 0, locals := 14 } : Room).slots) := by
  refine MetFree.of_bodySF (plainFor_of_name pn_25) hisR ?_
  intro p e s m args below meth c s₁ Bd hml0 hP hK
  obtain ⟨rfl, hZ, hh⟩ := hP
  have hx := Bd.exec
  have hby := Bd.bytes
  have hml : c.maxLocals = 3 := hml0
  have hown : s.vm.findClass "java/lang/String" = some m.cls := findClass_of_methodNamed Bd.named
  have hnm := (name_of_methodNamed Bd.named Bd.method).1
  have X0 : Stand p l e ({ frames := 1, cells := 0, slots := 0, locals := 14 } : Room) s m #[(.ref r0), (.ref r1)] below meth c s₁ [] 0 0 := Stand.of_body Bd
  have e0 : s₁.heap = h0 := by rw [← hh, Bd.state]; rfl
  have N0 := Fr.nil n0
  have pre0 : ∀ t, Steps p.tables e below (s₁.setTop (mkF m 0 #[oa r0, oa r1, .unset] [])) t → Steps p.tables e below (s₁.setTop (entryFrame m #[(.ref r0), (.ref r1)] 3)) t := fun t k => castTop (ef_25 m r0 r1) k
  have c2 : own_G p e below s₁ (mkF m 8 #[oa r0, oa r1, .unset] [(.ref r1)]) (mkF m 0 #[oa r0, oa r1, .unset] []) := by
    intro t kt
    show oS s₁ (mkF m 0 #[oa r0, oa r1, .unset] []) _
    refine XS.aloadN X0.here hx rfl (hb hby d25_0) rfl rfl ?_
    show oS s₁ (mkF m 1 #[oa r0, oa r1, .unset] [(.ref r0)]) _
    refine XS.aloadN X0.here hx rfl (hb hby d25_1) rfl rfl ?_
    show oS s₁ (mkF m 2 #[oa r0, oa r1, .unset] [(.ref r1), (.ref r0)]) _
    refine Jvm.RoadKit.acmp (g := (mkF m 2 #[oa r0, oa r1, .unset] [(.ref r1), (.ref r0)])) X0 hx rfl rfl rfl (pc0 := 2) (pc' := 7) (same := false) rfl (hb hby d25_2) rfl (decide_eq_false fun q => hne (Value.ref.inj q)) (by decide) (by decide) ?_
    show oS s₁ (mkF m 7 #[oa r0, oa r1, .unset] []) _
    refine XS.aloadN X0.here hx rfl (hb hby d25_7) rfl rfl ?_
    exact kt
  obtain ⟨T1, X1, e1, st1⟩ := instY X0 hx hZ hown (own_t hw 127 rfl) e0 (Ins.self Eb) (g := (mkF m 8 #[oa r0, oa r1, .unset] [(.ref r1)])) rfl rfl (hb hby d25_8)
  have c4 : own_G p e below T1 (mkF m 15 #[oa r0, oa r1, .unset] [(.ref r1)]) (mkF m 11 #[oa r0, oa r1, .unset] [(.int (1 : Int32))]) := by
    intro t kt
    show oS T1 (mkF m 11 #[oa r0, oa r1, .unset] [(.int (1 : Int32))]) _
    refine XS.ifNo X1.here hx rfl (hb hby d25_11) rfl ((if0 _ _).trans (feq (by decide : ¬ ((1 : Int32) = (0 : Int32)))).1) ?_
    show oS T1 (mkF m 14 #[oa r0, oa r1, .unset] []) _
    refine XS.aloadN X1.here hx rfl (hb hby d25_14) rfl rfl ?_
    exact kt
  obtain ⟨T3, X3, e3, st3⟩ := castY X1 hx hZ hown (own_t hw 127 rfl) e1 (Ins.self Eb) (g := (mkF m 15 #[oa r0, oa r1, .unset] [(.ref r1)])) rfl rfl (hb hby d25_15)
  have c6 : own_G p e below T3 (mkF m 19 #[oa r0, oa r1, oa r1] []) (mkF m 18 #[oa r0, oa r1, .unset] [(.ref r1)]) := by
    intro t kt
    show oS T3 (mkF m 18 #[oa r0, oa r1, .unset] [(.ref r1)]) _
    refine XS.astoreN X3.here hx rfl (hb hby d25_18) rfl rfl (l' := #[oa r0, oa r1, oa r1]) rfl ?_
    exact kt
  obtain ⟨T5, X5, e5, st5⟩ := getS2 X3 hx hZ hown (host := "") (Or.inl (own_t hw 22 rfl)) Via.refl e3 SC (g := (mkF m 19 #[oa r0, oa r1, oa r1] [])) rfl (hb hby d25_19)
  have hd7 : ¬ (cs = (0 : Int32)) := hcs
  have c9 : own_G p e below T5 (mkF m 26 #[oa r0, oa r1, oa r1] [(.ref r0)]) (mkF m 22 #[oa r0, oa r1, oa r1] [(.int cs)]) := by
    intro t kt
    show oS T5 (mkF m 22 #[oa r0, oa r1, oa r1] [(.int cs)]) _
    refine XS.ifNo X5.here hx rfl (hb hby d25_22) rfl ((if0 _ _).trans (feq hd7).1) ?_
    show oS T5 (mkF m 25 #[oa r0, oa r1, oa r1] []) _
    refine XS.aloadN X5.here hx rfl (hb hby d25_25) rfl rfl ?_
    exact kt
  obtain ⟨T8, X8, e8, st8⟩ := getF X5 hx hZ hown (host := "") (Or.inl (own_t hw 34 rfl)) Via.refl e5 Ca (g := (mkF m 26 #[oa r0, oa r1, oa r1] [(.ref r0)])) rfl rfl (hb hby d25_26)
  have c11 : own_G p e below T8 (mkF m 30 #[oa r0, oa r1, oa r1] [(.ref r1), (.int (0 : Int32))]) (mkF m 29 #[oa r0, oa r1, oa r1] [(.int (0 : Int32))]) := by
    intro t kt
    show oS T8 (mkF m 29 #[oa r0, oa r1, oa r1] [(.int (0 : Int32))]) _
    refine XS.aloadN X8.here hx rfl (hb hby d25_29) rfl rfl ?_
    exact kt
  obtain ⟨T10, X10, e10, st10⟩ := getF X8 hx hZ hown (host := "") (Or.inl (own_t hw 34 rfl)) Via.refl e8 Cb (g := (mkF m 30 #[oa r0, oa r1, oa r1] [(.ref r1), (.int (0 : Int32))])) rfl rfl (hb hby d25_30)
  have c13 : own_G p e below T10 (mkF m 37 #[oa r0, oa r1, oa r1] [(.ref r0)]) (mkF m 33 #[oa r0, oa r1, oa r1] [(.int (0 : Int32)), (.int (0 : Int32))]) := by
    intro t kt
    show oS T10 (mkF m 33 #[oa r0, oa r1, oa r1] [(.int (0 : Int32)), (.int (0 : Int32))]) _
    refine XS.icmpNo X10.here hx rfl (hb hby d25_33) rfl (teq (by decide : (0 : Int32) = (0 : Int32))).2 ?_
    show oS T10 (mkF m 36 #[oa r0, oa r1, oa r1] []) _
    refine XS.aloadN X10.here hx rfl (hb hby d25_36) rfl rfl ?_
    exact kt
  obtain ⟨T12, X12, e12, st12⟩ := getF X10 hx hZ hown (host := "") (Or.inl (own_t hw 36 rfl)) Via.refl e10 Fa (g := (mkF m 37 #[oa r0, oa r1, oa r1] [(.ref r0)])) rfl rfl (hb hby d25_37)
  have c15 : own_G p e below T12 (mkF m 41 #[oa r0, oa r1, oa r1] [(.ref r1), (.ref ba)]) (mkF m 40 #[oa r0, oa r1, oa r1] [(.ref ba)]) := by
    intro t kt
    show oS T12 (mkF m 40 #[oa r0, oa r1, oa r1] [(.ref ba)]) _
    refine XS.aloadN X12.here hx rfl (hb hby d25_40) rfl rfl ?_
    exact kt
  obtain ⟨T14, X14, e14, st14⟩ := getF X12 hx hZ hown (host := "") (Or.inl (own_t hw 36 rfl)) Via.refl e12 Fb (g := (mkF m 41 #[oa r0, oa r1, oa r1] [(.ref r1), (.ref ba)])) rfl rfl (hb hby d25_41)
  obtain ⟨_, _, ⟨T16, L16, k16, n16⟩, -, X16, ⟨Lc16, hQ16, l16, y16, z16⟩, st16⟩ := Jvm.LawKit.callS X14 hx (y := yy_18) hown (mvT hZ (own_t hw 128 rfl)) (mvT hZ (own_t hw 129 rfl)) (mvT hZ (own_t hw 97 rfl)) (mvT hZ (own_t hw 130 rfl)) (by decide) (backOf (W := 0) (rm26 l Z a0 hw [] ba bb ka kb tx ty h0 n0 Z0 Va Vb hlx hly) hZ (own_t hw 130 rfl) (own_t hw 97 rfl) (by decide) (by decide)) (g := (mkF m 44 #[oa r0, oa r1, oa r1] [(.ref bb), (.ref ba)])) rfl (by rw [hml]; rfl) (argsL := [(.ref ba), (.ref bb)]) (rest := []) (lenOf pd_13 rfl) rfl (by show 2 * 0 + _ ≤ _; exact Nat.le_of_eq rfl) (hb hby d25_44) (fun _ _ => ⟨rfl, e14, (by decide : 0 + 0 ≤ _), (by decide : 0 + 0 ≤ _)⟩)
  dsimp only [Pt.U, Pt.locs, Pt.cells, Pt.slots] at X16 l16 y16 z16 st16 hQ16
  subst l16 y16 z16
  obtain ⟨rfl, N16q, e16⟩ := hQ16
  have N16 := Fr.app N0 N16q
  by_cases hc47 : (own_same tx ty) = (0 : Int32)
  · -- it is
    have c17 : own_G p e below T16 (mkF m 55 #[oa r0, oa r1, oa r1] [(.int (0 : Int32))]) (mkF m 47 #[oa r0, oa r1, oa r1] [(.int (own_same tx ty))]) := by
      intro t kt
      show oS T16 (mkF m 47 #[oa r0, oa r1, oa r1] [(.int (own_same tx ty))]) _
      refine XS.ifYes X16.here hx rfl (pc0 := 47) (pc' := 54) rfl (hb hby d25_47) rfl ((if0 _ _).trans (teq hc47).1) (by decide) (by decide) ?_
      show oS T16 (mkF m 54 #[oa r0, oa r1, oa r1] []) _
      refine XS.iconst X16.here hx rfl (hb hby d25_54) ?_
      exact kt
    obtain ⟨fs, hr, hrun, hended, hW, hsame⟩ := X16.leave (v := some (.int (0 : Int32))) (fun h => by rw [Bd.returns] at h; cases h)
    refine ⟨_, _, pre0 _ (c2 _ (st1 _ (c4 _ (st3 _ (c6 _ (st5 _ (c9 _ (st8 _ (c11 _ (st10 _ (c13 _ (st12 _ (c15 _ (st14 _ (st16 _ (c17 _ (?_))))))))))))))))), hrun, hended, _, _, rfl, ?_, ⟨_, rfl⟩, hW, hsame.mono (by decide) (by decide)⟩
    · show Steps p.tables e below (T16.setTop (mkF m 55 #[oa r0, oa r1, oa r1] [(.int (0 : Int32))])) _
      exact retN X16 hx (t := .boolean) Bd.returns (by simp) (hb hby d25_55) hr
    · show Q25 Z r0 r1 ba bb ka kb cs tx ty h0 n0 _ T16.heap _
      rw [e16]
      exact ⟨congrArg (fun z => some (Value.int z)) (show (0 : Int32) = (own_same tx ty) from by exact hc47.symm), N16, rfl⟩
  · -- it isn't
    have c19 : own_G p e below T16 (mkF m 55 #[oa r0, oa r1, oa r1] [(.int (1 : Int32))]) (mkF m 47 #[oa r0, oa r1, oa r1] [(.int (own_same tx ty))]) := by
      intro t kt
      show oS T16 (mkF m 47 #[oa r0, oa r1, oa r1] [(.int (own_same tx ty))]) _
      refine XS.ifNo X16.here hx rfl (hb hby d25_47) rfl ((if0 _ _).trans (feq hc47).1) ?_
      show oS T16 (mkF m 50 #[oa r0, oa r1, oa r1] []) _
      refine XS.iconst X16.here hx rfl (hb hby d25_50) ?_
      show oS T16 (mkF m 51 #[oa r0, oa r1, oa r1] [(.int (1 : Int32))]) _
      refine XS.goto X16.here hx rfl (pc0 := 51) (pc' := 55) rfl (hb hby d25_51) (by decide) (by decide) ?_
      exact kt
    obtain ⟨fs, hr, hrun, hended, hW, hsame⟩ := X16.leave (v := some (.int (1 : Int32))) (fun h => by rw [Bd.returns] at h; cases h)
    refine ⟨_, _, pre0 _ (c2 _ (st1 _ (c4 _ (st3 _ (c6 _ (st5 _ (c9 _ (st8 _ (c11 _ (st10 _ (c13 _ (st12 _ (c15 _ (st14 _ (st16 _ (c19 _ (?_))))))))))))))))), hrun, hended, _, _, rfl, ?_, ⟨_, rfl⟩, hW, hsame.mono (by decide) (by decide)⟩
    · show Steps p.tables e below (T16.setTop (mkF m 55 #[oa r0, oa r1, oa r1] [(.int (1 : Int32))])) _
      exact retN X16 hx (t := .boolean) Bd.returns (by simp) (hb hby d25_55) hr
    · show Q25 Z r0 r1 ba bb ka kb cs tx ty h0 n0 _ T16.heap _
      rw [e16]
      exact ⟨congrArg (fun z => some (Value.int z)) (show (1 : Int32) = (own_same tx ty) from by exact own_same1 hc47), N16, rfl⟩
theorem d25_5 : decode jdk_42_method_66_code 5 = .ok (.iconst 1, 1) := by decide +kernel
theorem d25_6 : decode jdk_42_method_66_code 6 = .ok (.ireturn, 1) := by decide +kernel
def Q25s (Z : State) (r0 : Addr) (h0 : Heap) (n0 : Nat) (v : Option Value) (h : Heap) (L : List Loc) : Prop := v = some (.int (1 : Int32)) ∧ Fr n0 L ∧ h = h0
set_option maxRecDepth 65536 in
set_option maxHeartbeats 40000000 in
theorem rm25s (l : Launch) (Z : State) (a0 : Array Value) (hw : ∀ d ∈ tables_1, d.before a0 Z = true) (ws : List Jvm.Cond) (r0 : Addr)  (h0 : Heap) (n0 : Nat) (Z0 : n0 ≤ h0.size) :
    MetFree l yy_19 (head1 (Jvm.Cond.code yy_19 jdk_42_method_66_code 3 (some .boolean) :: ws) ({ frames := 0, cells := 0, slots := 0, locals := 0 } : Room)) (fun a U => a = #[(.ref r0), (.ref r0)] ∧ Z.Warmed39 U.vm ∧ U.heap = h0) (fun _ _ _ _ _ => True) (fun _ U o U' => ∃ v L, o = .returned v ∧ Q25s Z r0 h0 n0 v U'.heap L ∧ FrameEnd U o U' L ({ frames := 0, cells := 0, slots := 0, locals := 0 } : Room).cells ({ frames := 0, cells := 0, slots := 0, locals := 0 } : Room).slots) := by
  refine MetFree.of_bodySF (plainFor_of_name pn_25) hisR ?_
  intro p e s m args below meth c s₁ Bd hml0 hP hK
  obtain ⟨rfl, hZ, hh⟩ := hP
  have hx := Bd.exec
  have hby := Bd.bytes
  have hml : c.maxLocals = 3 := hml0
  have hown : s.vm.findClass "java/lang/String" = some m.cls := findClass_of_methodNamed Bd.named
  have hnm := (name_of_methodNamed Bd.named Bd.method).1
  have X0 : Stand p l e ({ frames := 0, cells := 0, slots := 0, locals := 0 } : Room) s m #[(.ref r0), (.ref r0)] below meth c s₁ [] 0 0 := Stand.of_body Bd
  have e0 : s₁.heap = h0 := by rw [← hh, Bd.state]; rfl
  have N0 := Fr.nil n0
  have pre0 : ∀ t, Steps p.tables e below (s₁.setTop (mkF m 0 #[oa r0, oa r0, .unset] [])) t → Steps p.tables e below (s₁.setTop (entryFrame m #[(.ref r0), (.ref r0)] 3)) t := fun t k => castTop (ef_25 m r0 r0) k
  have c1 : own_G p e below s₁ (mkF m 6 #[oa r0, oa r0, .unset] [(.int (1 : Int32))]) (mkF m 0 #[oa r0, oa r0, .unset] []) := by
    intro t kt
    show oS s₁ (mkF m 0 #[oa r0, oa r0, .unset] []) _
    refine XS.aloadN X0.here hx rfl (hb hby d25_0) rfl rfl ?_
    show oS s₁ (mkF m 1 #[oa r0, oa r0, .unset] [(.ref r0)]) _
    refine XS.aloadN X0.here hx rfl (hb hby d25_1) rfl rfl ?_
    show oS s₁ (mkF m 2 #[oa r0, oa r0, .unset] [(.ref r0), (.ref r0)]) _
    refine Jvm.RoadKit.acmp (g := (mkF m 2 #[oa r0, oa r0, .unset] [(.ref r0), (.ref r0)])) X0 hx rfl rfl rfl (pc0 := 2) (pc' := 5) (same := true) rfl (hb hby d25_2) rfl (decide_eq_true rfl) (by decide) (by decide) ?_
    show oS s₁ (mkF m 5 #[oa r0, oa r0, .unset] []) _
    refine XS.iconst X0.here hx rfl (hb hby d25_5) ?_
    exact kt
  obtain ⟨fs, hr, hrun, hended, hW, hsame⟩ := X0.leave (v := some (.int (1 : Int32))) (fun h => by rw [Bd.returns] at h; cases h)
  refine ⟨_, _, pre0 _ (c1 _ (?_)), hrun, hended, _, _, rfl, ?_, ⟨_, rfl⟩, hW, hsame.mono (by decide) (by decide)⟩
  · show Steps p.tables e below (s₁.setTop (mkF m 6 #[oa r0, oa r0, .unset] [(.int (1 : Int32))])) _
    exact retN X0 hx (t := .boolean) Bd.returns (by simp) (hb hby d25_6) hr
  · show Q25s Z r0 h0 n0 _ s₁.heap _
    rw [e0]
    exact ⟨congrArg (fun z => some (Value.int z)) (show (1 : Int32) = (1 : Int32) from by rfl), N0, rfl⟩
theorem d24_0 : decode prog_37_method_5_code 0 = .ok (.aload_n 1, 1) := by decide +kernel
theorem d24_1 : decode prog_37_method_5_code 1 = .ok (.instanceof 16, 3) := by decide +kernel
theorem d24_4 : decode prog_37_method_5_code 4 = .ok (.ifCond .eq 24, 3) := by decide +kernel
theorem d24_7 : decode prog_37_method_5_code 7 = .ok (.aload_n 1, 1) := by decide +kernel
theorem d24_8 : decode prog_37_method_5_code 8 = .ok (.checkcast 16, 3) := by decide +kernel
theorem d24_11 : decode prog_37_method_5_code 11 = .ok (.getfield 30, 3) := by decide +kernel
theorem d24_14 : decode prog_37_method_5_code 14 = .ok (.aload_n 0, 1) := by decide +kernel
theorem d24_15 : decode prog_37_method_5_code 15 = .ok (.getfield 30, 3) := by decide +kernel
theorem d24_18 : decode prog_37_method_5_code 18 = .ok (.invokevirtual 99, 3) := by decide +kernel
theorem d24_21 : decode prog_37_method_5_code 21 = .ok (.ifCond .eq 7, 3) := by decide +kernel
theorem d24_24 : decode prog_37_method_5_code 24 = .ok (.iconst 1, 1) := by decide +kernel
theorem d24_25 : decode prog_37_method_5_code 25 = .ok (.goto 4, 3) := by decide +kernel
theorem d24_28 : decode prog_37_method_5_code 28 = .ok (.iconst 0, 1) := by decide +kernel
theorem d24_29 : decode prog_37_method_5_code 29 = .ok (.ireturn, 1) := by decide +kernel
theorem pn_24 : plainName "com/example/millrace/millrace/model/Numeral" = true := by first | (simp [plainName, overriddenIn]; done) | decide +kernel
theorem ef_24 (m : MethodId) (x0 : Addr) (x1 : Addr) : entryFrame m #[(.ref x0), (.ref x1)] 2 = mkF m 0 #[.val (.ref x0), .val (.ref x1)] [] := by first | (simp [entryFrame, mkF, argsToLocals, Value.category]; done) | rfl
def Q24 (Z : State) (r0 : Addr) (r1 : Addr) (s0 s1 ba bb : Addr) (ka kb : ClassId) (cs : Int32) (tx ty : List Int32) (h0 : Heap) (n0 : Nat) (v : Option Value) (h : Heap) (L : List Loc) : Prop := v = some (.int (own_same ty tx)) ∧ Fr n0 L ∧ h = h0
set_option maxRecDepth 65536 in
set_option maxHeartbeats 40000000 in
theorem rm24 (l : Launch) (Z : State) (a0 : Array Value) (hw : ∀ d ∈ tables_1, d.before a0 Z = true) (ws : List Jvm.Cond) (r0 : Addr) (r1 : Addr) (s0 s1 ba bb : Addr) (ka kb : ClassId) (cs : Int32) (tx ty : List Int32) (h0 : Heap) (n0 : Nat) (Z0 : n0 ≤ h0.size) (Ga : Exa Z h0 r0 "com/example/millrace/millrace/model/Numeral") (Ta : Fld Z h0 r0 "com/example/millrace/millrace/model/Numeral" "text" "Ljava/lang/String;" (.ref s0)) (Gb : Exa Z h0 r1 "com/example/millrace/millrace/model/Numeral") (Tb : Fld Z h0 r1 "com/example/millrace/millrace/model/Numeral" "text" "Ljava/lang/String;" (.ref s1)) (Ea : Exa Z h0 s0 "java/lang/String") (Fa : Fld Z h0 s0 "java/lang/String" "value" "[B" (.ref ba)) (Ca : Fld Z h0 s0 "java/lang/String" "coder" "B" (.int (0 : Int32))) (Va : Arv Z h0 ba ka .byte (Int32.ofNat tx.length) ((tx.map (fun c => c.toInt8.toInt32)).map Value.int) (.int 0)) (Eb : Exa Z h0 s1 "java/lang/String") (Fb : Fld Z h0 s1 "java/lang/String" "value" "[B" (.ref bb)) (Cb : Fld Z h0 s1 "java/lang/String" "coder" "B" (.int (0 : Int32))) (Vb : Arv Z h0 bb kb .byte (Int32.ofNat ty.length) ((ty.map (fun c => c.toInt8.toInt32)).map Value.int) (.int 0)) (SC : Sta Z h0 "java/lang/String" "COMPACT_STRINGS" "Z" (.int cs)) (hcs : ¬ cs = (0 : Int32)) (hlx : own_l3 tx) (hly : own_l3 ty) (hne : s1 ≠ s0) :
    MetFree l yy_20 (head1 (Jvm.Cond.code yy_20 prog_37_method_5_code 2 (some .boolean) :: ws) ({ frames := 2, cells := 0, slots := 0, locals := 28 } : Room)) (fun a U => a = #[(.ref r0), (.ref r1)] ∧ Z.Warmed39 U.vm ∧ U.heap = h0) (fun _ _ _ _ _ => True) (fun _ U o U' => ∃ v L, o = .returned v ∧ Q24 Z r0 r1 s0 s1 ba bb ka kb cs tx ty h0 n0 v U'.heap L ∧ FrameEnd U o U' L ({ frames := 2, cells := 0, slots := 0, locals := 28 } : Room).cells ({ frames := 2, cells := 0, slots := 0, locals := 28 } : Room).slots) := by
  refine MetFree.of_bodySF (plainFor_of_name pn_24) hisR ?_
  intro p e s m args below meth c s₁ Bd hml0 hP hK
  obtain ⟨rfl, hZ, hh⟩ := hP
  have hx := Bd.exec
  have hby := Bd.bytes
  have hml : c.maxLocals = 2 := hml0
  have hown : s.vm.findClass "com/example/millrace/millrace/model/Numeral" = some m.cls := findClass_of_methodNamed Bd.named
  have hnm := (name_of_methodNamed Bd.named Bd.method).1
  have X0 : Stand p l e ({ frames := 2, cells := 0, slots := 0, locals := 28 } : Room) s m #[(.ref r0), (.ref r1)] below meth c s₁ [] 0 0 := Stand.of_body Bd
  have e0 : s₁.heap = h0 := by rw [← hh, Bd.state]; rfl
  have N0 := Fr.nil n0
  have pre0 : ∀ t, Steps p.tables e below (s₁.setTop (mkF m 0 #[oa r0, oa r1] [])) t → Steps p.tables e below (s₁.setTop (entryFrame m #[(.ref r0), (.ref r1)] 2)) t := fun t k => castTop (ef_24 m r0 r1) k
  have c2 : own_G p e below s₁ (mkF m 1 #[oa r0, oa r1] [(.ref r1)]) (mkF m 0 #[oa r0, oa r1] []) := by
    intro t kt
    show oS s₁ (mkF m 0 #[oa r0, oa r1] []) _
    refine XS.aloadN X0.here hx rfl (hb hby d24_0) rfl rfl ?_
    exact kt
  obtain ⟨T1, X1, e1, st1⟩ := instY X0 hx hZ hown (own_t hw 120 rfl) e0 (Ins.self Gb) (g := (mkF m 1 #[oa r0, oa r1] [(.ref r1)])) rfl rfl (hb hby d24_1)
  have c4 : own_G p e below T1 (mkF m 8 #[oa r0, oa r1] [(.ref r1)]) (mkF m 4 #[oa r0, oa r1] [(.int (1 : Int32))]) := by
    intro t kt
    show oS T1 (mkF m 4 #[oa r0, oa r1] [(.int (1 : Int32))]) _
    refine XS.ifNo X1.here hx rfl (hb hby d24_4) rfl ((if0 _ _).trans (feq (by decide : ¬ ((1 : Int32) = (0 : Int32)))).1) ?_
    show oS T1 (mkF m 7 #[oa r0, oa r1] []) _
    refine XS.aloadN X1.here hx rfl (hb hby d24_7) rfl rfl ?_
    exact kt
  obtain ⟨T3, X3, e3, st3⟩ := castY X1 hx hZ hown (own_t hw 120 rfl) e1 (Ins.self Gb) (g := (mkF m 8 #[oa r0, oa r1] [(.ref r1)])) rfl rfl (hb hby d24_8)
  obtain ⟨T5, X5, e5, st5⟩ := getF X3 hx hZ hown (host := "") (Or.inl (own_t hw 109 rfl)) Via.refl e3 Tb (g := (mkF m 11 #[oa r0, oa r1] [(.ref r1)])) rfl rfl (hb hby d24_11)
  have c7 : own_G p e below T5 (mkF m 15 #[oa r0, oa r1] [(.ref r0), (.ref s1)]) (mkF m 14 #[oa r0, oa r1] [(.ref s1)]) := by
    intro t kt
    show oS T5 (mkF m 14 #[oa r0, oa r1] [(.ref s1)]) _
    refine XS.aloadN X5.here hx rfl (hb hby d24_14) rfl rfl ?_
    exact kt
  obtain ⟨T6, X6, e6, st6⟩ := getF X5 hx hZ hown (host := "") (Or.inl (own_t hw 109 rfl)) Via.refl e5 Ta (g := (mkF m 15 #[oa r0, oa r1] [(.ref r0), (.ref s1)])) rfl rfl (hb hby d24_15)
  obtain ⟨cq8, kq8, q8a, q8b, q8c⟩ := isOf hZ e6 Eb
  obtain ⟨_, _, ⟨T9, L9, k9, n9⟩, -, X9, ⟨Lc9, hQ9, l9, y9, z9⟩, st9⟩ := X6.virtualBack hx (y := yy_19) (z := yy_19) hown (mvT hZ (own_t hw 122 rfl)) (mvT hZ (own_t hw 123 rfl)) (notFace_of_selects (args := #[]) (mvT hZ (own_t hw 125 rfl))) (mvT hZ (own_t hw 125 rfl)) (mvT hZ (own_t hw 124 rfl)) (by decide) (backOf (W := 0) (rm25 l Z a0 hw [] s1 s0 bb ba kb ka cs ty tx h0 n0 Z0 Eb Fb Cb Vb Ea Fa Ca Va SC hcs hly hlx hne) hZ (own_t hw 126 rfl) (own_t hw 7 rfl) (by decide) (by decide)) q8a q8c (g := (mkF m 18 #[oa r0, oa r1] [(.ref s0), (.ref s1)])) rfl (by rw [hml]; rfl) (Steps.refl _) (argsL := [(.ref s0)]) (rest := []) (lenOf pd_14 rfl) rfl (by show 2 * 0 + _ ≤ _; exact Nat.le_of_eq rfl) (hb hby d24_18) (fun _ _ => ⟨rfl, e6, (by decide : 0 + 0 ≤ _), (by decide : 0 + 0 ≤ _)⟩)
  dsimp only [Pt.U, Pt.locs, Pt.cells, Pt.slots] at X9 l9 y9 z9 st9 hQ9
  subst l9 y9 z9
  obtain ⟨rfl, N9q, e9⟩ := hQ9
  have N9 := Fr.app N0 N9q
  by_cases hc21 : (own_same ty tx) = (0 : Int32)
  · -- it is
    have c10 : own_G p e below T9 (mkF m 29 #[oa r0, oa r1] [(.int (0 : Int32))]) (mkF m 21 #[oa r0, oa r1] [(.int (own_same ty tx))]) := by
      intro t kt
      show oS T9 (mkF m 21 #[oa r0, oa r1] [(.int (own_same ty tx))]) _
      refine XS.ifYes X9.here hx rfl (pc0 := 21) (pc' := 28) rfl (hb hby d24_21) rfl ((if0 _ _).trans (teq hc21).1) (by decide) (by decide) ?_
      show oS T9 (mkF m 28 #[oa r0, oa r1] []) _
      refine XS.iconst X9.here hx rfl (hb hby d24_28) ?_
      exact kt
    obtain ⟨fs, hr, hrun, hended, hW, hsame⟩ := X9.leave (v := some (.int (0 : Int32))) (fun h => by rw [Bd.returns] at h; cases h)
    refine ⟨_, _, pre0 _ (c2 _ (st1 _ (c4 _ (st3 _ (st5 _ (c7 _ (st6 _ (st9.trans (c10 _ (?_)))))))))), hrun, hended, _, _, rfl, ?_, ⟨_, rfl⟩, hW, hsame.mono (by decide) (by decide)⟩
    · show Steps p.tables e below (T9.setTop (mkF m 29 #[oa r0, oa r1] [(.int (0 : Int32))])) _
      exact retN X9 hx (t := .boolean) Bd.returns (by simp) (hb hby d24_29) hr
    · show Q24 Z r0 r1 s0 s1 ba bb ka kb cs tx ty h0 n0 _ T9.heap _
      rw [e9]
      exact ⟨congrArg (fun z => some (Value.int z)) (show (0 : Int32) = (own_same ty tx) from by exact hc21.symm), N9, rfl⟩
  · -- it isn't
    have c12 : own_G p e below T9 (mkF m 29 #[oa r0, oa r1] [(.int (1 : Int32))]) (mkF m 21 #[oa r0, oa r1] [(.int (own_same ty tx))]) := by
      intro t kt
      show oS T9 (mkF m 21 #[oa r0, oa r1] [(.int (own_same ty tx))]) _
      refine XS.ifNo X9.here hx rfl (hb hby d24_21) rfl ((if0 _ _).trans (feq hc21).1) ?_
      show oS T9 (mkF m 24 #[oa r0, oa r1] []) _
      refine XS.iconst X9.here hx rfl (hb hby d24_24) ?_
      show oS T9 (mkF m 25 #[oa r0, oa r1] [(.int (1 : Int32))]) _
      refine XS.goto X9.here hx rfl (pc0 := 25) (pc' := 29) rfl (hb hby d24_25) (by decide) (by decide) ?_
      exact kt
    obtain ⟨fs, hr, hrun, hended, hW, hsame⟩ := X9.leave (v := some (.int (1 : Int32))) (fun h => by rw [Bd.returns] at h; cases h)
    refine ⟨_, _, pre0 _ (c2 _ (st1 _ (c4 _ (st3 _ (st5 _ (c7 _ (st6 _ (st9.trans (c12 _ (?_)))))))))), hrun, hended, _, _, rfl, ?_, ⟨_, rfl⟩, hW, hsame.mono (by decide) (by decide)⟩
    · show Steps p.tables e below (T9.setTop (mkF m 29 #[oa r0, oa r1] [(.int (1 : Int32))])) _
      exact retN X9 hx (t := .boolean) Bd.returns (by simp) (hb hby d24_29) hr
    · show Q24 Z r0 r1 s0 s1 ba bb ka kb cs tx ty h0 n0 _ T9.heap _
      rw [e9]
      exact ⟨congrArg (fun z => some (Value.int z)) (show (1 : Int32) = (own_same ty tx) from by exact own_same1 hc21), N9, rfl⟩
def Q24s (Z : State) (r0 : Addr) (s0 : Addr) (h0 : Heap) (n0 : Nat) (v : Option Value) (h : Heap) (L : List Loc) : Prop := v = some (.int (1 : Int32)) ∧ Fr n0 L ∧ h = h0
set_option maxRecDepth 65536 in
set_option maxHeartbeats 40000000 in
theorem rm24s (l : Launch) (Z : State) (a0 : Array Value) (hw : ∀ d ∈ tables_1, d.before a0 Z = true) (ws : List Jvm.Cond) (r0 : Addr) (s0 : Addr) (h0 : Heap) (n0 : Nat) (Z0 : n0 ≤ h0.size) (Ga : Exa Z h0 r0 "com/example/millrace/millrace/model/Numeral") (Ta : Fld Z h0 r0 "com/example/millrace/millrace/model/Numeral" "text" "Ljava/lang/String;" (.ref s0)) (E0 : Exa Z h0 s0 "java/lang/String") :
    MetFree l yy_20 (head1 (Jvm.Cond.code yy_20 prog_37_method_5_code 2 (some .boolean) :: ws) ({ frames := 1, cells := 0, slots := 0, locals := 14 } : Room)) (fun a U => a = #[(.ref r0), (.ref r0)] ∧ Z.Warmed39 U.vm ∧ U.heap = h0) (fun _ _ _ _ _ => True) (fun _ U o U' => ∃ v L, o = .returned v ∧ Q24s Z r0 s0 h0 n0 v U'.heap L ∧ FrameEnd U o U' L ({ frames := 1, cells := 0, slots := 0, locals := 14 } : Room).cells ({ frames := 1, cells := 0, slots := 0, locals := 14 } : Room).slots) := by
  refine MetFree.of_bodySF (plainFor_of_name pn_24) hisR ?_
  intro p e s m args below meth c s₁ Bd hml0 hP hK
  obtain ⟨rfl, hZ, hh⟩ := hP
  have hx := Bd.exec
  have hby := Bd.bytes
  have hml : c.maxLocals = 2 := hml0
  have hown : s.vm.findClass "com/example/millrace/millrace/model/Numeral" = some m.cls := findClass_of_methodNamed Bd.named
  have hnm := (name_of_methodNamed Bd.named Bd.method).1
  have X0 : Stand p l e ({ frames := 1, cells := 0, slots := 0, locals := 14 } : Room) s m #[(.ref r0), (.ref r0)] below meth c s₁ [] 0 0 := Stand.of_body Bd
  have e0 : s₁.heap = h0 := by rw [← hh, Bd.state]; rfl
  have N0 := Fr.nil n0
  have pre0 : ∀ t, Steps p.tables e below (s₁.setTop (mkF m 0 #[oa r0, oa r0] [])) t → Steps p.tables e below (s₁.setTop (entryFrame m #[(.ref r0), (.ref r0)] 2)) t := fun t k => castTop (ef_24 m r0 r0) k
  have c2 : own_G p e below s₁ (mkF m 1 #[oa r0, oa r0] [(.ref r0)]) (mkF m 0 #[oa r0, oa r0] []) := by
    intro t kt
    show oS s₁ (mkF m 0 #[oa r0, oa r0] []) _
    refine XS.aloadN X0.here hx rfl (hb hby d24_0) rfl rfl ?_
    exact kt
  obtain ⟨T1, X1, e1, st1⟩ := instY X0 hx hZ hown (own_t hw 120 rfl) e0 (Ins.self Ga) (g := (mkF m 1 #[oa r0, oa r0] [(.ref r0)])) rfl rfl (hb hby d24_1)
  have c4 : own_G p e below T1 (mkF m 8 #[oa r0, oa r0] [(.ref r0)]) (mkF m 4 #[oa r0, oa r0] [(.int (1 : Int32))]) := by
    intro t kt
    show oS T1 (mkF m 4 #[oa r0, oa r0] [(.int (1 : Int32))]) _
    refine XS.ifNo X1.here hx rfl (hb hby d24_4) rfl ((if0 _ _).trans (feq (by decide : ¬ ((1 : Int32) = (0 : Int32)))).1) ?_
    show oS T1 (mkF m 7 #[oa r0, oa r0] []) _
    refine XS.aloadN X1.here hx rfl (hb hby d24_7) rfl rfl ?_
    exact kt
  obtain ⟨T3, X3, e3, st3⟩ := castY X1 hx hZ hown (own_t hw 120 rfl) e1 (Ins.self Ga) (g := (mkF m 8 #[oa r0, oa r0] [(.ref r0)])) rfl rfl (hb hby d24_8)
  obtain ⟨T5, X5, e5, st5⟩ := getF X3 hx hZ hown (host := "") (Or.inl (own_t hw 109 rfl)) Via.refl e3 Ta (g := (mkF m 11 #[oa r0, oa r0] [(.ref r0)])) rfl rfl (hb hby d24_11)
  have c7 : own_G p e below T5 (mkF m 15 #[oa r0, oa r0] [(.ref r0), (.ref s0)]) (mkF m 14 #[oa r0, oa r0] [(.ref s0)]) := by
    intro t kt
    show oS T5 (mkF m 14 #[oa r0, oa r0] [(.ref s0)]) _
    refine XS.aloadN X5.here hx rfl (hb hby d24_14) rfl rfl ?_
    exact kt
  obtain ⟨T6, X6, e6, st6⟩ := getF X5 hx hZ hown (host := "") (Or.inl (own_t hw 109 rfl)) Via.refl e5 Ta (g := (mkF m 15 #[oa r0, oa r0] [(.ref r0), (.ref s0)])) rfl rfl (hb hby d24_15)
  obtain ⟨cq8, kq8, q8a, q8b, q8c⟩ := isOf hZ e6 E0
  obtain ⟨_, _, ⟨T9, L9, k9, n9⟩, -, X9, ⟨Lc9, hQ9, l9, y9, z9⟩, st9⟩ := X6.virtualBack hx (y := yy_19) (z := yy_19) hown (mvT hZ (own_t hw 122 rfl)) (mvT hZ (own_t hw 123 rfl)) (notFace_of_selects (args := #[]) (mvT hZ (own_t hw 125 rfl))) (mvT hZ (own_t hw 125 rfl)) (mvT hZ (own_t hw 124 rfl)) (by decide) (backOf (W := 0) (rm25s l Z a0 hw []  s0 h0 n0 Z0 ) hZ (own_t hw 126 rfl) (own_t hw 7 rfl) (by decide) (by decide)) q8a q8c (g := (mkF m 18 #[oa r0, oa r0] [(.ref s0), (.ref s0)])) rfl (by rw [hml]; rfl) (Steps.refl _) (argsL := [(.ref s0)]) (rest := []) (lenOf pd_14 rfl) rfl (by show 2 * 0 + _ ≤ _; exact Nat.le_of_eq rfl) (hb hby d24_18) (fun _ _ => ⟨rfl, e6, (by decide : 0 + 0 ≤ _), (by decide : 0 + 0 ≤ _)⟩)
  dsimp only [Pt.U, Pt.locs, Pt.cells, Pt.slots] at X9 l9 y9 z9 st9 hQ9
  subst l9 y9 z9
  obtain ⟨rfl, N9q, e9⟩ := hQ9
  have N9 := Fr.app N0 N9q
  have c10 : own_G p e below T9 (mkF m 29 #[oa r0, oa r0] [(.int (1 : Int32))]) (mkF m 21 #[oa r0, oa r0] [(.int (1 : Int32))]) := by
    intro t kt
    show oS T9 (mkF m 21 #[oa r0, oa r0] [(.int (1 : Int32))]) _
    refine XS.ifNo X9.here hx rfl (hb hby d24_21) rfl ((if0 _ _).trans (feq (by decide : ¬ ((1 : Int32) = (0 : Int32)))).1) ?_
    show oS T9 (mkF m 24 #[oa r0, oa r0] []) _
    refine XS.iconst X9.here hx rfl (hb hby d24_24) ?_
    show oS T9 (mkF m 25 #[oa r0, oa r0] [(.int (1 : Int32))]) _
    refine XS.goto X9.here hx rfl (pc0 := 25) (pc' := 29) rfl (hb hby d24_25) (by decide) (by decide) ?_
    exact kt
  obtain ⟨fs, hr, hrun, hended, hW, hsame⟩ := X9.leave (v := some (.int (1 : Int32))) (fun h => by rw [Bd.returns] at h; cases h)
  refine ⟨_, _, pre0 _ (c2 _ (st1 _ (c4 _ (st3 _ (st5 _ (c7 _ (st6 _ (st9.trans (c10 _ (?_)))))))))), hrun, hended, _, _, rfl, ?_, ⟨_, rfl⟩, hW, hsame.mono (by decide) (by decide)⟩
  · show Steps p.tables e below (T9.setTop (mkF m 29 #[oa r0, oa r0] [(.int (1 : Int32))])) _
    exact retN X9 hx (t := .boolean) Bd.returns (by simp) (hb hby d24_29) hr
  · show Q24s Z r0 s0 h0 n0 _ T9.heap _
    rw [e9]
    exact ⟨congrArg (fun z => some (Value.int z)) (show (1 : Int32) = (1 : Int32) from by rfl), N9, rfl⟩
theorem ef_24z (m : MethodId) (x0 : Addr) : entryFrame m #[(.ref x0), .null] 2 = mkF m 0 #[.val (.ref x0), .val .null] [] := by first | (simp [entryFrame, mkF, argsToLocals, Value.category]; done) | rfl
def Q24z (Z : State) (r0 : Addr) (h0 : Heap) (n0 : Nat) (v : Option Value) (h : Heap) (L : List Loc) : Prop := v = some (.int (0 : Int32)) ∧ Fr n0 L ∧ h = h0
set_option maxRecDepth 65536 in
set_option maxHeartbeats 40000000 in
theorem rm24z (l : Launch) (Z : State) (a0 : Array Value) (hw : ∀ d ∈ tables_1, d.before a0 Z = true) (ws : List Jvm.Cond) (r0 : Addr)  (h0 : Heap) (n0 : Nat) (Z0 : n0 ≤ h0.size) :
    MetFree l yy_20 (head1 (Jvm.Cond.code yy_20 prog_37_method_5_code 2 (some .boolean) :: ws) ({ frames := 0, cells := 0, slots := 0, locals := 0 } : Room)) (fun a U => a = #[(.ref r0), .null] ∧ Z.Warmed39 U.vm ∧ U.heap = h0) (fun _ _ _ _ _ => True) (fun _ U o U' => ∃ v L, o = .returned v ∧ Q24z Z r0 h0 n0 v U'.heap L ∧ FrameEnd U o U' L ({ frames := 0, cells := 0, slots := 0, locals := 0 } : Room).cells ({ frames := 0, cells := 0, slots := 0, locals := 0 } : Room).slots) := by
  refine MetFree.of_bodySF (plainFor_of_name pn_24) hisR ?_
  intro p e s m args below meth c s₁ Bd hml0 hP hK
  obtain ⟨rfl, hZ, hh⟩ := hP
  have hx := Bd.exec
  have hby := Bd.bytes
  have hml : c.maxLocals = 2 := hml0
  have hown : s.vm.findClass "com/example/millrace/millrace/model/Numeral" = some m.cls := findClass_of_methodNamed Bd.named
  have hnm := (name_of_methodNamed Bd.named Bd.method).1
  have X0 : Stand p l e ({ frames := 0, cells := 0, slots := 0, locals := 0 } : Room) s m #[(.ref r0), .null] below meth c s₁ [] 0 0 := Stand.of_body Bd
  have e0 : s₁.heap = h0 := by rw [← hh, Bd.state]; rfl
  have N0 := Fr.nil n0
  have pre0 : ∀ t, Steps p.tables e below (s₁.setTop (mkF m 0 #[oa r0, .val .null] [])) t → Steps p.tables e below (s₁.setTop (entryFrame m #[(.ref r0), .null] 2)) t := fun t k => castTop (ef_24z m r0) k
  have c1 : own_G p e below s₁ (mkF m 29 #[oa r0, .val .null] [(.int (0 : Int32))]) (mkF m 0 #[oa r0, .val .null] []) := by
    intro t kt
    show oS s₁ (mkF m 0 #[oa r0, .val .null] []) _
    refine XS.aloadN X0.here hx rfl (hb hby d24_0) rfl rfl ?_
    show oS s₁ (mkF m 1 #[oa r0, .val .null] [.null]) _
    refine X0.instanceofNull hx (g := (mkF m 1 #[oa r0, .val .null] [.null])) rfl rfl (hb hby d24_1) _ ?_
    show oS s₁ (mkF m 4 #[oa r0, .val .null] [(.int (0 : Int32))]) _
    refine XS.ifYes X0.here hx rfl (pc0 := 4) (pc' := 28) rfl (hb hby d24_4) rfl ((if0 _ _).trans (teq (by decide : (0 : Int32) = (0 : Int32))).1) (by decide) (by decide) ?_
    show oS s₁ (mkF m 28 #[oa r0, .val .null] []) _
    refine XS.iconst X0.here hx rfl (hb hby d24_28) ?_
    exact kt
  obtain ⟨fs, hr, hrun, hended, hW, hsame⟩ := X0.leave (v := some (.int (0 : Int32))) (fun h => by rw [Bd.returns] at h; cases h)
  refine ⟨_, _, pre0 _ (c1 _ (?_)), hrun, hended, _, _, rfl, ?_, ⟨_, rfl⟩, hW, hsame.mono (by decide) (by decide)⟩
  · show Steps p.tables e below (s₁.setTop (mkF m 29 #[oa r0, .val .null] [(.int (0 : Int32))])) _
    exact retN X0 hx (t := .boolean) Bd.returns (by simp) (hb hby d24_29) hr
  · show Q24z Z r0 h0 n0 _ s₁.heap _
    rw [e0]
    exact ⟨congrArg (fun z => some (Value.int z)) (show (0 : Int32) = (0 : Int32) from by rfl), N0, rfl⟩
def Q24t (Z : State) (r0 : Addr) (r1 : Addr) (h0 : Heap) (n0 : Nat) (v : Option Value) (h : Heap) (L : List Loc) : Prop := v = some (.int (0 : Int32)) ∧ Fr n0 L ∧ h = h0
set_option maxRecDepth 65536 in
set_option maxHeartbeats 40000000 in
theorem rm24t (l : Launch) (Z : State) (a0 : Array Value) (hw : ∀ d ∈ tables_1, d.before a0 Z = true) (ws : List Jvm.Cond) (r0 : Addr) (r1 : Addr)  (h0 : Heap) (n0 : Nat) (Z0 : n0 ≤ h0.size) (E1 : Exa Z h0 r1 "java/lang/String") :
    MetFree l yy_20 (head1 (Jvm.Cond.code yy_20 prog_37_method_5_code 2 (some .boolean) :: ws) ({ frames := 0, cells := 0, slots := 0, locals := 0 } : Room)) (fun a U => a = #[(.ref r0), (.ref r1)] ∧ Z.Warmed39 U.vm ∧ U.heap = h0) (fun _ _ _ _ _ => True) (fun _ U o U' => ∃ v L, o = .returned v ∧ Q24t Z r0 r1 h0 n0 v U'.heap L ∧ FrameEnd U o U' L ({ frames := 0, cells := 0, slots := 0, locals := 0 } : Room).cells ({ frames := 0, cells := 0, slots := 0, locals := 0 } : Room).slots) := by
  refine MetFree.of_bodySF (plainFor_of_name pn_24) hisR ?_
  intro p e s m args below meth c s₁ Bd hml0 hP hK
  obtain ⟨rfl, hZ, hh⟩ := hP
  have hx := Bd.exec
  have hby := Bd.bytes
  have hml : c.maxLocals = 2 := hml0
  have hown : s.vm.findClass "com/example/millrace/millrace/model/Numeral" = some m.cls := findClass_of_methodNamed Bd.named
  have hnm := (name_of_methodNamed Bd.named Bd.method).1
  have X0 : Stand p l e ({ frames := 0, cells := 0, slots := 0, locals := 0 } : Room) s m #[(.ref r0), (.ref r1)] below meth c s₁ [] 0 0 := Stand.of_body Bd
  have e0 : s₁.heap = h0 := by rw [← hh, Bd.state]; rfl
  have N0 := Fr.nil n0
  have pre0 : ∀ t, Steps p.tables e below (s₁.setTop (mkF m 0 #[oa r0, oa r1] [])) t → Steps p.tables e below (s₁.setTop (entryFrame m #[(.ref r0), (.ref r1)] 2)) t := fun t k => castTop (ef_24 m r0 r1) k
  have c2 : own_G p e below s₁ (mkF m 1 #[oa r0, oa r1] [(.ref r1)]) (mkF m 0 #[oa r0, oa r1] []) := by
    intro t kt
    show oS s₁ (mkF m 0 #[oa r0, oa r1] []) _
    refine XS.aloadN X0.here hx rfl (hb hby d24_0) rfl rfl ?_
    exact kt
  obtain ⟨T1, X1, e1, st1⟩ := instNo X0 hx hZ hown (own_t hw 120 rfl) e0 E1 (own_no (own_t hw 131 rfl) (own_t hw 132 rfl) (own_t hw 39 rfl) (by decide) (by decide)) (g := (mkF m 1 #[oa r0, oa r1] [(.ref r1)])) rfl rfl (hb hby d24_1)
  have c3 : own_G p e below T1 (mkF m 29 #[oa r0, oa r1] [(.int (0 : Int32))]) (mkF m 4 #[oa r0, oa r1] [(.int (0 : Int32))]) := by
    intro t kt
    show oS T1 (mkF m 4 #[oa r0, oa r1] [(.int (0 : Int32))]) _
    refine XS.ifYes X1.here hx rfl (pc0 := 4) (pc' := 28) rfl (hb hby d24_4) rfl ((if0 _ _).trans (teq (by decide : (0 : Int32) = (0 : Int32))).1) (by decide) (by decide) ?_
    show oS T1 (mkF m 28 #[oa r0, oa r1] []) _
    refine XS.iconst X1.here hx rfl (hb hby d24_28) ?_
    exact kt
  obtain ⟨fs, hr, hrun, hended, hW, hsame⟩ := X1.leave (v := some (.int (0 : Int32))) (fun h => by rw [Bd.returns] at h; cases h)
  refine ⟨_, _, pre0 _ (c2 _ (st1 _ (c3 _ (?_)))), hrun, hended, _, _, rfl, ?_, ⟨_, rfl⟩, hW, hsame.mono (by decide) (by decide)⟩
  · show Steps p.tables e below (T1.setTop (mkF m 29 #[oa r0, oa r1] [(.int (0 : Int32))])) _
    exact retN X1 hx (t := .boolean) Bd.returns (by simp) (hb hby d24_29) hr
  · show Q24t Z r0 r1 h0 n0 _ T1.heap _
    rw [e1]
    exact ⟨congrArg (fun z => some (Value.int z)) (show (0 : Int32) = (0 : Int32) from by rfl), N0, rfl⟩
theorem pn_0 : plainName "com/example/millrace/millrace/model/NumeralEqualsPinLaw" = true := by first | (simp [plainName, overriddenIn]; done) | decide +kernel
theorem ef_0 (m : MethodId) (x0 : Int32) (x1 : Int32) (x2 : Int32) : entryFrame m #[(.int x0), (.int x1), (.int x2)] maxLocals = mkF m 0 #[.val (.int x0), .val (.int x1), .val (.int x2), .unset, .unset, .unset, .unset, .unset, .unset, .unset, .unset, .unset, .unset] [] := by first | (simp [entryFrame, mkF, argsToLocals, Value.category, maxLocals]; done) | rfl
def Q0 (Z : State) (p0 : Int32) (p1 : Int32) (p2 : Int32) (cs : Int32) (fm : Value) (h0 : Heap) (n0 : Nat) (v : Option Value) (h : Heap) (L : List Loc) : Prop := v = some (.int 1) ∧ Fr n0 L
set_option maxRecDepth 65536 in
set_option maxHeartbeats 40000000 in
theorem rm0 (l : Launch) (Z : State) (a0 : Array Value) (hw : ∀ d ∈ tables_1, d.before a0 Z = true) (ws : List Jvm.Cond) (p0 : Int32) (p1 : Int32) (p2 : Int32) (cs : Int32) (fm : Value) (h0 : Heap) (n0 : Nat) (Z0 : n0 ≤ h0.size) (O0 : Old Z n0 h0) (SC : Sta Z Z.heap "java/lang/String" "COMPACT_STRINGS" "Z" (.int cs)) (hcs : ¬ cs = (0 : Int32)) (SF : Sta Z Z.heap "jdk/internal/util/Preconditions" "SIOOBE_FORMATTER" "Ljava/util/function/BiFunction;" fm) (hfm : fm.isRef = true) :
    MetFree l x (head1 (Jvm.Cond.code x code maxLocals ret :: ws) room_1) (fun a U => a = #[(.int p0), (.int p1), (.int p2)] ∧ Z.Warmed39 U.vm ∧ U.heap = h0 ∧ CHv Z consts_1 U.vm h0) (fun _ _ _ _ _ => True) (fun _ U o U' => ∃ v L, o = .returned v ∧ Q0 Z p0 p1 p2 cs fm h0 n0 v U'.heap L ∧ ReturnedEndW U o U' L room_1.cells room_1.slots) := by
  refine MetFree.of_bodySF (plainFor_of_name pn_0) hisR ?_
  intro p e s m args below meth c s₁ Bd hml0 hP hK
  obtain ⟨rfl, hZ, hh, hCH⟩ := hP
  have hx := Bd.exec
  have hby := Bd.bytes
  have hml : c.maxLocals = 13 := hml0
  have hown : s.vm.findClass "com/example/millrace/millrace/model/NumeralEqualsPinLaw" = some m.cls := findClass_of_methodNamed Bd.named
  have hnm := (name_of_methodNamed Bd.named Bd.method).1
  have X0 : Stand p l e room_1 s m #[(.int p0), (.int p1), (.int p2)] below meth c s₁ [] 0 0 := Stand.of_body Bd
  have e0 : s₁.heap = h0 := by rw [← hh, Bd.state]; rfl
  have N0 := Fr.nil n0
  have pre0 : ∀ t, Steps p.tables e below (s₁.setTop (mkF m 0 #[oi p0, oi p1, oi p2, .unset, .unset, .unset, .unset, .unset, .unset, .unset, .unset, .unset, .unset] [])) t → Steps p.tables e below (s₁.setTop (entryFrame m #[(.int p0), (.int p1), (.int p2)] maxLocals)) t := fun t k => castTop (ef_0 m p0 p1 p2) k
  have hS0 : s.Since s.vm 0 := (State.WarmedH.refl s).since 0
  have hEL : EW Z a0 consts_1 := (EW.cons (own_t hw 45 rfl) (by decide) (EW.cons (own_t hw 55 rfl) (by decide) EW.nil))
  have hwS : ∀ d ∈ Bundle.stringAtoms, d.before a0 Z = true := fun d hd => hw d ((by decide +kernel : ∀ d ∈ Bundle.stringAtoms, d ∈ tables_1) d hd)
  have c1 : own_G p e below s₁ (mkF m 1 #[oi p0, oi p1, oi p2, .unset, .unset, .unset, .unset, .unset, .unset, .unset, .unset, .unset, .unset] [(.int p0)]) (mkF m 0 #[oi p0, oi p1, oi p2, .unset, .unset, .unset, .unset, .unset, .unset, .unset, .unset, .unset, .unset] []) := by
    intro t kt
    show oS s₁ (mkF m 0 #[oi p0, oi p1, oi p2, .unset, .unset, .unset, .unset, .unset, .unset, .unset, .unset, .unset, .unset] []) _
    refine XS.iloadN X0.here hx rfl (hb hby at_0) rfl ?_
    exact kt
  obtain ⟨_, _, ⟨T2, L2, k2, n2⟩, -, X2, ⟨Lc2, hQ2, l2, y2, z2⟩, st2⟩ := Jvm.LawKit.callS X0 hx (y := yy_16) hown (mvT hZ (own_t hw 0 rfl)) (mvT hZ (own_t hw 1 rfl)) (mvT hZ (own_t hw 2 rfl)) (mvT hZ (own_t hw 3 rfl)) (by decide) (backOf (W := 0) (rm1 l Z a0 hw [] p0 cs fm h0 n0 Z0 O0 SC hcs SF hfm) hZ (own_t hw 3 rfl) (own_t hw 2 rfl) (by decide) (by decide)) (g := (mkF m 1 #[oi p0, oi p1, oi p2, .unset, .unset, .unset, .unset, .unset, .unset, .unset, .unset, .unset, .unset] [(.int p0)])) rfl (by rw [hml]; rfl) (argsL := [(.int p0)]) (rest := []) (lenOf pd_15 rfl) rfl (by show 2 * 0 + _ ≤ _; exact Nat.le_of_eq rfl) (hb hby at_1) (fun _ _ => ⟨rfl, e0, (by decide : 0 + 3 ≤ _), (by decide : 0 + 10 ≤ _)⟩)
  dsimp only [Pt.U, Pt.locs, Pt.cells, Pt.slots] at X2 l2 y2 z2 st2 hQ2
  subst l2 y2 z2
  obtain ⟨sa2, rb2, kb2, tx2, rfl, hn_tx2, N2q, Kq2, szp2, szr2, Es2, Fv2, Fc2, Va2⟩ := hQ2
  have N2 := Fr.app N0 N2q
  obtain ⟨Go2, X2, N2⟩ := own_opq X2 N2
  have c3 : own_G p e below T2 (mkF m 8 #[oi p0, oi p1, oi p2, oa sa2, .unset, .unset, .unset, .unset, .unset, .unset, .unset, .unset, .unset] [(.int (p2 &&& (1 : Int32)))]) (mkF m 4 #[oi p0, oi p1, oi p2, .unset, .unset, .unset, .unset, .unset, .unset, .unset, .unset, .unset, .unset] [(.ref sa2)]) := by
    intro t kt
    show oS T2 (mkF m 4 #[oi p0, oi p1, oi p2, .unset, .unset, .unset, .unset, .unset, .unset, .unset, .unset, .unset, .unset] [(.ref sa2)]) _
    refine XS.astoreN X2.here hx rfl (hb hby at_4) rfl rfl (l' := #[oi p0, oi p1, oi p2, oa sa2, .unset, .unset, .unset, .unset, .unset, .unset, .unset, .unset, .unset]) rfl ?_
    show oS T2 (mkF m 5 #[oi p0, oi p1, oi p2, oa sa2, .unset, .unset, .unset, .unset, .unset, .unset, .unset, .unset, .unset] []) _
    refine XS.iloadN X2.here hx rfl (hb hby at_5) rfl ?_
    show oS T2 (mkF m 6 #[oi p0, oi p1, oi p2, oa sa2, .unset, .unset, .unset, .unset, .unset, .unset, .unset, .unset, .unset] [(.int p2)]) _
    refine XS.iconst X2.here hx rfl (hb hby at_6) ?_
    show oS T2 (mkF m 7 #[oi p0, oi p1, oi p2, oa sa2, .unset, .unset, .unset, .unset, .unset, .unset, .unset, .unset, .unset] [(.int (1 : Int32)), (.int p2)]) _
    refine XS.iand X2.here hx rfl (hb hby at_7) rfl ?_
    exact kt
  by_cases hc8 : (p2 &&& (1 : Int32)) = (0 : Int32)
  · -- it is
    have c4 : own_G p e below T2 (mkF m 19 #[oi p0, oi p1, oi p2, oa sa2, .unset, .unset, .unset, .unset, .unset, .unset, .unset, .unset, .unset] [(.int p1)]) (mkF m 8 #[oi p0, oi p1, oi p2, oa sa2, .unset, .unset, .unset, .unset, .unset, .unset, .unset, .unset, .unset] [(.int (p2 &&& (1 : Int32)))]) := by
      intro t kt
      show oS T2 (mkF m 8 #[oi p0, oi p1, oi p2, oa sa2, .unset, .unset, .unset, .unset, .unset, .unset, .unset, .unset, .unset] [(.int (p2 &&& (1 : Int32)))]) _
      refine XS.ifYes X2.here hx rfl (pc0 := 8) (pc' := 18) rfl (hb hby at_8) rfl ((if0 _ _).trans (teq hc8).1) (by decide) (by decide) ?_
      show oS T2 (mkF m 18 #[oi p0, oi p1, oi p2, oa sa2, .unset, .unset, .unset, .unset, .unset, .unset, .unset, .unset, .unset] []) _
      refine XS.iloadN X2.here hx rfl (hb hby at_18) rfl ?_
      exact kt
    have f5 := (Nat.le_trans Z0 Kq2.1)
    have f6 := (O0.keep Kq2 all0)
    obtain ⟨_, _, ⟨T7, L7, k7, n7⟩, -, X7, ⟨Lc7, hQ7, l7, y7, z7⟩, st7⟩ := Jvm.LawKit.callS X2 hx (y := yy_16) hown (mvT hZ (own_t hw 0 rfl)) (mvT hZ (own_t hw 1 rfl)) (mvT hZ (own_t hw 2 rfl)) (mvT hZ (own_t hw 3 rfl)) (by decide) (backOf (W := 0) (rm1 l Z a0 hw [] p1 cs fm T2.heap n0 f5 f6 SC hcs SF hfm) hZ (own_t hw 3 rfl) (own_t hw 2 rfl) (by decide) (by decide)) (g := (mkF m 19 #[oi p0, oi p1, oi p2, oa sa2, .unset, .unset, .unset, .unset, .unset, .unset, .unset, .unset, .unset] [(.int p1)])) rfl (by rw [hml]; rfl) (argsL := [(.int p1)]) (rest := []) (lenOf pd_15 rfl) rfl (by show 2 * 0 + _ ≤ _; exact Nat.le_of_eq rfl) (hb hby at_19) (fun _ _ => ⟨rfl, rfl, (by decide : 3 + 3 ≤ _), (by decide : 10 + 10 ≤ _)⟩)
    dsimp only [Pt.U, Pt.locs, Pt.cells, Pt.slots] at X7 l7 y7 z7 st7 hQ7
    subst l7 y7 z7
    obtain ⟨sa7, rb7, kb7, tx7, rfl, hn_tx7, N7q, Kq7, szp7, szr7, Es7, Fv7, Fc7, Va7⟩ := hQ7
    have N7 := Fr.app N2 N7q
    have lt_sa2_7 := Es2.lt
    have lt_rb2_7 := Va2.lt
    obtain ⟨Go7, X7, N7⟩ := own_opq X7 N7
    have c9 : own_G p e below T7 (mkF m 24 #[oi p0, oi p1, oi p2, oa sa2, oa sa7, .unset, .unset, .unset, .unset, .unset, .unset, .unset, .unset] []) (mkF m 22 #[oi p0, oi p1, oi p2, oa sa2, .unset, .unset, .unset, .unset, .unset, .unset, .unset, .unset, .unset] [(.ref sa7)]) := by
      intro t kt
      show oS T7 (mkF m 22 #[oi p0, oi p1, oi p2, oa sa2, .unset, .unset, .unset, .unset, .unset, .unset, .unset, .unset, .unset] [(.ref sa7)]) _
      refine XS.astore X7.here hx rfl (hb hby at_22) rfl rfl (l' := #[oi p0, oi p1, oi p2, oa sa2, oa sa7, .unset, .unset, .unset, .unset, .unset, .unset, .unset, .unset]) rfl ?_
      exact kt
    obtain ⟨T8, h8, X8, e8, E8, A8, D8, U8, st8⟩ := newO X7 hx hZ hown (own_t hw 38 rfl) (own_t hw 39 rfl) (own_t hw 40 rfl) rfl (g := (mkF m 24 #[oi p0, oi p1, oi p2, oa sa2, oa sa7, .unset, .unset, .unset, .unset, .unset, .unset, .unset, .unset] [])) rfl (hb hby at_24) (by decide) (by decide)
    obtain ⟨b8, g8⟩ : ∃ z, z = T7.heap.size := ⟨_, rfl⟩
    rw [← g8] at A8 D8 U8 st8
    have ch10 := (CHr.refl hCH).trans (CHr.keep Kq2 sf0 (CHr.refl hCH).1)
    have ch11 := ch10.trans (CHr.keep Kq7 sf0 ch10.1)
    have sf12_b8 : Safe Z consts_1 s.vm T7.heap b8 := Safe.new (Nat.le_of_eq g8.symm)
    have f13 := (Nat.le_trans f5 Kq7.1)
    have f14 := (((Keep.refl h0 []).trans Kq2 all0).trans Kq7 all0)
    have g_b8 : n0 ≤ b8 := Nat.le_trans f13 (Nat.le_of_eq g8.symm)
    have sz_b8 : h0.size ≤ b8 := Nat.le_trans f14.1 (Nat.le_of_eq g8.symm)
    have f15 := (Es2.keep Kq7)
    have lt_sa2_8 := f15.lt
    have f16 := (Va2.keep Kq7 nin0)
    have lt_rb2_8 := f16.lt
    have lt_sa7_8 := Es7.lt
    have lt_rb7_8 := Va7.lt
    have F8_text : Fld Z h8 b8 "com/example/millrace/millrace/model/Numeral" "text" "Ljava/lang/String;" .null := D8 (Or.inr (own_t hw 110 rfl)) (ty := (.object "java/lang/String")) (by decide)
    have c17 : own_G p e below T8 (mkF m 29 #[oi p0, oi p1, oi p2, oa sa2, oa sa7, .unset, .unset, .unset, .unset, .unset, .unset, .unset, .unset] [(.ref sa2), (.ref b8), (.ref b8)]) (mkF m 27 #[oi p0, oi p1, oi p2, oa sa2, oa sa7, .unset, .unset, .unset, .unset, .unset, .unset, .unset, .unset] [(.ref b8)]) := by
      intro t kt
      show oS T8 (mkF m 27 #[oi p0, oi p1, oi p2, oa sa2, oa sa7, .unset, .unset, .unset, .unset, .unset, .unset, .unset, .unset] [(.ref b8)]) _
      refine XS.dup X8.here hx rfl (hb hby at_27) rfl rfl ?_
      show oS T8 (mkF m 28 #[oi p0, oi p1, oi p2, oa sa2, oa sa7, .unset, .unset, .unset, .unset, .unset, .unset, .unset, .unset] [(.ref b8), (.ref b8)]) _
      refine XS.aloadN X8.here hx rfl (hb hby at_28) rfl rfl ?_
      exact kt
    have f18 := (Nat.le_trans f13 E8.1)
    have f19 := (f15.ext E8)
    have f20 := ((Fv2.keep Kq7 nin0).ext E8)
    have f21 := ((Fc2.keep Kq7 nin0).ext E8)
    have f22 := (f16.ext E8)
    have f23 := ((f6.keep Kq7 all0).ext E8)
    have ch24 := ch11.trans (CHr.ext E8 ch11.1)
    have sf24_b8 := Safe.ext E8 ch11.1 sf12_b8
    have f25 := (Nat.le_trans (Nat.le_trans (Nat.le_trans (Nat.zero_le _) Kq2.1) Kq7.1) E8.1)
    have f26 := (f14.ext E8)
    obtain ⟨_, _, ⟨T27, L27, k27, n27⟩, -, X27, hSq27, gr27, ⟨Lc27, hQ27, l27, y27, z27, CHq27⟩, st27⟩ := Stand.specialBackS (s := s.setVm s.vm) X8 hx (y := yy_13) rfl hown (mvT hZ (own_t hw 41 rfl)) (mvT hZ (own_t hw 42 rfl)) (mvT hZ (own_t hw 43 rfl)) (by decide) (backOfSH (s := s) (vm0 := s.vm) (W := 1) (rm9 l Z a0 hw [] b8 sa2 rb2 kb2 cs fm tx2 h8 n0 f18 f23 f19 f20 f21 f22 SC hcs SF hfm hn_tx2 A8 F8_text g_b8 (Nat.ne_of_lt (Nat.lt_of_lt_of_le lt_sa2_8 (Nat.le_of_eq g8.symm))) (Nat.ne_of_lt (Nat.lt_of_lt_of_le lt_rb2_8 (Nat.le_of_eq g8.symm)))) hZ (own_t hw 43 rfl) (own_t hw 40 rfl) (by decide) (by decide) hEL ch24.1) (g := (mkF m 29 #[oi p0, oi p1, oi p2, oa sa2, oa sa7, .unset, .unset, .unset, .unset, .unset, .unset, .unset, .unset] [(.ref sa2), (.ref b8), (.ref b8)])) rfl (by rw [hml]; rfl) (Steps.refl _) (a := b8) (argsL := [(.ref sa2)]) (rest := [(.ref b8)]) (lenOf pd_16 rfl) rfl (by show 2 * 0 + _ ≤ _; exact Nat.le_of_eq rfl) (hb hby at_29) (fun _ _ => ⟨rfl, e8, (by decide : 7 + 4 ≤ _), (by decide : 21 + 28 ≤ _)⟩)
    dsimp only [Pt.U, Pt.locs, Pt.cells, Pt.slots] at X27 l27 y27 z27 st27 hQ27 hSq27 gr27 CHq27
    subst l27 y27 z27
    have hS27 : s.Since T27.vm T27.heap.size := foldS (T := T8) hS0 (by rw [e8]; exact f25) hSq27 gr27
    have hZ27 : Z.Warmed39 (s.setVm T27.vm).vm := State.Warmed39.trans (t := s.setVm s.vm) hZ hSq27.1
    have hown27 : (s.setVm T27.vm).vm.findClass "com/example/millrace/millrace/model/NumeralEqualsPinLaw" = some m.cls := by rw [show (s.setVm T27.vm).vm = T27.vm from rfl, hSq27.1.alike.findClass]; exact hown
    replace hZ := hZ27
    replace hown := hown27
    have sg27_b8 := CHr.safe CHq27 A8.lt sf24_b8
    have ch27 := ch24.trans CHq27
    obtain ⟨rfl, N27q, Kq27, Eq27, Fq27_0⟩ := hQ27
    have N27 := Fr.app N7 N27q
    obtain ⟨Go27, X27, N27⟩ := own_opq X27 N27
    have c29 : own_G p e below T27 (mkF m 34 #[oi p0, oi p1, oi p2, oa sa2, oa sa7, oa b8, .unset, .unset, .unset, .unset, .unset, .unset, .unset] []) (mkF m 32 #[oi p0, oi p1, oi p2, oa sa2, oa sa7, .unset, .unset, .unset, .unset, .unset, .unset, .unset, .unset] [(.ref b8)]) := by
      intro t kt
      show oS T27 (mkF m 32 #[oi p0, oi p1, oi p2, oa sa2, oa sa7, .unset, .unset, .unset, .unset, .unset, .unset, .unset, .unset] [(.ref b8)]) _
      refine XS.astore X27.here hx rfl (hb hby at_32) rfl rfl (l' := #[oi p0, oi p1, oi p2, oa sa2, oa sa7, oa b8, .unset, .unset, .unset, .unset, .unset, .unset, .unset]) rfl ?_
      exact kt
    obtain ⟨T28, h28, X28, e28, E28, A28, D28, U28, st28⟩ := newO X27 hx hZ hown (own_t hw 38 rfl) (own_t hw 39 rfl) (own_t hw 40 rfl) rfl (g := (mkF m 34 #[oi p0, oi p1, oi p2, oa sa2, oa sa7, oa b8, .unset, .unset, .unset, .unset, .unset, .unset, .unset] [])) rfl (hb hby at_34) (by decide) (by decide)
    obtain ⟨b28, g28⟩ : ∃ z, z = T27.heap.size := ⟨_, rfl⟩
    rw [← g28] at A28 D28 U28 st28
    have sf30_b28 : Safe Z consts_1 T27.vm T27.heap b28 := Safe.new (Nat.le_of_eq g28.symm)
    have f31 := (Nat.le_trans f18 Kq27.1)
    have f32 := (f26.trans Kq27 (allS (Or.inr sz_b8) all0))
    have g_b28 : n0 ≤ b28 := Nat.le_trans f31 (Nat.le_of_eq g28.symm)
    have sz_b28 : h0.size ≤ b28 := Nat.le_trans f32.1 (Nat.le_of_eq g28.symm)
    have f33 := (f19.keep Kq27)
    have lt_sa2_28 := f33.lt
    have f34 := (f22.keep Kq27 (ninS (Nat.ne_of_lt (Nat.lt_of_lt_of_le lt_rb2_8 (Nat.le_of_eq g8.symm))) nin0))
    have lt_rb2_28 := f34.lt
    have f35 := ((Es7.ext E8).keep Kq27)
    have lt_sa7_28 := f35.lt
    have f36 := ((Va7.ext E8).keep Kq27 (ninS (Nat.ne_of_lt (Nat.lt_of_lt_of_le lt_rb7_8 (Nat.le_of_eq g8.symm))) nin0))
    have lt_rb7_28 := f36.lt
    have lt_b8_28 := Eq27.lt
    have F28_text : Fld Z h28 b28 "com/example/millrace/millrace/model/Numeral" "text" "Ljava/lang/String;" .null := D28 (Or.inr (own_t hw 110 rfl)) (ty := (.object "java/lang/String")) (by decide)
    have c37 : own_G p e below T28 (mkF m 40 #[oi p0, oi p1, oi p2, oa sa2, oa sa7, oa b8, .unset, .unset, .unset, .unset, .unset, .unset, .unset] [(.ref sa7), (.ref b28), (.ref b28)]) (mkF m 37 #[oi p0, oi p1, oi p2, oa sa2, oa sa7, oa b8, .unset, .unset, .unset, .unset, .unset, .unset, .unset] [(.ref b28)]) := by
      intro t kt
      show oS T28 (mkF m 37 #[oi p0, oi p1, oi p2, oa sa2, oa sa7, oa b8, .unset, .unset, .unset, .unset, .unset, .unset, .unset] [(.ref b28)]) _
      refine XS.dup X28.here hx rfl (hb hby at_37) rfl rfl ?_
      show oS T28 (mkF m 38 #[oi p0, oi p1, oi p2, oa sa2, oa sa7, oa b8, .unset, .unset, .unset, .unset, .unset, .unset, .unset] [(.ref b28), (.ref b28)]) _
      refine XS.aload X28.here hx rfl (hb hby at_38) rfl rfl ?_
      exact kt
    have f38 := (Nat.le_trans f31 E28.1)
    have f39 := (f35.ext E28)
    have f40 := (((Fv7.ext E8).keep Kq27 (ninS (Nat.ne_of_lt (Nat.lt_of_lt_of_le lt_sa7_8 (Nat.le_of_eq g8.symm))) nin0)).ext E28)
    have f41 := (((Fc7.ext E8).keep Kq27 (ninS (Nat.ne_of_lt (Nat.lt_of_lt_of_le lt_sa7_8 (Nat.le_of_eq g8.symm))) nin0)).ext E28)
    have f42 := (f36.ext E28)
    have f43 := ((f23.keep Kq27 (allS g_b8 all0)).ext E28)
    have ch44 := ch27.trans (CHr.ext E28 ch27.1)
    have sf44_b8 := Safe.ext E28 ch27.1 sg27_b8
    have sf44_b28 := Safe.ext E28 ch27.1 sf30_b28
    have f45 := (Nat.le_trans (Nat.le_refl _) E28.1)
    have f46 := (f32.ext E28)
    have f47 := (Eq27.ext E28)
    obtain ⟨_, _, ⟨T48, L48, k48, n48⟩, -, X48, hSq48, gr48, ⟨Lc48, hQ48, l48, y48, z48, CHq48⟩, st48⟩ := Stand.specialBackS (s := s.setVm T27.vm) X28 hx (y := yy_13) rfl hown (mvT hZ (own_t hw 41 rfl)) (mvT hZ (own_t hw 42 rfl)) (mvT hZ (own_t hw 43 rfl)) (by decide) (backOfSH (s := s) (vm0 := T27.vm) (W := 1) (rm9 l Z a0 hw [] b28 sa7 rb7 kb7 cs fm tx7 h28 n0 f38 f43 f39 f40 f41 f42 SC hcs SF hfm hn_tx7 A28 F28_text g_b28 (Nat.ne_of_lt (Nat.lt_of_lt_of_le lt_sa7_28 (Nat.le_of_eq g28.symm))) (Nat.ne_of_lt (Nat.lt_of_lt_of_le lt_rb7_28 (Nat.le_of_eq g28.symm)))) hZ (own_t hw 43 rfl) (own_t hw 40 rfl) (by decide) (by decide) hEL ch44.1) (g := (mkF m 40 #[oi p0, oi p1, oi p2, oa sa2, oa sa7, oa b8, .unset, .unset, .unset, .unset, .unset, .unset, .unset] [(.ref sa7), (.ref b28), (.ref b28)])) rfl (by rw [hml]; rfl) (Steps.refl _) (a := b28) (argsL := [(.ref sa7)]) (rest := [(.ref b28)]) (lenOf pd_16 rfl) rfl (by show 2 * 0 + _ ≤ _; exact Nat.le_of_eq rfl) (hb hby at_40) (fun _ _ => ⟨rfl, e28, (by decide : 12 + 4 ≤ _), (by decide : 50 + 28 ≤ _)⟩)
    dsimp only [Pt.U, Pt.locs, Pt.cells, Pt.slots] at X48 l48 y48 z48 st48 hQ48 hSq48 gr48 CHq48
    subst l48 y48 z48
    have hS48 : s.Since T48.vm T48.heap.size := foldS (T := T28) hS27 (by rw [e28]; exact f45) hSq48 gr48
    have hZ48 : Z.Warmed39 (s.setVm T48.vm).vm := State.Warmed39.trans (t := s.setVm T27.vm) hZ hSq48.1
    have hown48 : (s.setVm T48.vm).vm.findClass "com/example/millrace/millrace/model/NumeralEqualsPinLaw" = some m.cls := by rw [show (s.setVm T48.vm).vm = T48.vm from rfl, hSq48.1.alike.findClass]; exact hown
    replace hZ := hZ48
    replace hown := hown48
    have sg48_b8 := CHr.safe CHq48 f47.lt sf44_b8
    have sg48_b28 := CHr.safe CHq48 A28.lt sf44_b28
    have ch48 := ch44.trans CHq48
    obtain ⟨rfl, N48q, Kq48, Eq48, Fq48_0⟩ := hQ48
    have N48 := Fr.app N27 N48q
    obtain ⟨Go48, X48, N48⟩ := own_opq X48 N48
    have c49 : own_G p e below T48 (mkF m 48 #[oi p0, oi p1, oi p2, oa sa2, oa sa7, oa b8, oa b28, .unset, .unset, .unset, .unset, .unset, .unset] [(.ref sa7), (.ref sa2)]) (mkF m 43 #[oi p0, oi p1, oi p2, oa sa2, oa sa7, oa b8, .unset, .unset, .unset, .unset, .unset, .unset, .unset] [(.ref b28)]) := by
      intro t kt
      show oS T48 (mkF m 43 #[oi p0, oi p1, oi p2, oa sa2, oa sa7, oa b8, .unset, .unset, .unset, .unset, .unset, .unset, .unset] [(.ref b28)]) _
      refine XS.astore X48.here hx rfl (hb hby at_43) rfl rfl (l' := #[oi p0, oi p1, oi p2, oa sa2, oa sa7, oa b8, oa b28, .unset, .unset, .unset, .unset, .unset, .unset]) rfl ?_
      show oS T48 (mkF m 45 #[oi p0, oi p1, oi p2, oa sa2, oa sa7, oa b8, oa b28, .unset, .unset, .unset, .unset, .unset, .unset] []) _
      refine XS.aloadN X48.here hx rfl (hb hby at_45) rfl rfl ?_
      show oS T48 (mkF m 46 #[oi p0, oi p1, oi p2, oa sa2, oa sa7, oa b8, oa b28, .unset, .unset, .unset, .unset, .unset, .unset] [(.ref sa2)]) _
      refine XS.aload X48.here hx rfl (hb hby at_46) rfl rfl ?_
      exact kt
    have f50 := (Nat.le_trans f38 Kq48.1)
    have f51 := ((f33.ext E28).keep Kq48)
    have f52 := (((f20.keep Kq27 (ninS (Nat.ne_of_lt (Nat.lt_of_lt_of_le lt_sa2_8 (Nat.le_of_eq g8.symm))) nin0)).ext E28).keep Kq48 (ninS (Nat.ne_of_lt (Nat.lt_of_lt_of_le lt_sa2_28 (Nat.le_of_eq g28.symm))) nin0))
    have f53 := (((f21.keep Kq27 (ninS (Nat.ne_of_lt (Nat.lt_of_lt_of_le lt_sa2_8 (Nat.le_of_eq g8.symm))) nin0)).ext E28).keep Kq48 (ninS (Nat.ne_of_lt (Nat.lt_of_lt_of_le lt_sa2_28 (Nat.le_of_eq g28.symm))) nin0))
    have f54 := ((f34.ext E28).keep Kq48 (ninS (Nat.ne_of_lt (Nat.lt_of_lt_of_le lt_rb2_28 (Nat.le_of_eq g28.symm))) nin0))
    have f55 := (f39.keep Kq48)
    have f56 := (f40.keep Kq48 (ninS (Nat.ne_of_lt (Nat.lt_of_lt_of_le lt_sa7_28 (Nat.le_of_eq g28.symm))) nin0))
    have f57 := (f41.keep Kq48 (ninS (Nat.ne_of_lt (Nat.lt_of_lt_of_le lt_sa7_28 (Nat.le_of_eq g28.symm))) nin0))
    have f58 := (f42.keep Kq48 (ninS (Nat.ne_of_lt (Nat.lt_of_lt_of_le lt_rb7_28 (Nat.le_of_eq g28.symm))) nin0))
    have f59 := (f43.keep Kq48 (allS g_b28 all0))
    obtain ⟨_, _, ⟨T60, L60, k60, n60⟩, -, X60, ⟨Lc60, hQ60, l60, y60, z60⟩, st60⟩ := Jvm.LawKit.callS X48 hx (y := yy_17) hown (mvT hZ (own_t hw 111 rfl)) (mvT hZ (own_t hw 112 rfl)) (mvT hZ (own_t hw 2 rfl)) (mvT hZ (own_t hw 113 rfl)) (by decide) (backOf (W := 0) (rm23 l Z a0 hw [] sa2 sa7 rb2 rb7 kb2 kb7 cs fm tx2 tx7 T48.heap n0 f50 f51 f52 f53 f54 f55 f56 f57 f58 (SC.ext f59.2) hcs (SF.ext f59.2) hfm (own_nl hn_tx2) (own_nl hn_tx7)) hZ (own_t hw 113 rfl) (own_t hw 2 rfl) (by decide) (by decide)) (g := (mkF m 48 #[oi p0, oi p1, oi p2, oa sa2, oa sa7, oa b8, oa b28, .unset, .unset, .unset, .unset, .unset, .unset] [(.ref sa7), (.ref sa2)])) rfl (by rw [hml]; rfl) (argsL := [(.ref sa2), (.ref sa7)]) (rest := []) (lenOf pd_17 rfl) rfl (by show 2 * 0 + _ ≤ _; exact Nat.le_of_eq rfl) (hb hby at_48) (fun _ _ => ⟨rfl, rfl, (by decide : 16 + 0 ≤ _), (by decide : 78 + 0 ≤ _)⟩)
    dsimp only [Pt.U, Pt.locs, Pt.cells, Pt.slots] at X60 l60 y60 z60 st60 hQ60
    subst l60 y60 z60
    obtain ⟨rfl, N60q, e60⟩ := hQ60
    have N60 := Fr.app N48 N60q
    obtain ⟨Go60, X60, N60⟩ := own_opq X60 N60
    have c61 : own_G p e below T60 (mkF m 57 #[oi p0, oi p1, oi p2, oa sa2, oa sa7, oa b8, oa b28, oi (own_same tx2 tx7), .unset, .unset, .unset, .unset, .unset] [(.ref b28), (.ref b8)]) (mkF m 51 #[oi p0, oi p1, oi p2, oa sa2, oa sa7, oa b8, oa b28, .unset, .unset, .unset, .unset, .unset, .unset] [(.int (own_same tx2 tx7))]) := by
      intro t kt
      show oS T60 (mkF m 51 #[oi p0, oi p1, oi p2, oa sa2, oa sa7, oa b8, oa b28, .unset, .unset, .unset, .unset, .unset, .unset] [(.int (own_same tx2 tx7))]) _
      refine XS.istore X60.here hx rfl (hb hby at_51) rfl (l' := #[oi p0, oi p1, oi p2, oa sa2, oa sa7, oa b8, oa b28, oi (own_same tx2 tx7), .unset, .unset, .unset, .unset, .unset]) rfl ?_
      show oS T60 (mkF m 53 #[oi p0, oi p1, oi p2, oa sa2, oa sa7, oa b8, oa b28, oi (own_same tx2 tx7), .unset, .unset, .unset, .unset, .unset] []) _
      refine XS.aload X60.here hx rfl (hb hby at_53) rfl rfl ?_
      show oS T60 (mkF m 55 #[oi p0, oi p1, oi p2, oa sa2, oa sa7, oa b8, oa b28, oi (own_same tx2 tx7), .unset, .unset, .unset, .unset, .unset] [(.ref b8)]) _
      refine XS.aload X60.here hx rfl (hb hby at_55) rfl rfl ?_
      exact kt
    have f62 := (f47.keep Kq48)
    have f63 := ((Fq27_0.ext E28).keep Kq48 (ninS (Nat.ne_of_lt (Nat.lt_of_lt_of_le lt_b8_28 (Nat.le_of_eq g28.symm))) nin0))
    obtain ⟨cq64, kq64, q64a, q64b, q64c⟩ := isOf hZ e60 f62
    obtain ⟨_, _, ⟨T65, L65, k65, n65⟩, -, X65, ⟨Lc65, hQ65, l65, y65, z65⟩, st65⟩ := X60.virtualBack hx (y := yy_20) (z := yy_20) hown (mvT hZ (own_t hw 115 rfl)) (mvT hZ (own_t hw 116 rfl)) (notFace_of_selects (args := #[]) (mvT hZ (own_t hw 118 rfl))) (mvT hZ (own_t hw 118 rfl)) (mvT hZ (own_t hw 117 rfl)) (by decide) (backOf (W := 0) (rm24 l Z a0 hw []  b8 b28 sa2 sa7 rb2 rb7 kb2 kb7 cs tx2 tx7 T48.heap n0 f50 f62 f63 Eq48 Fq48_0 f51 f52 f53 f54 f55 f56 f57 f58 (SC.ext f59.2) hcs (own_nl hn_tx2) (own_nl hn_tx7) (Ne.symm (Nat.ne_of_lt (Nat.lt_of_lt_of_le lt_sa2_7 szp7)))) hZ (own_t hw 119 rfl) (own_t hw 40 rfl) (by decide) (by decide)) q64a q64c (g := (mkF m 57 #[oi p0, oi p1, oi p2, oa sa2, oa sa7, oa b8, oa b28, oi (own_same tx2 tx7), .unset, .unset, .unset, .unset, .unset] [(.ref b28), (.ref b8)])) rfl (by rw [hml]; rfl) (Steps.refl _) (argsL := [(.ref b28)]) (rest := []) (lenOf pd_14 rfl) rfl (by show 2 * 0 + _ ≤ _; exact Nat.le_of_eq rfl) (hb hby at_57) (fun _ _ => ⟨rfl, e60, (by decide : 16 + 0 ≤ _), (by decide : 78 + 0 ≤ _)⟩)
    dsimp only [Pt.U, Pt.locs, Pt.cells, Pt.slots] at X65 l65 y65 z65 st65 hQ65
    subst l65 y65 z65
    obtain ⟨rfl, N65q, e65⟩ := hQ65
    have N65 := Fr.app N60 N65q
    obtain ⟨Go65, X65, N65⟩ := own_opq X65 N65
    have c66 : own_G p e below T65 (mkF m 60 #[oi p0, oi p1, oi p2, oa sa2, oa sa7, oa b8, oa b28, oi (own_same tx2 tx7), .unset, .unset, .unset, .unset, .unset] [(.int (own_same tx2 tx7))]) (mkF m 60 #[oi p0, oi p1, oi p2, oa sa2, oa sa7, oa b8, oa b28, oi (own_same tx2 tx7), .unset, .unset, .unset, .unset, .unset] [(.int (own_same tx7 tx2))]) := fun t kt => castTop (congrArg (fun zv => (mkF m 60 #[oi p0, oi p1, oi p2, oa sa2, oa sa7, oa b8, oa b28, oi (own_same tx2 tx7), .unset, .unset, .unset, .unset, .unset] [(.int zv)])) (show (own_same tx7 tx2) = (own_same tx2 tx7) from own_sameC _ _)) kt
    have c67 : own_G p e below T65 (mkF m 66 #[oi p0, oi p1, oi p2, oa sa2, oa sa7, oa b8, oa b28, oi (own_same tx2 tx7), oi (own_same tx2 tx7), .unset, .unset, .unset, .unset] [(.ref b8), (.ref b28)]) (mkF m 60 #[oi p0, oi p1, oi p2, oa sa2, oa sa7, oa b8, oa b28, oi (own_same tx2 tx7), .unset, .unset, .unset, .unset, .unset] [(.int (own_same tx2 tx7))]) := by
      intro t kt
      show oS T65 (mkF m 60 #[oi p0, oi p1, oi p2, oa sa2, oa sa7, oa b8, oa b28, oi (own_same tx2 tx7), .unset, .unset, .unset, .unset, .unset] [(.int (own_same tx2 tx7))]) _
      refine XS.istore X65.here hx rfl (hb hby at_60) rfl (l' := #[oi p0, oi p1, oi p2, oa sa2, oa sa7, oa b8, oa b28, oi (own_same tx2 tx7), oi (own_same tx2 tx7), .unset, .unset, .unset, .unset]) rfl ?_
      show oS T65 (mkF m 62 #[oi p0, oi p1, oi p2, oa sa2, oa sa7, oa b8, oa b28, oi (own_same tx2 tx7), oi (own_same tx2 tx7), .unset, .unset, .unset, .unset] []) _
      refine XS.aload X65.here hx rfl (hb hby at_62) rfl rfl ?_
      show oS T65 (mkF m 64 #[oi p0, oi p1, oi p2, oa sa2, oa sa7, oa b8, oa b28, oi (own_same tx2 tx7), oi (own_same tx2 tx7), .unset, .unset, .unset, .unset] [(.ref b28)]) _
      refine XS.aload X65.here hx rfl (hb hby at_64) rfl rfl ?_
      exact kt
    obtain ⟨cq68, kq68, q68a, q68b, q68c⟩ := isOf hZ e65 Eq48
    obtain ⟨_, _, ⟨T69, L69, k69, n69⟩, -, X69, ⟨Lc69, hQ69, l69, y69, z69⟩, st69⟩ := X65.virtualBack hx (y := yy_20) (z := yy_20) hown (mvT hZ (own_t hw 115 rfl)) (mvT hZ (own_t hw 116 rfl)) (notFace_of_selects (args := #[]) (mvT hZ (own_t hw 118 rfl))) (mvT hZ (own_t hw 118 rfl)) (mvT hZ (own_t hw 117 rfl)) (by decide) (backOf (W := 0) (rm24 l Z a0 hw []  b28 b8 sa7 sa2 rb7 rb2 kb7 kb2 cs tx7 tx2 T48.heap n0 f50 Eq48 Fq48_0 f62 f63 f55 f56 f57 f58 f51 f52 f53 f54 (SC.ext f59.2) hcs (own_nl hn_tx7) (own_nl hn_tx2) (Nat.ne_of_lt (Nat.lt_of_lt_of_le lt_sa2_7 szp7))) hZ (own_t hw 119 rfl) (own_t hw 40 rfl) (by decide) (by decide)) q68a q68c (g := (mkF m 66 #[oi p0, oi p1, oi p2, oa sa2, oa sa7, oa b8, oa b28, oi (own_same tx2 tx7), oi (own_same tx2 tx7), .unset, .unset, .unset, .unset] [(.ref b8), (.ref b28)])) rfl (by rw [hml]; rfl) (Steps.refl _) (argsL := [(.ref b8)]) (rest := []) (lenOf pd_14 rfl) rfl (by show 2 * 0 + _ ≤ _; exact Nat.le_of_eq rfl) (hb hby at_66) (fun _ _ => ⟨rfl, e65, (by decide : 16 + 0 ≤ _), (by decide : 78 + 0 ≤ _)⟩)
    dsimp only [Pt.U, Pt.locs, Pt.cells, Pt.slots] at X69 l69 y69 z69 st69 hQ69
    subst l69 y69 z69
    obtain ⟨rfl, N69q, e69⟩ := hQ69
    have N69 := Fr.app N65 N69q
    obtain ⟨Go69, X69, N69⟩ := own_opq X69 N69
    have c70 : own_G p e below T69 (mkF m 75 #[oi p0, oi p1, oi p2, oa sa2, oa sa7, oa b8, oa b28, oi (own_same tx2 tx7), oi (own_same tx2 tx7), oi (own_same tx2 tx7), .unset, .unset, .unset] [(.ref b8), (.ref b8)]) (mkF m 69 #[oi p0, oi p1, oi p2, oa sa2, oa sa7, oa b8, oa b28, oi (own_same tx2 tx7), oi (own_same tx2 tx7), .unset, .unset, .unset, .unset] [(.int (own_same tx2 tx7))]) := by
      intro t kt
      show oS T69 (mkF m 69 #[oi p0, oi p1, oi p2, oa sa2, oa sa7, oa b8, oa b28, oi (own_same tx2 tx7), oi (own_same tx2 tx7), .unset, .unset, .unset, .unset] [(.int (own_same tx2 tx7))]) _
      refine XS.istore X69.here hx rfl (hb hby at_69) rfl (l' := #[oi p0, oi p1, oi p2, oa sa2, oa sa7, oa b8, oa b28, oi (own_same tx2 tx7), oi (own_same tx2 tx7), oi (own_same tx2 tx7), .unset, .unset, .unset]) rfl ?_
      show oS T69 (mkF m 71 #[oi p0, oi p1, oi p2, oa sa2, oa sa7, oa b8, oa b28, oi (own_same tx2 tx7), oi (own_same tx2 tx7), oi (own_same tx2 tx7), .unset, .unset, .unset] []) _
      refine XS.aload X69.here hx rfl (hb hby at_71) rfl rfl ?_
      show oS T69 (mkF m 73 #[oi p0, oi p1, oi p2, oa sa2, oa sa7, oa b8, oa b28, oi (own_same tx2 tx7), oi (own_same tx2 tx7), oi (own_same tx2 tx7), .unset, .unset, .unset] [(.ref b8)]) _
      refine XS.aload X69.here hx rfl (hb hby at_73) rfl rfl ?_
      exact kt
    obtain ⟨cq71, kq71, q71a, q71b, q71c⟩ := isOf hZ e69 f62
    obtain ⟨_, _, ⟨T72, L72, k72, n72⟩, -, X72, ⟨Lc72, hQ72, l72, y72, z72⟩, st72⟩ := X69.virtualBack hx (y := yy_20) (z := yy_20) hown (mvT hZ (own_t hw 115 rfl)) (mvT hZ (own_t hw 116 rfl)) (notFace_of_selects (args := #[]) (mvT hZ (own_t hw 118 rfl))) (mvT hZ (own_t hw 118 rfl)) (mvT hZ (own_t hw 117 rfl)) (by decide) (backOf (W := 0) (rm24s l Z a0 hw []  b8 sa2 T48.heap n0 f50 f62 f63 f51) hZ (own_t hw 119 rfl) (own_t hw 40 rfl) (by decide) (by decide)) q71a q71c (g := (mkF m 75 #[oi p0, oi p1, oi p2, oa sa2, oa sa7, oa b8, oa b28, oi (own_same tx2 tx7), oi (own_same tx2 tx7), oi (own_same tx2 tx7), .unset, .unset, .unset] [(.ref b8), (.ref b8)])) rfl (by rw [hml]; rfl) (Steps.refl _) (argsL := [(.ref b8)]) (rest := []) (lenOf pd_14 rfl) rfl (by show 2 * 0 + _ ≤ _; exact Nat.le_of_eq rfl) (hb hby at_75) (fun _ _ => ⟨rfl, e69, (by decide : 16 + 0 ≤ _), (by decide : 78 + 0 ≤ _)⟩)
    dsimp only [Pt.U, Pt.locs, Pt.cells, Pt.slots] at X72 l72 y72 z72 st72 hQ72
    subst l72 y72 z72
    obtain ⟨rfl, N72q, e72⟩ := hQ72
    have N72 := Fr.app N69 N72q
    obtain ⟨Go72, X72, N72⟩ := own_opq X72 N72
    have c73 : own_G p e below T72 (mkF m 83 #[oi p0, oi p1, oi p2, oa sa2, oa sa7, oa b8, oa b28, oi (own_same tx2 tx7), oi (own_same tx2 tx7), oi (own_same tx2 tx7), oi 1, .unset, .unset] [.null, (.ref b8)]) (mkF m 78 #[oi p0, oi p1, oi p2, oa sa2, oa sa7, oa b8, oa b28, oi (own_same tx2 tx7), oi (own_same tx2 tx7), oi (own_same tx2 tx7), .unset, .unset, .unset] [(.int (1 : Int32))]) := by
      intro t kt
      show oS T72 (mkF m 78 #[oi p0, oi p1, oi p2, oa sa2, oa sa7, oa b8, oa b28, oi (own_same tx2 tx7), oi (own_same tx2 tx7), oi (own_same tx2 tx7), .unset, .unset, .unset] [(.int (1 : Int32))]) _
      refine XS.istore X72.here hx rfl (hb hby at_78) rfl (l' := #[oi p0, oi p1, oi p2, oa sa2, oa sa7, oa b8, oa b28, oi (own_same tx2 tx7), oi (own_same tx2 tx7), oi (own_same tx2 tx7), oi 1, .unset, .unset]) rfl ?_
      show oS T72 (mkF m 80 #[oi p0, oi p1, oi p2, oa sa2, oa sa7, oa b8, oa b28, oi (own_same tx2 tx7), oi (own_same tx2 tx7), oi (own_same tx2 tx7), oi 1, .unset, .unset] []) _
      refine XS.aload X72.here hx rfl (hb hby at_80) rfl rfl ?_
      show oS T72 (mkF m 82 #[oi p0, oi p1, oi p2, oa sa2, oa sa7, oa b8, oa b28, oi (own_same tx2 tx7), oi (own_same tx2 tx7), oi (own_same tx2 tx7), oi 1, .unset, .unset] [(.ref b8)]) _
      refine XS.aconstNull X72.here hx rfl (hb hby at_82) ?_
      exact kt
    obtain ⟨cq74, kq74, q74a, q74b, q74c⟩ := isOf hZ e72 f62
    obtain ⟨_, _, ⟨T75, L75, k75, n75⟩, -, X75, ⟨Lc75, hQ75, l75, y75, z75⟩, st75⟩ := X72.virtualBack hx (y := yy_20) (z := yy_20) hown (mvT hZ (own_t hw 115 rfl)) (mvT hZ (own_t hw 116 rfl)) (notFace_of_selects (args := #[]) (mvT hZ (own_t hw 118 rfl))) (mvT hZ (own_t hw 118 rfl)) (mvT hZ (own_t hw 117 rfl)) (by decide) (backOf (W := 0) (rm24z l Z a0 hw []  b8 T48.heap n0 f50 ) hZ (own_t hw 119 rfl) (own_t hw 40 rfl) (by decide) (by decide)) q74a q74c (g := (mkF m 83 #[oi p0, oi p1, oi p2, oa sa2, oa sa7, oa b8, oa b28, oi (own_same tx2 tx7), oi (own_same tx2 tx7), oi (own_same tx2 tx7), oi 1, .unset, .unset] [.null, (.ref b8)])) rfl (by rw [hml]; rfl) (Steps.refl _) (argsL := [.null]) (rest := []) (lenOf pd_14 rfl) rfl (by show 2 * 0 + _ ≤ _; exact Nat.le_of_eq rfl) (hb hby at_83) (fun _ _ => ⟨rfl, e72, (by decide : 16 + 0 ≤ _), (by decide : 78 + 0 ≤ _)⟩)
    dsimp only [Pt.U, Pt.locs, Pt.cells, Pt.slots] at X75 l75 y75 z75 st75 hQ75
    subst l75 y75 z75
    obtain ⟨rfl, N75q, e75⟩ := hQ75
    have N75 := Fr.app N72 N75q
    obtain ⟨Go75, X75, N75⟩ := own_opq X75 N75
    have c76 : own_G p e below T75 (mkF m 91 #[oi p0, oi p1, oi p2, oa sa2, oa sa7, oa b8, oa b28, oi (own_same tx2 tx7), oi (own_same tx2 tx7), oi (own_same tx2 tx7), oi 1, oi 0, .unset] [(.ref sa2), (.ref b8)]) (mkF m 86 #[oi p0, oi p1, oi p2, oa sa2, oa sa7, oa b8, oa b28, oi (own_same tx2 tx7), oi (own_same tx2 tx7), oi (own_same tx2 tx7), oi 1, .unset, .unset] [(.int (0 : Int32))]) := by
      intro t kt
      show oS T75 (mkF m 86 #[oi p0, oi p1, oi p2, oa sa2, oa sa7, oa b8, oa b28, oi (own_same tx2 tx7), oi (own_same tx2 tx7), oi (own_same tx2 tx7), oi 1, .unset, .unset] [(.int (0 : Int32))]) _
      refine XS.istore X75.here hx rfl (hb hby at_86) rfl (l' := #[oi p0, oi p1, oi p2, oa sa2, oa sa7, oa b8, oa b28, oi (own_same tx2 tx7), oi (own_same tx2 tx7), oi (own_same tx2 tx7), oi 1, oi 0, .unset]) rfl ?_
      show oS T75 (mkF m 88 #[oi p0, oi p1, oi p2, oa sa2, oa sa7, oa b8, oa b28, oi (own_same tx2 tx7), oi (own_same tx2 tx7), oi (own_same tx2 tx7), oi 1, oi 0, .unset] []) _
      refine XS.aload X75.here hx rfl (hb hby at_88) rfl rfl ?_
      show oS T75 (mkF m 90 #[oi p0, oi p1, oi p2, oa sa2, oa sa7, oa b8, oa b28, oi (own_same tx2 tx7), oi (own_same tx2 tx7), oi (own_same tx2 tx7), oi 1, oi 0, .unset] [(.ref b8)]) _
      refine XS.aloadN X75.here hx rfl (hb hby at_90) rfl rfl ?_
      exact kt
    obtain ⟨cq77, kq77, q77a, q77b, q77c⟩ := isOf hZ e75 f62
    obtain ⟨_, _, ⟨T78, L78, k78, n78⟩, -, X78, ⟨Lc78, hQ78, l78, y78, z78⟩, st78⟩ := X75.virtualBack hx (y := yy_20) (z := yy_20) hown (mvT hZ (own_t hw 115 rfl)) (mvT hZ (own_t hw 116 rfl)) (notFace_of_selects (args := #[]) (mvT hZ (own_t hw 118 rfl))) (mvT hZ (own_t hw 118 rfl)) (mvT hZ (own_t hw 117 rfl)) (by decide) (backOf (W := 0) (rm24t l Z a0 hw []  b8 sa2 T48.heap n0 f50 f51) hZ (own_t hw 119 rfl) (own_t hw 40 rfl) (by decide) (by decide)) q77a q77c (g := (mkF m 91 #[oi p0, oi p1, oi p2, oa sa2, oa sa7, oa b8, oa b28, oi (own_same tx2 tx7), oi (own_same tx2 tx7), oi (own_same tx2 tx7), oi 1, oi 0, .unset] [(.ref sa2), (.ref b8)])) rfl (by rw [hml]; rfl) (Steps.refl _) (argsL := [(.ref sa2)]) (rest := []) (lenOf pd_14 rfl) rfl (by show 2 * 0 + _ ≤ _; exact Nat.le_of_eq rfl) (hb hby at_91) (fun _ _ => ⟨rfl, e75, (by decide : 16 + 0 ≤ _), (by decide : 78 + 0 ≤ _)⟩)
    dsimp only [Pt.U, Pt.locs, Pt.cells, Pt.slots] at X78 l78 y78 z78 st78 hQ78
    subst l78 y78 z78
    obtain ⟨rfl, N78q, e78⟩ := hQ78
    have N78 := Fr.app N75 N78q
    obtain ⟨Go78, X78, N78⟩ := own_opq X78 N78
    have c79 : own_G p e below T78 (mkF m 130 #[oi p0, oi p1, oi p2, oa sa2, oa sa7, oa b8, oa b28, oi (own_same tx2 tx7), oi (own_same tx2 tx7), oi (own_same tx2 tx7), oi 1, oi 0, oi 0] [(.int (1 : Int32))]) (mkF m 94 #[oi p0, oi p1, oi p2, oa sa2, oa sa7, oa b8, oa b28, oi (own_same tx2 tx7), oi (own_same tx2 tx7), oi (own_same tx2 tx7), oi 1, oi 0, .unset] [(.int (0 : Int32))]) := by
      intro t kt
      show oS T78 (mkF m 94 #[oi p0, oi p1, oi p2, oa sa2, oa sa7, oa b8, oa b28, oi (own_same tx2 tx7), oi (own_same tx2 tx7), oi (own_same tx2 tx7), oi 1, oi 0, .unset] [(.int (0 : Int32))]) _
      refine XS.istore X78.here hx rfl (hb hby at_94) rfl (l' := #[oi p0, oi p1, oi p2, oa sa2, oa sa7, oa b8, oa b28, oi (own_same tx2 tx7), oi (own_same tx2 tx7), oi (own_same tx2 tx7), oi 1, oi 0, oi 0]) rfl ?_
      show oS T78 (mkF m 96 #[oi p0, oi p1, oi p2, oa sa2, oa sa7, oa b8, oa b28, oi (own_same tx2 tx7), oi (own_same tx2 tx7), oi (own_same tx2 tx7), oi 1, oi 0, oi 0] []) _
      refine XS.iload X78.here hx rfl (hb hby at_96) rfl ?_
      show oS T78 (mkF m 98 #[oi p0, oi p1, oi p2, oa sa2, oa sa7, oa b8, oa b28, oi (own_same tx2 tx7), oi (own_same tx2 tx7), oi (own_same tx2 tx7), oi 1, oi 0, oi 0] [(.int (own_same tx2 tx7))]) _
      refine XS.iload X78.here hx rfl (hb hby at_98) rfl ?_
      show oS T78 (mkF m 100 #[oi p0, oi p1, oi p2, oa sa2, oa sa7, oa b8, oa b28, oi (own_same tx2 tx7), oi (own_same tx2 tx7), oi (own_same tx2 tx7), oi 1, oi 0, oi 0] [(.int (own_same tx2 tx7)), (.int (own_same tx2 tx7))]) _
      refine XS.icmpNo X78.here hx rfl (hb hby at_100) rfl (teq (rfl : (own_same tx2 tx7) = (own_same tx2 tx7))).2 ?_
      show oS T78 (mkF m 103 #[oi p0, oi p1, oi p2, oa sa2, oa sa7, oa b8, oa b28, oi (own_same tx2 tx7), oi (own_same tx2 tx7), oi (own_same tx2 tx7), oi 1, oi 0, oi 0] []) _
      refine XS.iload X78.here hx rfl (hb hby at_103) rfl ?_
      show oS T78 (mkF m 105 #[oi p0, oi p1, oi p2, oa sa2, oa sa7, oa b8, oa b28, oi (own_same tx2 tx7), oi (own_same tx2 tx7), oi (own_same tx2 tx7), oi 1, oi 0, oi 0] [(.int (own_same tx2 tx7))]) _
      refine XS.iload X78.here hx rfl (hb hby at_105) rfl ?_
      show oS T78 (mkF m 107 #[oi p0, oi p1, oi p2, oa sa2, oa sa7, oa b8, oa b28, oi (own_same tx2 tx7), oi (own_same tx2 tx7), oi (own_same tx2 tx7), oi 1, oi 0, oi 0] [(.int (own_same tx2 tx7)), (.int (own_same tx2 tx7))]) _
      refine XS.icmpNo X78.here hx rfl (hb hby at_107) rfl (teq (rfl : (own_same tx2 tx7) = (own_same tx2 tx7))).2 ?_
      show oS T78 (mkF m 110 #[oi p0, oi p1, oi p2, oa sa2, oa sa7, oa b8, oa b28, oi (own_same tx2 tx7), oi (own_same tx2 tx7), oi (own_same tx2 tx7), oi 1, oi 0, oi 0] []) _
      refine XS.iload X78.here hx rfl (hb hby at_110) rfl ?_
      show oS T78 (mkF m 112 #[oi p0, oi p1, oi p2, oa sa2, oa sa7, oa b8, oa b28, oi (own_same tx2 tx7), oi (own_same tx2 tx7), oi (own_same tx2 tx7), oi 1, oi 0, oi 0] [(.int (1 : Int32))]) _
      refine XS.ifNo X78.here hx rfl (hb hby at_112) rfl ((if0 _ _).trans (feq (by decide : ¬ ((1 : Int32) = (0 : Int32)))).1) ?_
      show oS T78 (mkF m 115 #[oi p0, oi p1, oi p2, oa sa2, oa sa7, oa b8, oa b28, oi (own_same tx2 tx7), oi (own_same tx2 tx7), oi (own_same tx2 tx7), oi 1, oi 0, oi 0] []) _
      refine XS.iload X78.here hx rfl (hb hby at_115) rfl ?_
      show oS T78 (mkF m 117 #[oi p0, oi p1, oi p2, oa sa2, oa sa7, oa b8, oa b28, oi (own_same tx2 tx7), oi (own_same tx2 tx7), oi (own_same tx2 tx7), oi 1, oi 0, oi 0] [(.int (0 : Int32))]) _
      refine XS.ifNo X78.here hx rfl (hb hby at_117) rfl ((if0 _ _).trans (teq (by decide : (0 : Int32) = (0 : Int32))).2) ?_
      show oS T78 (mkF m 120 #[oi p0, oi p1, oi p2, oa sa2, oa sa7, oa b8, oa b28, oi (own_same tx2 tx7), oi (own_same tx2 tx7), oi (own_same tx2 tx7), oi 1, oi 0, oi 0] []) _
      refine XS.iload X78.here hx rfl (hb hby at_120) rfl ?_
      show oS T78 (mkF m 122 #[oi p0, oi p1, oi p2, oa sa2, oa sa7, oa b8, oa b28, oi (own_same tx2 tx7), oi (own_same tx2 tx7), oi (own_same tx2 tx7), oi 1, oi 0, oi 0] [(.int (0 : Int32))]) _
      refine XS.ifNo X78.here hx rfl (hb hby at_122) rfl ((if0 _ _).trans (teq (by decide : (0 : Int32) = (0 : Int32))).2) ?_
      show oS T78 (mkF m 125 #[oi p0, oi p1, oi p2, oa sa2, oa sa7, oa b8, oa b28, oi (own_same tx2 tx7), oi (own_same tx2 tx7), oi (own_same tx2 tx7), oi 1, oi 0, oi 0] []) _
      refine XS.iconst X78.here hx rfl (hb hby at_125) ?_
      show oS T78 (mkF m 126 #[oi p0, oi p1, oi p2, oa sa2, oa sa7, oa b8, oa b28, oi (own_same tx2 tx7), oi (own_same tx2 tx7), oi (own_same tx2 tx7), oi 1, oi 0, oi 0] [(.int (1 : Int32))]) _
      refine XS.goto X78.here hx rfl (pc0 := 126) (pc' := 130) rfl (hb hby at_126) (by decide) (by decide) ?_
      exact kt
    obtain ⟨fs, hr, hrun, hended, hwd⟩ := Stand.leaveW (s := s) (vm₁ := T48.vm) X78 hS48 (by rw [e78]; exact (Nat.le_refl _)) (v := some (.int (1 : Int32))) (fun h => by rw [Bd.returns] at h; cases h)
    refine ⟨_, _, pre0 _ (c1 _ (st2 _ (c3 _ (c4 _ (st7 _ (c9 _ (st8 _ (c17 _ (st27.trans (c29 _ (st28 _ (c37 _ (st48.trans (c49 _ (st60 _ (c61 _ (st65.trans (c66 _ (c67 _ (st69.trans (c70 _ (st72.trans (c73 _ (st75.trans (c76 _ (st78.trans (c79 _ (?_)))))))))))))))))))))))))))), hrun, hended, _, _, rfl, ?_, hwd.1, hwd.2.1, hwd.2.2.1, hwd.2.2.2.mono (by decide) (by decide)⟩
    · show Steps p.tables e below (T78.setTop (mkF m 130 #[oi p0, oi p1, oi p2, oa sa2, oa sa7, oa b8, oa b28, oi (own_same tx2 tx7), oi (own_same tx2 tx7), oi (own_same tx2 tx7), oi 1, oi 0, oi 0] [(.int (1 : Int32))])) _
      exact retN X78 hx (t := .boolean) Bd.returns (by simp) (hb hby at_130) hr
    · show Q0 Z p0 p1 p2 cs fm h0 n0 _ T78.heap _
      rw [e78]
      exact ⟨congrArg (fun z => some (Value.int z)) (show (1 : Int32) = (1 : Int32) from by rfl), N78⟩
  · -- it isn't
    have c81 : own_G p e below T2 (mkF m 12 #[oi p0, oi p1, oi p2, oa sa2, .unset, .unset, .unset, .unset, .unset, .unset, .unset, .unset, .unset] [(.int p0)]) (mkF m 8 #[oi p0, oi p1, oi p2, oa sa2, .unset, .unset, .unset, .unset, .unset, .unset, .unset, .unset, .unset] [(.int (p2 &&& (1 : Int32)))]) := by
      intro t kt
      show oS T2 (mkF m 8 #[oi p0, oi p1, oi p2, oa sa2, .unset, .unset, .unset, .unset, .unset, .unset, .unset, .unset, .unset] [(.int (p2 &&& (1 : Int32)))]) _
      refine XS.ifNo X2.here hx rfl (hb hby at_8) rfl ((if0 _ _).trans (feq hc8).1) ?_
      show oS T2 (mkF m 11 #[oi p0, oi p1, oi p2, oa sa2, .unset, .unset, .unset, .unset, .unset, .unset, .unset, .unset, .unset] []) _
      refine XS.iloadN X2.here hx rfl (hb hby at_11) rfl ?_
      exact kt
    have f82 := (Nat.le_trans Z0 Kq2.1)
    have f83 := (O0.keep Kq2 all0)
    obtain ⟨_, _, ⟨T84, L84, k84, n84⟩, -, X84, ⟨Lc84, hQ84, l84, y84, z84⟩, st84⟩ := Jvm.LawKit.callS X2 hx (y := yy_16) hown (mvT hZ (own_t hw 0 rfl)) (mvT hZ (own_t hw 1 rfl)) (mvT hZ (own_t hw 2 rfl)) (mvT hZ (own_t hw 3 rfl)) (by decide) (backOf (W := 0) (rm1 l Z a0 hw [] p0 cs fm T2.heap n0 f82 f83 SC hcs SF hfm) hZ (own_t hw 3 rfl) (own_t hw 2 rfl) (by decide) (by decide)) (g := (mkF m 12 #[oi p0, oi p1, oi p2, oa sa2, .unset, .unset, .unset, .unset, .unset, .unset, .unset, .unset, .unset] [(.int p0)])) rfl (by rw [hml]; rfl) (argsL := [(.int p0)]) (rest := []) (lenOf pd_15 rfl) rfl (by show 2 * 0 + _ ≤ _; exact Nat.le_of_eq rfl) (hb hby at_12) (fun _ _ => ⟨rfl, rfl, (by decide : 3 + 3 ≤ _), (by decide : 10 + 10 ≤ _)⟩)
    dsimp only [Pt.U, Pt.locs, Pt.cells, Pt.slots] at X84 l84 y84 z84 st84 hQ84
    subst l84 y84 z84
    obtain ⟨sa84, rb84, kb84, tx84, rfl, hn_tx84, N84q, Kq84, szp84, szr84, Es84, Fv84, Fc84, Va84⟩ := hQ84
    have N84 := Fr.app N2 N84q
    have lt_sa2_84 := Es2.lt
    have lt_rb2_84 := Va2.lt
    obtain ⟨Go84, X84, N84⟩ := own_opq X84 N84
    have c86 : own_G p e below T84 (mkF m 24 #[oi p0, oi p1, oi p2, oa sa2, oa sa84, .unset, .unset, .unset, .unset, .unset, .unset, .unset, .unset] []) (mkF m 15 #[oi p0, oi p1, oi p2, oa sa2, .unset, .unset, .unset, .unset, .unset, .unset, .unset, .unset, .unset] [(.ref sa84)]) := by
      intro t kt
      show oS T84 (mkF m 15 #[oi p0, oi p1, oi p2, oa sa2, .unset, .unset, .unset, .unset, .unset, .unset, .unset, .unset, .unset] [(.ref sa84)]) _
      refine XS.goto X84.here hx rfl (pc0 := 15) (pc' := 22) rfl (hb hby at_15) (by decide) (by decide) ?_
      show oS T84 (mkF m 22 #[oi p0, oi p1, oi p2, oa sa2, .unset, .unset, .unset, .unset, .unset, .unset, .unset, .unset, .unset] [(.ref sa84)]) _
      refine XS.astore X84.here hx rfl (hb hby at_22) rfl rfl (l' := #[oi p0, oi p1, oi p2, oa sa2, oa sa84, .unset, .unset, .unset, .unset, .unset, .unset, .unset, .unset]) rfl ?_
      exact kt
    obtain ⟨T85, h85, X85, e85, E85, A85, D85, U85, st85⟩ := newO X84 hx hZ hown (own_t hw 38 rfl) (own_t hw 39 rfl) (own_t hw 40 rfl) rfl (g := (mkF m 24 #[oi p0, oi p1, oi p2, oa sa2, oa sa84, .unset, .unset, .unset, .unset, .unset, .unset, .unset, .unset] [])) rfl (hb hby at_24) (by decide) (by decide)
    obtain ⟨b85, g85⟩ : ∃ z, z = T84.heap.size := ⟨_, rfl⟩
    rw [← g85] at A85 D85 U85 st85
    have ch87 := (CHr.refl hCH).trans (CHr.keep Kq2 sf0 (CHr.refl hCH).1)
    have ch88 := ch87.trans (CHr.keep Kq84 sf0 ch87.1)
    have sf89_b85 : Safe Z consts_1 s.vm T84.heap b85 := Safe.new (Nat.le_of_eq g85.symm)
    have f90 := (Nat.le_trans f82 Kq84.1)
    have f91 := (((Keep.refl h0 []).trans Kq2 all0).trans Kq84 all0)
    have g_b85 : n0 ≤ b85 := Nat.le_trans f90 (Nat.le_of_eq g85.symm)
    have sz_b85 : h0.size ≤ b85 := Nat.le_trans f91.1 (Nat.le_of_eq g85.symm)
    have f92 := (Es2.keep Kq84)
    have lt_sa2_85 := f92.lt
    have f93 := (Va2.keep Kq84 nin0)
    have lt_rb2_85 := f93.lt
    have lt_sa84_85 := Es84.lt
    have lt_rb84_85 := Va84.lt
    have F85_text : Fld Z h85 b85 "com/example/millrace/millrace/model/Numeral" "text" "Ljava/lang/String;" .null := D85 (Or.inr (own_t hw 110 rfl)) (ty := (.object "java/lang/String")) (by decide)
    have c94 : own_G p e below T85 (mkF m 29 #[oi p0, oi p1, oi p2, oa sa2, oa sa84, .unset, .unset, .unset, .unset, .unset, .unset, .unset, .unset] [(.ref sa2), (.ref b85), (.ref b85)]) (mkF m 27 #[oi p0, oi p1, oi p2, oa sa2, oa sa84, .unset, .unset, .unset, .unset, .unset, .unset, .unset, .unset] [(.ref b85)]) := by
      intro t kt
      show oS T85 (mkF m 27 #[oi p0, oi p1, oi p2, oa sa2, oa sa84, .unset, .unset, .unset, .unset, .unset, .unset, .unset, .unset] [(.ref b85)]) _
      refine XS.dup X85.here hx rfl (hb hby at_27) rfl rfl ?_
      show oS T85 (mkF m 28 #[oi p0, oi p1, oi p2, oa sa2, oa sa84, .unset, .unset, .unset, .unset, .unset, .unset, .unset, .unset] [(.ref b85), (.ref b85)]) _
      refine XS.aloadN X85.here hx rfl (hb hby at_28) rfl rfl ?_
      exact kt
    have f95 := (Nat.le_trans f90 E85.1)
    have f96 := (f92.ext E85)
    have f97 := ((Fv2.keep Kq84 nin0).ext E85)
    have f98 := ((Fc2.keep Kq84 nin0).ext E85)
    have f99 := (f93.ext E85)
    have f100 := ((f83.keep Kq84 all0).ext E85)
    have ch101 := ch88.trans (CHr.ext E85 ch88.1)
    have sf101_b85 := Safe.ext E85 ch88.1 sf89_b85
    have f102 := (Nat.le_trans (Nat.le_trans (Nat.le_trans (Nat.zero_le _) Kq2.1) Kq84.1) E85.1)
    have f103 := (f91.ext E85)
    obtain ⟨_, _, ⟨T104, L104, k104, n104⟩, -, X104, hSq104, gr104, ⟨Lc104, hQ104, l104, y104, z104, CHq104⟩, st104⟩ := Stand.specialBackS (s := s.setVm s.vm) X85 hx (y := yy_13) rfl hown (mvT hZ (own_t hw 41 rfl)) (mvT hZ (own_t hw 42 rfl)) (mvT hZ (own_t hw 43 rfl)) (by decide) (backOfSH (s := s) (vm0 := s.vm) (W := 1) (rm9 l Z a0 hw [] b85 sa2 rb2 kb2 cs fm tx2 h85 n0 f95 f100 f96 f97 f98 f99 SC hcs SF hfm hn_tx2 A85 F85_text g_b85 (Nat.ne_of_lt (Nat.lt_of_lt_of_le lt_sa2_85 (Nat.le_of_eq g85.symm))) (Nat.ne_of_lt (Nat.lt_of_lt_of_le lt_rb2_85 (Nat.le_of_eq g85.symm)))) hZ (own_t hw 43 rfl) (own_t hw 40 rfl) (by decide) (by decide) hEL ch101.1) (g := (mkF m 29 #[oi p0, oi p1, oi p2, oa sa2, oa sa84, .unset, .unset, .unset, .unset, .unset, .unset, .unset, .unset] [(.ref sa2), (.ref b85), (.ref b85)])) rfl (by rw [hml]; rfl) (Steps.refl _) (a := b85) (argsL := [(.ref sa2)]) (rest := [(.ref b85)]) (lenOf pd_16 rfl) rfl (by show 2 * 0 + _ ≤ _; exact Nat.le_of_eq rfl) (hb hby at_29) (fun _ _ => ⟨rfl, e85, (by decide : 7 + 4 ≤ _), (by decide : 21 + 28 ≤ _)⟩)
    dsimp only [Pt.U, Pt.locs, Pt.cells, Pt.slots] at X104 l104 y104 z104 st104 hQ104 hSq104 gr104 CHq104
    subst l104 y104 z104
    have hS104 : s.Since T104.vm T104.heap.size := foldS (T := T85) hS0 (by rw [e85]; exact f102) hSq104 gr104
    have hZ104 : Z.Warmed39 (s.setVm T104.vm).vm := State.Warmed39.trans (t := s.setVm s.vm) hZ hSq104.1
    have hown104 : (s.setVm T104.vm).vm.findClass "com/example/millrace/millrace/model/NumeralEqualsPinLaw" = some m.cls := by rw [show (s.setVm T104.vm).vm = T104.vm from rfl, hSq104.1.alike.findClass]; exact hown
    replace hZ := hZ104
    replace hown := hown104
    have sg104_b85 := CHr.safe CHq104 A85.lt sf101_b85
    have ch104 := ch101.trans CHq104
    obtain ⟨rfl, N104q, Kq104, Eq104, Fq104_0⟩ := hQ104
    have N104 := Fr.app N84 N104q
    obtain ⟨Go104, X104, N104⟩ := own_opq X104 N104
    have c106 : own_G p e below T104 (mkF m 34 #[oi p0, oi p1, oi p2, oa sa2, oa sa84, oa b85, .unset, .unset, .unset, .unset, .unset, .unset, .unset] []) (mkF m 32 #[oi p0, oi p1, oi p2, oa sa2, oa sa84, .unset, .unset, .unset, .unset, .unset, .unset, .unset, .unset] [(.ref b85)]) := by
      intro t kt
      show oS T104 (mkF m 32 #[oi p0, oi p1, oi p2, oa sa2, oa sa84, .unset, .unset, .unset, .unset, .unset, .unset, .unset, .unset] [(.ref b85)]) _
      refine XS.astore X104.here hx rfl (hb hby at_32) rfl rfl (l' := #[oi p0, oi p1, oi p2, oa sa2, oa sa84, oa b85, .unset, .unset, .unset, .unset, .unset, .unset, .unset]) rfl ?_
      exact kt
    obtain ⟨T105, h105, X105, e105, E105, A105, D105, U105, st105⟩ := newO X104 hx hZ hown (own_t hw 38 rfl) (own_t hw 39 rfl) (own_t hw 40 rfl) rfl (g := (mkF m 34 #[oi p0, oi p1, oi p2, oa sa2, oa sa84, oa b85, .unset, .unset, .unset, .unset, .unset, .unset, .unset] [])) rfl (hb hby at_34) (by decide) (by decide)
    obtain ⟨b105, g105⟩ : ∃ z, z = T104.heap.size := ⟨_, rfl⟩
    rw [← g105] at A105 D105 U105 st105
    have sf107_b105 : Safe Z consts_1 T104.vm T104.heap b105 := Safe.new (Nat.le_of_eq g105.symm)
    have f108 := (Nat.le_trans f95 Kq104.1)
    have f109 := (f103.trans Kq104 (allS (Or.inr sz_b85) all0))
    have g_b105 : n0 ≤ b105 := Nat.le_trans f108 (Nat.le_of_eq g105.symm)
    have sz_b105 : h0.size ≤ b105 := Nat.le_trans f109.1 (Nat.le_of_eq g105.symm)
    have f110 := (f96.keep Kq104)
    have lt_sa2_105 := f110.lt
    have f111 := (f99.keep Kq104 (ninS (Nat.ne_of_lt (Nat.lt_of_lt_of_le lt_rb2_85 (Nat.le_of_eq g85.symm))) nin0))
    have lt_rb2_105 := f111.lt
    have f112 := ((Es84.ext E85).keep Kq104)
    have lt_sa84_105 := f112.lt
    have f113 := ((Va84.ext E85).keep Kq104 (ninS (Nat.ne_of_lt (Nat.lt_of_lt_of_le lt_rb84_85 (Nat.le_of_eq g85.symm))) nin0))
    have lt_rb84_105 := f113.lt
    have lt_b85_105 := Eq104.lt
    have F105_text : Fld Z h105 b105 "com/example/millrace/millrace/model/Numeral" "text" "Ljava/lang/String;" .null := D105 (Or.inr (own_t hw 110 rfl)) (ty := (.object "java/lang/String")) (by decide)
    have c114 : own_G p e below T105 (mkF m 40 #[oi p0, oi p1, oi p2, oa sa2, oa sa84, oa b85, .unset, .unset, .unset, .unset, .unset, .unset, .unset] [(.ref sa84), (.ref b105), (.ref b105)]) (mkF m 37 #[oi p0, oi p1, oi p2, oa sa2, oa sa84, oa b85, .unset, .unset, .unset, .unset, .unset, .unset, .unset] [(.ref b105)]) := by
      intro t kt
      show oS T105 (mkF m 37 #[oi p0, oi p1, oi p2, oa sa2, oa sa84, oa b85, .unset, .unset, .unset, .unset, .unset, .unset, .unset] [(.ref b105)]) _
      refine XS.dup X105.here hx rfl (hb hby at_37) rfl rfl ?_
      show oS T105 (mkF m 38 #[oi p0, oi p1, oi p2, oa sa2, oa sa84, oa b85, .unset, .unset, .unset, .unset, .unset, .unset, .unset] [(.ref b105), (.ref b105)]) _
      refine XS.aload X105.here hx rfl (hb hby at_38) rfl rfl ?_
      exact kt
    have f115 := (Nat.le_trans f108 E105.1)
    have f116 := (f112.ext E105)
    have f117 := (((Fv84.ext E85).keep Kq104 (ninS (Nat.ne_of_lt (Nat.lt_of_lt_of_le lt_sa84_85 (Nat.le_of_eq g85.symm))) nin0)).ext E105)
    have f118 := (((Fc84.ext E85).keep Kq104 (ninS (Nat.ne_of_lt (Nat.lt_of_lt_of_le lt_sa84_85 (Nat.le_of_eq g85.symm))) nin0)).ext E105)
    have f119 := (f113.ext E105)
    have f120 := ((f100.keep Kq104 (allS g_b85 all0)).ext E105)
    have ch121 := ch104.trans (CHr.ext E105 ch104.1)
    have sf121_b85 := Safe.ext E105 ch104.1 sg104_b85
    have sf121_b105 := Safe.ext E105 ch104.1 sf107_b105
    have f122 := (Nat.le_trans (Nat.le_refl _) E105.1)
    have f123 := (f109.ext E105)
    have f124 := (Eq104.ext E105)
    obtain ⟨_, _, ⟨T125, L125, k125, n125⟩, -, X125, hSq125, gr125, ⟨Lc125, hQ125, l125, y125, z125, CHq125⟩, st125⟩ := Stand.specialBackS (s := s.setVm T104.vm) X105 hx (y := yy_13) rfl hown (mvT hZ (own_t hw 41 rfl)) (mvT hZ (own_t hw 42 rfl)) (mvT hZ (own_t hw 43 rfl)) (by decide) (backOfSH (s := s) (vm0 := T104.vm) (W := 1) (rm9 l Z a0 hw [] b105 sa84 rb84 kb84 cs fm tx84 h105 n0 f115 f120 f116 f117 f118 f119 SC hcs SF hfm hn_tx84 A105 F105_text g_b105 (Nat.ne_of_lt (Nat.lt_of_lt_of_le lt_sa84_105 (Nat.le_of_eq g105.symm))) (Nat.ne_of_lt (Nat.lt_of_lt_of_le lt_rb84_105 (Nat.le_of_eq g105.symm)))) hZ (own_t hw 43 rfl) (own_t hw 40 rfl) (by decide) (by decide) hEL ch121.1) (g := (mkF m 40 #[oi p0, oi p1, oi p2, oa sa2, oa sa84, oa b85, .unset, .unset, .unset, .unset, .unset, .unset, .unset] [(.ref sa84), (.ref b105), (.ref b105)])) rfl (by rw [hml]; rfl) (Steps.refl _) (a := b105) (argsL := [(.ref sa84)]) (rest := [(.ref b105)]) (lenOf pd_16 rfl) rfl (by show 2 * 0 + _ ≤ _; exact Nat.le_of_eq rfl) (hb hby at_40) (fun _ _ => ⟨rfl, e105, (by decide : 12 + 4 ≤ _), (by decide : 50 + 28 ≤ _)⟩)
    dsimp only [Pt.U, Pt.locs, Pt.cells, Pt.slots] at X125 l125 y125 z125 st125 hQ125 hSq125 gr125 CHq125
    subst l125 y125 z125
    have hS125 : s.Since T125.vm T125.heap.size := foldS (T := T105) hS104 (by rw [e105]; exact f122) hSq125 gr125
    have hZ125 : Z.Warmed39 (s.setVm T125.vm).vm := State.Warmed39.trans (t := s.setVm T104.vm) hZ hSq125.1
    have hown125 : (s.setVm T125.vm).vm.findClass "com/example/millrace/millrace/model/NumeralEqualsPinLaw" = some m.cls := by rw [show (s.setVm T125.vm).vm = T125.vm from rfl, hSq125.1.alike.findClass]; exact hown
    replace hZ := hZ125
    replace hown := hown125
    have sg125_b85 := CHr.safe CHq125 f124.lt sf121_b85
    have sg125_b105 := CHr.safe CHq125 A105.lt sf121_b105
    have ch125 := ch121.trans CHq125
    obtain ⟨rfl, N125q, Kq125, Eq125, Fq125_0⟩ := hQ125
    have N125 := Fr.app N104 N125q
    obtain ⟨Go125, X125, N125⟩ := own_opq X125 N125
    have c126 : own_G p e below T125 (mkF m 48 #[oi p0, oi p1, oi p2, oa sa2, oa sa84, oa b85, oa b105, .unset, .unset, .unset, .unset, .unset, .unset] [(.ref sa84), (.ref sa2)]) (mkF m 43 #[oi p0, oi p1, oi p2, oa sa2, oa sa84, oa b85, .unset, .unset, .unset, .unset, .unset, .unset, .unset] [(.ref b105)]) := by
      intro t kt
      show oS T125 (mkF m 43 #[oi p0, oi p1, oi p2, oa sa2, oa sa84, oa b85, .unset, .unset, .unset, .unset, .unset, .unset, .unset] [(.ref b105)]) _
      refine XS.astore X125.here hx rfl (hb hby at_43) rfl rfl (l' := #[oi p0, oi p1, oi p2, oa sa2, oa sa84, oa b85, oa b105, .unset, .unset, .unset, .unset, .unset, .unset]) rfl ?_
      show oS T125 (mkF m 45 #[oi p0, oi p1, oi p2, oa sa2, oa sa84, oa b85, oa b105, .unset, .unset, .unset, .unset, .unset, .unset] []) _
      refine XS.aloadN X125.here hx rfl (hb hby at_45) rfl rfl ?_
      show oS T125 (mkF m 46 #[oi p0, oi p1, oi p2, oa sa2, oa sa84, oa b85, oa b105, .unset, .unset, .unset, .unset, .unset, .unset] [(.ref sa2)]) _
      refine XS.aload X125.here hx rfl (hb hby at_46) rfl rfl ?_
      exact kt
    have f127 := (Nat.le_trans f115 Kq125.1)
    have f128 := ((f110.ext E105).keep Kq125)
    have f129 := (((f97.keep Kq104 (ninS (Nat.ne_of_lt (Nat.lt_of_lt_of_le lt_sa2_85 (Nat.le_of_eq g85.symm))) nin0)).ext E105).keep Kq125 (ninS (Nat.ne_of_lt (Nat.lt_of_lt_of_le lt_sa2_105 (Nat.le_of_eq g105.symm))) nin0))
    have f130 := (((f98.keep Kq104 (ninS (Nat.ne_of_lt (Nat.lt_of_lt_of_le lt_sa2_85 (Nat.le_of_eq g85.symm))) nin0)).ext E105).keep Kq125 (ninS (Nat.ne_of_lt (Nat.lt_of_lt_of_le lt_sa2_105 (Nat.le_of_eq g105.symm))) nin0))
    have f131 := ((f111.ext E105).keep Kq125 (ninS (Nat.ne_of_lt (Nat.lt_of_lt_of_le lt_rb2_105 (Nat.le_of_eq g105.symm))) nin0))
    have f132 := (f116.keep Kq125)
    have f133 := (f117.keep Kq125 (ninS (Nat.ne_of_lt (Nat.lt_of_lt_of_le lt_sa84_105 (Nat.le_of_eq g105.symm))) nin0))
    have f134 := (f118.keep Kq125 (ninS (Nat.ne_of_lt (Nat.lt_of_lt_of_le lt_sa84_105 (Nat.le_of_eq g105.symm))) nin0))
    have f135 := (f119.keep Kq125 (ninS (Nat.ne_of_lt (Nat.lt_of_lt_of_le lt_rb84_105 (Nat.le_of_eq g105.symm))) nin0))
    have f136 := (f120.keep Kq125 (allS g_b105 all0))
    obtain ⟨_, _, ⟨T137, L137, k137, n137⟩, -, X137, ⟨Lc137, hQ137, l137, y137, z137⟩, st137⟩ := Jvm.LawKit.callS X125 hx (y := yy_17) hown (mvT hZ (own_t hw 111 rfl)) (mvT hZ (own_t hw 112 rfl)) (mvT hZ (own_t hw 2 rfl)) (mvT hZ (own_t hw 113 rfl)) (by decide) (backOf (W := 0) (rm23 l Z a0 hw [] sa2 sa84 rb2 rb84 kb2 kb84 cs fm tx2 tx84 T125.heap n0 f127 f128 f129 f130 f131 f132 f133 f134 f135 (SC.ext f136.2) hcs (SF.ext f136.2) hfm (own_nl hn_tx2) (own_nl hn_tx84)) hZ (own_t hw 113 rfl) (own_t hw 2 rfl) (by decide) (by decide)) (g := (mkF m 48 #[oi p0, oi p1, oi p2, oa sa2, oa sa84, oa b85, oa b105, .unset, .unset, .unset, .unset, .unset, .unset] [(.ref sa84), (.ref sa2)])) rfl (by rw [hml]; rfl) (argsL := [(.ref sa2), (.ref sa84)]) (rest := []) (lenOf pd_17 rfl) rfl (by show 2 * 0 + _ ≤ _; exact Nat.le_of_eq rfl) (hb hby at_48) (fun _ _ => ⟨rfl, rfl, (by decide : 16 + 0 ≤ _), (by decide : 78 + 0 ≤ _)⟩)
    dsimp only [Pt.U, Pt.locs, Pt.cells, Pt.slots] at X137 l137 y137 z137 st137 hQ137
    subst l137 y137 z137
    obtain ⟨rfl, N137q, e137⟩ := hQ137
    have N137 := Fr.app N125 N137q
    obtain ⟨Go137, X137, N137⟩ := own_opq X137 N137
    have c138 : own_G p e below T137 (mkF m 57 #[oi p0, oi p1, oi p2, oa sa2, oa sa84, oa b85, oa b105, oi (own_same tx2 tx84), .unset, .unset, .unset, .unset, .unset] [(.ref b105), (.ref b85)]) (mkF m 51 #[oi p0, oi p1, oi p2, oa sa2, oa sa84, oa b85, oa b105, .unset, .unset, .unset, .unset, .unset, .unset] [(.int (own_same tx2 tx84))]) := by
      intro t kt
      show oS T137 (mkF m 51 #[oi p0, oi p1, oi p2, oa sa2, oa sa84, oa b85, oa b105, .unset, .unset, .unset, .unset, .unset, .unset] [(.int (own_same tx2 tx84))]) _
      refine XS.istore X137.here hx rfl (hb hby at_51) rfl (l' := #[oi p0, oi p1, oi p2, oa sa2, oa sa84, oa b85, oa b105, oi (own_same tx2 tx84), .unset, .unset, .unset, .unset, .unset]) rfl ?_
      show oS T137 (mkF m 53 #[oi p0, oi p1, oi p2, oa sa2, oa sa84, oa b85, oa b105, oi (own_same tx2 tx84), .unset, .unset, .unset, .unset, .unset] []) _
      refine XS.aload X137.here hx rfl (hb hby at_53) rfl rfl ?_
      show oS T137 (mkF m 55 #[oi p0, oi p1, oi p2, oa sa2, oa sa84, oa b85, oa b105, oi (own_same tx2 tx84), .unset, .unset, .unset, .unset, .unset] [(.ref b85)]) _
      refine XS.aload X137.here hx rfl (hb hby at_55) rfl rfl ?_
      exact kt
    have f139 := (f124.keep Kq125)
    have f140 := ((Fq104_0.ext E105).keep Kq125 (ninS (Nat.ne_of_lt (Nat.lt_of_lt_of_le lt_b85_105 (Nat.le_of_eq g105.symm))) nin0))
    obtain ⟨cq141, kq141, q141a, q141b, q141c⟩ := isOf hZ e137 f139
    obtain ⟨_, _, ⟨T142, L142, k142, n142⟩, -, X142, ⟨Lc142, hQ142, l142, y142, z142⟩, st142⟩ := X137.virtualBack hx (y := yy_20) (z := yy_20) hown (mvT hZ (own_t hw 115 rfl)) (mvT hZ (own_t hw 116 rfl)) (notFace_of_selects (args := #[]) (mvT hZ (own_t hw 118 rfl))) (mvT hZ (own_t hw 118 rfl)) (mvT hZ (own_t hw 117 rfl)) (by decide) (backOf (W := 0) (rm24 l Z a0 hw []  b85 b105 sa2 sa84 rb2 rb84 kb2 kb84 cs tx2 tx84 T125.heap n0 f127 f139 f140 Eq125 Fq125_0 f128 f129 f130 f131 f132 f133 f134 f135 (SC.ext f136.2) hcs (own_nl hn_tx2) (own_nl hn_tx84) (Ne.symm (Nat.ne_of_lt (Nat.lt_of_lt_of_le lt_sa2_84 szp84)))) hZ (own_t hw 119 rfl) (own_t hw 40 rfl) (by decide) (by decide)) q141a q141c (g := (mkF m 57 #[oi p0, oi p1, oi p2, oa sa2, oa sa84, oa b85, oa b105, oi (own_same tx2 tx84), .unset, .unset, .unset, .unset, .unset] [(.ref b105), (.ref b85)])) rfl (by rw [hml]; rfl) (Steps.refl _) (argsL := [(.ref b105)]) (rest := []) (lenOf pd_14 rfl) rfl (by show 2 * 0 + _ ≤ _; exact Nat.le_of_eq rfl) (hb hby at_57) (fun _ _ => ⟨rfl, e137, (by decide : 16 + 0 ≤ _), (by decide : 78 + 0 ≤ _)⟩)
    dsimp only [Pt.U, Pt.locs, Pt.cells, Pt.slots] at X142 l142 y142 z142 st142 hQ142
    subst l142 y142 z142
    obtain ⟨rfl, N142q, e142⟩ := hQ142
    have N142 := Fr.app N137 N142q
    obtain ⟨Go142, X142, N142⟩ := own_opq X142 N142
    have c143 : own_G p e below T142 (mkF m 60 #[oi p0, oi p1, oi p2, oa sa2, oa sa84, oa b85, oa b105, oi (own_same tx2 tx84), .unset, .unset, .unset, .unset, .unset] [(.int (own_same tx2 tx84))]) (mkF m 60 #[oi p0, oi p1, oi p2, oa sa2, oa sa84, oa b85, oa b105, oi (own_same tx2 tx84), .unset, .unset, .unset, .unset, .unset] [(.int (own_same tx84 tx2))]) := fun t kt => castTop (congrArg (fun zv => (mkF m 60 #[oi p0, oi p1, oi p2, oa sa2, oa sa84, oa b85, oa b105, oi (own_same tx2 tx84), .unset, .unset, .unset, .unset, .unset] [(.int zv)])) (show (own_same tx84 tx2) = (own_same tx2 tx84) from own_sameC _ _)) kt
    have c144 : own_G p e below T142 (mkF m 66 #[oi p0, oi p1, oi p2, oa sa2, oa sa84, oa b85, oa b105, oi (own_same tx2 tx84), oi (own_same tx2 tx84), .unset, .unset, .unset, .unset] [(.ref b85), (.ref b105)]) (mkF m 60 #[oi p0, oi p1, oi p2, oa sa2, oa sa84, oa b85, oa b105, oi (own_same tx2 tx84), .unset, .unset, .unset, .unset, .unset] [(.int (own_same tx2 tx84))]) := by
      intro t kt
      show oS T142 (mkF m 60 #[oi p0, oi p1, oi p2, oa sa2, oa sa84, oa b85, oa b105, oi (own_same tx2 tx84), .unset, .unset, .unset, .unset, .unset] [(.int (own_same tx2 tx84))]) _
      refine XS.istore X142.here hx rfl (hb hby at_60) rfl (l' := #[oi p0, oi p1, oi p2, oa sa2, oa sa84, oa b85, oa b105, oi (own_same tx2 tx84), oi (own_same tx2 tx84), .unset, .unset, .unset, .unset]) rfl ?_
      show oS T142 (mkF m 62 #[oi p0, oi p1, oi p2, oa sa2, oa sa84, oa b85, oa b105, oi (own_same tx2 tx84), oi (own_same tx2 tx84), .unset, .unset, .unset, .unset] []) _
      refine XS.aload X142.here hx rfl (hb hby at_62) rfl rfl ?_
      show oS T142 (mkF m 64 #[oi p0, oi p1, oi p2, oa sa2, oa sa84, oa b85, oa b105, oi (own_same tx2 tx84), oi (own_same tx2 tx84), .unset, .unset, .unset, .unset] [(.ref b105)]) _
      refine XS.aload X142.here hx rfl (hb hby at_64) rfl rfl ?_
      exact kt
    obtain ⟨cq145, kq145, q145a, q145b, q145c⟩ := isOf hZ e142 Eq125
    obtain ⟨_, _, ⟨T146, L146, k146, n146⟩, -, X146, ⟨Lc146, hQ146, l146, y146, z146⟩, st146⟩ := X142.virtualBack hx (y := yy_20) (z := yy_20) hown (mvT hZ (own_t hw 115 rfl)) (mvT hZ (own_t hw 116 rfl)) (notFace_of_selects (args := #[]) (mvT hZ (own_t hw 118 rfl))) (mvT hZ (own_t hw 118 rfl)) (mvT hZ (own_t hw 117 rfl)) (by decide) (backOf (W := 0) (rm24 l Z a0 hw []  b105 b85 sa84 sa2 rb84 rb2 kb84 kb2 cs tx84 tx2 T125.heap n0 f127 Eq125 Fq125_0 f139 f140 f132 f133 f134 f135 f128 f129 f130 f131 (SC.ext f136.2) hcs (own_nl hn_tx84) (own_nl hn_tx2) (Nat.ne_of_lt (Nat.lt_of_lt_of_le lt_sa2_84 szp84))) hZ (own_t hw 119 rfl) (own_t hw 40 rfl) (by decide) (by decide)) q145a q145c (g := (mkF m 66 #[oi p0, oi p1, oi p2, oa sa2, oa sa84, oa b85, oa b105, oi (own_same tx2 tx84), oi (own_same tx2 tx84), .unset, .unset, .unset, .unset] [(.ref b85), (.ref b105)])) rfl (by rw [hml]; rfl) (Steps.refl _) (argsL := [(.ref b85)]) (rest := []) (lenOf pd_14 rfl) rfl (by show 2 * 0 + _ ≤ _; exact Nat.le_of_eq rfl) (hb hby at_66) (fun _ _ => ⟨rfl, e142, (by decide : 16 + 0 ≤ _), (by decide : 78 + 0 ≤ _)⟩)
    dsimp only [Pt.U, Pt.locs, Pt.cells, Pt.slots] at X146 l146 y146 z146 st146 hQ146
    subst l146 y146 z146
    obtain ⟨rfl, N146q, e146⟩ := hQ146
    have N146 := Fr.app N142 N146q
    obtain ⟨Go146, X146, N146⟩ := own_opq X146 N146
    have c147 : own_G p e below T146 (mkF m 75 #[oi p0, oi p1, oi p2, oa sa2, oa sa84, oa b85, oa b105, oi (own_same tx2 tx84), oi (own_same tx2 tx84), oi (own_same tx2 tx84), .unset, .unset, .unset] [(.ref b85), (.ref b85)]) (mkF m 69 #[oi p0, oi p1, oi p2, oa sa2, oa sa84, oa b85, oa b105, oi (own_same tx2 tx84), oi (own_same tx2 tx84), .unset, .unset, .unset, .unset] [(.int (own_same tx2 tx84))]) := by
      intro t kt
      show oS T146 (mkF m 69 #[oi p0, oi p1, oi p2, oa sa2, oa sa84, oa b85, oa b105, oi (own_same tx2 tx84), oi (own_same tx2 tx84), .unset, .unset, .unset, .unset] [(.int (own_same tx2 tx84))]) _
      refine XS.istore X146.here hx rfl (hb hby at_69) rfl (l' := #[oi p0, oi p1, oi p2, oa sa2, oa sa84, oa b85, oa b105, oi (own_same tx2 tx84), oi (own_same tx2 tx84), oi (own_same tx2 tx84), .unset, .unset, .unset]) rfl ?_
      show oS T146 (mkF m 71 #[oi p0, oi p1, oi p2, oa sa2, oa sa84, oa b85, oa b105, oi (own_same tx2 tx84), oi (own_same tx2 tx84), oi (own_same tx2 tx84), .unset, .unset, .unset] []) _
      refine XS.aload X146.here hx rfl (hb hby at_71) rfl rfl ?_
      show oS T146 (mkF m 73 #[oi p0, oi p1, oi p2, oa sa2, oa sa84, oa b85, oa b105, oi (own_same tx2 tx84), oi (own_same tx2 tx84), oi (own_same tx2 tx84), .unset, .unset, .unset] [(.ref b85)]) _
      refine XS.aload X146.here hx rfl (hb hby at_73) rfl rfl ?_
      exact kt
    obtain ⟨cq148, kq148, q148a, q148b, q148c⟩ := isOf hZ e146 f139
    obtain ⟨_, _, ⟨T149, L149, k149, n149⟩, -, X149, ⟨Lc149, hQ149, l149, y149, z149⟩, st149⟩ := X146.virtualBack hx (y := yy_20) (z := yy_20) hown (mvT hZ (own_t hw 115 rfl)) (mvT hZ (own_t hw 116 rfl)) (notFace_of_selects (args := #[]) (mvT hZ (own_t hw 118 rfl))) (mvT hZ (own_t hw 118 rfl)) (mvT hZ (own_t hw 117 rfl)) (by decide) (backOf (W := 0) (rm24s l Z a0 hw []  b85 sa2 T125.heap n0 f127 f139 f140 f128) hZ (own_t hw 119 rfl) (own_t hw 40 rfl) (by decide) (by decide)) q148a q148c (g := (mkF m 75 #[oi p0, oi p1, oi p2, oa sa2, oa sa84, oa b85, oa b105, oi (own_same tx2 tx84), oi (own_same tx2 tx84), oi (own_same tx2 tx84), .unset, .unset, .unset] [(.ref b85), (.ref b85)])) rfl (by rw [hml]; rfl) (Steps.refl _) (argsL := [(.ref b85)]) (rest := []) (lenOf pd_14 rfl) rfl (by show 2 * 0 + _ ≤ _; exact Nat.le_of_eq rfl) (hb hby at_75) (fun _ _ => ⟨rfl, e146, (by decide : 16 + 0 ≤ _), (by decide : 78 + 0 ≤ _)⟩)
    dsimp only [Pt.U, Pt.locs, Pt.cells, Pt.slots] at X149 l149 y149 z149 st149 hQ149
    subst l149 y149 z149
    obtain ⟨rfl, N149q, e149⟩ := hQ149
    have N149 := Fr.app N146 N149q
    obtain ⟨Go149, X149, N149⟩ := own_opq X149 N149
    have c150 : own_G p e below T149 (mkF m 83 #[oi p0, oi p1, oi p2, oa sa2, oa sa84, oa b85, oa b105, oi (own_same tx2 tx84), oi (own_same tx2 tx84), oi (own_same tx2 tx84), oi 1, .unset, .unset] [.null, (.ref b85)]) (mkF m 78 #[oi p0, oi p1, oi p2, oa sa2, oa sa84, oa b85, oa b105, oi (own_same tx2 tx84), oi (own_same tx2 tx84), oi (own_same tx2 tx84), .unset, .unset, .unset] [(.int (1 : Int32))]) := by
      intro t kt
      show oS T149 (mkF m 78 #[oi p0, oi p1, oi p2, oa sa2, oa sa84, oa b85, oa b105, oi (own_same tx2 tx84), oi (own_same tx2 tx84), oi (own_same tx2 tx84), .unset, .unset, .unset] [(.int (1 : Int32))]) _
      refine XS.istore X149.here hx rfl (hb hby at_78) rfl (l' := #[oi p0, oi p1, oi p2, oa sa2, oa sa84, oa b85, oa b105, oi (own_same tx2 tx84), oi (own_same tx2 tx84), oi (own_same tx2 tx84), oi 1, .unset, .unset]) rfl ?_
      show oS T149 (mkF m 80 #[oi p0, oi p1, oi p2, oa sa2, oa sa84, oa b85, oa b105, oi (own_same tx2 tx84), oi (own_same tx2 tx84), oi (own_same tx2 tx84), oi 1, .unset, .unset] []) _
      refine XS.aload X149.here hx rfl (hb hby at_80) rfl rfl ?_
      show oS T149 (mkF m 82 #[oi p0, oi p1, oi p2, oa sa2, oa sa84, oa b85, oa b105, oi (own_same tx2 tx84), oi (own_same tx2 tx84), oi (own_same tx2 tx84), oi 1, .unset, .unset] [(.ref b85)]) _
      refine XS.aconstNull X149.here hx rfl (hb hby at_82) ?_
      exact kt
    obtain ⟨cq151, kq151, q151a, q151b, q151c⟩ := isOf hZ e149 f139
    obtain ⟨_, _, ⟨T152, L152, k152, n152⟩, -, X152, ⟨Lc152, hQ152, l152, y152, z152⟩, st152⟩ := X149.virtualBack hx (y := yy_20) (z := yy_20) hown (mvT hZ (own_t hw 115 rfl)) (mvT hZ (own_t hw 116 rfl)) (notFace_of_selects (args := #[]) (mvT hZ (own_t hw 118 rfl))) (mvT hZ (own_t hw 118 rfl)) (mvT hZ (own_t hw 117 rfl)) (by decide) (backOf (W := 0) (rm24z l Z a0 hw []  b85 T125.heap n0 f127 ) hZ (own_t hw 119 rfl) (own_t hw 40 rfl) (by decide) (by decide)) q151a q151c (g := (mkF m 83 #[oi p0, oi p1, oi p2, oa sa2, oa sa84, oa b85, oa b105, oi (own_same tx2 tx84), oi (own_same tx2 tx84), oi (own_same tx2 tx84), oi 1, .unset, .unset] [.null, (.ref b85)])) rfl (by rw [hml]; rfl) (Steps.refl _) (argsL := [.null]) (rest := []) (lenOf pd_14 rfl) rfl (by show 2 * 0 + _ ≤ _; exact Nat.le_of_eq rfl) (hb hby at_83) (fun _ _ => ⟨rfl, e149, (by decide : 16 + 0 ≤ _), (by decide : 78 + 0 ≤ _)⟩)
    dsimp only [Pt.U, Pt.locs, Pt.cells, Pt.slots] at X152 l152 y152 z152 st152 hQ152
    subst l152 y152 z152
    obtain ⟨rfl, N152q, e152⟩ := hQ152
    have N152 := Fr.app N149 N152q
    obtain ⟨Go152, X152, N152⟩ := own_opq X152 N152
    have c153 : own_G p e below T152 (mkF m 91 #[oi p0, oi p1, oi p2, oa sa2, oa sa84, oa b85, oa b105, oi (own_same tx2 tx84), oi (own_same tx2 tx84), oi (own_same tx2 tx84), oi 1, oi 0, .unset] [(.ref sa2), (.ref b85)]) (mkF m 86 #[oi p0, oi p1, oi p2, oa sa2, oa sa84, oa b85, oa b105, oi (own_same tx2 tx84), oi (own_same tx2 tx84), oi (own_same tx2 tx84), oi 1, .unset, .unset] [(.int (0 : Int32))]) := by
      intro t kt
      show oS T152 (mkF m 86 #[oi p0, oi p1, oi p2, oa sa2, oa sa84, oa b85, oa b105, oi (own_same tx2 tx84), oi (own_same tx2 tx84), oi (own_same tx2 tx84), oi 1, .unset, .unset] [(.int (0 : Int32))]) _
      refine XS.istore X152.here hx rfl (hb hby at_86) rfl (l' := #[oi p0, oi p1, oi p2, oa sa2, oa sa84, oa b85, oa b105, oi (own_same tx2 tx84), oi (own_same tx2 tx84), oi (own_same tx2 tx84), oi 1, oi 0, .unset]) rfl ?_
      show oS T152 (mkF m 88 #[oi p0, oi p1, oi p2, oa sa2, oa sa84, oa b85, oa b105, oi (own_same tx2 tx84), oi (own_same tx2 tx84), oi (own_same tx2 tx84), oi 1, oi 0, .unset] []) _
      refine XS.aload X152.here hx rfl (hb hby at_88) rfl rfl ?_
      show oS T152 (mkF m 90 #[oi p0, oi p1, oi p2, oa sa2, oa sa84, oa b85, oa b105, oi (own_same tx2 tx84), oi (own_same tx2 tx84), oi (own_same tx2 tx84), oi 1, oi 0, .unset] [(.ref b85)]) _
      refine XS.aloadN X152.here hx rfl (hb hby at_90) rfl rfl ?_
      exact kt
    obtain ⟨cq154, kq154, q154a, q154b, q154c⟩ := isOf hZ e152 f139
    obtain ⟨_, _, ⟨T155, L155, k155, n155⟩, -, X155, ⟨Lc155, hQ155, l155, y155, z155⟩, st155⟩ := X152.virtualBack hx (y := yy_20) (z := yy_20) hown (mvT hZ (own_t hw 115 rfl)) (mvT hZ (own_t hw 116 rfl)) (notFace_of_selects (args := #[]) (mvT hZ (own_t hw 118 rfl))) (mvT hZ (own_t hw 118 rfl)) (mvT hZ (own_t hw 117 rfl)) (by decide) (backOf (W := 0) (rm24t l Z a0 hw []  b85 sa2 T125.heap n0 f127 f128) hZ (own_t hw 119 rfl) (own_t hw 40 rfl) (by decide) (by decide)) q154a q154c (g := (mkF m 91 #[oi p0, oi p1, oi p2, oa sa2, oa sa84, oa b85, oa b105, oi (own_same tx2 tx84), oi (own_same tx2 tx84), oi (own_same tx2 tx84), oi 1, oi 0, .unset] [(.ref sa2), (.ref b85)])) rfl (by rw [hml]; rfl) (Steps.refl _) (argsL := [(.ref sa2)]) (rest := []) (lenOf pd_14 rfl) rfl (by show 2 * 0 + _ ≤ _; exact Nat.le_of_eq rfl) (hb hby at_91) (fun _ _ => ⟨rfl, e152, (by decide : 16 + 0 ≤ _), (by decide : 78 + 0 ≤ _)⟩)
    dsimp only [Pt.U, Pt.locs, Pt.cells, Pt.slots] at X155 l155 y155 z155 st155 hQ155
    subst l155 y155 z155
    obtain ⟨rfl, N155q, e155⟩ := hQ155
    have N155 := Fr.app N152 N155q
    obtain ⟨Go155, X155, N155⟩ := own_opq X155 N155
    have c156 : own_G p e below T155 (mkF m 130 #[oi p0, oi p1, oi p2, oa sa2, oa sa84, oa b85, oa b105, oi (own_same tx2 tx84), oi (own_same tx2 tx84), oi (own_same tx2 tx84), oi 1, oi 0, oi 0] [(.int (1 : Int32))]) (mkF m 94 #[oi p0, oi p1, oi p2, oa sa2, oa sa84, oa b85, oa b105, oi (own_same tx2 tx84), oi (own_same tx2 tx84), oi (own_same tx2 tx84), oi 1, oi 0, .unset] [(.int (0 : Int32))]) := by
      intro t kt
      show oS T155 (mkF m 94 #[oi p0, oi p1, oi p2, oa sa2, oa sa84, oa b85, oa b105, oi (own_same tx2 tx84), oi (own_same tx2 tx84), oi (own_same tx2 tx84), oi 1, oi 0, .unset] [(.int (0 : Int32))]) _
      refine XS.istore X155.here hx rfl (hb hby at_94) rfl (l' := #[oi p0, oi p1, oi p2, oa sa2, oa sa84, oa b85, oa b105, oi (own_same tx2 tx84), oi (own_same tx2 tx84), oi (own_same tx2 tx84), oi 1, oi 0, oi 0]) rfl ?_
      show oS T155 (mkF m 96 #[oi p0, oi p1, oi p2, oa sa2, oa sa84, oa b85, oa b105, oi (own_same tx2 tx84), oi (own_same tx2 tx84), oi (own_same tx2 tx84), oi 1, oi 0, oi 0] []) _
      refine XS.iload X155.here hx rfl (hb hby at_96) rfl ?_
      show oS T155 (mkF m 98 #[oi p0, oi p1, oi p2, oa sa2, oa sa84, oa b85, oa b105, oi (own_same tx2 tx84), oi (own_same tx2 tx84), oi (own_same tx2 tx84), oi 1, oi 0, oi 0] [(.int (own_same tx2 tx84))]) _
      refine XS.iload X155.here hx rfl (hb hby at_98) rfl ?_
      show oS T155 (mkF m 100 #[oi p0, oi p1, oi p2, oa sa2, oa sa84, oa b85, oa b105, oi (own_same tx2 tx84), oi (own_same tx2 tx84), oi (own_same tx2 tx84), oi 1, oi 0, oi 0] [(.int (own_same tx2 tx84)), (.int (own_same tx2 tx84))]) _
      refine XS.icmpNo X155.here hx rfl (hb hby at_100) rfl (teq (rfl : (own_same tx2 tx84) = (own_same tx2 tx84))).2 ?_
      show oS T155 (mkF m 103 #[oi p0, oi p1, oi p2, oa sa2, oa sa84, oa b85, oa b105, oi (own_same tx2 tx84), oi (own_same tx2 tx84), oi (own_same tx2 tx84), oi 1, oi 0, oi 0] []) _
      refine XS.iload X155.here hx rfl (hb hby at_103) rfl ?_
      show oS T155 (mkF m 105 #[oi p0, oi p1, oi p2, oa sa2, oa sa84, oa b85, oa b105, oi (own_same tx2 tx84), oi (own_same tx2 tx84), oi (own_same tx2 tx84), oi 1, oi 0, oi 0] [(.int (own_same tx2 tx84))]) _
      refine XS.iload X155.here hx rfl (hb hby at_105) rfl ?_
      show oS T155 (mkF m 107 #[oi p0, oi p1, oi p2, oa sa2, oa sa84, oa b85, oa b105, oi (own_same tx2 tx84), oi (own_same tx2 tx84), oi (own_same tx2 tx84), oi 1, oi 0, oi 0] [(.int (own_same tx2 tx84)), (.int (own_same tx2 tx84))]) _
      refine XS.icmpNo X155.here hx rfl (hb hby at_107) rfl (teq (rfl : (own_same tx2 tx84) = (own_same tx2 tx84))).2 ?_
      show oS T155 (mkF m 110 #[oi p0, oi p1, oi p2, oa sa2, oa sa84, oa b85, oa b105, oi (own_same tx2 tx84), oi (own_same tx2 tx84), oi (own_same tx2 tx84), oi 1, oi 0, oi 0] []) _
      refine XS.iload X155.here hx rfl (hb hby at_110) rfl ?_
      show oS T155 (mkF m 112 #[oi p0, oi p1, oi p2, oa sa2, oa sa84, oa b85, oa b105, oi (own_same tx2 tx84), oi (own_same tx2 tx84), oi (own_same tx2 tx84), oi 1, oi 0, oi 0] [(.int (1 : Int32))]) _
      refine XS.ifNo X155.here hx rfl (hb hby at_112) rfl ((if0 _ _).trans (feq (by decide : ¬ ((1 : Int32) = (0 : Int32)))).1) ?_
      show oS T155 (mkF m 115 #[oi p0, oi p1, oi p2, oa sa2, oa sa84, oa b85, oa b105, oi (own_same tx2 tx84), oi (own_same tx2 tx84), oi (own_same tx2 tx84), oi 1, oi 0, oi 0] []) _
      refine XS.iload X155.here hx rfl (hb hby at_115) rfl ?_
      show oS T155 (mkF m 117 #[oi p0, oi p1, oi p2, oa sa2, oa sa84, oa b85, oa b105, oi (own_same tx2 tx84), oi (own_same tx2 tx84), oi (own_same tx2 tx84), oi 1, oi 0, oi 0] [(.int (0 : Int32))]) _
      refine XS.ifNo X155.here hx rfl (hb hby at_117) rfl ((if0 _ _).trans (teq (by decide : (0 : Int32) = (0 : Int32))).2) ?_
      show oS T155 (mkF m 120 #[oi p0, oi p1, oi p2, oa sa2, oa sa84, oa b85, oa b105, oi (own_same tx2 tx84), oi (own_same tx2 tx84), oi (own_same tx2 tx84), oi 1, oi 0, oi 0] []) _
      refine XS.iload X155.here hx rfl (hb hby at_120) rfl ?_
      show oS T155 (mkF m 122 #[oi p0, oi p1, oi p2, oa sa2, oa sa84, oa b85, oa b105, oi (own_same tx2 tx84), oi (own_same tx2 tx84), oi (own_same tx2 tx84), oi 1, oi 0, oi 0] [(.int (0 : Int32))]) _
      refine XS.ifNo X155.here hx rfl (hb hby at_122) rfl ((if0 _ _).trans (teq (by decide : (0 : Int32) = (0 : Int32))).2) ?_
      show oS T155 (mkF m 125 #[oi p0, oi p1, oi p2, oa sa2, oa sa84, oa b85, oa b105, oi (own_same tx2 tx84), oi (own_same tx2 tx84), oi (own_same tx2 tx84), oi 1, oi 0, oi 0] []) _
      refine XS.iconst X155.here hx rfl (hb hby at_125) ?_
      show oS T155 (mkF m 126 #[oi p0, oi p1, oi p2, oa sa2, oa sa84, oa b85, oa b105, oi (own_same tx2 tx84), oi (own_same tx2 tx84), oi (own_same tx2 tx84), oi 1, oi 0, oi 0] [(.int (1 : Int32))]) _
      refine XS.goto X155.here hx rfl (pc0 := 126) (pc' := 130) rfl (hb hby at_126) (by decide) (by decide) ?_
      exact kt
    obtain ⟨fs, hr, hrun, hended, hwd⟩ := Stand.leaveW (s := s) (vm₁ := T125.vm) X155 hS125 (by rw [e155]; exact (Nat.le_refl _)) (v := some (.int (1 : Int32))) (fun h => by rw [Bd.returns] at h; cases h)
    refine ⟨_, _, pre0 _ (c1 _ (st2 _ (c3 _ (c81 _ (st84 _ (c86 _ (st85 _ (c94 _ (st104.trans (c106 _ (st105 _ (c114 _ (st125.trans (c126 _ (st137 _ (c138 _ (st142.trans (c143 _ (c144 _ (st146.trans (c147 _ (st149.trans (c150 _ (st152.trans (c153 _ (st155.trans (c156 _ (?_)))))))))))))))))))))))))))), hrun, hended, _, _, rfl, ?_, hwd.1, hwd.2.1, hwd.2.2.1, hwd.2.2.2.mono (by decide) (by decide)⟩
    · show Steps p.tables e below (T155.setTop (mkF m 130 #[oi p0, oi p1, oi p2, oa sa2, oa sa84, oa b85, oa b105, oi (own_same tx2 tx84), oi (own_same tx2 tx84), oi (own_same tx2 tx84), oi 1, oi 0, oi 0] [(.int (1 : Int32))])) _
      exact retN X155 hx (t := .boolean) Bd.returns (by simp) (hb hby at_130) hr
    · show Q0 Z p0 p1 p2 cs fm h0 n0 _ T155.heap _
      rw [e155]
      exact ⟨congrArg (fun z => some (Value.int z)) (show (1 : Int32) = (1 : Int32) from by rfl), N155⟩
set_option maxRecDepth 65536 in
set_option maxHeartbeats 40000000 in
theorem comes_1 {Post : Tables → Env → Array Value → State → Outcome → State → Prop} (hpost : ∀ tb e args s v u, (limb_1_1.after args s (.returned v) u = true ∧ limb_1_2.after args s (.returned v) u = true ∧ True) → ReturnedEndW s (.returned v) u (Jvm.fieldLocs frame_1_writes args s ++ Jvm.arrayLocs frame_1_arrays args s ++ Jvm.staticLocs frame_1_statics s) 32 2176 → Post tb e args s (.returned v) u) :
    ArmFor flags0 classFile x code maxLocals ret World_1 tables_1 room_1 Calls_1 rest_1 Pre_1 Post := by
  intro l hfl _ _ p e ha hc hk s m args below hf hA hF happ hP
  obtain ⟨hcalls, hrest, hpre⟩ := hP
  obtain ⟨-, -, -, hnamed, -, -, -, hat⟩ := (Spec.applies_iff hf).mp happ
  obtain ⟨hg, hn⟩ := and_e (Cond.before_iff.mp (show (Jvm.Cond.and given_1 narrow_1).before args s = true from hpre))
  obtain ⟨g1, g2⟩ := and_e hg
  obtain ⟨g3, g4⟩ := and_e g2
  obtain ⟨g5, g6⟩ := and_e g4
  obtain ⟨w0, w1, w2, rfl⟩ : ∃ w0 w1 w2 : Value, args = #[w0, w1, w2] := by
    have hs : args.size = 3 := by simpa [Cond.value, given_1] using g1
    obtain ⟨L⟩ := args
    match L, hs with
    | [w0, w1, w2], _ => exact ⟨w0, w1, w2, rfl⟩
  have hw := fun d (hd : d ∈ tables_1) => atoms_spec (ws := Jvm.Cond.code x code maxLocals ret :: tables_1) hat d (List.mem_cons_of_mem _ hd)
  have hfit : Fit s := fun {y c} hc i hi => by
    obtain ⟨ha, rfl⟩ := Array.getElem?_eq_some_iff.mp hc
    have q := List.all_eq_true.mp ((Array.all_eq_true_iff_forall_mem.mp hF) _ (Array.getElem_mem ha)) i (List.mem_range.mpr hi)
    simpa [Array.getElem?_eq_getElem hi] using q
  obtain ⟨hsets, hown0⟩ := atoms_of _ (rest_1_c_eq ▸ (show rest_1_c.before _ s = true from hrest))
  have hr0 := Cond.before_iff.mp hown0
  obtain ⟨i0, ei0⟩ := is_v g3
  obtain rfl : w0 = (.int i0) := Option.some.inj ei0
  obtain ⟨i1, ei1⟩ := is_v g5
  obtain rfl : w1 = (.int i1) := Option.some.inj ei1
  obtain ⟨i2, ei2⟩ := is_v g6
  obtain rfl : w2 = (.int i2) := Option.some.inj ei2
  have n3 := not_v (Cond.before_iff.mp (hsets _ (List.mem_of_getElem? (i := 2) rfl)))
  obtain ⟨cs, ecs⟩ := is_v (Cond.before_iff.mp (hsets _ (List.mem_of_getElem? (i := 1) rfl)))
  have SC : Sta s s.heap "java/lang/String" "COMPACT_STRINGS" "Z" (.int cs) := Sta.start ecs (Or.inl (hsets _ (List.mem_of_getElem? (i := 0) rfl)))
  have hcs : ¬ (cs = (0 : Int32)) := gotF (Cond.eq_ints ecs (Term.int_eval (0))) n3
  obtain ⟨fm, efm, hfm⟩ := isR_v (Cond.before_iff.mp (hsets _ (List.mem_of_getElem? (i := 8) rfl)))
  have hEL : EW s _ consts_1 := (EW.cons (hw _ (List.mem_of_getElem? (i := 45) rfl)) (by decide) (EW.cons (hw _ (List.mem_of_getElem? (i := 55) rfl)) (by decide) EW.nil))
  have CH0 : CHv s consts_1 s.vm s.heap := CHv.start hEL (fun p hp => hcalls.1 p hp) (hsets _ (List.mem_of_getElem? (i := 2) rfl)) (hw _ (List.mem_of_getElem? (i := 27) rfl)) (hw _ (List.mem_of_getElem? (i := 6) rfl))
  have SF : Sta s s.heap "jdk/internal/util/Preconditions" "SIOOBE_FORMATTER" "Ljava/util/function/BiFunction;" fm := Sta.start efm (Or.inl (hsets _ (List.mem_of_getElem? (i := 7) rfl)))
  obtain ⟨n, o, h1, h2, h3, _, L, rfl, ⟨rfl, N⟩, hq⟩ := rm0 l s _ hw tables_1 i0 i1 i2 cs fm s.heap s.heap.size (Nat.le_refl _) (Old.start s) SC hcs SF hfm p e ha hc hk s m _ below hf ((Spec.applies_iff_loose hf).mp happ).1 ⟨rfl, State.Warmed39.refl s, rfl, CH0⟩ trivial
  refine ⟨n, _, h1, h2, h3, hpost _ _ _ _ _ _ ⟨Cond.after_iff.mpr rfl, Cond.after_iff.mpr (eq_i res_at (Term.int_eval (1)) rfl), trivial⟩ ⟨hq.1, hq.2.1, hq.2.2.1, (hq.2.2.2.sift fun y hy => Or.inr (N y hy)).mono (by decide) (by decide)⟩⟩
theorem main_1_1 : Claimed_1_1 := comes_1 fun _ _ _ _ _ _ h hF => ⟨h.1, hF⟩
theorem main_1_2 : Claimed_1_2 := comes_1 fun _ _ _ _ _ _ h hF => ⟨h.2.1, hF⟩
end Jvm.Pilot.@@N@@
namespace Jvm.Pilot.@@N@@
open Jvm Jvm.ClassFile Sem Op Lib Jvm.Free Jvm.Stand Jvm.Pilot.@@N@@.Jvm.D
/-! MADE BY PROGRAM (witnessworld.py) out of the Statement's table words and the real class files: 23 classes; the members and pool entries that the words name. The judged class is class 1, her method 4. -/
namespace start1
open Jvm.ClassFile
def u (s : String) : CpInfo := .utf8 (stringToUtf16 s)
/-- a pool by its gaps: so many unusable entries, then the entry; so many at the end -/
def gap : Nat → List CpInfo → List CpInfo
  | 0, r => r
  | n + 1, r => .unusable :: gap n r
def poolList (es : List (Nat × CpInfo)) (last : Nat) : List CpInfo := es.foldr (fun e r => gap e.1 (e.2 :: r)) (gap last [])
def pool (es : List (Nat × CpInfo)) (last : Nat) : Array CpInfo := ⟨poolList es last⟩
def fileOf (pool : Array CpInfo) (this : Nat) (attrs : Array Attribute := #[]) (ms : Array MethodInfo := #[]) (fl : Nat := 33) (sup : Nat := 0) (ifs : Array Nat := #[]) (fds : Array FieldInfo := #[]) : ClassFile where
  minorVersion := 0
  majorVersion := 65
  constantPool := pool
  accessFlags := fl
  thisClass := this
  superClass := sup
  interfaces := ifs
  fields := fds
  methods := ms
  attributes := attrs
def plain (name : String) (sup : Option ClassId) : Class where
  name := name
  kind := .ordinary
  loader := none
  accessFlags := 33
  super := sup
  interfaces := #[]
  cf := none
  fields := #[]
  methods := #[]
  instanceTypes := #[]
  staticTypes := #[]
  resolved := #[]
  callSites := []
  init := .initialized
  statics := none
  mirror := none

def pool0 : Array CpInfo := pool [(5, u "<init>"), (0, u "()V"), (1, .class_ 10), (1, u "java/lang/Object")] 113

def k0c0 : Code := { maxStack := 0, maxLocals := 1, code := object_method_1_code, exceptionTable := #[], attributes := #[] }
def k0m0 : Method := { name := "<init>", desc := "()V", sig := { parameters := [], returnType := none }, accessFlags := 1, code := some k0c0 }
/-- java/lang/Object -/
def k0 : Class := { plain "java/lang/Object" none with
  accessFlags := 33
  interfaces := #[]
  cf := some (fileOf pool0 8 #[] #[{ accessFlags := 1, nameIndex := 5, descriptorIndex := 6, attributes := #[] }] 33 0 #[] #[])
  fields := #[]
  methods := #[k0m0]
  instanceTypes := #[]
  staticTypes := #[]
  resolved := Array.replicate 124 none
  statics := none }

def pool1 : Array CpInfo := pool [(2, .class_ 4), (1, u "java/lang/Object"), (0, u "<init>"), (0, u "()V"), (0, .integer 2147483647), (0, .class_ 9), (0, u "java/lang/String"), (0, .methodref 11 12), (0, .class_ 13), (0, .nameAndType 14 15), (0, u "com/example/millrace/millrace/model/NumeralEqualsPinLaw"), (0, u "digit"), (0, u "(I)C"), (0, .methodref 8 17), (0, .nameAndType 5 18), (0, u "([C)V"), (0, .methodref 8 20), (0, .nameAndType 21 22), (0, u "length"), (0, u "()I"), (0, .methodref 8 24), (0, .nameAndType 25 15), (0, u "charAt"), (0, .methodref 11 27), (0, .nameAndType 28 29), (0, u "make"), (0, u "(I)Ljava/lang/String;"), (0, .class_ 31), (0, u "com/example/millrace/millrace/model/Numeral"), (0, .methodref 30 33), (0, .nameAndType 5 34), (0, u "(Ljava/lang/String;)V"), (0, .methodref 11 36), (0, .nameAndType 37 38), (0, u "sameText"), (0, u "(Ljava/lang/String;Ljava/lang/String;)Z"), (0, .methodref 30 40), (0, .nameAndType 41 42), (0, u "equals"), (0, u "(Ljava/lang/Object;)Z"), (5, u "law"), (0, u "(III)Z")] 2

def k1m0 : Method := { name := "<init>", desc := "()V", sig := { parameters := [], returnType := none }, accessFlags := 1, code := none }
def k1c1 : Code := { maxStack := 2, maxLocals := 1, code := method_2_code, exceptionTable := #[], attributes := #[] }
def k1m1 : Method := { name := "digit", desc := "(I)C", sig := { parameters := [.int], returnType := some .char }, accessFlags := 10, code := some k1c1 }
def k1c2 : Code := { maxStack := 8, maxLocals := 6, code := method_3_code, exceptionTable := #[], attributes := #[] }
def k1m2 : Method := { name := "make", desc := "(I)Ljava/lang/String;", sig := { parameters := [.int], returnType := some (.object "java/lang/String") }, accessFlags := 10, code := some k1c2 }
def k1c3 : Code := { maxStack := 3, maxLocals := 4, code := method_4_code, exceptionTable := #[], attributes := #[] }
def k1m3 : Method := { name := "sameText", desc := "(Ljava/lang/String;Ljava/lang/String;)Z", sig := { parameters := [(.object "java/lang/String"), (.object "java/lang/String")], returnType := some .boolean }, accessFlags := 10, code := some k1c3 }
def k1c4 : Code := { maxStack := 3, maxLocals := 13, code := code, exceptionTable := #[], attributes := #[] }
def k1m4 : Method := { name := "law", desc := "(III)Z", sig := { parameters := [.int, .int, .int], returnType := some .boolean }, accessFlags := 9, code := some k1c4 }
/-- com/example/millrace/millrace/model/NumeralEqualsPinLaw -/
def k1 : Class := { plain "com/example/millrace/millrace/model/NumeralEqualsPinLaw" (some 0) with
  accessFlags := 49
  interfaces := #[]
  cf := some (fileOf pool1 11 #[] #[{ accessFlags := 1, nameIndex := 5, descriptorIndex := 6, attributes := #[] }, { accessFlags := 10, nameIndex := 14, descriptorIndex := 15, attributes := #[] }, { accessFlags := 10, nameIndex := 28, descriptorIndex := 29, attributes := #[] }, { accessFlags := 10, nameIndex := 37, descriptorIndex := 38, attributes := #[] }, { accessFlags := 9, nameIndex := 48, descriptorIndex := 49, attributes := #[] }] 49 2 #[] #[])
  fields := #[]
  methods := #[k1m0, k1m1, k1m2, k1m3, k1m4]
  instanceTypes := #[]
  staticTypes := #[]
  resolved := Array.replicate 52 none
  statics := none }

def pool2 : Array CpInfo := pool [(1, .class_ 2), (0, u "java/io/Serializable"), (0, .class_ 4), (0, u "java/lang/Object")] 2

/-- java/io/Serializable -/
def k2 : Class := { plain "java/io/Serializable" (some 0) with
  accessFlags := 1537
  interfaces := #[]
  cf := some (fileOf pool2 1 #[] #[] 1537 3 #[] #[])
  fields := #[]
  methods := #[]
  instanceTypes := #[]
  staticTypes := #[]
  resolved := Array.replicate 7 none
  statics := none }

def pool3 : Array CpInfo := pool [(1, .class_ 2), (0, u "java/lang/Comparable"), (0, .class_ 4), (0, u "java/lang/Object")] 7

/-- java/lang/Comparable -/
def k3 : Class := { plain "java/lang/Comparable" (some 0) with
  accessFlags := 1537
  interfaces := #[]
  cf := some (fileOf pool3 1 #[] #[] 1537 3 #[] #[])
  fields := #[]
  methods := #[]
  instanceTypes := #[]
  staticTypes := #[]
  resolved := Array.replicate 12 none
  statics := none }

def pool4 : Array CpInfo := pool [(2, .class_ 4), (1, u "java/lang/CharSequence"), (42, .class_ 48), (0, u "java/lang/CharSequence$1CodePointIterator"), (10, .class_ 60), (0, u "java/lang/CharSequence$1CharIterator"), (5, .class_ 67), (0, u "java/lang/Object")] 63

/-- java/lang/CharSequence -/
def k4 : Class := { plain "java/lang/CharSequence" (some 0) with
  accessFlags := 1537
  interfaces := #[]
  cf := some (fileOf pool4 2 #[.nestMembers #[47, 59]] #[] 1537 66 #[] #[])
  fields := #[]
  methods := #[]
  instanceTypes := #[]
  staticTypes := #[]
  resolved := Array.replicate 131 none
  statics := none }

def pool5 : Array CpInfo := pool [(1, .class_ 2), (0, u "java/lang/constant/Constable"), (0, .class_ 4), (0, u "java/lang/Object")] 6

/-- java/lang/constant/Constable -/
def k5 : Class := { plain "java/lang/constant/Constable" (some 0) with
  accessFlags := 1537
  interfaces := #[]
  cf := some (fileOf pool5 1 #[] #[] 1537 3 #[] #[])
  fields := #[]
  methods := #[]
  instanceTypes := #[]
  staticTypes := #[]
  resolved := Array.replicate 11 none
  statics := none }

def pool6 : Array CpInfo := pool [(1, .class_ 2), (0, u "java/lang/constant/ConstantDesc"), (0, .class_ 4), (0, u "java/lang/Object")] 32

/-- java/lang/constant/ConstantDesc -/
def k6 : Class := { plain "java/lang/constant/ConstantDesc" (some 0) with
  accessFlags := 1537
  interfaces := #[]
  cf := some (fileOf pool6 1 #[] #[] 1537 3 #[] #[])
  fields := #[]
  methods := #[]
  instanceTypes := #[]
  staticTypes := #[]
  resolved := Array.replicate 37 none
  statics := none }

def pool7 : Array CpInfo := pool [(1, .methodref 2 3), (0, .class_ 4), (0, .nameAndType 5 6), (0, u "java/lang/Object"), (0, u "<init>"), (0, u "()V"), (2, .fieldref 10 11), (0, .class_ 12), (0, .nameAndType 13 14), (0, u "java/lang/String"), (0, u "value"), (0, u "[B"), (0, .fieldref 10 16), (0, .nameAndType 17 18), (0, u "coder"), (0, u "B"), (2, u "hash"), (0, u "I"), (2, u "hashIsZero"), (0, u "Z"), (0, .methodref 10 28), (0, .nameAndType 5 29), (0, u "([CIILjava/lang/Void;)V"), (8, .fieldref 10 39), (0, .nameAndType 40 26), (0, u "COMPACT_STRINGS"), (1, .class_ 44), (1, u "java/lang/StringUTF16"), (0, u "compress"), (1, .methodref 42 48), (0, .nameAndType 49 50), (0, u "coderFromArrayLen"), (0, u "([BI)B"), (56, .class_ 109), (1, u "java/lang/StringLatin1"), (32, u "()Z"), (34, .methodref 42 178), (0, .nameAndType 45 179), (0, u "([CII)[B"), (154, u "()I"), (0, .methodref 10 336), (0, .nameAndType 17 337), (0, u "()B"), (25, u "([BI)C"), (12, u "([BI[BII)I"), (14, u "(II)V"), (35, u "(I)C"), (64, .methodref 10 493), (0, .nameAndType 494 142), (0, u "isLatin1"), (0, .methodref 107 496), (0, .nameAndType 497 363), (0, u "charAt"), (3, u "checkIndex"), (3, .methodref 10 506), (0, .nameAndType 507 334), (0, u "length"), (33, .methodref 107 542), (0, .nameAndType 543 544), (0, u "equals"), (0, u "([B[B)Z"), (14, .class_ 561), (1, u "jdk/internal/util/ArraysSupport"), (0, u "mismatch"), (10, u "(Ljava/lang/Object;)Z"), (1, .class_ 576), (0, u "java/lang/CharSequence"), (22, u "CASE_INSENSITIVE_ORDER"), (0, u "Ljava/util/Comparator;"), (6, .methodref 559 608), (0, .nameAndType 562 376), (15, .methodref 10 625), (0, .nameAndType 626 627), (0, u "startsWith"), (0, u "(Ljava/lang/String;I)Z"), (382, u "([C)V"), (42, .fieldref 1054 1055), (0, .class_ 1056), (0, .nameAndType 1057 1058), (0, u "jdk/internal/util/Preconditions"), (0, u "SIOOBE_FORMATTER"), (0, u "Ljava/util/function/BiFunction;"), (0, .methodref 1054 1060), (0, .nameAndType 501 1061), (0, u "(IILjava/util/function/BiFunction;)I"), (39, u "serialPersistentFields"), (0, u "[Ljava/io/ObjectStreamField;"), (0, .class_ 1104), (0, u "java/lang/String$CaseInsensitiveComparator"), (1, .class_ 1107), (0, u "java/io/Serializable"), (0, .class_ 1109), (0, u "java/lang/Comparable"), (0, .class_ 1111), (0, u "java/lang/constant/Constable"), (0, .class_ 1113), (0, u "java/lang/constant/ConstantDesc"), (2, u "serialVersionUID"), (0, u "J"), (3, u "REPL"), (0, u "C"), (2, u "LATIN1"), (1, u "UTF16"), (129, u "(Ljava/lang/String;)Z")] 193

def k7m0 : Method := { name := "<init>", desc := "()V", sig := { parameters := [], returnType := none }, accessFlags := 1, code := none }
def k7c1 : Code := { maxStack := 5, maxLocals := 2, code := jdk_42_method_3_code, exceptionTable := #[], attributes := #[] }
def k7m1 : Method := { name := "<init>", desc := "([C)V", sig := { parameters := [(.array .char)], returnType := none }, accessFlags := 1, code := some k7c1 }
def k7c2 : Code := { maxStack := 2, maxLocals := 1, code := jdk_42_method_54_code, exceptionTable := #[], attributes := #[] }
def k7m2 : Method := { name := "length", desc := "()I", sig := { parameters := [], returnType := some .int }, accessFlags := 1, code := some k7c2 }
def k7c3 : Code := { maxStack := 2, maxLocals := 2, code := jdk_42_method_56_code, exceptionTable := #[], attributes := #[] }
def k7m3 : Method := { name := "charAt", desc := "(I)C", sig := { parameters := [.int], returnType := some .char }, accessFlags := 1, code := some k7c3 }
def k7c4 : Code := { maxStack := 2, maxLocals := 3, code := jdk_42_method_66_code, exceptionTable := #[], attributes := #[] }
def k7m4 : Method := { name := "equals", desc := "(Ljava/lang/Object;)Z", sig := { parameters := [(.object "java/lang/Object")], returnType := some .boolean }, accessFlags := 1, code := some k7c4 }
def k7c5 : Code := { maxStack := 5, maxLocals := 8, code := jdk_42_method_75_code, exceptionTable := #[], attributes := #[] }
def k7m5 : Method := { name := "startsWith", desc := "(Ljava/lang/String;I)Z", sig := { parameters := [(.object "java/lang/String"), .int], returnType := some .boolean }, accessFlags := 1, code := some k7c5 }
def k7c6 : Code := { maxStack := 3, maxLocals := 2, code := jdk_42_method_76_code, exceptionTable := #[], attributes := #[] }
def k7m6 : Method := { name := "startsWith", desc := "(Ljava/lang/String;)Z", sig := { parameters := [(.object "java/lang/String")], returnType := some .boolean }, accessFlags := 1, code := some k7c6 }
def k7c7 : Code := { maxStack := 4, maxLocals := 6, code := jdk_42_method_149_code, exceptionTable := #[], attributes := #[] }
def k7m7 : Method := { name := "<init>", desc := "([CIILjava/lang/Void;)V", sig := { parameters := [(.array .char), .int, .int, (.object "java/lang/Void")], returnType := none }, accessFlags := 2, code := some k7c7 }
def k7c8 : Code := { maxStack := 1, maxLocals := 1, code := jdk_42_method_152_code, exceptionTable := #[], attributes := #[] }
def k7m8 : Method := { name := "coder", desc := "()B", sig := { parameters := [], returnType := some .byte }, accessFlags := 0, code := some k7c8 }
def k7c9 : Code := { maxStack := 1, maxLocals := 1, code := jdk_42_method_154_code, exceptionTable := #[], attributes := #[] }
def k7m9 : Method := { name := "isLatin1", desc := "()Z", sig := { parameters := [], returnType := some .boolean }, accessFlags := 0, code := some k7c9 }
def k7c10 : Code := { maxStack := 3, maxLocals := 2, code := jdk_42_method_155_code, exceptionTable := #[], attributes := #[] }
def k7m10 : Method := { name := "checkIndex", desc := "(II)V", sig := { parameters := [.int, .int], returnType := none }, accessFlags := 8, code := some k7c10 }
/-- java/lang/String -/
def k7 : Class := { plain "java/lang/String" (some 0) with
  accessFlags := 49
  interfaces := #[2, 3, 4, 5, 6]
  cf := some (fileOf pool7 10 #[.nestMembers #[1103]] #[{ accessFlags := 1, nameIndex := 5, descriptorIndex := 6, attributes := #[] }, { accessFlags := 1, nameIndex := 5, descriptorIndex := 1010, attributes := #[] }, { accessFlags := 1, nameIndex := 507, descriptorIndex := 334, attributes := #[] }, { accessFlags := 1, nameIndex := 497, descriptorIndex := 427, attributes := #[] }, { accessFlags := 1, nameIndex := 543, descriptorIndex := 573, attributes := #[] }, { accessFlags := 1, nameIndex := 626, descriptorIndex := 627, attributes := #[] }, { accessFlags := 1, nameIndex := 626, descriptorIndex := 1257, attributes := #[] }, { accessFlags := 2, nameIndex := 5, descriptorIndex := 29, attributes := #[] }, { accessFlags := 0, nameIndex := 17, descriptorIndex := 337, attributes := #[] }, { accessFlags := 0, nameIndex := 494, descriptorIndex := 142, attributes := #[] }, { accessFlags := 8, nameIndex := 501, descriptorIndex := 391, attributes := #[] }] 49 2 #[1106, 1108, 575, 1110, 1112] #[{ accessFlags := 18, nameIndex := 13, descriptorIndex := 14, attributes := #[] }, { accessFlags := 18, nameIndex := 17, descriptorIndex := 18, attributes := #[] }, { accessFlags := 2, nameIndex := 21, descriptorIndex := 22, attributes := #[] }, { accessFlags := 2, nameIndex := 25, descriptorIndex := 26, attributes := #[] }, { accessFlags := 26, nameIndex := 1116, descriptorIndex := 1117, attributes := #[] }, { accessFlags := 24, nameIndex := 40, descriptorIndex := 26, attributes := #[] }, { accessFlags := 26, nameIndex := 1101, descriptorIndex := 1102, attributes := #[] }, { accessFlags := 26, nameIndex := 1121, descriptorIndex := 1122, attributes := #[] }, { accessFlags := 25, nameIndex := 599, descriptorIndex := 600, attributes := #[] }, { accessFlags := 24, nameIndex := 1125, descriptorIndex := 18, attributes := #[] }, { accessFlags := 24, nameIndex := 1127, descriptorIndex := 18, attributes := #[] }])
  fields := #[{ name := "value", type := (.array .byte), accessFlags := 18, slot := 0, constantValue := 0 }, { name := "coder", type := .byte, accessFlags := 18, slot := 1, constantValue := 0 }, { name := "hash", type := .int, accessFlags := 2, slot := 2, constantValue := 0 }, { name := "hashIsZero", type := .boolean, accessFlags := 2, slot := 3, constantValue := 0 }, { name := "serialVersionUID", type := .long, accessFlags := 26, slot := 0, constantValue := 0 }, { name := "COMPACT_STRINGS", type := .boolean, accessFlags := 24, slot := 1, constantValue := 0 }, { name := "serialPersistentFields", type := (.array (.object "java/io/ObjectStreamField")), accessFlags := 26, slot := 2, constantValue := 0 }, { name := "REPL", type := .char, accessFlags := 26, slot := 3, constantValue := 0 }, { name := "CASE_INSENSITIVE_ORDER", type := (.object "java/util/Comparator"), accessFlags := 25, slot := 4, constantValue := 0 }, { name := "LATIN1", type := .byte, accessFlags := 24, slot := 5, constantValue := 0 }, { name := "UTF16", type := .byte, accessFlags := 24, slot := 6, constantValue := 0 }]
  methods := #[k7m0, k7m1, k7m2, k7m3, k7m4, k7m5, k7m6, k7m7, k7m8, k7m9, k7m10]
  instanceTypes := #[(.array .byte), .byte, .int, .boolean]
  staticTypes := #[.long, .boolean, (.array (.object "java/io/ObjectStreamField")), .char, (.object "java/util/Comparator"), .byte, .byte]
  resolved := Array.replicate 1451 none
  statics := some 0 }

def pool8 : Array CpInfo := pool [(6, .class_ 8), (1, u "java/lang/Object"), (0, u "<init>"), (0, u "()V"), (1, .class_ 14), (1, u "java/lang/StringUTF16"), (31, u "$assertionsDisabled"), (0, u "Z"), (13, u "HI_BYTE_SHIFT"), (0, u "I"), (2, u "LO_BYTE_SHIFT"), (49, .methodref 12 116), (0, .nameAndType 117 118), (0, u "compress"), (0, u "([CI[BII)I"), (3, u "([CII)[B"), (138, u "coderFromArrayLen"), (0, u "([BI)B"), (106, .class_ 371), (1, u "java/lang/StringUTF16$LinesSpliterator"), (58, u "MAX_LENGTH"), (196, .class_ 628), (0, u "java/lang/StringUTF16$CodePointsSpliterator"), (0, .class_ 630), (0, u "java/lang/StringUTF16$CharsSpliterator")] 4

def k8m0 : Method := { name := "<init>", desc := "()V", sig := { parameters := [], returnType := none }, accessFlags := 0, code := none }
def k8c1 : Code := { maxStack := 2, maxLocals := 2, code := jdk_52_method_15_code, exceptionTable := #[], attributes := #[] }
def k8m1 : Method := { name := "coderFromArrayLen", desc := "([BI)B", sig := { parameters := [(.array .byte), .int], returnType := some .byte }, accessFlags := 8, code := some k8c1 }
def k8c2 : Code := { maxStack := 5, maxLocals := 6, code := jdk_52_method_16_code, exceptionTable := #[], attributes := #[] }
def k8m2 : Method := { name := "compress", desc := "([CII)[B", sig := { parameters := [(.array .char), .int, .int], returnType := some (.array .byte) }, accessFlags := 9, code := some k8c2 }
def k8c3 : Code := { maxStack := 3, maxLocals := 7, code := jdk_52_method_21_code, exceptionTable := #[], attributes := #[] }
def k8m3 : Method := { name := "compress", desc := "([CI[BII)I", sig := { parameters := [(.array .char), .int, (.array .byte), .int, .int], returnType := some .int }, accessFlags := 9, code := some k8c3 }
/-- java/lang/StringUTF16 -/
def k8 : Class := { plain "java/lang/StringUTF16" (some 0) with
  accessFlags := 48
  interfaces := #[]
  cf := some (fileOf pool8 12 #[.nestMembers #[627, 629, 369]] #[{ accessFlags := 0, nameIndex := 9, descriptorIndex := 10, attributes := #[] }, { accessFlags := 8, nameIndex := 261, descriptorIndex := 262, attributes := #[] }, { accessFlags := 9, nameIndex := 117, descriptorIndex := 122, attributes := #[] }, { accessFlags := 9, nameIndex := 117, descriptorIndex := 118, attributes := #[] }] 48 6 #[] #[{ accessFlags := 26, nameIndex := 61, descriptorIndex := 62, attributes := #[] }, { accessFlags := 26, nameIndex := 65, descriptorIndex := 62, attributes := #[] }, { accessFlags := 24, nameIndex := 430, descriptorIndex := 62, attributes := #[] }, { accessFlags := 4120, nameIndex := 46, descriptorIndex := 47, attributes := #[] }])
  fields := #[{ name := "HI_BYTE_SHIFT", type := .int, accessFlags := 26, slot := 0, constantValue := 0 }, { name := "LO_BYTE_SHIFT", type := .int, accessFlags := 26, slot := 1, constantValue := 0 }, { name := "MAX_LENGTH", type := .int, accessFlags := 24, slot := 2, constantValue := 0 }, { name := "$assertionsDisabled", type := .boolean, accessFlags := 4120, slot := 3, constantValue := 0 }]
  methods := #[k8m0, k8m1, k8m2, k8m3]
  instanceTypes := #[]
  staticTypes := #[.int, .int, .int, .boolean]
  resolved := Array.replicate 635 none
  statics := none }

def pool9 : Array CpInfo := pool [(1, .methodref 2 3), (0, .class_ 4), (0, .nameAndType 5 6), (0, u "java/lang/Object"), (0, u "<init>"), (0, u "()V"), (0, .string 8), (0, u "text"), (0, .methodref 10 11), (0, .class_ 12), (0, .nameAndType 13 14), (0, u "java/util/Objects"), (0, u "requireNonNull"), (0, u "(Ljava/lang/Object;Ljava/lang/String;)Ljava/lang/Object;"), (0, .methodref 16 17), (0, .class_ 18), (0, .nameAndType 19 20), (0, u "com/example/millrace/millrace/model/Numeral"), (0, u "isJsonNumber"), (0, u "(Ljava/lang/String;)Z"), (8, u "(Ljava/lang/String;)V"), (0, .fieldref 16 31), (0, .nameAndType 8 32), (0, u "Ljava/lang/String;"), (0, .class_ 34), (0, u "com/example/millrace/millrace/model/Numeral$Digits"), (12, u "J"), (17, .string 66), (0, u "-"), (0, .methodref 68 69), (0, .class_ 70), (0, .nameAndType 71 20), (0, u "java/lang/String"), (0, u "startsWith"), (6, .methodref 68 79), (0, .nameAndType 80 81), (0, u "length"), (0, u "()I"), (17, .methodref 68 100), (0, .nameAndType 101 102), (0, u "equals"), (0, u "(Ljava/lang/Object;)Z"), (3, .methodref 107 108), (0, .class_ 109), (0, .nameAndType 110 111), (0, u "com/example/millrace/millrace/model/FieldType"), (0, u "skipDigits"), (0, u "(Ljava/lang/String;I)I"), (0, .methodref 68 113), (0, .nameAndType 114 115), (0, u "charAt"), (0, u "(I)C"), (0, u "HUGE_EXPONENT")] 30

def k9c0 : Code := { maxStack := 3, maxLocals := 2, code := prog_37_method_1_code, exceptionTable := #[], attributes := #[] }
def k9m0 : Method := { name := "<init>", desc := "(Ljava/lang/String;)V", sig := { parameters := [(.object "java/lang/String")], returnType := none }, accessFlags := 1, code := some k9c0 }
def k9c1 : Code := { maxStack := 2, maxLocals := 2, code := prog_37_method_5_code, exceptionTable := #[], attributes := #[] }
def k9m1 : Method := { name := "equals", desc := "(Ljava/lang/Object;)Z", sig := { parameters := [(.object "java/lang/Object")], returnType := some .boolean }, accessFlags := 1, code := some k9c1 }
def k9c2 : Code := { maxStack := 3, maxLocals := 4, code := prog_37_method_8_code, exceptionTable := #[], attributes := #[] }
def k9m2 : Method := { name := "isJsonNumber", desc := "(Ljava/lang/String;)Z", sig := { parameters := [(.object "java/lang/String")], returnType := some .boolean }, accessFlags := 10, code := some k9c2 }
/-- com/example/millrace/millrace/model/Numeral -/
def k9 : Class := { plain "com/example/millrace/millrace/model/Numeral" (some 0) with
  accessFlags := 33
  interfaces := #[]
  cf := some (fileOf pool9 16 #[.nestMembers #[33]] #[{ accessFlags := 1, nameIndex := 5, descriptorIndex := 29, attributes := #[] }, { accessFlags := 1, nameIndex := 101, descriptorIndex := 102, attributes := #[] }, { accessFlags := 10, nameIndex := 19, descriptorIndex := 20, attributes := #[] }] 33 2 #[] #[{ accessFlags := 26, nameIndex := 116, descriptorIndex := 47, attributes := #[] }, { accessFlags := 18, nameIndex := 8, descriptorIndex := 32, attributes := #[] }])
  fields := #[{ name := "HUGE_EXPONENT", type := .long, accessFlags := 26, slot := 0, constantValue := 0 }, { name := "text", type := (.object "java/lang/String"), accessFlags := 18, slot := 0, constantValue := 0 }]
  methods := #[k9m0, k9m1, k9m2]
  instanceTypes := #[(.object "java/lang/String")]
  staticTypes := #[.long]
  resolved := Array.replicate 147 none
  statics := none }

def pool10 : Array CpInfo := pool [(2, .class_ 4), (1, u "java/lang/Object"), (0, u "<init>"), (0, u "()V"), (35, .class_ 44), (1, u "java/util/Objects"), (0, u "requireNonNull"), (48, u "(Ljava/lang/Object;Ljava/lang/String;)Ljava/lang/Object;")] 89

def k10m0 : Method := { name := "<init>", desc := "()V", sig := { parameters := [], returnType := none }, accessFlags := 2, code := none }
def k10c1 : Code := { maxStack := 3, maxLocals := 2, code := jdk_31_method_11_code, exceptionTable := #[], attributes := #[] }
def k10m1 : Method := { name := "requireNonNull", desc := "(Ljava/lang/Object;Ljava/lang/String;)Ljava/lang/Object;", sig := { parameters := [(.object "java/lang/Object"), (.object "java/lang/String")], returnType := some (.object "java/lang/Object") }, accessFlags := 9, code := some k10c1 }
/-- java/util/Objects -/
def k10 : Class := { plain "java/util/Objects" (some 0) with
  accessFlags := 49
  interfaces := #[]
  cf := some (fileOf pool10 42 #[] #[{ accessFlags := 2, nameIndex := 5, descriptorIndex := 6, attributes := #[] }, { accessFlags := 9, nameIndex := 45, descriptorIndex := 94, attributes := #[] }] 49 2 #[] #[])
  fields := #[]
  methods := #[k10m0, k10m1]
  instanceTypes := #[]
  staticTypes := #[]
  resolved := Array.replicate 184 none
  statics := none }

def pool11 : Array CpInfo := pool [(9, u "<init>"), (6, .class_ 18), (1, u "java/lang/Object"), (0, u "()V"), (1, .class_ 23), (1, u "jdk/internal/util/ArraysSupport"), (0, u "LOG2_ARRAY_LONG_INDEX_SCALE"), (0, u "I"), (2, u "U"), (0, u "Ljdk/internal/misc/Unsafe;"), (8, u "BIG_ENDIAN"), (0, u "Z"), (8, u "LOG2_BYTE_BIT_SIZE"), (4, u "LOG2_ARRAY_INT_INDEX_SCALE"), (54, u "JLA"), (0, u "Ljdk/internal/access/JavaLangAccess;"), (11, u "LOG2_ARRAY_BOOLEAN_INDEX_SCALE"), (9, u "LOG2_ARRAY_BYTE_INDEX_SCALE"), (5, u "LOG2_ARRAY_CHAR_INDEX_SCALE"), (5, u "LOG2_ARRAY_SHORT_INDEX_SCALE"), (5, u "mismatch"), (12, u "LOG2_ARRAY_FLOAT_INDEX_SCALE"), (24, u "LOG2_ARRAY_DOUBLE_INDEX_SCALE"), (89, u "T_BOOLEAN"), (2, u "T_CHAR"), (1, u "T_FLOAT"), (1, u "T_DOUBLE"), (1, u "T_BYTE"), (1, u "T_SHORT"), (1, u "T_INT"), (1, u "T_LONG"), (1, u "SOFT_MAX_ARRAY_LENGTH"), (42, u "([BI[BII)I")] 40

def k11m0 : Method := { name := "<init>", desc := "()V", sig := { parameters := [], returnType := none }, accessFlags := 2, code := none }
def k11c1 : Code := { maxStack := 8, maxLocals := 8, code := jdk_48_method_14_code, exceptionTable := #[], attributes := #[] }
def k11m1 : Method := { name := "mismatch", desc := "([BI[BII)I", sig := { parameters := [(.array .byte), .int, (.array .byte), .int, .int], returnType := some .int }, accessFlags := 9, code := some k11c1 }
/-- jdk/internal/util/ArraysSupport -/
def k11 : Class := { plain "jdk/internal/util/ArraysSupport" (some 0) with
  accessFlags := 33
  interfaces := #[]
  cf := some (fileOf pool11 21 #[] #[{ accessFlags := 2, nameIndex := 9, descriptorIndex := 19, attributes := #[] }, { accessFlags := 9, nameIndex := 149, descriptorIndex := 337, attributes := #[] }] 33 16 #[] #[{ accessFlags := 24, nameIndex := 28, descriptorIndex := 29, attributes := #[] }, { accessFlags := 26, nameIndex := 38, descriptorIndex := 39, attributes := #[] }, { accessFlags := 25, nameIndex := 121, descriptorIndex := 25, attributes := #[] }, { accessFlags := 25, nameIndex := 131, descriptorIndex := 25, attributes := #[] }, { accessFlags := 25, nameIndex := 137, descriptorIndex := 25, attributes := #[] }, { accessFlags := 25, nameIndex := 143, descriptorIndex := 25, attributes := #[] }, { accessFlags := 25, nameIndex := 53, descriptorIndex := 25, attributes := #[] }, { accessFlags := 25, nameIndex := 24, descriptorIndex := 25, attributes := #[] }, { accessFlags := 25, nameIndex := 162, descriptorIndex := 25, attributes := #[] }, { accessFlags := 25, nameIndex := 187, descriptorIndex := 25, attributes := #[] }, { accessFlags := 26, nameIndex := 48, descriptorIndex := 25, attributes := #[] }, { accessFlags := 25, nameIndex := 277, descriptorIndex := 25, attributes := #[] }, { accessFlags := 25, nameIndex := 280, descriptorIndex := 25, attributes := #[] }, { accessFlags := 25, nameIndex := 282, descriptorIndex := 25, attributes := #[] }, { accessFlags := 25, nameIndex := 284, descriptorIndex := 25, attributes := #[] }, { accessFlags := 25, nameIndex := 286, descriptorIndex := 25, attributes := #[] }, { accessFlags := 25, nameIndex := 288, descriptorIndex := 25, attributes := #[] }, { accessFlags := 25, nameIndex := 290, descriptorIndex := 25, attributes := #[] }, { accessFlags := 25, nameIndex := 292, descriptorIndex := 25, attributes := #[] }, { accessFlags := 26, nameIndex := 108, descriptorIndex := 109, attributes := #[] }, { accessFlags := 25, nameIndex := 294, descriptorIndex := 25, attributes := #[] }])
  fields := #[{ name := "U", type := (.object "jdk/internal/misc/Unsafe"), accessFlags := 24, slot := 0, constantValue := 0 }, { name := "BIG_ENDIAN", type := .boolean, accessFlags := 26, slot := 1, constantValue := 0 }, { name := "LOG2_ARRAY_BOOLEAN_INDEX_SCALE", type := .int, accessFlags := 25, slot := 2, constantValue := 0 }, { name := "LOG2_ARRAY_BYTE_INDEX_SCALE", type := .int, accessFlags := 25, slot := 3, constantValue := 0 }, { name := "LOG2_ARRAY_CHAR_INDEX_SCALE", type := .int, accessFlags := 25, slot := 4, constantValue := 0 }, { name := "LOG2_ARRAY_SHORT_INDEX_SCALE", type := .int, accessFlags := 25, slot := 5, constantValue := 0 }, { name := "LOG2_ARRAY_INT_INDEX_SCALE", type := .int, accessFlags := 25, slot := 6, constantValue := 0 }, { name := "LOG2_ARRAY_LONG_INDEX_SCALE", type := .int, accessFlags := 25, slot := 7, constantValue := 0 }, { name := "LOG2_ARRAY_FLOAT_INDEX_SCALE", type := .int, accessFlags := 25, slot := 8, constantValue := 0 }, { name := "LOG2_ARRAY_DOUBLE_INDEX_SCALE", type := .int, accessFlags := 25, slot := 9, constantValue := 0 }, { name := "LOG2_BYTE_BIT_SIZE", type := .int, accessFlags := 26, slot := 10, constantValue := 0 }, { name := "T_BOOLEAN", type := .int, accessFlags := 25, slot := 11, constantValue := 0 }, { name := "T_CHAR", type := .int, accessFlags := 25, slot := 12, constantValue := 0 }, { name := "T_FLOAT", type := .int, accessFlags := 25, slot := 13, constantValue := 0 }, { name := "T_DOUBLE", type := .int, accessFlags := 25, slot := 14, constantValue := 0 }, { name := "T_BYTE", type := .int, accessFlags := 25, slot := 15, constantValue := 0 }, { name := "T_SHORT", type := .int, accessFlags := 25, slot := 16, constantValue := 0 }, { name := "T_INT", type := .int, accessFlags := 25, slot := 17, constantValue := 0 }, { name := "T_LONG", type := .int, accessFlags := 25, slot := 18, constantValue := 0 }, { name := "JLA", type := (.object "jdk/internal/access/JavaLangAccess"), accessFlags := 26, slot := 19, constantValue := 0 }, { name := "SOFT_MAX_ARRAY_LENGTH", type := .int, accessFlags := 25, slot := 20, constantValue := 0 }]
  methods := #[k11m0, k11m1]
  instanceTypes := #[]
  staticTypes := #[(.object "jdk/internal/misc/Unsafe"), .boolean, .int, .int, .int, .int, .int, .int, .int, .int, .int, .int, .int, .int, .int, .int, .int, .int, .int, (.object "jdk/internal/access/JavaLangAccess"), .int]
  resolved := Array.replicate 378 none
  statics := none }

def pool12 : Array CpInfo := pool [(2, .class_ 4), (1, u "java/lang/Enum"), (0, u "name"), (0, u "Ljava/lang/String;"), (2, u "ordinal"), (0, u "I"), (1, .class_ 14), (1, u "java/lang/Object"), (4, u "hash"), (86, .class_ 108), (1, u "java/lang/Enum$EnumDesc"), (2, .class_ 112), (0, u "java/lang/constant/Constable"), (0, .class_ 114), (0, u "java/lang/Comparable"), (0, .class_ 116), (0, u "java/io/Serializable")] 87

/-- java/lang/Enum -/
def k12 : Class := { plain "java/lang/Enum" (some 0) with
  accessFlags := 1057
  interfaces := #[5, 3, 2]
  cf := some (fileOf pool12 2 #[.nestMembers #[106]] #[] 1057 12 #[111, 113, 115] #[{ accessFlags := 18, nameIndex := 5, descriptorIndex := 6, attributes := #[] }, { accessFlags := 18, nameIndex := 9, descriptorIndex := 10, attributes := #[] }, { accessFlags := 2, nameIndex := 19, descriptorIndex := 10, attributes := #[] }])
  fields := #[{ name := "name", type := (.object "java/lang/String"), accessFlags := 18, slot := 0, constantValue := 0 }, { name := "ordinal", type := .int, accessFlags := 18, slot := 1, constantValue := 0 }, { name := "hash", type := .int, accessFlags := 2, slot := 2, constantValue := 0 }]
  methods := #[]
  instanceTypes := #[(.object "java/lang/String"), .int, .int]
  staticTypes := #[]
  resolved := Array.replicate 204 none
  statics := none }

def pool13 : Array CpInfo := pool [(1, .class_ 2), (0, u "com/example/millrace/millrace/model/FieldType"), (2, u "BOOLEAN"), (0, u "Lcom/example/millrace/millrace/model/FieldType;"), (2, u "INT"), (2, u "LONG"), (2, u "FLOAT"), (2, u "DOUBLE"), (2, u "STRING"), (2, u "DATE"), (2, u "TIME_MILLIS"), (2, u "TIME_MICROS"), (2, u "TIMESTAMP_MILLIS"), (2, u "TIMESTAMP_MICROS"), (2, u "$VALUES"), (0, u "[Lcom/example/millrace/millrace/model/FieldType;"), (6, .class_ 49), (1, u "java/lang/Enum"), (11, u "typeName"), (0, u "Ljava/lang/String;"), (2, u "primitiveName"), (2, u "valueClass"), (0, u "Ljava/lang/Class;"), (1, .class_ 73), (1, u "java/lang/String"), (146, .methodref 71 221), (0, .nameAndType 222 223), (0, u "length"), (0, u "()I"), (15, .methodref 71 240), (0, .nameAndType 241 242), (0, u "charAt"), (0, u "(I)C"), (6, u "skipDigits"), (0, u "(Ljava/lang/String;I)I"), (38, .class_ 290), (0, u "com/example/millrace/millrace/model/FieldType$1"), (6, .class_ 298), (0, u "com/example/millrace/millrace/model/FieldType$2"), (6, .class_ 306), (0, u "com/example/millrace/millrace/model/FieldType$3"), (6, .class_ 314), (0, u "com/example/millrace/millrace/model/FieldType$4"), (6, .class_ 322), (0, u "com/example/millrace/millrace/model/FieldType$5"), (4, .class_ 328), (0, u "com/example/millrace/millrace/model/FieldType$6"), (4, .class_ 334), (0, u "com/example/millrace/millrace/model/FieldType$7"), (6, .class_ 342), (0, u "com/example/millrace/millrace/model/FieldType$8"), (6, .class_ 350), (0, u "com/example/millrace/millrace/model/FieldType$9"), (4, .class_ 356), (0, u "com/example/millrace/millrace/model/FieldType$10"), (6, .class_ 364), (0, u "com/example/millrace/millrace/model/FieldType$11"), (7, u "MILLIS"), (0, u "I"), (2, u "MICROS"), (1, u "QUOTED_LENGTH"), (1, u "MAX_WHOLE_DIGITS")] 102

def k13c0 : Code := { maxStack := 2, maxLocals := 3, code := prog_25_method_27_code, exceptionTable := #[], attributes := #[] }
def k13m0 : Method := { name := "skipDigits", desc := "(Ljava/lang/String;I)I", sig := { parameters := [(.object "java/lang/String"), .int], returnType := some .int }, accessFlags := 8, code := some k13c0 }
/-- com/example/millrace/millrace/model/FieldType -/
def k13 : Class := { plain "com/example/millrace/millrace/model/FieldType" (some 12) with
  accessFlags := 17441
  interfaces := #[]
  cf := some (fileOf pool13 1 #[.nestMembers #[363, 355, 349, 341, 333, 327, 321, 313, 305, 297, 289]] #[{ accessFlags := 8, nameIndex := 249, descriptorIndex := 250, attributes := #[] }] 17441 47 #[] #[{ accessFlags := 16409, nameIndex := 5, descriptorIndex := 6, attributes := #[] }, { accessFlags := 16409, nameIndex := 9, descriptorIndex := 6, attributes := #[] }, { accessFlags := 16409, nameIndex := 12, descriptorIndex := 6, attributes := #[] }, { accessFlags := 16409, nameIndex := 15, descriptorIndex := 6, attributes := #[] }, { accessFlags := 16409, nameIndex := 18, descriptorIndex := 6, attributes := #[] }, { accessFlags := 16409, nameIndex := 21, descriptorIndex := 6, attributes := #[] }, { accessFlags := 16409, nameIndex := 24, descriptorIndex := 6, attributes := #[] }, { accessFlags := 16409, nameIndex := 27, descriptorIndex := 6, attributes := #[] }, { accessFlags := 16409, nameIndex := 30, descriptorIndex := 6, attributes := #[] }, { accessFlags := 16409, nameIndex := 33, descriptorIndex := 6, attributes := #[] }, { accessFlags := 16409, nameIndex := 36, descriptorIndex := 6, attributes := #[] }, { accessFlags := 26, nameIndex := 372, descriptorIndex := 373, attributes := #[] }, { accessFlags := 26, nameIndex := 376, descriptorIndex := 373, attributes := #[] }, { accessFlags := 26, nameIndex := 378, descriptorIndex := 373, attributes := #[] }, { accessFlags := 26, nameIndex := 380, descriptorIndex := 373, attributes := #[] }, { accessFlags := 18, nameIndex := 61, descriptorIndex := 62, attributes := #[] }, { accessFlags := 18, nameIndex := 65, descriptorIndex := 62, attributes := #[] }, { accessFlags := 18, nameIndex := 68, descriptorIndex := 69, attributes := #[] }, { accessFlags := 4122, nameIndex := 39, descriptorIndex := 40, attributes := #[] }])
  fields := #[{ name := "BOOLEAN", type := (.object "com/example/millrace/millrace/model/FieldType"), accessFlags := 16409, slot := 0, constantValue := 0 }, { name := "INT", type := (.object "com/example/millrace/millrace/model/FieldType"), accessFlags := 16409, slot := 1, constantValue := 0 }, { name := "LONG", type := (.object "com/example/millrace/millrace/model/FieldType"), accessFlags := 16409, slot := 2, constantValue := 0 }, { name := "FLOAT", type := (.object "com/example/millrace/millrace/model/FieldType"), accessFlags := 16409, slot := 3, constantValue := 0 }, { name := "DOUBLE", type := (.object "com/example/millrace/millrace/model/FieldType"), accessFlags := 16409, slot := 4, constantValue := 0 }, { name := "STRING", type := (.object "com/example/millrace/millrace/model/FieldType"), accessFlags := 16409, slot := 5, constantValue := 0 }, { name := "DATE", type := (.object "com/example/millrace/millrace/model/FieldType"), accessFlags := 16409, slot := 6, constantValue := 0 }, { name := "TIME_MILLIS", type := (.object "com/example/millrace/millrace/model/FieldType"), accessFlags := 16409, slot := 7, constantValue := 0 }, { name := "TIME_MICROS", type := (.object "com/example/millrace/millrace/model/FieldType"), accessFlags := 16409, slot := 8, constantValue := 0 }, { name := "TIMESTAMP_MILLIS", type := (.object "com/example/millrace/millrace/model/FieldType"), accessFlags := 16409, slot := 9, constantValue := 0 }, { name := "TIMESTAMP_MICROS", type := (.object "com/example/millrace/millrace/model/FieldType"), accessFlags := 16409, slot := 10, constantValue := 0 }, { name := "MILLIS", type := .int, accessFlags := 26, slot := 11, constantValue := 0 }, { name := "MICROS", type := .int, accessFlags := 26, slot := 12, constantValue := 0 }, { name := "QUOTED_LENGTH", type := .int, accessFlags := 26, slot := 13, constantValue := 0 }, { name := "MAX_WHOLE_DIGITS", type := .int, accessFlags := 26, slot := 14, constantValue := 0 }, { name := "typeName", type := (.object "java/lang/String"), accessFlags := 18, slot := 3, constantValue := 0 }, { name := "primitiveName", type := (.object "java/lang/String"), accessFlags := 18, slot := 4, constantValue := 0 }, { name := "valueClass", type := (.object "java/lang/Class"), accessFlags := 18, slot := 5, constantValue := 0 }, { name := "$VALUES", type := (.array (.object "com/example/millrace/millrace/model/FieldType")), accessFlags := 4122, slot := 15, constantValue := 0 }]
  methods := #[k13m0]
  instanceTypes := #[(.object "java/lang/String"), .int, .int, (.object "java/lang/String"), (.object "java/lang/String"), (.object "java/lang/Class")]
  staticTypes := #[(.object "com/example/millrace/millrace/model/FieldType"), (.object "com/example/millrace/millrace/model/FieldType"), (.object "com/example/millrace/millrace/model/FieldType"), (.object "com/example/millrace/millrace/model/FieldType"), (.object "com/example/millrace/millrace/model/FieldType"), (.object "com/example/millrace/millrace/model/FieldType"), (.object "com/example/millrace/millrace/model/FieldType"), (.object "com/example/millrace/millrace/model/FieldType"), (.object "com/example/millrace/millrace/model/FieldType"), (.object "com/example/millrace/millrace/model/FieldType"), (.object "com/example/millrace/millrace/model/FieldType"), .int, .int, .int, .int, (.array (.object "com/example/millrace/millrace/model/FieldType"))]
  resolved := Array.replicate 483 none
  statics := none }

def pool14 : Array CpInfo := pool [(1, .class_ 2), (0, u "java/lang/String"), (1, .class_ 6), (1, u "java/lang/Object"), (0, u "<init>"), (0, u "()V"), (0, .methodref 1 10), (0, .nameAndType 11 12), (0, u "checkIndex"), (0, u "(II)V"), (1, .class_ 16), (1, u "java/lang/StringLatin1"), (36, u "([BI)C"), (67, u "$assertionsDisabled"), (0, u "Z"), (98, .class_ 223), (1, u "java/lang/StringLatin1$LinesSpliterator"), (28, u "charAt"), (28, u "equals"), (0, u "([B[B)Z"), (107, .class_ 391), (0, u "java/lang/StringLatin1$CharsSpliterator")] 3

def k14m0 : Method := { name := "<init>", desc := "()V", sig := { parameters := [], returnType := none }, accessFlags := 0, code := none }
def k14c1 : Code := { maxStack := 2, maxLocals := 2, code := jdk_43_method_2_code, exceptionTable := #[], attributes := #[] }
def k14m1 : Method := { name := "charAt", desc := "([BI)C", sig := { parameters := [(.array .byte), .int], returnType := some .char }, accessFlags := 9, code := some k14c1 }
def k14c2 : Code := { maxStack := 3, maxLocals := 3, code := jdk_43_method_13_code, exceptionTable := #[], attributes := #[] }
def k14m2 : Method := { name := "equals", desc := "([B[B)Z", sig := { parameters := [(.array .byte), (.array .byte)], returnType := some .boolean }, accessFlags := 9, code := some k14c2 }
/-- java/lang/StringLatin1 -/
def k14 : Class := { plain "java/lang/StringLatin1" (some 0) with
  accessFlags := 48
  interfaces := #[]
  cf := some (fileOf pool14 14 #[.nestMembers #[390, 221]] #[{ accessFlags := 0, nameIndex := 7, descriptorIndex := 8, attributes := #[] }, { accessFlags := 9, nameIndex := 252, descriptorIndex := 53, attributes := #[] }, { accessFlags := 9, nameIndex := 281, descriptorIndex := 282, attributes := #[] }] 48 4 #[] #[{ accessFlags := 4120, nameIndex := 121, descriptorIndex := 122, attributes := #[] }])
  fields := #[{ name := "$assertionsDisabled", type := .boolean, accessFlags := 4120, slot := 0, constantValue := 0 }]
  methods := #[k14m0, k14m1, k14m2]
  instanceTypes := #[]
  staticTypes := #[.boolean]
  resolved := Array.replicate 395 none
  statics := none }

def pool15 : Array CpInfo := pool [(2, .class_ 4), (1, u "java/lang/Object"), (0, u "<init>"), (0, u "()V"), (17, .class_ 26), (1, u "jdk/internal/util/Preconditions"), (6, u "checkIndex"), (21, .class_ 56), (0, u "jdk/internal/util/Preconditions$4"), (57, .class_ 115), (0, u "jdk/internal/util/Preconditions$1"), (7, u "SIOOBE_FORMATTER"), (0, u "Ljava/util/function/BiFunction;"), (0, .class_ 126), (0, u "jdk/internal/util/Preconditions$2"), (3, u "AIOOBE_FORMATTER"), (0, .class_ 132), (0, u "jdk/internal/util/Preconditions$3"), (3, u "IOOBE_FORMATTER"), (41, u "(IILjava/util/function/BiFunction;)I")] 15

def k15m0 : Method := { name := "<init>", desc := "()V", sig := { parameters := [], returnType := none }, accessFlags := 1, code := none }
def k15c1 : Code := { maxStack := 3, maxLocals := 3, code := jdk_41_method_11_code, exceptionTable := #[], attributes := #[] }
def k15m1 : Method := { name := "checkIndex", desc := "(IILjava/util/function/BiFunction;)I", sig := { parameters := [.int, .int, (.object "java/util/function/BiFunction")], returnType := some .int }, accessFlags := 9, code := some k15c1 }
/-- jdk/internal/util/Preconditions -/
def k15 : Class := { plain "jdk/internal/util/Preconditions" (some 0) with
  accessFlags := 33
  interfaces := #[]
  cf := some (fileOf pool15 24 #[.nestMembers #[55, 131, 125, 114]] #[{ accessFlags := 1, nameIndex := 5, descriptorIndex := 6, attributes := #[] }, { accessFlags := 9, nameIndex := 33, descriptorIndex := 178, attributes := #[] }] 33 2 #[] #[{ accessFlags := 25, nameIndex := 123, descriptorIndex := 124, attributes := #[] }, { accessFlags := 25, nameIndex := 130, descriptorIndex := 124, attributes := #[] }, { accessFlags := 25, nameIndex := 136, descriptorIndex := 124, attributes := #[] }])
  fields := #[{ name := "SIOOBE_FORMATTER", type := (.object "java/util/function/BiFunction"), accessFlags := 25, slot := 0, constantValue := 0 }, { name := "AIOOBE_FORMATTER", type := (.object "java/util/function/BiFunction"), accessFlags := 25, slot := 1, constantValue := 0 }, { name := "IOOBE_FORMATTER", type := (.object "java/util/function/BiFunction"), accessFlags := 25, slot := 2, constantValue := 0 }]
  methods := #[k15m0, k15m1]
  instanceTypes := #[]
  staticTypes := #[(.object "java/util/function/BiFunction"), (.object "java/util/function/BiFunction"), (.object "java/util/function/BiFunction")]
  resolved := Array.replicate 194 none
  statics := some 1 }

def pool16 : Array CpInfo := pool [(1, u "java/lang/Cloneable"), (0, .class_ 1), (0, u "java/lang/Object"), (0, .class_ 3)] 3

/-- java/lang/Cloneable -/
def k16 : Class := { plain "java/lang/Cloneable" (some 0) with
  accessFlags := 1537
  interfaces := #[]
  cf := some (fileOf pool16 2 #[] #[] 1537 4 #[] #[])
  fields := #[]
  methods := #[]
  instanceTypes := #[]
  staticTypes := #[]
  resolved := Array.replicate 8 none
  statics := none }

/-- the primitive byte -/
def k17 : Class := { plain "byte" none with kind := .primitive 'B', accessFlags := 0x411 }
/-- [B -/
def k18 : Class := { plain "[B" (some 0) with kind := .array 17 .byte, interfaces := #[16, 2], accessFlags := 1041 }

/-- the primitive char -/
def k19 : Class := { plain "char" none with kind := .primitive 'C', accessFlags := 0x411 }
/-- [C -/
def k20 : Class := { plain "[C" (some 0) with kind := .array 19 .char, interfaces := #[16, 2], accessFlags := 1041 }

/-- the primitive int -/
def k21 : Class := { plain "int" none with kind := .primitive 'I', accessFlags := 0x411 }
/-- [I -/
def k22 : Class := { plain "[I" (some 0) with kind := .array 21 .int, interfaces := #[16, 2], accessFlags := 1041 }

def heap : Heap := #[{ cls := 7, slots := #[.long 0, .int 1, .null, .int 0, .null, .int 0, .int 0], vm := .statics 7 },
  { cls := 15, slots := #[.null, .null, .null], vm := .statics 15 }]
def classes : Array Class := #[k0, k1, k2, k3, k4, k5, k6, k7, k8, k9, k10, k11, k12, k13, k14, k15, k16, k17, k18, k19, k20, k21, k22]
def interned : List (Array UInt16 × Addr) := []
def slotsUsed : Nat := 10
def theMethod : MethodId := ⟨1, 4⟩
def args0 : Array Value := #[.int 5, .int 5, .int 5]
def aboutOver (below : List Frame) : State where
  vm := { classes := classes, interned := interned.toArray }
  heap := heap
  slotsUsed := slotsUsed
  threads := #[{ frames := .invoking theMethod args0 :: below }]
def below0 : List Frame := [.native { method := ⟨0, 0⟩, args := #[] }]
def about1 : State := aboutOver below0
def p0 : Program := .bare "" "" ""
def e0 : Env := launch0.env 0 0 0
theorem w_frames : about1.frames = Frame.invoking theMethod args0 :: below0 := rfl
set_option maxRecDepth 65536 in
theorem w_args : argsFit about1.vm theMethod args0 = true := by decide +kernel
set_option maxRecDepth 65536 in
theorem w_heap : heapFits about1 = true := by decide +kernel
set_option maxRecDepth 65536 in
theorem w_runnable : about1.curStatus? = some .runnable := by decide +kernel
set_option maxRecDepth 65536 in
theorem w_alone : about1.alone = true := by decide +kernel
set_option maxRecDepth 65536 in
theorem w_named : about1.methodNamed? x = some theMethod := by decide +kernel
set_option maxRecDepth 65536 in
theorem w_hears : about1.hears theMethod below0 = true := by decide +kernel
set_option maxRecDepth 65536 in
theorem w_ripe : about1.ripe theMethod args0 below0 = true := by decide +kernel
theorem w_running : about1.status = .running := rfl
set_option maxRecDepth 65536 in
theorem w_room : about1.hasRoom e0.platform room_1 = true :=
  launch0.hasRoom_least _ room_1 (by decide +kernel) (by decide +kernel) (by decide +kernel) (by decide +kernel) (by decide +kernel) (by decide +kernel)
theorem allAtoms_all (ts : List Jvm.Cond) (a : Array Jvm.Value) (st : Jvm.State) : (allAtoms ts).before a st = ts.all (fun c => c.before a st) := by
  induction ts with
  | nil => rfl
  | cons c t ih =>
    show (Jvm.Cond.and c (allAtoms t)).before a st = _
    rw [Jvm.Cond.before_and, ih, List.all_cons]
def words1 : List Jvm.Cond := Jvm.Cond.code x code maxLocals ret :: tables_1
/-- a 'code' word, met by the world's own term for the bytes: nothing is compared byte by byte -/
theorem code_word {y : MethodName} {bytes : ByteArray} {mx : Nat} {rt : Option FieldType} {a : Array Value} {s : State} {m : MethodId} {meth : Method} {c : Code} (h1 : s.methodNamed? y = some m) (h2 : s.vm.method? m = some meth) (h3 : meth.code = some c) (h4 : c.code = bytes)
    (h5 : (c.maxLocals == mx && c.exceptionTable.isEmpty && decide (c.maxStack ≤ mostOperands) && decide (meth.sig.returnType = rt) && !meth.locks && decide (parseMethodDescriptor y.desc = some meth.sig)) = true) : (Jvm.Cond.code y bytes mx rt).before a s = true := by
  simp only [Bool.and_eq_true, beq_iff_eq, Bool.not_eq_true', decide_eq_true_eq] at h5
  obtain ⟨⟨⟨⟨⟨g1, g2⟩, g3⟩, g4⟩, g5⟩, g6⟩ := h5
  simp [Cond.before, Cond.holds, Cond.value, h1, h2, h3, h4, g1, g2, g3, g4, g5, g6]
def isCode : Jvm.Cond → Bool
  | .code _ _ _ _ => true
  | _ => false
theorem all_split {L : List Jvm.Cond} {P : Jvm.Cond → Bool} (h1 : L.all (fun c => isCode c || P c) = true) (h2 : ∀ c ∈ L.filter isCode, P c = true) : L.all P = true := by
  refine List.all_eq_true.mpr fun c hc => ?_
  have h := List.all_eq_true.mp h1 c hc
  rcases Bool.eq_false_or_eq_true (isCode c) with hi | hi
  · exact h2 c (List.mem_filter.mpr ⟨hc, hi⟩)
  · simpa [hi] using h
set_option maxRecDepth 65536 in
theorem w_c0 : (Jvm.Cond.code x code maxLocals ret).before args0 about1 = true := code_word (m := ⟨1, 4⟩) (meth := k1m4) (c := k1c4) (by decide +kernel) rfl rfl rfl (by decide +kernel)
set_option maxRecDepth 65536 in
theorem w_c1 : (Jvm.Cond.code ({ cls := "com/example/millrace/millrace/model/NumeralEqualsPinLaw", name := "make", desc := "(I)Ljava/lang/String;" } : Jvm.MethodName) method_3_code (6 : Nat) (Option.some (Jvm.ClassFile.FieldType.object "java/lang/String"))).before args0 about1 = true := code_word (m := ⟨1, 2⟩) (meth := k1m2) (c := k1c2) (by decide +kernel) rfl rfl rfl (by decide +kernel)
set_option maxRecDepth 65536 in
theorem w_c2 : (Jvm.Cond.code ({ cls := "com/example/millrace/millrace/model/NumeralEqualsPinLaw", name := "digit", desc := "(I)C" } : Jvm.MethodName) method_2_code (1 : Nat) (Option.some Jvm.ClassFile.FieldType.char)).before args0 about1 = true := code_word (m := ⟨1, 1⟩) (meth := k1m1) (c := k1c1) (by decide +kernel) rfl rfl rfl (by decide +kernel)
set_option maxRecDepth 65536 in
theorem w_c3 : (Jvm.Cond.code ({ cls := "java/lang/String", name := "<init>", desc := "([C)V" } : Jvm.MethodName) jdk_42_method_3_code (2 : Nat) (Option.none : Option Jvm.ClassFile.FieldType)).before args0 about1 = true := code_word (m := ⟨7, 1⟩) (meth := k7m1) (c := k7c1) (by decide +kernel) rfl rfl rfl (by decide +kernel)
set_option maxRecDepth 65536 in
theorem w_c4 : (Jvm.Cond.code ({ cls := "java/lang/String", name := "<init>", desc := "([CIILjava/lang/Void;)V" } : Jvm.MethodName) jdk_42_method_149_code (6 : Nat) (Option.none : Option Jvm.ClassFile.FieldType)).before args0 about1 = true := code_word (m := ⟨7, 7⟩) (meth := k7m7) (c := k7c7) (by decide +kernel) rfl rfl rfl (by decide +kernel)
set_option maxRecDepth 65536 in
theorem w_c5 : (Jvm.Cond.code ({ cls := "java/lang/Object", name := "<init>", desc := "()V" } : Jvm.MethodName) object_method_1_code (1 : Nat) (Option.none : Option Jvm.ClassFile.FieldType)).before args0 about1 = true := code_word (m := ⟨0, 0⟩) (meth := k0m0) (c := k0c0) (by decide +kernel) rfl rfl rfl (by decide +kernel)
set_option maxRecDepth 65536 in
theorem w_c6 : (Jvm.Cond.code ({ cls := "java/lang/StringUTF16", name := "compress", desc := "([CII)[B" } : Jvm.MethodName) jdk_52_method_16_code (6 : Nat) (Option.some (Jvm.ClassFile.FieldType.array Jvm.ClassFile.FieldType.byte))).before args0 about1 = true := code_word (m := ⟨8, 2⟩) (meth := k8m2) (c := k8c2) (by decide +kernel) rfl rfl rfl (by decide +kernel)
set_option maxRecDepth 65536 in
theorem w_c7 : (Jvm.Cond.code ({ cls := "java/lang/StringUTF16", name := "compress", desc := "([CI[BII)I" } : Jvm.MethodName) jdk_52_method_21_code (7 : Nat) (Option.some Jvm.ClassFile.FieldType.int)).before args0 about1 = true := code_word (m := ⟨8, 3⟩) (meth := k8m3) (c := k8c3) (by decide +kernel) rfl rfl rfl (by decide +kernel)
set_option maxRecDepth 65536 in
theorem w_c8 : (Jvm.Cond.code ({ cls := "java/lang/StringUTF16", name := "coderFromArrayLen", desc := "([BI)B" } : Jvm.MethodName) jdk_52_method_15_code (2 : Nat) (Option.some Jvm.ClassFile.FieldType.byte)).before args0 about1 = true := code_word (m := ⟨8, 1⟩) (meth := k8m1) (c := k8c1) (by decide +kernel) rfl rfl rfl (by decide +kernel)
set_option maxRecDepth 65536 in
theorem w_c9 : (Jvm.Cond.code ({ cls := "com/example/millrace/millrace/model/Numeral", name := "<init>", desc := "(Ljava/lang/String;)V" } : Jvm.MethodName) prog_37_method_1_code (2 : Nat) (Option.none : Option Jvm.ClassFile.FieldType)).before args0 about1 = true := code_word (m := ⟨9, 0⟩) (meth := k9m0) (c := k9c0) (by decide +kernel) rfl rfl rfl (by decide +kernel)
set_option maxRecDepth 65536 in
theorem w_c10 : (Jvm.Cond.code ({ cls := "java/util/Objects", name := "requireNonNull", desc := "(Ljava/lang/Object;Ljava/lang/String;)Ljava/lang/Object;" } : Jvm.MethodName) jdk_31_method_11_code (2 : Nat) (Option.some (Jvm.ClassFile.FieldType.object "java/lang/Object"))).before args0 about1 = true := code_word (m := ⟨10, 1⟩) (meth := k10m1) (c := k10c1) (by decide +kernel) rfl rfl rfl (by decide +kernel)
set_option maxRecDepth 65536 in
theorem w_c11 : (Jvm.Cond.code ({ cls := "com/example/millrace/millrace/model/Numeral", name := "isJsonNumber", desc := "(Ljava/lang/String;)Z" } : Jvm.MethodName) prog_37_method_8_code (4 : Nat) (Option.some Jvm.ClassFile.FieldType.boolean)).before args0 about1 = true := code_word (m := ⟨9, 2⟩) (meth := k9m2) (c := k9c2) (by decide +kernel) rfl rfl rfl (by decide +kernel)
set_option maxRecDepth 65536 in
theorem w_c12 : (Jvm.Cond.code ({ cls := "java/lang/String", name := "startsWith", desc := "(Ljava/lang/String;)Z" } : Jvm.MethodName) jdk_42_method_76_code (2 : Nat) (Option.some Jvm.ClassFile.FieldType.boolean)).before args0 about1 = true := code_word (m := ⟨7, 6⟩) (meth := k7m6) (c := k7c6) (by decide +kernel) rfl rfl rfl (by decide +kernel)
set_option maxRecDepth 65536 in
theorem w_c13 : (Jvm.Cond.code ({ cls := "java/lang/String", name := "startsWith", desc := "(Ljava/lang/String;I)Z" } : Jvm.MethodName) jdk_42_method_75_code (8 : Nat) (Option.some Jvm.ClassFile.FieldType.boolean)).before args0 about1 = true := code_word (m := ⟨7, 5⟩) (meth := k7m5) (c := k7c5) (by decide +kernel) rfl rfl rfl (by decide +kernel)
set_option maxRecDepth 65536 in
theorem w_c14 : (Jvm.Cond.code ({ cls := "java/lang/String", name := "length", desc := "()I" } : Jvm.MethodName) jdk_42_method_54_code (1 : Nat) (Option.some Jvm.ClassFile.FieldType.int)).before args0 about1 = true := code_word (m := ⟨7, 2⟩) (meth := k7m2) (c := k7c2) (by decide +kernel) rfl rfl rfl (by decide +kernel)
set_option maxRecDepth 65536 in
theorem w_c15 : (Jvm.Cond.code ({ cls := "java/lang/String", name := "coder", desc := "()B" } : Jvm.MethodName) jdk_42_method_152_code (1 : Nat) (Option.some Jvm.ClassFile.FieldType.byte)).before args0 about1 = true := code_word (m := ⟨7, 8⟩) (meth := k7m8) (c := k7c8) (by decide +kernel) rfl rfl rfl (by decide +kernel)
set_option maxRecDepth 65536 in
theorem w_c16 : (Jvm.Cond.code ({ cls := "jdk/internal/util/ArraysSupport", name := "mismatch", desc := "([BI[BII)I" } : Jvm.MethodName) jdk_48_method_14_code (8 : Nat) (Option.some Jvm.ClassFile.FieldType.int)).before args0 about1 = true := code_word (m := ⟨11, 1⟩) (meth := k11m1) (c := k11c1) (by decide +kernel) rfl rfl rfl (by decide +kernel)
set_option maxRecDepth 65536 in
theorem w_c17 : (Jvm.Cond.code ({ cls := "com/example/millrace/millrace/model/FieldType", name := "skipDigits", desc := "(Ljava/lang/String;I)I" } : Jvm.MethodName) prog_25_method_27_code (3 : Nat) (Option.some Jvm.ClassFile.FieldType.int)).before args0 about1 = true := code_word (m := ⟨13, 0⟩) (meth := k13m0) (c := k13c0) (by decide +kernel) rfl rfl rfl (by decide +kernel)
set_option maxRecDepth 65536 in
theorem w_c18 : (Jvm.Cond.code ({ cls := "java/lang/String", name := "charAt", desc := "(I)C" } : Jvm.MethodName) jdk_42_method_56_code (2 : Nat) (Option.some Jvm.ClassFile.FieldType.char)).before args0 about1 = true := code_word (m := ⟨7, 3⟩) (meth := k7m3) (c := k7c3) (by decide +kernel) rfl rfl rfl (by decide +kernel)
set_option maxRecDepth 65536 in
theorem w_c19 : (Jvm.Cond.code ({ cls := "java/lang/String", name := "isLatin1", desc := "()Z" } : Jvm.MethodName) jdk_42_method_154_code (1 : Nat) (Option.some Jvm.ClassFile.FieldType.boolean)).before args0 about1 = true := code_word (m := ⟨7, 9⟩) (meth := k7m9) (c := k7c9) (by decide +kernel) rfl rfl rfl (by decide +kernel)
set_option maxRecDepth 65536 in
theorem w_c20 : (Jvm.Cond.code ({ cls := "java/lang/StringLatin1", name := "charAt", desc := "([BI)C" } : Jvm.MethodName) jdk_43_method_2_code (2 : Nat) (Option.some Jvm.ClassFile.FieldType.char)).before args0 about1 = true := code_word (m := ⟨14, 1⟩) (meth := k14m1) (c := k14c1) (by decide +kernel) rfl rfl rfl (by decide +kernel)
set_option maxRecDepth 65536 in
theorem w_c21 : (Jvm.Cond.code ({ cls := "java/lang/String", name := "checkIndex", desc := "(II)V" } : Jvm.MethodName) jdk_42_method_155_code (2 : Nat) (Option.none : Option Jvm.ClassFile.FieldType)).before args0 about1 = true := code_word (m := ⟨7, 10⟩) (meth := k7m10) (c := k7c10) (by decide +kernel) rfl rfl rfl (by decide +kernel)
set_option maxRecDepth 65536 in
theorem w_c22 : (Jvm.Cond.code ({ cls := "jdk/internal/util/Preconditions", name := "checkIndex", desc := "(IILjava/util/function/BiFunction;)I" } : Jvm.MethodName) jdk_41_method_11_code (3 : Nat) (Option.some Jvm.ClassFile.FieldType.int)).before args0 about1 = true := code_word (m := ⟨15, 1⟩) (meth := k15m1) (c := k15c1) (by decide +kernel) rfl rfl rfl (by decide +kernel)
set_option maxRecDepth 65536 in
theorem w_c23 : (Jvm.Cond.code ({ cls := "com/example/millrace/millrace/model/NumeralEqualsPinLaw", name := "sameText", desc := "(Ljava/lang/String;Ljava/lang/String;)Z" } : Jvm.MethodName) method_4_code (4 : Nat) (Option.some Jvm.ClassFile.FieldType.boolean)).before args0 about1 = true := code_word (m := ⟨1, 3⟩) (meth := k1m3) (c := k1c3) (by decide +kernel) rfl rfl rfl (by decide +kernel)
set_option maxRecDepth 65536 in
theorem w_c24 : (Jvm.Cond.code ({ cls := "com/example/millrace/millrace/model/Numeral", name := "equals", desc := "(Ljava/lang/Object;)Z" } : Jvm.MethodName) prog_37_method_5_code (2 : Nat) (Option.some Jvm.ClassFile.FieldType.boolean)).before args0 about1 = true := code_word (m := ⟨9, 1⟩) (meth := k9m1) (c := k9c1) (by decide +kernel) rfl rfl rfl (by decide +kernel)
set_option maxRecDepth 65536 in
theorem w_c25 : (Jvm.Cond.code ({ cls := "java/lang/String", name := "equals", desc := "(Ljava/lang/Object;)Z" } : Jvm.MethodName) jdk_42_method_66_code (3 : Nat) (Option.some Jvm.ClassFile.FieldType.boolean)).before args0 about1 = true := code_word (m := ⟨7, 4⟩) (meth := k7m4) (c := k7c4) (by decide +kernel) rfl rfl rfl (by decide +kernel)
set_option maxRecDepth 65536 in
theorem w_c26 : (Jvm.Cond.code ({ cls := "java/lang/StringLatin1", name := "equals", desc := "([B[B)Z" } : Jvm.MethodName) jdk_43_method_13_code (3 : Nat) (Option.some Jvm.ClassFile.FieldType.boolean)).before args0 about1 = true := code_word (m := ⟨14, 2⟩) (meth := k14m2) (c := k14c2) (by decide +kernel) rfl rfl rfl (by decide +kernel)
def codes1 : List Jvm.Cond := [Jvm.Cond.code x code maxLocals ret, Jvm.Cond.code ({ cls := "com/example/millrace/millrace/model/NumeralEqualsPinLaw", name := "make", desc := "(I)Ljava/lang/String;" } : Jvm.MethodName) method_3_code (6 : Nat) (Option.some (Jvm.ClassFile.FieldType.object "java/lang/String")), Jvm.Cond.code ({ cls := "com/example/millrace/millrace/model/NumeralEqualsPinLaw", name := "digit", desc := "(I)C" } : Jvm.MethodName) method_2_code (1 : Nat) (Option.some Jvm.ClassFile.FieldType.char), Jvm.Cond.code ({ cls := "java/lang/String", name := "<init>", desc := "([C)V" } : Jvm.MethodName) jdk_42_method_3_code (2 : Nat) (Option.none : Option Jvm.ClassFile.FieldType), Jvm.Cond.code ({ cls := "java/lang/String", name := "<init>", desc := "([CIILjava/lang/Void;)V" } : Jvm.MethodName) jdk_42_method_149_code (6 : Nat) (Option.none : Option Jvm.ClassFile.FieldType), Jvm.Cond.code ({ cls := "java/lang/Object", name := "<init>", desc := "()V" } : Jvm.MethodName) object_method_1_code (1 : Nat) (Option.none : Option Jvm.ClassFile.FieldType), Jvm.Cond.code ({ cls := "java/lang/StringUTF16", name := "compress", desc := "([CII)[B" } : Jvm.MethodName) jdk_52_method_16_code (6 : Nat) (Option.some (Jvm.ClassFile.FieldType.array Jvm.ClassFile.FieldType.byte)), Jvm.Cond.code ({ cls := "java/lang/StringUTF16", name := "compress", desc := "([CI[BII)I" } : Jvm.MethodName) jdk_52_method_21_code (7 : Nat) (Option.some Jvm.ClassFile.FieldType.int), Jvm.Cond.code ({ cls := "java/lang/StringUTF16", name := "coderFromArrayLen", desc := "([BI)B" } : Jvm.MethodName) jdk_52_method_15_code (2 : Nat) (Option.some Jvm.ClassFile.FieldType.byte), Jvm.Cond.code ({ cls := "com/example/millrace/millrace/model/Numeral", name := "<init>", desc := "(Ljava/lang/String;)V" } : Jvm.MethodName) prog_37_method_1_code (2 : Nat) (Option.none : Option Jvm.ClassFile.FieldType), Jvm.Cond.code ({ cls := "java/util/Objects", name := "requireNonNull", desc := "(Ljava/lang/Object;Ljava/lang/String;)Ljava/lang/Object;" } : Jvm.MethodName) jdk_31_method_11_code (2 : Nat) (Option.some (Jvm.ClassFile.FieldType.object "java/lang/Object")), Jvm.Cond.code ({ cls := "com/example/millrace/millrace/model/Numeral", name := "isJsonNumber", desc := "(Ljava/lang/String;)Z" } : Jvm.MethodName) prog_37_method_8_code (4 : Nat) (Option.some Jvm.ClassFile.FieldType.boolean), Jvm.Cond.code ({ cls := "java/lang/String", name := "startsWith", desc := "(Ljava/lang/String;)Z" } : Jvm.MethodName) jdk_42_method_76_code (2 : Nat) (Option.some Jvm.ClassFile.FieldType.boolean), Jvm.Cond.code ({ cls := "java/lang/String", name := "startsWith", desc := "(Ljava/lang/String;I)Z" } : Jvm.MethodName) jdk_42_method_75_code (8 : Nat) (Option.some Jvm.ClassFile.FieldType.boolean), Jvm.Cond.code ({ cls := "java/lang/String", name := "length", desc := "()I" } : Jvm.MethodName) jdk_42_method_54_code (1 : Nat) (Option.some Jvm.ClassFile.FieldType.int), Jvm.Cond.code ({ cls := "java/lang/String", name := "coder", desc := "()B" } : Jvm.MethodName) jdk_42_method_152_code (1 : Nat) (Option.some Jvm.ClassFile.FieldType.byte), Jvm.Cond.code ({ cls := "jdk/internal/util/ArraysSupport", name := "mismatch", desc := "([BI[BII)I" } : Jvm.MethodName) jdk_48_method_14_code (8 : Nat) (Option.some Jvm.ClassFile.FieldType.int), Jvm.Cond.code ({ cls := "com/example/millrace/millrace/model/FieldType", name := "skipDigits", desc := "(Ljava/lang/String;I)I" } : Jvm.MethodName) prog_25_method_27_code (3 : Nat) (Option.some Jvm.ClassFile.FieldType.int), Jvm.Cond.code ({ cls := "java/lang/String", name := "charAt", desc := "(I)C" } : Jvm.MethodName) jdk_42_method_56_code (2 : Nat) (Option.some Jvm.ClassFile.FieldType.char), Jvm.Cond.code ({ cls := "java/lang/String", name := "isLatin1", desc := "()Z" } : Jvm.MethodName) jdk_42_method_154_code (1 : Nat) (Option.some Jvm.ClassFile.FieldType.boolean), Jvm.Cond.code ({ cls := "java/lang/StringLatin1", name := "charAt", desc := "([BI)C" } : Jvm.MethodName) jdk_43_method_2_code (2 : Nat) (Option.some Jvm.ClassFile.FieldType.char), Jvm.Cond.code ({ cls := "java/lang/String", name := "checkIndex", desc := "(II)V" } : Jvm.MethodName) jdk_42_method_155_code (2 : Nat) (Option.none : Option Jvm.ClassFile.FieldType), Jvm.Cond.code ({ cls := "jdk/internal/util/Preconditions", name := "checkIndex", desc := "(IILjava/util/function/BiFunction;)I" } : Jvm.MethodName) jdk_41_method_11_code (3 : Nat) (Option.some Jvm.ClassFile.FieldType.int), Jvm.Cond.code ({ cls := "com/example/millrace/millrace/model/NumeralEqualsPinLaw", name := "sameText", desc := "(Ljava/lang/String;Ljava/lang/String;)Z" } : Jvm.MethodName) method_4_code (4 : Nat) (Option.some Jvm.ClassFile.FieldType.boolean), Jvm.Cond.code ({ cls := "com/example/millrace/millrace/model/Numeral", name := "equals", desc := "(Ljava/lang/Object;)Z" } : Jvm.MethodName) prog_37_method_5_code (2 : Nat) (Option.some Jvm.ClassFile.FieldType.boolean), Jvm.Cond.code ({ cls := "java/lang/String", name := "equals", desc := "(Ljava/lang/Object;)Z" } : Jvm.MethodName) jdk_42_method_66_code (3 : Nat) (Option.some Jvm.ClassFile.FieldType.boolean), Jvm.Cond.code ({ cls := "java/lang/StringLatin1", name := "equals", desc := "([B[B)Z" } : Jvm.MethodName) jdk_43_method_13_code (3 : Nat) (Option.some Jvm.ClassFile.FieldType.boolean)]
set_option maxRecDepth 65536 in
theorem codes_eq : words1.filter isCode = codes1 := rfl
theorem w_codes : ∀ c ∈ words1.filter isCode, c.before args0 about1 = true := by
  rw [codes_eq]
  intro c hc
  simp only [codes1, List.mem_cons, List.not_mem_nil, or_false] at hc
  rcases hc with rfl | rfl | rfl | rfl | rfl | rfl | rfl | rfl | rfl | rfl | rfl | rfl | rfl | rfl | rfl | rfl | rfl | rfl | rfl | rfl | rfl | rfl | rfl | rfl | rfl | rfl | rfl
  · exact w_c0
  · exact w_c1
  · exact w_c2
  · exact w_c3
  · exact w_c4
  · exact w_c5
  · exact w_c6
  · exact w_c7
  · exact w_c8
  · exact w_c9
  · exact w_c10
  · exact w_c11
  · exact w_c12
  · exact w_c13
  · exact w_c14
  · exact w_c15
  · exact w_c16
  · exact w_c17
  · exact w_c18
  · exact w_c19
  · exact w_c20
  · exact w_c21
  · exact w_c22
  · exact w_c23
  · exact w_c24
  · exact w_c25
  · exact w_c26
set_option maxRecDepth 65536 in
theorem w_t1 : (words1.take 24).all (fun c => isCode c || c.before args0 about1) = true := by decide +kernel
set_option maxRecDepth 65536 in
theorem w_t2 : ((words1.drop 24).take 24).all (fun c => isCode c || c.before args0 about1) = true := by decide +kernel
set_option maxRecDepth 65536 in
theorem w_t3 : (((words1.drop 24).drop 24).take 24).all (fun c => isCode c || c.before args0 about1) = true := by decide +kernel
set_option maxRecDepth 65536 in
theorem w_t4 : ((((words1.drop 24).drop 24).drop 24).take 24).all (fun c => isCode c || c.before args0 about1) = true := by decide +kernel
set_option maxRecDepth 65536 in
theorem w_t5 : (((((words1.drop 24).drop 24).drop 24).drop 24).take 24).all (fun c => isCode c || c.before args0 about1) = true := by decide +kernel
set_option maxRecDepth 65536 in
theorem w_t6 : (((((words1.drop 24).drop 24).drop 24).drop 24).drop 24).all (fun c => isCode c || c.before args0 about1) = true := by decide +kernel
theorem w_tables : (allAtoms (Jvm.Cond.code x code maxLocals ret :: tables_1)).before args0 about1 = true := by
  rw [allAtoms_all]
  show words1.all (fun c => c.before args0 about1) = true
  refine all_split ?_ w_codes
  rw [← List.take_append_drop 24 words1, List.all_append, w_t1, ← List.take_append_drop 24 (words1.drop 24), List.all_append, w_t2, ← List.take_append_drop 24 ((words1.drop 24).drop 24), List.all_append, w_t3, ← List.take_append_drop 24 (((words1.drop 24).drop 24).drop 24), List.all_append, w_t4, ← List.take_append_drop 24 ((((words1.drop 24).drop 24).drop 24).drop 24), List.all_append, w_t5, w_t6]
  rfl
set_option maxRecDepth 65536 in
theorem w_rest : rest_1_c.before args0 about1 = true := by decide +kernel
set_option maxRecDepth 65536 in
theorem w_case : (Jvm.Cond.and given_1 narrow_1).before args0 about1 = true := by decide +kernel
set_option maxRecDepth 65536 in
theorem w_consts : constsHeld consts_1 about1 := Jvm.Lit.constsHeldB_iff.mp (by decide +kernel)
theorem w_applies : (headSpec (Jvm.Cond.code x code maxLocals ret :: tables_1) room_1).applies x e0.platform about1 = true :=
  (Spec.applies_iff w_frames).mpr ⟨w_running, w_runnable, w_alone, w_named, w_hears, w_ripe, w_room, w_tables⟩
theorem atStart : AtStart classFile x code maxLocals ret World_1 tables_1 room_1 Calls_1 rest_1 Pre_1 launch0 p0 e0 about1 theMethod args0 below0 :=
  ⟨lists_1, trivial, launch0.admits_env _ _ _, launch0.least_env, fairChoices_fair.cas, fairChoices_fair.clock, w_frames, w_args, w_heap, w_applies, ⟨w_consts, trivial⟩, w_rest, w_case⟩
end start1
theorem witness_1 : WitnessClaimed_1 := ⟨start1.p0, start1.e0, start1.about1, start1.theMethod, start1.args0, start1.below0, start1.atStart⟩
end Jvm.Pilot.@@N@@
