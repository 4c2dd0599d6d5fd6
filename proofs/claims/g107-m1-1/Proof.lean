import JvmDerived
import JvmDerived.Pilot.@@N@@Statement
import JvmDerived.Pilot.@@N@@Code
set_option linter.unusedVariables false
set_option linter.unusedSimpArgs false
namespace Jvm.RoadKit
open Sem ClassFile Op Lib Jvm.Stand Jvm.Free Jvm.LawKit
section New
variable {p : Program} {l : Launch} {e : Env} {R : Room} {s : State} {m : MethodId} {args : Array Value} {below : List Frame} {meth : Method} {c : Code} {T : State} {locs : List Loc} {cells slots : Nat}
theorem retI (X : Stand p l e R s m args below meth c T locs cells slots) (hx : p.tables.exec = Jvm.exec) {pc : Nat} {Ls : Array Slot} {z : Int32} {rest : List Value} (hret : meth.sig.returnType = some .int) (hd : decode c.code pc = .ok (.ireturn, 1)) {fs : List Frame}
    (hl : ∀ (f : JFrame) (acts : List Action), f.method = m → f.locked = none → f.entered = [] → (doReturn e (T.setTop f) acts (some (.int z))).1 = T.setFrames fs) : Steps p.tables e below (T.setTop (mkF m pc Ls (.int z :: rest))) (T.setFrames fs) := by
  have hm' : T.vm.method? m = some meth := X.method'
  have hn : narrow .int (.int z) = .int z := rfl
  show Steps p.tables e below (T.setTop { method := m, pc := pc, locals := Ls, stack := _ :: rest, locked := none }) _
  jvm_step X.here [X.here.top, hx, hd, hm', hret, hn]
  first | (intro acts; rw [hl _ acts rfl rfl rfl]) | rw [hl _ _ rfl rfl rfl]
  exact Steps.refl _
end New
end Jvm.RoadKit
/- laws to paste: narrow_ch, Road.wide_lo, Road.wide_hi, Road.low_at, Road.codOf, pair_says, lo8_mask, shr0, shr1 (cut by pick.py; bodies as the Statement names them) -/
namespace Jvm.Pilot.@@N@@
namespace StrChars
open Jvm Sem ClassFile Op Lib Jvm.Stand Jvm.Free.XT Jvm.Free.ALB Jvm.Free.JM Jvm.Free
open Jvm.Lib.Cold (StaticIs)
/-- a char array whose places are chars -/
def Ch (a : Addr) (A : Cell) (U : State) : Prop := Arr .char a A U ∧ Typed .char A
theorem Ch.mv {a : Addr} {A : Cell} {U U' : State} (h : Ch a A U) (hal : U.vm.Alike U'.vm) (hh : U'.heap = U.heap) : Ch a A U' := ⟨h.1.mv hal hh, h.2⟩
theorem Ch.keep {a : Addr} {A : Cell} {U U' : State} (h : Ch a A U) (hal : U.vm.Alike U'.vm) (hk : U'.heap[a]? = some A) : Ch a A U' := ⟨h.1.keep hal hk, h.2⟩
/-- what place i of a char[]'s cell holds -/
def cv (A : Cell) (i : Nat) : Int32 := match A.slots[i]? with | some (.int x) => x | _ => 0
theorem Ch.get {a : Addr} {A : Cell} {U : State} (h : Ch a A U) {i : Nat} (hi : i < A.slots.size) : A.slots[i]? = some (.int (cv A i)) := by
  have e := Array.getElem?_eq_getElem hi
  have f := h.2 i _ e
  unfold cv; rw [e]
  generalize A.slots[i] = v at f
  cases v <;> simp [fits] at f ⊢
/-- the byte that i2b leaves of a char -/
def lo8 (x : Int32) : Int32 := x.toInt8.toInt32
theorem fits_lo8 (y : Int32) : fits .byte (.int (lo8 y)) = true := by
  have h1 := y.toInt8.le_toInt
  have h2 := y.toInt8.toInt_lt
  simp only [lo8, fits, Bool.and_eq_true, decide_eq_true_eq, Int32.le_iff_toInt_le, Int8.toInt_toInt32, show (-128 : Int32).toInt = -128 from by decide, show (127 : Int32).toInt = 127 from by decide]
  omega
/-- A' is A but that each place j of lo .. hi - 1 holds f j -/
def Laid (A A' : Cell) (lo hi : Nat) (f : Nat → Value) : Prop := A'.cls = A.cls ∧ A'.vm = A.vm ∧ A'.slots.size = A.slots.size ∧ ∀ i, A'.slots[i]? = if lo ≤ i ∧ i < hi then some (f i) else A.slots[i]?
theorem Laid.zero (A : Cell) (lo : Nat) (f : Nat → Value) : Laid A A lo (lo + 0) f := ⟨rfl, rfl, rfl, fun i => by rw [if_neg (by omega)]⟩
theorem Laid.step {A Ak : Cell} {lo k : Nat} {f : Nat → Value} {v : Value} (h : Laid A Ak lo k f) (hlo : lo ≤ k) (hk : k < Ak.slots.size) (hv : v = f k) : Laid A (Ak.setSlot k v) lo (k + 1) f := by
  refine ⟨h.1, h.2.1, by simpa [Cell.setSlot] using h.2.2.1, fun i => ?_⟩
  by_cases e : k = i
  · subst e; rw [Cell.slots_setSlot_self v hk, if_pos (by omega), hv]
  · rw [Cell.slots_setSlot_ne v e, h.2.2.2 i]
    by_cases q : lo ≤ i ∧ i < k
    · rw [if_pos q, if_pos (by omega)]
    · rw [if_neg q, if_neg (by omega)]
def U16 : String := "java/lang/StringUTF16"
namespace Cmp5
def yN : MethodName := ⟨"java/lang/StringUTF16", "compress", "([CI[BII)I"⟩
abbrev yB : ByteArray := jdk_52_method_21_code
theorem d0 : decode yB 0 = .ok (.iconst 0, 1) := by decide +kernel
theorem d1 : decode yB 1 = .ok (.istore 5, 2) := by decide +kernel
theorem d3 : decode yB 3 = .ok (.iload 5, 2) := by decide +kernel
theorem d5 : decode yB 5 = .ok (.iload 4, 2) := by decide +kernel
theorem d7 : decode yB 7 = .ok (.if_icmp (.ge) 37, 3) := by decide +kernel
theorem d10 : decode yB 10 = .ok (.aload_n 0, 1) := by decide +kernel
theorem d11 : decode yB 11 = .ok (.iload_n 1, 1) := by decide +kernel
theorem d12 : decode yB 12 = .ok (.caload, 1) := by decide +kernel
theorem d13 : decode yB 13 = .ok (.istore 6, 2) := by decide +kernel
theorem d15 : decode yB 15 = .ok (.iload 6, 2) := by decide +kernel
theorem d17 : decode yB 17 = .ok (.sipush 255, 3) := by decide +kernel
theorem d20 : decode yB 20 = .ok (.if_icmp (.le) 6, 3) := by decide +kernel
theorem d26 : decode yB 26 = .ok (.aload_n 2, 1) := by decide +kernel
theorem d27 : decode yB 27 = .ok (.iload_n 3, 1) := by decide +kernel
theorem d28 : decode yB 28 = .ok (.iload 6, 2) := by decide +kernel
theorem d30 : decode yB 30 = .ok (.i2b, 1) := by decide +kernel
theorem d31 : decode yB 31 = .ok (.bastore, 1) := by decide +kernel
theorem d32 : decode yB 32 = .ok (.iinc 1 1, 3) := by decide +kernel
theorem d35 : decode yB 35 = .ok (.iinc 3 1, 3) := by decide +kernel
theorem d38 : decode yB 38 = .ok (.iinc 5 1, 3) := by decide +kernel
theorem d41 : decode yB 41 = .ok (.goto (-38), 3) := by decide +kernel
theorem d44 : decode yB 44 = .ok (.iload 4, 2) := by decide +kernel
theorem d46 : decode yB 46 = .ok (.ireturn, 1) := by decide +kernel
def site : List Cond := []
def tab : Cond := tabOf yN yB 7 (some .int) site
def P (b : Addr) (A : Cell) (d : Addr) (B : Cell) (o q len : Nat) (args : Array Value) (s : State) : Prop := args = #[.ref b, .int (Int32.ofNat o), .ref d, .int (Int32.ofNat q), .int (Int32.ofNat len)] ∧ Ch b A s ∧ Arr .byte d B s ∧ b ≠ d ∧ o + len ≤ A.slots.size ∧ q + len ≤ B.slots.size ∧ ∀ i, i < len → ¬ 255 < cv A (o + i)
def E (b : Addr) (A : Cell) (d : Addr) (B : Cell) (o q len : Nat) (r : Option Value) (s u : State) : Prop := r = some (.int (Int32.ofNat len)) ∧ ∃ B', Put d B' s u ∧ Laid B B' q (q + len) (fun j => Value.int (lo8 (cv A (o + (j - q)))))
/-- no char of the range above 255: len; the places written hold each char's low byte -/
theorem law (l : Launch) (b : Addr) (A : Cell) (d : Addr) (B : Cell) (o q len : Nat) : Law l yN 5 5 0 0 yB 7 (some .int) site (P b A d B o q len) (E b A d B o q len) (copyLocs d q len) 0 0 := by
  refine Law.of_walk (plainFor_of_name (by decide +kernel)) (by decide +kernel) (by decide +kernel) (by decide) (fun _ _ h => by rw [h.1]; rfl) (fun _ U U' hal hh h => ⟨h.1, h.2.1.mv hal hh, h.2.2.1.mv hal hh, h.2.2.2⟩) (fun r U U' V V' h1 hal h2 h => ⟨h.1, h.2.elim fun B' q => ⟨B', q.1.mv h1 h2, q.2⟩⟩) ?_
  intro p e s m args below meth c s₁ X0 hexec hbytes hml hret hlk hnm hown hh0 W hP
  obtain ⟨rfl, hA, hB, hne, l1, l2, hp⟩ := hP
  have c1 : Steps p.tables e below (s₁.setTop (entryFrame m #[.ref b, .int (Int32.ofNat o), .ref d, .int (Int32.ofNat q), .int (Int32.ofNat len)] 7)) (s₁.setTop (mkF m 0 #[.val (.ref b), .val (.int (Int32.ofNat o)), .val (.ref d), .val (.int (Int32.ofNat q)), .val (.int (Int32.ofNat len)), .unset, .unset] [])) := entry rfl
  have hA0 := hA.1.mv X0.warmed.alike hh0
  have hB0 := hB.mv X0.warmed.alike hh0
  have a31 := hA.1.2.2.2
  have c2 : Steps p.tables e below (s₁.setTop (entryFrame m #[.ref b, .int (Int32.ofNat o), .ref d, .int (Int32.ofNat q), .int (Int32.ofNat len)] 7)) (s₁.setTop (mkF m 3 #[.val (.ref b), .val (.int (Int32.ofNat o)), .val (.ref d), .val (.int (Int32.ofNat q)), .val (.int (Int32.ofNat len)), .val (.int 0), .unset] [])) := c1.trans (by
    refine iconstV X0.here hexec rfl 0 (hb hbytes d0) (by decide) ?_
    refine XS.istore X0.here hexec rfl (hb hbytes d1) rfl rfl ?_
    exact Steps.refl _)
  have loop : ∀ (r i : Nat), i + r = len → ∀ (z : Slot), (z = .unset ∨ ∃ w, z = .val w ∧ w.category = 1) → ∀ (Tl : State) (Bk : Cell), Stand p l e { frames := 0, locals := 0, cells := 0, slots := 0 } s m #[.ref b, .int (Int32.ofNat o), .ref d, .int (Int32.ofNat q), .int (Int32.ofNat len)] below meth c Tl ([] ++ copyLocs d q i) 0 0 → Put d Bk s₁ Tl → Laid B Bk q (q + i) (fun j => Value.int (lo8 (cv A (o + (j - q))))) →
      Steps p.tables e below (s₁.setTop (entryFrame m #[.ref b, .int (Int32.ofNat o), .ref d, .int (Int32.ofNat q), .int (Int32.ofNat len)] 7)) (Tl.setTop (mkF m 3 #[.val (.ref b), .val (.int (Int32.ofNat (o + i))), .val (.ref d), .val (.int (Int32.ofNat (q + i))), .val (.int (Int32.ofNat len)), .val (.int (Int32.ofNat i)), z] [])) → ∃ (T' : State) (B' : Cell) (z' : Slot), Stand p l e { frames := 0, locals := 0, cells := 0, slots := 0 } s m #[.ref b, .int (Int32.ofNat o), .ref d, .int (Int32.ofNat q), .int (Int32.ofNat len)] below meth c T' ([] ++ copyLocs d q len) 0 0 ∧ Put d B' s₁ T' ∧ Laid B B' q (q + len) (fun j => Value.int (lo8 (cv A (o + (j - q))))) ∧
      Steps p.tables e below (s₁.setTop (entryFrame m #[.ref b, .int (Int32.ofNat o), .ref d, .int (Int32.ofNat q), .int (Int32.ofNat len)] 7)) (T'.setTop (mkF m 3 #[.val (.ref b), .val (.int (Int32.ofNat (o + len))), .val (.ref d), .val (.int (Int32.ofNat (q + len))), .val (.int (Int32.ofNat len)), .val (.int (Int32.ofNat len)), z'] [])) := by
    intro r
    induction r with
    | zero =>
      intro i hi z hz Tl Bk Xl pl fl cl
      have hil : i = len := by omega
      rw [hil] at Xl fl cl
      exact ⟨Tl, Bk, z, Xl, pl, fl, cl⟩
    | succ r ih =>
      intro i hi z hz Tl Bk Xl pl fl cl
      have all := X0.warmed.alike.symm.trans Xl.warmed.alike
      have hAl := hA0.keep all (pl.other hne hA0.1)
      have hBk := hB0.like all pl.1 fl.1 fl.2.1 fl.2.2.1
      have hlt : q + i < Bk.slots.size := by rw [fl.2.2.1]; omega
      have c3 : Steps p.tables e below (s₁.setTop (entryFrame m #[.ref b, .int (Int32.ofNat o), .ref d, .int (Int32.ofNat q), .int (Int32.ofNat len)] 7)) (Tl.setTop (mkF m 12 #[.val (.ref b), .val (.int (Int32.ofNat (o + i))), .val (.ref d), .val (.int (Int32.ofNat (q + i))), .val (.int (Int32.ofNat len)), .val (.int (Int32.ofNat i)), z] [.int (Int32.ofNat (o + i)), .ref b])) := cl.trans (by
        refine XS.iload Xl.here hexec rfl (hb hbytes d3) rfl ?_
        refine XS.iload Xl.here hexec rfl (hb hbytes d5) rfl ?_
        refine XS.icmpNo Xl.here hexec rfl (hb hbytes d7) rfl (ii_ge_f (lt32 (by omega) (by omega))) ?_
        refine XS.aloadN Xl.here hexec rfl (hb hbytes d10) rfl rfl ?_
        refine XS.iloadN Xl.here hexec rfl (hb hbytes d11) rfl ?_
        exact Steps.refl _)
      have c4 : Steps p.tables e below (s₁.setTop (entryFrame m #[.ref b, .int (Int32.ofNat o), .ref d, .int (Int32.ofNat q), .int (Int32.ofNat len)] 7)) (Tl.setTop (mkF m 13 #[.val (.ref b), .val (.int (Int32.ofNat (o + i))), .val (.ref d), .val (.int (Int32.ofNat (q + i))), .val (.int (Int32.ofNat len)), .val (.int (Int32.ofNat i)), z] [.int (cv A (o + i))])) := c3.trans (by
        refine Xl.aget hexec hAl rfl (hA.get (i := o + i) (by omega)) rfl rfl (hb hbytes d12) ?_
        exact Steps.refl _)
      have c5 : Steps p.tables e below (s₁.setTop (entryFrame m #[.ref b, .int (Int32.ofNat o), .ref d, .int (Int32.ofNat q), .int (Int32.ofNat len)] 7)) (Tl.setTop (mkF m 15 #[.val (.ref b), .val (.int (Int32.ofNat (o + i))), .val (.ref d), .val (.int (Int32.ofNat (q + i))), .val (.int (Int32.ofNat len)), .val (.int (Int32.ofNat i)), .val (.int (cv A (o + i)))] [])) := c4.trans (by
        refine XS.istoreS Xl.here hexec rfl (hb hbytes d13) rfl rfl hz ?_
        exact Steps.refl _)
      have c6 : Steps p.tables e below (s₁.setTop (entryFrame m #[.ref b, .int (Int32.ofNat o), .ref d, .int (Int32.ofNat q), .int (Int32.ofNat len)] 7)) (Tl.setTop (mkF m 31 #[.val (.ref b), .val (.int (Int32.ofNat (o + i))), .val (.ref d), .val (.int (Int32.ofNat (q + i))), .val (.int (Int32.ofNat len)), .val (.int (Int32.ofNat i)), .val (.int (cv A (o + i)))] [.int (lo8 (cv A (o + i))), .int (Int32.ofNat (q + i)), .ref d])) := c5.trans (by
        refine XS.iload Xl.here hexec rfl (hb hbytes d15) rfl ?_
        refine sipushV Xl.here hexec rfl 255 (hb hbytes d17) (by decide) ?_
        refine XS.icmpYes Xl.here hexec rfl (pc0 := 20) rfl (hb hbytes d20) rfl (ii_le_t (hp i (by omega))) (by decide) rfl ?_
        refine XS.aloadN Xl.here hexec rfl (hb hbytes d26) rfl rfl ?_
        refine XS.iloadN Xl.here hexec rfl (hb hbytes d27) rfl ?_
        refine XS.iload Xl.here hexec rfl (hb hbytes d28) rfl ?_
        refine i2b Xl.here hexec rfl (hb hbytes d30) rfl ?_
        exact Steps.refl _)
      obtain ⟨T7, X7, p7, st7⟩ := Xl.aput hexec hBk rfl hlt rfl (fits_lo8 (cv A (o + i))) (g := (mkF m 31 #[.val (.ref b), .val (.int (Int32.ofNat (o + i))), .val (.ref d), .val (.int (Int32.ofNat (q + i))), .val (.int (Int32.ofNat len)), .val (.int (Int32.ofNat i)), .val (.int (cv A (o + i)))] [.int (lo8 (cv A (o + i))), .int (Int32.ofNat (q + i)), .ref d])) rfl (rest := []) rfl (hb hbytes d31)
      have c8 : Steps p.tables e below (s₁.setTop (entryFrame m #[.ref b, .int (Int32.ofNat o), .ref d, .int (Int32.ofNat q), .int (Int32.ofNat len)] 7)) (T7.setTop (mkF m 32 #[.val (.ref b), .val (.int (Int32.ofNat (o + i))), .val (.ref d), .val (.int (Int32.ofNat (q + i))), .val (.int (Int32.ofNat len)), .val (.int (Int32.ofNat i)), .val (.int (cv A (o + i)))] [])) := c6.trans (st7 _ (Steps.refl _))
      have c9 : Steps p.tables e below (s₁.setTop (entryFrame m #[.ref b, .int (Int32.ofNat o), .ref d, .int (Int32.ofNat q), .int (Int32.ofNat len)] 7)) (T7.setTop (mkF m 3 #[.val (.ref b), .val (.int (Int32.ofNat (o + i) + 1)), .val (.ref d), .val (.int (Int32.ofNat (q + i) + 1)), .val (.int (Int32.ofNat len)), .val (.int (Int32.ofNat i + 1)), .val (.int (cv A (o + i)))] [])) := c8.trans (by
        refine iincV X7.here hexec rfl 1 (hb hbytes d32) (by decide) rfl rfl ?_
        refine iincV X7.here hexec rfl 1 (hb hbytes d35) (by decide) rfl rfl ?_
        refine iincV X7.here hexec rfl 1 (hb hbytes d38) (by decide) rfl rfl ?_
        refine XS.goto X7.here hexec rfl (pc0 := 41) rfl (hb hbytes d41) (by decide) rfl ?_
        exact Steps.refl _)
      have c10 : Steps p.tables e below (s₁.setTop (entryFrame m #[.ref b, .int (Int32.ofNat o), .ref d, .int (Int32.ofNat q), .int (Int32.ofNat len)] 7)) (T7.setTop (mkF m 3 #[.val (.ref b), .val (.int (Int32.ofNat (o + (i + 1)))), .val (.ref d), .val (.int (Int32.ofNat (q + (i + 1)))), .val (.int (Int32.ofNat len)), .val (.int (Int32.ofNat (i + 1))), .val (.int (cv A (o + i)))] [])) := by
        have := c9
        rw [succ32, succ32, succ32] at this
        exact this
      exact ih (i + 1) (by omega) _ (Or.inr ⟨_, rfl, rfl⟩) T7 _ (by rw [copyLocs_step, ← List.append_assoc]; exact X7) (pl.trans p7) (fl.step (by omega) hlt (by simp)) c10
  obtain ⟨T9, B9, z9, X9, p9, f9, g9⟩ := loop len 0 (by omega) .unset (Or.inl rfl) s₁ B (by simpa [copyLocs] using X0) ⟨hB0.1, fun _ _ => rfl, rfl⟩ (Laid.zero _ _ _) c2
  have c11 : Steps p.tables e below (s₁.setTop (entryFrame m #[.ref b, .int (Int32.ofNat o), .ref d, .int (Int32.ofNat q), .int (Int32.ofNat len)] 7)) (T9.setTop (mkF m 46 #[.val (.ref b), .val (.int (Int32.ofNat (o + len))), .val (.ref d), .val (.int (Int32.ofNat (q + len))), .val (.int (Int32.ofNat len)), .val (.int (Int32.ofNat len)), z9] [.int (Int32.ofNat len)])) := g9.trans (by
    refine XS.iload X9.here hexec rfl (hb hbytes d3) rfl ?_
    refine XS.iload X9.here hexec rfl (hb hbytes d5) rfl ?_
    refine XS.icmpYes X9.here hexec rfl (pc0 := 7) rfl (hb hbytes d7) rfl (ii_ge_t (nlt32 (by omega) (Nat.le_refl _))) (by decide) rfl ?_
    refine XS.iload X9.here hexec rfl (hb hbytes d44) rfl ?_
    exact Steps.refl _)
  exact ⟨T9, some (.int (Int32.ofNat len)), _, _, _, X9, by simp, rfl, rfl, (fun h => by cases h), ⟨rfl, B9, p9.from hh0, f9⟩, fun fs hl => c11.trans (X9.ireturnOut hexec hret rfl (Or.inl rfl) (hb hbytes d46) hl)⟩
end Cmp5
namespace Cmp3
def yN : MethodName := ⟨"java/lang/StringUTF16", "compress", "([CII)[B"⟩
abbrev yB : ByteArray := jdk_52_method_16_code
theorem d0 : decode yB 0 = .ok (.iload_n 2, 1) := by decide +kernel
theorem d1 : decode yB 1 = .ok (.newarray .byte, 2) := by decide +kernel
theorem d3 : decode yB 3 = .ok (.astore_n 3, 1) := by decide +kernel
theorem d4 : decode yB 4 = .ok (.aload_n 0, 1) := by decide +kernel
theorem d5 : decode yB 5 = .ok (.iload_n 1, 1) := by decide +kernel
theorem d6 : decode yB 6 = .ok (.aload_n 3, 1) := by decide +kernel
theorem d7 : decode yB 7 = .ok (.iconst 0, 1) := by decide +kernel
theorem d8 : decode yB 8 = .ok (.iload_n 2, 1) := by decide +kernel
theorem d9 : decode yB 9 = .ok (.invokestatic 115, 3) := by decide +kernel
theorem d12 : decode yB 12 = .ok (.istore 4, 2) := by decide +kernel
theorem d14 : decode yB 14 = .ok (.iload 4, 2) := by decide +kernel
theorem d16 : decode yB 16 = .ok (.iload_n 2, 1) := by decide +kernel
theorem d17 : decode yB 17 = .ok (.if_icmp (.eq) 40, 3) := by decide +kernel
theorem d57 : decode yB 57 = .ok (.aload_n 3, 1) := by decide +kernel
theorem d58 : decode yB 58 = .ok (.areturn, 1) := by decide +kernel
def site : List Cond := [.arrayClass .byte, Cmp5.tab] ++ staticW U16 115 Cmp5.yN
def tab : Cond := tabOf yN yB 6 (some (.array .byte)) site
def P (b : Addr) (A : Cell) (o len : Nat) (args : Array Value) (s : State) : Prop := args = #[.ref b, .int (Int32.ofNat o), .int (Int32.ofNat len)] ∧ Ch b A s ∧ o + len ≤ A.slots.size ∧ len ≤ 536870912 ∧ ∀ i, i < len → ¬ 255 < cv A (o + i)
def E (b : Addr) (A : Cell) (o len : Nat) (r : Option Value) (s u : State) : Prop := NewArr .byte "[B" len (fun j => .int (lo8 (cv A (o + j)))) r s u ∧ u.heap.size = s.heap.size + 1
/-- no char of the range above 255: a new byte[] of their low bytes -/
theorem law (l : Launch) (b : Addr) (A : Cell) (o len : Nat) : Law l yN 3 3 1 18 yB 6 (some (.array .byte)) site (P b A o len) (E b A o len) [] 1 len := by
  refine Law.of_walk (plainFor_of_name (by decide +kernel)) (by decide +kernel) (by decide +kernel) (by decide) (fun _ _ h => by rw [h.1]; rfl) (fun _ U U' hal hh h => ⟨h.1, h.2.1.mv hal hh, h.2.2⟩) (fun r U U' V V' h1 hal h2 h => ⟨NewArr.mv r U U' V V' h1 hal h2 h.1, by rw [h1, h2]; exact h.2⟩) ?_
  intro p e s m args below meth c s₁ X0 hexec hbytes hml hret hlk hnm hown hh0 W hP
  obtain ⟨rfl, hA, l1, l2, hp⟩ := hP
  have a31 := hA.1.2.2.2
  have c1 : Steps p.tables e below (s₁.setTop (entryFrame m #[.ref b, .int (Int32.ofNat o), .int (Int32.ofNat len)] 6)) (s₁.setTop (mkF m 0 #[.val (.ref b), .val (.int (Int32.ofNat o)), .val (.int (Int32.ofNat len)), .unset, .unset, .unset] [])) := entry rfl
  have c2 : Steps p.tables e below (s₁.setTop (entryFrame m #[.ref b, .int (Int32.ofNat o), .int (Int32.ofNat len)] 6)) (s₁.setTop (mkF m 1 #[.val (.ref b), .val (.int (Int32.ofNat o)), .val (.int (Int32.ofNat len)), .unset, .unset, .unset] [.int (Int32.ofNat len)])) := c1.trans (by
    refine XS.iloadN X0.here hexec rfl (hb hbytes d0) rfl ?_
    exact Steps.refl _)
  obtain ⟨T3, B3, X3, ba3, bs3, bv3, bh3, bf3, st3⟩ := X0.anew hexec (atype := .byte) (wk W (.arrayClass .byte)) rfl (by show len * 1 ≤ _; omega) (by omega) (g := (mkF m 1 #[.val (.ref b), .val (.int (Int32.ofNat o)), .val (.int (Int32.ofNat len)), .unset, .unset, .unset] [.int (Int32.ofNat len)])) rfl (hb hbytes d1) (rest := []) rfl (Nat.le_refl _) (by show 0 + len ≤ len; omega)
  rw [hh0] at ba3 st3
  have kp3 : XT.Kept s T3 := (XT.Kept.of_eq hh0).push bh3
  have hA3 := hA.keep X3.warmed.alike (kp3 _ _ hA.1.1)
  have hne : b ≠ s.heap.size := hA.1.ne
  have c4 : Steps p.tables e below (s₁.setTop (entryFrame m #[.ref b, .int (Int32.ofNat o), .int (Int32.ofNat len)] 6)) (T3.setTop (mkF m 3 #[.val (.ref b), .val (.int (Int32.ofNat o)), .val (.int (Int32.ofNat len)), .unset, .unset, .unset] [.ref s.heap.size])) := c2.trans (st3 _ (Steps.refl _))
  have c5 : Steps p.tables e below (s₁.setTop (entryFrame m #[.ref b, .int (Int32.ofNat o), .int (Int32.ofNat len)] 6)) (T3.setTop (mkF m 9 #[.val (.ref b), .val (.int (Int32.ofNat o)), .val (.int (Int32.ofNat len)), .val (.ref s.heap.size), .unset, .unset] [.int (Int32.ofNat len), .int 0, .ref s.heap.size, .int (Int32.ofNat o), .ref b])) := c4.trans (by
    refine XS.astoreN X3.here hexec rfl (hb hbytes d3) rfl rfl rfl ?_
    refine XS.aloadN X3.here hexec rfl (hb hbytes d4) rfl rfl ?_
    refine XS.iloadN X3.here hexec rfl (hb hbytes d5) rfl ?_
    refine XS.aloadN X3.here hexec rfl (hb hbytes d6) rfl rfl ?_
    refine iconstV X3.here hexec rfl 0 (hb hbytes d7) (by decide) ?_
    refine XS.iloadN X3.here hexec rfl (hb hbytes d8) rfl ?_
    exact Steps.refl _)
  obtain ⟨v6, T6, X6, E6, g6⟩ := X3.callS hexec (Cmp5.law l b A s.heap.size B3 o 0 len) hown (wks W (staticW U16 115 Cmp5.yN)) (wk W Cmp5.tab) (W := 0) (Nat.le_of_ble_eq_true rfl) (Nat.le_of_ble_eq_true rfl) (Nat.le_refl _) (by show 0 + len + 0 ≤ len; omega) (g := (mkF m 9 #[.val (.ref b), .val (.int (Int32.ofNat o)), .val (.int (Int32.ofNat len)), .val (.ref s.heap.size), .unset, .unset] [.int (Int32.ofNat len), .int (Int32.ofNat 0), .ref s.heap.size, .int (Int32.ofNat o), .ref b])) rfl (by rw [hml]; rfl) c5 (argsL := [.ref b, .int (Int32.ofNat o), .ref s.heap.size, .int (Int32.ofNat 0), .int (Int32.ofNat len)]) (rest := []) rfl rfl (by show 2 * 0 + 0 ≤ _; decide) (hb hbytes d9) (⟨rfl, hA3, ba3, hne, l1, by rw [bs3]; simp, hp⟩)
  obtain ⟨rfl, B6, p6, f6⟩ := E6
  have c7 : Steps p.tables e below (s₁.setTop (entryFrame m #[.ref b, .int (Int32.ofNat o), .int (Int32.ofNat len)] 6)) (T6.setTop (mkF m 12 #[.val (.ref b), .val (.int (Int32.ofNat o)), .val (.int (Int32.ofNat len)), .val (.ref s.heap.size), .unset, .unset] [.int (Int32.ofNat len)])) := g6
  have c8 : Steps p.tables e below (s₁.setTop (entryFrame m #[.ref b, .int (Int32.ofNat o), .int (Int32.ofNat len)] 6)) (T6.setTop (mkF m 58 #[.val (.ref b), .val (.int (Int32.ofNat o)), .val (.int (Int32.ofNat len)), .val (.ref s.heap.size), .val (.int (Int32.ofNat len)), .unset] [.ref s.heap.size])) := c7.trans (by
    refine XS.istore X6.here hexec rfl (hb hbytes d12) rfl rfl ?_
    refine XS.iload X6.here hexec rfl (hb hbytes d14) rfl ?_
    refine XS.iloadN X6.here hexec rfl (hb hbytes d16) rfl ?_
    refine XS.icmpYes X6.here hexec rfl (pc0 := 17) rfl (hb hbytes d17) rfl (ii_eq_t rfl) (by decide) rfl ?_
    refine XS.aloadN X6.here hexec rfl (hb hbytes d57) rfl rfl ?_
    exact Steps.refl _)
  have X8 := X6.wide (L' := []) (cells' := 1) (slots' := len) (fun x hx hlt => by
    simp only [List.nil_append, copyLocs, List.mem_map, List.mem_range] at hx
    obtain ⟨i, -, rfl⟩ := hx
    exact absurd hlt (Nat.lt_irrefl _)) (Nat.le_refl _) (by omega)
  exact ⟨T6, some (.ref s.heap.size), _, _, _, X8, rfl, rfl, rfl, (fun h => by cases h), ⟨⟨rfl, B6, ba3.like (X3.warmed.alike.symm.trans X6.warmed.alike) p6.1 f6.1 f6.2.1 f6.2.2.1, f6.2.1.trans bv3, by rw [X6.warmed.alike.findClass, f6.1]; exact bf3, by rw [f6.2.2.1, bs3]; simp, fun j hj => by rw [f6.2.2.2 j, if_pos (by omega)]; rfl, kp3.put p6 (Nat.le_refl _)⟩, by rw [p6.2.2, bh3, hh0]; simp⟩, fun fs hl => c8.trans (X8.areturnOut hexec rfl hret rfl (hb hbytes d58) hl)⟩
end Cmp3
namespace CodL
def yN : MethodName := ⟨"java/lang/StringUTF16", "coderFromArrayLen", "([BI)B"⟩
abbrev yB : ByteArray := jdk_52_method_15_code
theorem d0 : decode yB 0 = .ok (.iload_n 1, 1) := by decide +kernel
theorem d1 : decode yB 1 = .ok (.aload_n 0, 1) := by decide +kernel
theorem d2 : decode yB 2 = .ok (.arraylength, 1) := by decide +kernel
theorem d3 : decode yB 3 = .ok (.isub, 1) := by decide +kernel
theorem d4 : decode yB 4 = .ok (.bipush 31, 2) := by decide +kernel
theorem d6 : decode yB 6 = .ok (.iushr, 1) := by decide +kernel
theorem d7 : decode yB 7 = .ok (.i2b, 1) := by decide +kernel
theorem d8 : decode yB 8 = .ok (.ireturn, 1) := by decide +kernel
def site : List Cond := []
def tab : Cond := tabOf yN yB 2 (some .byte) site
def P (d : Addr) (B : Cell) (args : Array Value) (s : State) : Prop := args = #[.ref d, .int (Int32.ofNat B.slots.size)] ∧ Arr .byte d B s
def E (r : Option Value) (s u : State) : Prop := XT.PureE (some (.int 0)) r s u
/-- an array as long as the number of chars: LATIN1 -/
theorem law (l : Launch) (d : Addr) (B : Cell) : Law l yN 2 2 0 0 yB 2 (some .byte) site (P d B) E [] 0 0 := by
  refine Law.of_walk (plainFor_of_name (by decide +kernel)) (by decide +kernel) (by decide +kernel) (by decide) (fun _ _ h => by rw [h.1]; rfl) (fun _ U U' hal hh h => ⟨h.1, h.2.mv hal hh⟩) (fun r U U' V V' h1 hal h2 h => XT.PureE.mv r U U' V V' h1 hal h2 h) ?_
  intro p e s m args below meth c s₁ X0 hexec hbytes hml hret hlk hnm hown hh0 W hP
  obtain ⟨rfl, hB⟩ := hP
  have hB0 := hB.mv X0.warmed.alike hh0
  have c1 : Steps p.tables e below (s₁.setTop (entryFrame m #[.ref d, .int (Int32.ofNat B.slots.size)] 2)) (s₁.setTop (mkF m 0 #[.val (.ref d), .val (.int (Int32.ofNat B.slots.size))] [])) := entry rfl
  have c2 : Steps p.tables e below (s₁.setTop (entryFrame m #[.ref d, .int (Int32.ofNat B.slots.size)] 2)) (s₁.setTop (mkF m 2 #[.val (.ref d), .val (.int (Int32.ofNat B.slots.size))] [.ref d, .int (Int32.ofNat B.slots.size)])) := c1.trans (by
    refine XS.iloadN X0.here hexec rfl (hb hbytes d0) rfl ?_
    refine XS.aloadN X0.here hexec rfl (hb hbytes d1) rfl rfl ?_
    exact Steps.refl _)
  have c3 : Steps p.tables e below (s₁.setTop (entryFrame m #[.ref d, .int (Int32.ofNat B.slots.size)] 2)) (s₁.setTop (mkF m 8 #[.val (.ref d), .val (.int (Int32.ofNat B.slots.size))] [.int (lo8 (ushr (Int32.ofNat B.slots.size - Int32.ofNat B.slots.size) 31))])) := c2.trans (by
    refine X0.alen hexec hB0 rfl rfl (hb hbytes d2) ?_
    refine XS.isub X0.here hexec rfl (hb hbytes d3) rfl ?_
    refine bipushV X0.here hexec rfl 31 (hb hbytes d4) (by decide) ?_
    refine iushr X0.here hexec rfl (hb hbytes d6) rfl ?_
    refine i2b X0.here hexec rfl (hb hbytes d7) rfl ?_
    exact Steps.refl _)
  have e0 : lo8 (ushr (Int32.ofNat B.slots.size - Int32.ofNat B.slots.size) 31) = 0 := by rw [Int32.sub_self]; decide
  rw [e0] at c3
  exact ⟨s₁, some (.int 0), _, _, _, X0, rfl, rfl, rfl, (fun h => by cases h), ⟨rfl, hh0⟩, fun fs hl => c3.trans (X0.ireturnOut hexec hret rfl (Or.inr (Or.inr (Or.inl rfl))) (hb hbytes d8) hl)⟩
end CodL
/-- the String at a is Latin-1 over a new byte[] (the heap's one new cell): the low bytes of the len chars of A from o on; every cell but a is kept -/
def Got (a : Addr) (D : Cell) (fV fC : Field) (A : Cell) (o len : Nat) (r : Option Value) (s u : State) : Prop := r = none ∧ ∃ D' V : Cell, Blank "java/lang/String" a D' u ∧ Same D D' [fV.slot, fC.slot] ∧ D'.slots[fV.slot]? = some (.ref s.heap.size) ∧ D'.slots[fC.slot]? = some (.int 0) ∧ Arr .byte s.heap.size V u ∧ V.vm = .none ∧ u.vm.findClass "[B" = some V.cls ∧ V.slots.size = len ∧ (∀ j, j < len → V.slots[j]? = some (.int (lo8 (cv A (o + j))))) ∧ (∀ (y : Addr) (c : Cell), y ≠ a → s.heap[y]? = some c → u.heap[y]? = some c) ∧ u.heap.size = s.heap.size + 1
theorem Got.mv {a : Addr} {D A : Cell} {fV fC : Field} {o len : Nat} : ∀ r (U U' V V' : State), U'.heap = U.heap → V.vm.Alike V'.vm → V'.heap = V.heap → Got a D fV fC A o len r U V → Got a D fV fC A o len r U' V' :=
  fun r U U' V V' h1 hal h2 ⟨e0, D', X, a1, a2, a3, a4, a5, a6, a7, a8, a9, a10, a11⟩ => ⟨e0, D', X, a1.mv hal h2, a2, by rw [h1]; exact a3, a4, by rw [h1]; exact a5.mv hal h2, a6, by rw [hal.findClass]; exact a7, a8, a9, by rw [h1, h2]; exact a10, by rw [h1, h2]; exact a11⟩
namespace New4
def yN : MethodName := ⟨"java/lang/String", "<init>", "([CIILjava/lang/Void;)V"⟩
abbrev yB : ByteArray := jdk_42_method_149_code
theorem d0 : decode yB 0 = .ok (.aload_n 0, 1) := by decide +kernel
theorem d1 : decode yB 1 = .ok (.invokespecial 1, 3) := by decide +kernel
theorem d4 : decode yB 4 = .ok (.iload_n 3, 1) := by decide +kernel
theorem d5 : decode yB 5 = .ok (.ifCond (.ne) 22, 3) := by decide +kernel
theorem d27 : decode yB 27 = .ok (.getstatic 38, 3) := by decide +kernel
theorem d30 : decode yB 30 = .ok (.ifCond (.eq) 28, 3) := by decide +kernel
theorem d33 : decode yB 33 = .ok (.aload_n 1, 1) := by decide +kernel
theorem d34 : decode yB 34 = .ok (.iload_n 2, 1) := by decide +kernel
theorem d35 : decode yB 35 = .ok (.iload_n 3, 1) := by decide +kernel
theorem d36 : decode yB 36 = .ok (.invokestatic 177, 3) := by decide +kernel
theorem d39 : decode yB 39 = .ok (.astore 5, 2) := by decide +kernel
theorem d41 : decode yB 41 = .ok (.aload_n 0, 1) := by decide +kernel
theorem d42 : decode yB 42 = .ok (.aload 5, 2) := by decide +kernel
theorem d44 : decode yB 44 = .ok (.iload_n 3, 1) := by decide +kernel
theorem d45 : decode yB 45 = .ok (.invokestatic 47, 3) := by decide +kernel
theorem d48 : decode yB 48 = .ok (.putfield 15, 3) := by decide +kernel
theorem d51 : decode yB 51 = .ok (.aload_n 0, 1) := by decide +kernel
theorem d52 : decode yB 52 = .ok (.aload 5, 2) := by decide +kernel
theorem d54 : decode yB 54 = .ok (.putfield 9, 3) := by decide +kernel
theorem d57 : decode yB 57 = .ok (.return_, 1) := by decide +kernel
def site : List Cond := [.fieldLink "java/lang/String" 38 "java/lang/String" "COMPACT_STRINGS" "Z", Cmp3.tab, CodL.tab, .laysFinal "java/lang/String" "java/lang/String" "value" "[B", .fieldLink "java/lang/String" 9 "java/lang/String" "value" "[B", .laysFinal "java/lang/String" "java/lang/String" "coder" "B", .fieldLink "java/lang/String" 15 "java/lang/String" "coder" "B"] ++ objW "java/lang/String" 1 ++ staticW "java/lang/String" 177 Cmp3.yN ++ staticW "java/lang/String" 47 CodL.yN
def tab : Cond := tabOf yN yB 6 none site
def P (a : Addr) (D : Cell) (fV fC : Field) (b : Addr) (A : Cell) (z : Int32) (o len : Nat) (args : Array Value) (s : State) : Prop := args = #[.ref a, .ref b, .int (Int32.ofNat o), .int (Int32.ofNat len), .null] ∧ Blank "java/lang/String" a D s ∧ Found "java/lang/String" "value" "[B" fV s ∧ Found "java/lang/String" "coder" "B" fC s ∧ Ch b A s ∧ StaticIs s "java/lang/String" "COMPACT_STRINGS" "Z" (.int z) ∧ ¬ z = 0 ∧ 0 < len ∧ o + len ≤ A.slots.size ∧ len ≤ 536870912 ∧ ∀ i, i < len → ¬ 255 < cv A (o + i)
def E (a : Addr) (D : Cell) (fV fC : Field) (A : Cell) (o len : Nat) (r : Option Value) (s u : State) : Prop := Got a D fV fC A o len r s u
/-- len > 0, no char of the range above 255: a Latin-1 String of their low bytes -/
theorem law (l : Launch) (a : Addr) (D : Cell) (fV fC : Field) (b : Addr) (A : Cell) (z : Int32) (o len : Nat) : Law l yN 5 4 2 35 yB 6 none site (P a D fV fC b A z o len) (E a D fV fC A o len) [⟨a, fC.slot⟩, ⟨a, fV.slot⟩] 1 len := by
  refine Law.of_walk (plainFor_of_name (by decide +kernel)) (by decide +kernel) (by decide +kernel) (by decide) (fun _ _ h => by rw [h.1]; rfl) (fun _ U U' hal hh h => ⟨h.1, h.2.1.mv hal hh, h.2.2.1.al hal, h.2.2.2.1.al hal, h.2.2.2.2.1.mv hal hh, h.2.2.2.2.2.1.there hal hh, h.2.2.2.2.2.2⟩) (fun r U U' V V' h1 hal h2 h => Got.mv r U U' V V' h1 hal h2 h) ?_
  intro p e s m args below meth c s₁ X0 hexec hbytes hml hret hlk hnm hown hh0 W hP
  obtain ⟨rfl, hB, f1, f2, hA, s1, hz, l0, l1, l2, hp⟩ := hP
  have a31 := hA.1.2.2.2
  have c1 : Steps p.tables e below (s₁.setTop (entryFrame m #[.ref a, .ref b, .int (Int32.ofNat o), .int (Int32.ofNat len), .null] 6)) (s₁.setTop (mkF m 0 #[.val (.ref a), .val (.ref b), .val (.int (Int32.ofNat o)), .val (.int (Int32.ofNat len)), .val .null, .unset] [])) := entry rfl
  have c2 : Steps p.tables e below (s₁.setTop (entryFrame m #[.ref a, .ref b, .int (Int32.ofNat o), .int (Int32.ofNat len), .null] 6)) (s₁.setTop (mkF m 1 #[.val (.ref a), .val (.ref b), .val (.int (Int32.ofNat o)), .val (.int (Int32.ofNat len)), .val .null, .unset] [.ref a])) := c1.trans (by
    refine XS.aloadN X0.here hexec rfl (hb hbytes d0) rfl rfl ?_
    exact Steps.refl _)
  obtain ⟨T3, X3, q3, st3⟩ := X0.oinit hexec hown (wks W (objW "java/lang/String" 1)) (g := (mkF m 1 #[.val (.ref a), .val (.ref b), .val (.int (Int32.ofNat o)), .val (.int (Int32.ofNat len)), .val .null, .unset] [.ref a])) rfl (by rw [hml]; rfl) (rest := []) rfl (hb hbytes d1) (W := 0) (by show 2 * 0 + 0 ≤ _; decide) (Nat.le_of_ble_eq_true rfl) (Nat.le_of_ble_eq_true rfl)
  have hh3 := q3.trans hh0
  have c4 : Steps p.tables e below (s₁.setTop (entryFrame m #[.ref a, .ref b, .int (Int32.ofNat o), .int (Int32.ofNat len), .null] 6)) (T3.setTop (mkF m 27 #[.val (.ref a), .val (.ref b), .val (.int (Int32.ofNat o)), .val (.int (Int32.ofNat len)), .val .null, .unset] [])) := (c2.trans (st3 _ (Steps.refl _))).trans (by
    refine XS.iloadN X3.here hexec rfl (hb hbytes d4) rfl ?_
    refine XS.ifYes X3.here hexec rfl (pc0 := 5) rfl (hb hbytes d5) rfl (i0_ne_t (nz32 (by omega) l0)) (by decide) rfl ?_
    exact Steps.refl _)
  obtain ⟨T5, X5, q5, st5⟩ := X3.sget hexec hown (wk W (.fieldLink "java/lang/String" 38 "java/lang/String" "COMPACT_STRINGS" "Z")) s1 (fun _ _ h => by rw [hh3]; exact h) (g := (mkF m 27 #[.val (.ref a), .val (.ref b), .val (.int (Int32.ofNat o)), .val (.int (Int32.ofNat len)), .val .null, .unset] [])) rfl (hb hbytes d27)
  have hh5 := q5.trans hh3
  have c6 : Steps p.tables e below (s₁.setTop (entryFrame m #[.ref a, .ref b, .int (Int32.ofNat o), .int (Int32.ofNat len), .null] 6)) (T5.setTop (mkF m 30 #[.val (.ref a), .val (.ref b), .val (.int (Int32.ofNat o)), .val (.int (Int32.ofNat len)), .val .null, .unset] [.int z])) := c4.trans (st5 _ (Steps.refl _))
  have c7 : Steps p.tables e below (s₁.setTop (entryFrame m #[.ref a, .ref b, .int (Int32.ofNat o), .int (Int32.ofNat len), .null] 6)) (T5.setTop (mkF m 36 #[.val (.ref a), .val (.ref b), .val (.int (Int32.ofNat o)), .val (.int (Int32.ofNat len)), .val .null, .unset] [.int (Int32.ofNat len), .int (Int32.ofNat o), .ref b])) := c6.trans (by
    refine XS.ifNo X5.here hexec rfl (hb hbytes d30) rfl (i0_eq_f hz) ?_
    refine XS.aloadN X5.here hexec rfl (hb hbytes d33) rfl rfl ?_
    refine XS.iloadN X5.here hexec rfl (hb hbytes d34) rfl ?_
    refine XS.iloadN X5.here hexec rfl (hb hbytes d35) rfl ?_
    exact Steps.refl _)
  obtain ⟨v8, T8, X8, E8, g8⟩ := X5.callS hexec (Cmp3.law l b A o len) hown (wks W (staticW "java/lang/String" 177 Cmp3.yN)) (wk W Cmp3.tab) (W := 0) (Nat.le_of_ble_eq_true rfl) (Nat.le_of_ble_eq_true rfl) (Nat.le_refl _) (by show 0 + len ≤ len; omega) (g := (mkF m 36 #[.val (.ref a), .val (.ref b), .val (.int (Int32.ofNat o)), .val (.int (Int32.ofNat len)), .val .null, .unset] [.int (Int32.ofNat len), .int (Int32.ofNat o), .ref b])) rfl (by rw [hml]; rfl) c7 (argsL := [.ref b, .int (Int32.ofNat o), .int (Int32.ofNat len)]) (rest := []) rfl rfl (by show 2 * 0 + 0 ≤ _; decide) (hb hbytes d36) (⟨rfl, hA.mv X5.warmed.alike hh5, l1, l2, hp⟩)
  obtain ⟨e8, z8⟩ := E8
  obtain ⟨rfl, N, n1, n2, n3, n4, n5, n6⟩ := NewArr.mv _ T5 s _ _ hh5.symm (Vm.Alike.refl _) rfl e8
  rw [hh5] at z8
  have hB1 := hB.keep X8.warmed.alike (n6 _ _ hB.1)
  have hne : s.heap.size ≠ a := (Nat.ne_of_lt (Array.getElem?_eq_some_iff.mp hB.1).1).symm
  have c9 : Steps p.tables e below (s₁.setTop (entryFrame m #[.ref a, .ref b, .int (Int32.ofNat o), .int (Int32.ofNat len), .null] 6)) (T8.setTop (mkF m 39 #[.val (.ref a), .val (.ref b), .val (.int (Int32.ofNat o)), .val (.int (Int32.ofNat len)), .val .null, .unset] [.ref s.heap.size])) := g8
  have c10 : Steps p.tables e below (s₁.setTop (entryFrame m #[.ref a, .ref b, .int (Int32.ofNat o), .int (Int32.ofNat len), .null] 6)) (T8.setTop (mkF m 45 #[.val (.ref a), .val (.ref b), .val (.int (Int32.ofNat o)), .val (.int (Int32.ofNat len)), .val .null, .val (.ref s.heap.size)] [.int (Int32.ofNat N.slots.size), .ref s.heap.size, .ref a])) := by
    have hc : Steps p.tables e below (s₁.setTop (entryFrame m #[.ref a, .ref b, .int (Int32.ofNat o), .int (Int32.ofNat len), .null] 6)) (T8.setTop (mkF m 45 #[.val (.ref a), .val (.ref b), .val (.int (Int32.ofNat o)), .val (.int (Int32.ofNat len)), .val .null, .val (.ref s.heap.size)] [.int (Int32.ofNat len), .ref s.heap.size, .ref a])) := c9.trans (by
      refine XS.astore X8.here hexec rfl (hb hbytes d39) rfl rfl rfl ?_
      refine XS.aloadN X8.here hexec rfl (hb hbytes d41) rfl rfl ?_
      refine XS.aload X8.here hexec rfl (hb hbytes d42) rfl rfl ?_
      refine XS.iloadN X8.here hexec rfl (hb hbytes d44) rfl ?_
      exact Steps.refl _)
    rw [n4]; exact hc
  obtain ⟨v11, T11, X11, E11, g11⟩ := X8.callS hexec (CodL.law l s.heap.size N) hown (wks W (staticW "java/lang/String" 47 CodL.yN)) (wk W CodL.tab) (W := 1) (Nat.le_of_ble_eq_true rfl) (Nat.le_of_ble_eq_true rfl) (Nat.le_refl _) (by show 0 + len + 0 ≤ len; omega) (g := (mkF m 45 #[.val (.ref a), .val (.ref b), .val (.int (Int32.ofNat o)), .val (.int (Int32.ofNat len)), .val .null, .val (.ref s.heap.size)] [.int (Int32.ofNat N.slots.size), .ref s.heap.size, .ref a])) rfl (by rw [hml]; rfl) c10 (argsL := [.ref s.heap.size, .int (Int32.ofNat N.slots.size)]) (rest := [.ref a]) rfl rfl (by show 2 * 0 + (1 + 0) ≤ _; decide) (hb hbytes d45) (⟨rfl, n1⟩)
  obtain ⟨rfl, q11⟩ := E11
  have hB11 := hB1.mv (X8.warmed.alike.symm.trans X11.warmed.alike) q11
  have c12 : Steps p.tables e below (s₁.setTop (entryFrame m #[.ref a, .ref b, .int (Int32.ofNat o), .int (Int32.ofNat len), .null] 6)) (T11.setTop (mkF m 48 #[.val (.ref a), .val (.ref b), .val (.int (Int32.ofNat o)), .val (.int (Int32.ofNat len)), .val .null, .val (.ref s.heap.size)] [.int 0, .ref a])) := g11
  obtain ⟨T13, X13, p13, bl13, sl13, st13⟩ := X11.finit hexec hown (wk W (.fieldLink "java/lang/String" 15 "java/lang/String" "coder" "B")) (Or.inr ⟨_, (wk W (.laysFinal "java/lang/String" "java/lang/String" "coder" "B"))⟩) (Or.inl ⟨rfl, hnm⟩) f2 (Or.inl rfl) hB11 (t := .byte) (by decide +kernel) rfl (g := (mkF m 48 #[.val (.ref a), .val (.ref b), .val (.int (Int32.ofNat o)), .val (.int (Int32.ofNat len)), .val .null, .val (.ref s.heap.size)] [.int 0, .ref a])) rfl (rest := []) rfl (hb hbytes d48)
  have c14 : Steps p.tables e below (s₁.setTop (entryFrame m #[.ref a, .ref b, .int (Int32.ofNat o), .int (Int32.ofNat len), .null] 6)) (T13.setTop (mkF m 54 #[.val (.ref a), .val (.ref b), .val (.int (Int32.ofNat o)), .val (.int (Int32.ofNat len)), .val .null, .val (.ref s.heap.size)] [.ref s.heap.size, .ref a])) := (c12.trans (st13 _ (Steps.refl _))).trans (by
    refine XS.aloadN X13.here hexec rfl (hb hbytes d51) rfl rfl ?_
    refine XS.aload X13.here hexec rfl (hb hbytes d52) rfl rfl ?_
    exact Steps.refl _)
  obtain ⟨T15, X15, p15, bl15, sl15, st15⟩ := X13.finit hexec hown (wk W (.fieldLink "java/lang/String" 9 "java/lang/String" "value" "[B")) (Or.inr ⟨_, (wk W (.laysFinal "java/lang/String" "java/lang/String" "value" "[B"))⟩) (Or.inl ⟨rfl, hnm⟩) f1 (Or.inl rfl) bl13 (t := (.array .byte)) (by decide +kernel) rfl (g := (mkF m 54 #[.val (.ref a), .val (.ref b), .val (.int (Int32.ofNat o)), .val (.int (Int32.ofNat len)), .val .null, .val (.ref s.heap.size)] [.ref s.heap.size, .ref a])) rfl (rest := []) rfl (hb hbytes d54)
  have c16 : Steps p.tables e below (s₁.setTop (entryFrame m #[.ref a, .ref b, .int (Int32.ofNat o), .int (Int32.ofNat len), .null] 6)) (T15.setTop (mkF m 57 #[.val (.ref a), .val (.ref b), .val (.int (Int32.ofNat o)), .val (.int (Int32.ofNat len)), .val .null, .val (.ref s.heap.size)] [])) := c14.trans (st15 _ (Steps.refl _))
  have ap := apart (Or.inr ⟨_, (wk W (.laysFinal "java/lang/String" "java/lang/String" "value" "[B"))⟩) (Or.inr ⟨_, (wk W (.laysFinal "java/lang/String" "java/lang/String" "coder" "B"))⟩) f1 f2 (t₁ := .array .byte) (t₂ := .byte) (by decide +kernel) (by decide +kernel) (by decide)
  have al := X8.warmed.alike.symm.trans X15.warmed.alike
  have n7 : T11.heap[s.heap.size]? = some N := by rw [q11]; exact n1.1
  exact ⟨T15, none, _, _, _, X15, by simp, rfl, by omega, (fun _ => rfl), ⟨rfl, _, N, bl15, ((Same.refl D _).set _ (by simp)).set _ (by simp), sl15, (Cell.slots_setSlot_ne _ ap).trans sl13, n1.keep al (p15.other hne (p13.other hne n7)), n2, by rw [al.findClass]; exact n3, n4, n5, fun y c h1 h2 => p15.other h1 (p13.other h1 (by rw [q11]; exact n6 y c h2)), by rw [p15.2.2, p13.2.2, q11]; exact z8⟩, fun fs hl => c16.trans (X15.returnOut hexec hret (hb hbytes d57) hl)⟩
end New4
namespace New1
def yN : MethodName := ⟨"java/lang/String", "<init>", "([C)V"⟩
abbrev yB : ByteArray := jdk_42_method_3_code
theorem d0 : decode yB 0 = .ok (.aload_n 0, 1) := by decide +kernel
theorem d1 : decode yB 1 = .ok (.aload_n 1, 1) := by decide +kernel
theorem d2 : decode yB 2 = .ok (.iconst 0, 1) := by decide +kernel
theorem d3 : decode yB 3 = .ok (.aload_n 1, 1) := by decide +kernel
theorem d4 : decode yB 4 = .ok (.arraylength, 1) := by decide +kernel
theorem d5 : decode yB 5 = .ok (.aconst_null, 1) := by decide +kernel
theorem d6 : decode yB 6 = .ok (.invokespecial 27, 3) := by decide +kernel
theorem d9 : decode yB 9 = .ok (.return_, 1) := by decide +kernel
def site : List Cond := [New4.tab] ++ initW "java/lang/String" 27 New4.yN
def tab : Cond := tabOf yN yB 2 none site
def P (a : Addr) (D : Cell) (fV fC : Field) (b : Addr) (A : Cell) (z : Int32) (args : Array Value) (s : State) : Prop := args = #[.ref a, .ref b] ∧ Blank "java/lang/String" a D s ∧ Found "java/lang/String" "value" "[B" fV s ∧ Found "java/lang/String" "coder" "B" fC s ∧ Ch b A s ∧ StaticIs s "java/lang/String" "COMPACT_STRINGS" "Z" (.int z) ∧ ¬ z = 0 ∧ 0 < A.slots.size ∧ A.slots.size ≤ 536870912 ∧ ∀ i, i < A.slots.size → ¬ 255 < cv A i
def E (a : Addr) (D : Cell) (fV fC : Field) (A : Cell) (r : Option Value) (s u : State) : Prop := Got a D fV fC A 0 A.slots.size r s u
/-- new String(chars), not empty, no char above 255: a Latin-1 String of their low bytes -/
theorem law (l : Launch) (a : Addr) (D : Cell) (fV fC : Field) (b : Addr) (A : Cell) (z : Int32) : Law l yN 2 1 3 52 yB 2 none site (P a D fV fC b A z) (E a D fV fC A) [⟨a, fC.slot⟩, ⟨a, fV.slot⟩] 1 A.slots.size := by
  refine Law.of_walk (plainFor_of_name (by decide +kernel)) (by decide +kernel) (by decide +kernel) (by decide) (fun _ _ h => by rw [h.1]; rfl) (fun _ U U' hal hh h => ⟨h.1, h.2.1.mv hal hh, h.2.2.1.al hal, h.2.2.2.1.al hal, h.2.2.2.2.1.mv hal hh, h.2.2.2.2.2.1.there hal hh, h.2.2.2.2.2.2⟩) (fun r U U' V V' h1 hal h2 h => Got.mv r U U' V V' h1 hal h2 h) ?_
  intro p e s m args below meth c s₁ X0 hexec hbytes hml hret hlk hnm hown hh0 W hP
  obtain ⟨rfl, hB, f1, f2, hA, s1, hz, l0, l2, hp⟩ := hP
  have c1 : Steps p.tables e below (s₁.setTop (entryFrame m #[.ref a, .ref b] 2)) (s₁.setTop (mkF m 0 #[.val (.ref a), .val (.ref b)] [])) := entry rfl
  have c2 : Steps p.tables e below (s₁.setTop (entryFrame m #[.ref a, .ref b] 2)) (s₁.setTop (mkF m 6 #[.val (.ref a), .val (.ref b)] [.null, .int (Int32.ofNat A.slots.size), .int 0, .ref b, .ref a])) := c1.trans (by
    refine XS.aloadN X0.here hexec rfl (hb hbytes d0) rfl rfl ?_
    refine XS.aloadN X0.here hexec rfl (hb hbytes d1) rfl rfl ?_
    refine iconstV X0.here hexec rfl 0 (hb hbytes d2) (by decide) ?_
    refine XS.aloadN X0.here hexec rfl (hb hbytes d3) rfl rfl ?_
    refine X0.alen hexec (hA.1.mv X0.warmed.alike hh0) rfl rfl (hb hbytes d4) ?_
    refine XS.aconstNull X0.here hexec rfl (hb hbytes d5) ?_
    exact Steps.refl _)
  obtain ⟨v3, T3, X3, E3, g3⟩ := X0.callN hexec (New4.law l a D fV fC b A z 0 A.slots.size) rfl hown (wks W (initW "java/lang/String" 27 New4.yN)) (W New4.tab (by simp only [site, List.mem_cons, List.mem_append, true_or, or_true])) (W := 0) (Nat.le_of_ble_eq_true rfl) (Nat.le_of_ble_eq_true rfl) (Nat.le_refl _) (by show 0 + A.slots.size ≤ A.slots.size; omega) (g := (mkF m 6 #[.val (.ref a), .val (.ref b)] [.null, .int (Int32.ofNat A.slots.size), .int (Int32.ofNat 0), .ref b, .ref a])) rfl (by rw [hml]; rfl) c2 (argsL := [.ref b, .int (Int32.ofNat 0), .int (Int32.ofNat A.slots.size), .null]) (rest := []) rfl rfl (by show 2 * 0 + 0 ≤ _; decide) (hb hbytes d6) (⟨rfl, hB.mv X0.warmed.alike hh0, f1.al X0.warmed.alike, f2.al X0.warmed.alike, hA.mv X0.warmed.alike hh0, s1.there X0.warmed.alike hh0, hz, l0, by omega, l2, fun i hi => by rw [Nat.zero_add]; exact hp i hi⟩)
  have e0 := Got.mv _ s₁ s _ _ hh0.symm (Vm.Alike.refl _) rfl E3
  obtain rfl := e0.1
  have c4 : Steps p.tables e below (s₁.setTop (entryFrame m #[.ref a, .ref b] 2)) (T3.setTop (mkF m 9 #[.val (.ref a), .val (.ref b)] [])) := g3
  exact ⟨T3, none, _, _, _, X3, by simp, rfl, by omega, (fun _ => rfl), e0, fun fs hl => c4.trans (X3.returnOut hexec hret (hb hbytes d9) hl)⟩
theorem pays {l : Launch} {R : Room} {p : Program} {e : Env} {below : List Frame} {s : State} {sargs : Array Value} {len W : Nat} (a : Addr) (D : Cell) (fV fC : Field) (b : Addr) (A : Cell) (z : Int32) (htab : tab.before sargs s = true) (hfr : 4 ≤ R.frames) (hlo : W + 65 ≤ R.locals) :
    Back l R p e below s sargs yN len W (fun A₁ a₁ => A₁.cells + 1 ≤ R.cells ∧ A₁.slots + A.slots.size ≤ R.slots ∧ P a D fV fC b A z a₁ A₁.U) (fun A₁ _ v₁ B₁ => E a D fV fC A v₁ A₁.U B₁.U ∧ B₁.locs = A₁.locs ++ [⟨a, fC.slot⟩, ⟨a, fV.slot⟩] ∧ B₁.cells = A₁.cells + 1 ∧ B₁.slots = A₁.slots + A.slots.size) :=
  (law l a D fV fC b A z).pays htab hfr (by omega)
end New1
/-- the byte, read back as charAt reads it, is the char -/
theorem lo8_mask {x : Int32} (h0 : ¬ x < 0) (h1 : ¬ 255 < x) : lo8 x &&& 255 = x := by
  have t : ∀ k : Fin 256, lo8 (Int32.ofNat k.val) &&& 255 = Int32.ofNat k.val := by decide +kernel
  rw [Int32.lt_iff_toInt_lt] at h0 h1
  have e0 : (0 : Int32).toInt = 0 := rfl
  have e1 : (255 : Int32).toInt = 255 := rfl
  obtain ⟨k, hk⟩ : ∃ k : Nat, x.toInt = k := ⟨x.toInt.toNat, by omega⟩
  have hx : x = Int32.ofNat k := Int32.toInt_inj.mp (by rw [hk, Int32.toInt_ofNat_small (by omega)])
  rw [hx]
  exact t ⟨k, by omega⟩
end StrChars
namespace StrChars.Road
open Jvm Sem ClassFile Op Lib Jvm.Stand Jvm.Free Jvm.Free.XT
open Jvm.Lib.Cold (StaticIs)
abbrev ST : String := "java/lang/String"
/-- every table word that New1's law asks, flat -/
abbrev words : List Jvm.Cond := [.code New1.yN New1.yB 2 none, .initialized ST, .methodLink ST 27 New4.yN, .instanceMethod New4.yN,
  .code New4.yN New4.yB 6 none, .fieldLink ST 38 ST "COMPACT_STRINGS" "Z", .laysFinal ST ST "value" "[B", .fieldLink ST 9 ST "value" "[B", .laysFinal ST ST "coder" "B", .fieldLink ST 15 ST "coder" "B",
  .methodLink ST 1 Lib.objectInit, .instanceMethod Lib.objectInit, .code Lib.objectInit ⟨#[0xb1]⟩ 1 none, .methodLink ST 177 Cmp3.yN, .static Cmp3.yN, .methodLink ST 47 CodL.yN, .static CodL.yN,
  .code Cmp3.yN Cmp3.yB 6 (some (.array .byte)), .initialized U16, .arrayClass .byte, .methodLink U16 115 Cmp5.yN, .static Cmp5.yN, .code Cmp5.yN Cmp5.yB 7 (some .int), .code CodL.yN CodL.yB 2 (some .byte)]
theorem tab_of {a : Array Value} {s : State} (h : ∀ w ∈ words, w.before a s = true) : New1.tab.before a s = true := by
  have h5 : Cmp5.tab.before a s = true := unparts (wk h (.code Cmp5.yN Cmp5.yB 7 (some .int))) (wks h (.initialized Cmp5.yN.cls :: Cmp5.site))
  have hc : CodL.tab.before a s = true := unparts (wk h (.code CodL.yN CodL.yB 2 (some .byte))) (wks h (.initialized CodL.yN.cls :: CodL.site))
  have q5 : ∀ w ∈ Cmp5.tab :: words, w.before a s = true := fun w hw => (List.mem_cons.mp hw).elim (fun e => e ▸ h5) (h w)
  have h3 : Cmp3.tab.before a s = true := unparts (wk q5 (.code Cmp3.yN Cmp3.yB 6 (some (.array .byte)))) (wks q5 (.initialized Cmp3.yN.cls :: Cmp3.site))
  have q3 : ∀ w ∈ Cmp3.tab :: CodL.tab :: words, w.before a s = true := fun w hw => (List.mem_cons.mp hw).elim (fun e => e ▸ h3) fun hw => (List.mem_cons.mp hw).elim (fun e => e ▸ hc) (h w)
  have h4 : New4.tab.before a s = true := unparts (wk q3 (.code New4.yN New4.yB 6 none)) (wks q3 (.initialized New4.yN.cls :: New4.site))
  have q4 : ∀ w ∈ New4.tab :: words, w.before a s = true := fun w hw => (List.mem_cons.mp hw).elim (fun e => e ▸ h4) (h w)
  exact unparts (wk q4 (.code New1.yN New1.yB 2 none)) (wks q4 (.initialized New1.yN.cls :: New1.site))
/-- the words ride from the start Z to the walk's own state -/
theorem moved {Z s : State} {a0 args : Array Value} (hZ : Z.Warmed39 s.vm) (hw : ∀ d ∈ words, d.before a0 Z = true) : ∀ d ∈ words, d.before args s = true := fun d hd => by
  have q := hw d hd
  have t : ∀ d ∈ words, d = .arrayClass .byte ∨ (d.onTables && d.keepsFace) = true := by decide +kernel
  rcases t d hd with rfl | t
  · exact RoadKit.mvA hZ q
  · exact RoadKit.mv hZ q t
/-- WHAT COMES BACK, over the tables of the start Z: h the heap at the call, h' behind it -/
def Q (Z : State) (x : Addr) (A : Cell) (h : Heap) (v : Option Value) (h' : Heap) (L : List Loc) : Prop := v = none ∧ (∀ y ∈ L, y.base = x) ∧ RoadKit.Keep h h' [x] ∧ h'.size = h.size + 1 ∧ RoadKit.Exa Z h' x ST ∧ RoadKit.Fld Z h' x ST "value" "[B" (.ref h.size) ∧ RoadKit.Fld Z h' x ST "coder" "B" (.int 0) ∧
  (∃ V : Cell, RoadKit.Arr Z h' h.size V .byte ∧ V.vm = .none ∧ Z.vm.findClass "[B" = some V.cls ∧ V.slots.size = A.slots.size ∧ ∀ j, j < A.slots.size → V.slots[j]? = some (.int (lo8 (cv A j)))) ∧
  ∀ (O n d : String) (w : Value), RoadKit.Fld Z h x O n d w → RoadKit.slotOf Z O n d ≠ RoadKit.slotOf Z ST "value" "[B" → RoadKit.slotOf Z O n d ≠ RoadKit.slotOf Z ST "coder" "B" → RoadKit.Fld Z h' x O n d w
/-- **new String(chars) AT A CALL, IN THE ROAD'S FORM**: for specialBack behind newO: x the fresh String, b the char[] with the cell A -/
theorem back {p : Program} {l : Launch} {e : Env} {R : Room} {s : State} {args : Array Value} {below : List Frame} {len W : Nat} {Z : State} {a0 : Array Value} {h : Heap} (hZ : Z.Warmed39 s.vm) (hw : ∀ d ∈ words, d.before a0 Z = true) {kI : Nat} (wi : (Jvm.Cond.instantiable ST kI).before a0 Z = true)
    {x b : Addr} {A : Cell} {z : Int32} {v0 c0 : Value} (E : RoadKit.Exa Z h x ST) (V : RoadKit.Fld Z h x ST "value" "[B" v0) (C : RoadKit.Fld Z h x ST "coder" "B" c0) (K : RoadKit.Arr Z h b A .char) (hty : Typed .char A) (S : RoadKit.Sta Z h ST "COMPACT_STRINGS" "Z" (.int z)) (hz : ¬ z = 0)
    (l0 : 0 < A.slots.size) (l2 : A.slots.size ≤ 536870912) (hp : ∀ i, i < A.slots.size → ¬ 255 < cv A i) (hfr : 4 ≤ R.frames) (hlo : W + 65 ≤ R.locals) :
    Back l R p e below s args New1.yN len W (fun P a => a = #[.ref x, .ref b] ∧ P.U.heap = h ∧ P.cells + 1 ≤ R.cells ∧ P.slots + A.slots.size ≤ R.slots)
      (fun P _ v B => ∃ L, Q Z x A h v B.U.heap L ∧ B.locs = P.locs ++ L ∧ B.cells = P.cells + 1 ∧ B.slots = P.slots + A.slots.size) := by
  intro m meth c P g ig mk a X hg hsize hdg hW hn hp'
  obtain ⟨rfl, rfl, r1, r2⟩ := hp'
  have al : Z.vm.Alike P.U.vm := hZ.alike.trans X.warmed.alike
  obtain ⟨D, cfV, kV, iV, fV, hD, gV, stV, knV, obV, asV, slV⟩ := id V
  obtain ⟨D', cfC, kC, iC, fC, hD', gC, stC, -, -, asC, slC⟩ := id C
  cases hD.symm.trans hD'
  obtain ⟨D2, kD, e1, e2, e3, e4, e5⟩ := id E
  cases hD.symm.trans e1
  obtain ⟨c2, k2, i1, i2, i3, -⟩ := Cond.instantiable_spec wi
  cases e2.symm.trans i1
  cases e3.symm.trans i2
  obtain ⟨kU, u1, u2⟩ := al.2.2 _ _ e3
  have hB : Blank ST x D P.U := ⟨hD, ⟨knV, fun q hq => by rw [hq] at obV; cases obV⟩, by rw [al.findClass]; exact e2, kU, u1, by rw [u2]; exact i3, by rw [u2]; exact e5 i3⟩
  have F1 : Found ST "value" "[B" fV P.U := ⟨SBG.found_only al ⟨cfV, kV, iV, gV⟩, stV⟩
  have F2 : Found ST "coder" "B" fC P.U := ⟨SBG.found_only al ⟨cfC, kC, iC, gC⟩, stC⟩
  have hA : Ch b A P.U := ⟨⟨K.1, State.isArrayOf_alike al K.2.1, K.2.2, by omega⟩, hty⟩
  have hS : StaticIs P.U ST "COMPACT_STRINGS" "Z" (.int z) := by
    obtain ⟨cfS, iS, kS, fS, st, cS, t1, t2, t3, t4, t5, t6, t7⟩ := S
    exact StaticIs.there (s := { Z with heap := P.U.heap }) ⟨cfS, iS, kS, fS, st, cS, t1, t2, t3, t4, t5, (fun q => by rw [q] at t6; cases t6), t7⟩ al rfl
  obtain ⟨v, B, X', ⟨⟨hv, E', V', q1, q2, q3, q4, q5, q6, q7, q8, q9, q10, q11⟩, hl, hc, hs⟩, st⟩ := New1.pays x D fV fC b A z (tab_of (moved hZ hw)) hfr hlo m meth c P g ig mk _ X hg hsize hdg hW hn ⟨r1, r2, rfl, hB, F1, F2, hA, hS, hz, l0, l2, hp⟩
  have al' : Z.vm.Alike B.U.vm := hZ.alike.trans X'.warmed.alike
  have hsz : E'.slots.size = D.slots.size := by
    obtain ⟨-, -, -, kB, w1, w2, w3⟩ := q1
    obtain ⟨kB', y1, y2⟩ := al'.2.2 _ _ e3
    rw [q2.2.1] at w1
    cases w1.symm.trans y1
    rw [w3, e5 i3, y2]
  refine ⟨v, B, X', ⟨_, ⟨hv, ?_, ⟨by omega, fun y cy hy hn' => q10 y cy (by simpa using hn') hy, fun y cy hy => ?_⟩, q11, ⟨E', _, q1.1, by rw [q2.2.1]; exact e2, by rw [q2.2.1]; exact e3, by rw [q2.1]; exact obV, fun _ => by rw [hsz]; exact e5 i3⟩,
    ⟨E', cfV, kV, iV, fV, q1.1, gV, stV, by rw [q2.1]; exact knV, by rw [q2.1]; exact obV, by rw [q2.2.1]; exact asV, q3⟩, ⟨E', cfC, kC, iC, fC, q1.1, gC, stC, by rw [q2.1]; exact knV, by rw [q2.1]; exact obV, by rw [q2.2.1]; exact asC, q4⟩,
    ⟨V', ⟨q5.1, State.isArrayOf_alike al'.symm q5.2.1, q5.2.2.1⟩, q6, by rw [← al'.findClass]; exact q7, q8, fun j hj => by have := q9 j hj; rwa [Nat.zero_add] at this⟩, fun O n d w F n1 n2 => ?_⟩, hl, hc, hs⟩, st⟩
  · intro y hy
    simp only [List.mem_cons, List.not_mem_nil, or_false] at hy
    rcases hy with rfl | rfl <;> rfl
  · by_cases q : y = x
    · subst q
      cases hD.symm.trans hy
      exact ⟨E', q1.1, q2.2.1, q2.1, hsz⟩
    · exact ⟨cy, q10 y cy q hy, rfl, rfl, rfl⟩
  · obtain ⟨D3, cf, k, i, f, g1, g2, g3, g4, g5, g6, g7⟩ := F
    cases hD.symm.trans g1
    simp only [RoadKit.slotOf, g2, gV, gC, Option.map_some, Option.getD_some] at n1 n2
    exact ⟨E', cf, k, i, f, q1.1, g2, g3, by rw [q2.1]; exact g4, by rw [q2.1]; exact g5, by rw [q2.2.1]; exact g6, by rw [q2.2.2 f.slot (by simp [n1, n2])]; exact g7⟩
end StrChars.Road
namespace StrChars.Road
open Jvm Sem ClassFile Op Lib Jvm.Stand Jvm.Free Jvm.Free.XT
/-- WHAT COMES BACK, the byte[] as a list of values -/
def QA (Z : State) (x : Addr) (zn : Int32) (cs : List Int32) (h : Heap) (v : Option Value) (h' : Heap) (L : List Loc) : Prop := v = none ∧ (∀ y ∈ L, y.base = x) ∧ RoadKit.Keep h h' [x] ∧ h'.size = h.size + 1 ∧ RoadKit.Exa Z h' x ST ∧ RoadKit.Fld Z h' x ST "value" "[B" (.ref h.size) ∧ RoadKit.Fld Z h' x ST "coder" "B" (.int 0) ∧
  (∃ kb, Z.vm.findClass "[B" = some kb ∧ RoadKit.Arv Z h' h.size kb .byte zn (cs.map fun c => .int (lo8 c)) (.int 0)) ∧
  ∀ (O n d : String) (w : Value), RoadKit.Fld Z h x O n d w → RoadKit.slotOf Z O n d ≠ RoadKit.slotOf Z ST "value" "[B" → RoadKit.slotOf Z O n d ≠ RoadKit.slotOf Z ST "coder" "B" → RoadKit.Fld Z h' x O n d w
/-- **new String(chars) AT A CALL, THE ARRAYS AS LISTS**: the char[] at b holds cs, not empty, no char above 255 -/
theorem backArv {p : Program} {l : Launch} {e : Env} {R : Room} {s : State} {args : Array Value} {below : List Frame} {len W : Nat} {Z : State} {a0 : Array Value} {h : Heap} (hZ : Z.Warmed39 s.vm) (hw : ∀ d ∈ words, d.before a0 Z = true) {kI : Nat} (wi : (Jvm.Cond.instantiable ST kI).before a0 Z = true)
    {x b : Addr} {k : ClassId} {zn z : Int32} {cs : List Int32} {dv v0 c0 : Value} (E : RoadKit.Exa Z h x ST) (V : RoadKit.Fld Z h x ST "value" "[B" v0) (C : RoadKit.Fld Z h x ST "coder" "B" c0) (K : RoadKit.Arv Z h b k .char zn (cs.map Value.int) dv) (S : RoadKit.Sta Z h ST "COMPACT_STRINGS" "Z" (.int z)) (hz : ¬ z = 0)
    (hlen : zn.toNatClampNeg = cs.length) (h0 : 0 < cs.length) (hbig : cs.length ≤ 536870912) (hall : ∀ c ∈ cs, ¬ 255 < c) (hfr : 4 ≤ R.frames) (hlo : W + 65 ≤ R.locals) :
    Back l R p e below s args New1.yN len W (fun P a => a = #[.ref x, .ref b] ∧ P.U.heap = h ∧ P.cells + 1 ≤ R.cells ∧ P.slots + cs.length ≤ R.slots)
      (fun P _ v B => ∃ L, QA Z x zn cs h v B.U.heap L ∧ B.locs = P.locs ++ L ∧ B.cells = P.cells + 1 ∧ B.slots = P.slots + cs.length) := by
  obtain ⟨A, K1, K2, K3, K4, K5, K6⟩ := K
  have e : A.slots.size = cs.length := K3.trans hlen
  have hat : ∀ (i : Nat) (hi : i < cs.length), A.slots[i]? = some (.int cs[i]) := fun i hi => by rw [K5 i (by omega)]; simp [List.getD_eq_getElem?_getD, hi]
  have hcv : ∀ (i : Nat) (hi : i < cs.length), cv A i = cs[i] := fun i hi => by unfold cv; rw [hat i hi]
  have hty : Typed .char A := fun i v hv => by
    have hi : i < A.slots.size := (Array.getElem?_eq_some_iff.mp hv).1
    have q := K5 i hi
    rw [hv] at q
    rw [Option.some.inj q]
    exact K6 i hi
  refine Back.mono (back hZ hw wi E V C K1 hty S hz (by omega) (by omega) (fun i hi => by rw [hcv i (by omega)]; exact hall _ (List.getElem_mem _)) hfr hlo) (fun P a hp => ⟨hp.1, hp.2.1, hp.2.2.1, by rw [e]; exact hp.2.2.2⟩) (fun P a v B hp hq => ?_)
  obtain ⟨L, ⟨q1, q2, q3, q4, q5, q6, q7, ⟨V', v1, v2, v3, v4, v5⟩, q9⟩, hl, hc, hs⟩ := hq
  refine ⟨L, ⟨q1, q2, q3, q4, q5, q6, q7, ⟨V'.cls, v3, V', v1, rfl, by rw [v4, e, hlen], K4, fun i hi => ?_, fun i hi => ?_⟩, q9⟩, hl, hc, by rw [hs, e]⟩
  · have hi' : i < cs.length := by omega
    rw [v5 i (by omega), hcv i hi']; simp [List.getD_eq_getElem?_getD, hi']
  · have hi' : i < cs.length := by omega
    simp only [List.getD_eq_getElem?_getD, List.getElem?_map, List.getElem?_eq_getElem hi', Option.map_some, Option.getD_some]
    exact fits_lo8 _
end StrChars.Road
namespace StrChars.Road
open Jvm Sem ClassFile Op Lib Jvm.Stand Jvm.Free Jvm.Free.XT
/-- WHAT COMES BACK, in the writer's own shape -/
def QV (Z : State) (x : Addr) (N : Int32) (bs : List Int32) (h : Heap) (n0 : Nat) (v : Option Value) (h' : Heap) (L : List Loc) : Prop := v = none ∧ RoadKit.Fr n0 L ∧ RoadKit.Keep h h' [x] ∧ RoadKit.Exa Z h' x ST ∧ RoadKit.Fld Z h' x ST "coder" "B" (.int 0) ∧
  ∃ (t : Addr) (kb : ClassId), n0 ≤ t ∧ h.size ≤ t ∧ ¬ t = x ∧ RoadKit.Fld Z h' x ST "value" "[B" (.ref t) ∧ RoadKit.Arv Z h' t kb .byte N (bs.map Value.int) (.int 0)
/-- **new String(chars) AT A CALL, FOR THE WRITER**: a char[] of n known ints, each 0 to 255 -/
theorem backV {p : Program} {l : Launch} {e : Env} {R : Room} {s : State} {args : Array Value} {below : List Frame} {len W : Nat} {Z : State} {a0 : Array Value} {h : Heap} (hZ : Z.Warmed39 s.vm) (hw : ∀ d ∈ words, d.before a0 Z = true) {kI : Nat} (wi : (Jvm.Cond.instantiable ST kI).before a0 Z = true)
    {x b : Addr} {kC : ClassId} {cs bs : List Int32} {d v0 c0 : Value} {z N : Int32} {n n0 : Nat} (hx0 : n0 ≤ x) (hh0 : n0 ≤ h.size) (E : RoadKit.Exa Z h x ST) (V : RoadKit.Fld Z h x ST "value" "[B" v0) (C : RoadKit.Fld Z h x ST "coder" "B" c0) (K : RoadKit.Arv Z h b kC .char N (cs.map Value.int) d) (S : RoadKit.Sta Z h ST "COMPACT_STRINGS" "Z" (.int z)) (hz : ¬ z = 0)
    (hn : cs.length = n) (hN : N = Int32.ofNat n) (l0 : 0 < n) (l2 : n ≤ 4000) (hp : ∀ c ∈ cs, ¬ c < 0 ∧ ¬ (255 : Int32) < c) (hb : bs = cs.map (fun c => c.toInt8.toInt32)) (hfr : 4 ≤ R.frames) (hlo : W + 65 ≤ R.locals) :
    Back l R p e below s args (⟨"java/lang/String", "<init>", "([C)V"⟩ : MethodName) len W (fun P a => a = #[.ref x, .ref b] ∧ P.U.heap = h ∧ P.cells + 1 ≤ R.cells ∧ P.slots + n ≤ R.slots)
      (fun P _ v B => ∃ L, QV Z x N bs h n0 v B.U.heap L ∧ B.locs = P.locs ++ L ∧ B.cells = P.cells + 1 ∧ B.slots = P.slots + n) := by
  subst hn hN hb
  refine Back.mono (backArv hZ hw wi E V C K S hz (n32 (by omega)) l0 (by omega) (fun c hc => (hp c hc).2) hfr hlo) (fun P a hp => hp) (fun P a v B hp hq => ?_)
  obtain ⟨L, ⟨q1, q2, q3, q4, q5, q6, q7, ⟨kb, v1, v2⟩, q9⟩, hl, hc, hs⟩ := hq
  exact ⟨L, ⟨q1, fun y hy => by rw [q2 y hy]; exact hx0, q3, q5, q7, h.size, kb, hh0, Nat.le_refl _, Nat.ne_of_gt E.lt, q6, by rw [List.map_map]; exact v2⟩, hl, hc, hs⟩
end StrChars.Road
namespace StrChars
open Jvm Sem ClassFile Op Lib Jvm.Stand Jvm.Free.XT Jvm.Free.ALB Jvm.Free.JM Jvm.Free
open Jvm.Lib.Cold (StaticIs)
def hi8 (x : Int32) : Int32 := lo8 (x >>> ((8 : Int32) &&& 31))
/-- what StringUTF16.getChar makes of two bytes -/
def pairCh (u v : Int32) : Int32 := (((u &&& 255) <<< ((0 : Int32) &&& 31)) ||| ((v &&& 255) <<< ((8 : Int32) &&& 31))).toUInt32.toUInt16.toUInt32.toInt32
theorem shr0 (c : Int32) : c >>> ((0 : Int32) &&& 31) = c := by
  have e : ((0 : Int32) &&& 31) = 0 := by decide
  rw [e]
  apply Int32.toBitVec_inj.mp
  rw [Int32.toBitVec_shiftRight]
  have e1 : ((0 : Int32).toBitVec.smod 32) = 0#32 := by decide
  rw [e1, BitVec.sshiftRight_eq']
  exact BitVec.sshiftRight_zero
theorem lo8_and (x : Int32) : (lo8 x &&& 255).toBitVec.toNat = x.toBitVec.toNat % 256 := by
  have h : (lo8 x).toBitVec = (x.toBitVec.signExtend 8).signExtend 32 := by rw [lo8, Int8.toBitVec_toInt32, Int32.toBitVec_toInt8]
  rw [Int32.toBitVec_and, BitVec.toNat_and, h]
  have e : ((x.toBitVec.signExtend 8).signExtend 32).toNat % 256 = x.toBitVec.toNat % 256 := by
    rw [BitVec.toNat_signExtend]
    have hlt := x.toBitVec.isLt
    simp only [BitVec.toNat_setWidth, BitVec.toNat_signExtend]
    split <;> split <;> omega
  rw [← e]
  exact Nat.and_two_pow_sub_one_eq_mod _ 8
theorem pair_says {c : Int32} (h0 : ¬ c < 0) (h1 : ¬ 65535 < c) : pairCh (lo8 c) (hi8 c) = c := by
  rw [Int32.lt_iff_toInt_lt] at h0 h1
  have e0 : (0 : Int32).toInt = 0 := rfl
  have e1 : (65535 : Int32).toInt = 65535 := rfl
  have hc : c.toInt = c.toBitVec.toNat := by
    have := c.toBitVec.isLt
    have e : c.toInt = c.toBitVec.toInt := rfl
    rw [e] at h0 h1
    rw [e]
    rw [BitVec.toInt_eq_toNat_cond] at h0 h1 ⊢
    split at h0 <;> split <;> omega
  have hn : c.toBitVec.toNat < 65536 := by omega
  have a1 := lo8_and c
  have a2 : (hi8 c &&& 255).toBitVec.toNat = c.toBitVec.toNat / 256 := by
    rw [hi8, lo8_and]
    have e : ((8 : Int32) &&& 31) = 8 := by decide
    rw [e, Int32.toBitVec_shiftRight]
    have e2 : ((8 : Int32).toBitVec.smod 32) = 8#32 := by decide
    rw [e2, BitVec.sshiftRight_eq', BitVec.toNat_sshiftRight_of_msb_false (by rw [BitVec.msb_eq_false_iff_two_mul_lt]; omega)]
    show c.toBitVec.toNat >>> 8 % 256 = _
    rw [Nat.shiftRight_eq_div_pow]
    omega
  unfold pairCh
  apply Int32.toBitVec_inj.mp
  apply BitVec.eq_of_toNat_eq
  have f0 : ((0 : Int32) &&& 31) = 0 := by decide
  have f8 : ((8 : Int32) &&& 31) = 8 := by decide
  rw [f0, f8]
  have g : (((lo8 c &&& 255) <<< (0 : Int32)) ||| ((hi8 c &&& 255) <<< (8 : Int32))).toBitVec.toNat = c.toBitVec.toNat := by
    rw [Int32.toBitVec_or, Int32.toBitVec_shiftLeft, Int32.toBitVec_shiftLeft]
    have s0 : ((0 : Int32).toBitVec.smod 32) = 0#32 := by decide
    have s8 : ((8 : Int32).toBitVec.smod 32) = 8#32 := by decide
    rw [s0, s8, BitVec.toNat_or]
    simp only [BitVec.shiftLeft_eq', BitVec.toNat_shiftLeft, a1, a2]
    show (c.toBitVec.toNat % 256) <<< 0 % 2 ^ 32 ||| (c.toBitVec.toNat / 256) <<< 8 % 2 ^ 32 = _
    rw [Nat.shiftLeft_zero, Nat.mod_eq_of_lt (show c.toBitVec.toNat % 256 < 2 ^ 32 by omega), Nat.mod_eq_of_lt (show (c.toBitVec.toNat / 256) <<< 8 < 2 ^ 32 by rw [Nat.shiftLeft_eq]; omega), Nat.or_comm, ← Nat.shiftLeft_add_eq_or_of_lt (by omega), Nat.shiftLeft_eq]
    omega
  show BitVec.toNat (((((lo8 c &&& 255) <<< (0 : Int32)) ||| ((hi8 c &&& 255) <<< (8 : Int32))).toBitVec.setWidth 16).setWidth 32) = _
  rw [BitVec.toNat_setWidth, BitVec.toNat_setWidth, g]
  omega
end StrChars
namespace StrChars
open Jvm Sem ClassFile Op Lib Jvm.Stand Jvm.Free.XT Jvm.Free.ALB Jvm.Free.JM Jvm.Free
open Jvm.Lib.Cold (StaticIs)
theorem shr1 {n : Nat} (h : 2 * n < 2 ^ 31) : Int32.ofNat (2 * n) >>> ((1 : Int32) &&& 31) = Int32.ofNat n := by
  have e : ((1 : Int32) &&& 31) = 1 := by decide
  rw [e]
  apply Int32.toBitVec_inj.mp
  rw [Int32.toBitVec_shiftRight]
  have e1 : ((1 : Int32).toBitVec.smod 32) = 1#32 := by decide
  have hm : (BitVec.ofNat 32 (2 * n)).toNat = 2 * n := by rw [BitVec.toNat_ofNat, Nat.mod_eq_of_lt (by omega)]
  rw [e1, BitVec.sshiftRight_eq']
  apply BitVec.eq_of_toNat_eq
  show ((BitVec.ofNat 32 (2 * n)).sshiftRight 1).toNat = (BitVec.ofNat 32 n).toNat
  rw [BitVec.toNat_sshiftRight_of_msb_false (by rw [BitVec.msb_eq_false_iff_two_mul_lt, hm]; omega), hm, BitVec.toNat_ofNat, Nat.shiftRight_eq_div_pow]
  omega
theorem narrow_ch {c : Int32} (h0 : ¬ c < 0) (h1 : ¬ 65535 < c) : narrow .char (.int c) = .int c := by
  have q : narrow .char (.int (pairCh (lo8 c) (hi8 c))) = .int (pairCh (lo8 c) (hi8 c)) := narrow_c _
  rwa [pair_says h0 h1] at q
end StrChars
namespace StrChars.Road
open Jvm Sem ClassFile Op Lib Jvm.Stand Jvm.Free Jvm.Free.XT
open Jvm.Lib.Cold (StaticIs)
/-- the bytes of the chars cs, low before high -/
def wideBytes : List Int32 → List Value
  | [] => []
  | c :: cs => .int (lo8 c) :: .int (hi8 c) :: wideBytes cs
theorem wide_lo (d : Value) : ∀ (cs : List Int32) (j : Nat), j < cs.length → (wideBytes cs).getD (2 * j) d = .int (lo8 (cs.getD j 0))
  | [], j, h => absurd h (Nat.not_lt_zero j)
  | c :: cs, 0, _ => rfl
  | c :: cs, j + 1, h => by
    have q := wide_lo d cs j (by simpa using h)
    rw [show 2 * (j + 1) = 2 * j + 1 + 1 from by omega]
    simpa [wideBytes] using q
theorem wide_hi (d : Value) : ∀ (cs : List Int32) (j : Nat), j < cs.length → (wideBytes cs).getD (2 * j + 1) d = .int (hi8 (cs.getD j 0))
  | [], j, h => absurd h (Nat.not_lt_zero j)
  | c :: cs, 0, _ => rfl
  | c :: cs, j + 1, h => by
    have q := wide_hi d cs j (by simpa using h)
    rw [show 2 * (j + 1) + 1 = 2 * j + 1 + 1 + 1 from by omega]
    simpa [wideBytes] using q
theorem low_at (d : Value) (cs : List Int32) (j : Nat) (h : j < cs.length) : (cs.map fun c => Value.int (lo8 c)).getD j d = .int (lo8 (cs.getD j 0)) := by
  simp [List.getD_eq_getElem?_getD, h]
/-- an array of N2 bytes vs codes the chars cs by the coder cd -/
def CodA (cs : List Int32) (cd N2 : Int32) (vs : List Value) : Prop := (cd = 0 ∧ N2 = Int32.ofNat cs.length ∧ vs = (cs.map fun c => Value.int (lo8 c)) ∧ ∀ c ∈ cs, ¬ 255 < c) ∨ (cd = 1 ∧ N2 = Int32.ofNat (2 * cs.length) ∧ vs = wideBytes cs ∧ ∃ c ∈ cs, 255 < c)
end StrChars.Road
namespace StrChars.Road
open Jvm Sem ClassFile Op Lib Jvm.Stand Jvm.Free Jvm.Free.XT
open Jvm.Lib.Cold (StaticIs)
/-- what backV says of its String, as the contracts of this text ask it: cs's low bytes, coder 0 -/
theorem codOf {cs : List Int32} {n : Nat} (hn : cs.length = n) (hb : ∀ c ∈ cs, ¬ 255 < c) : CodA cs 0 (Int32.ofNat n) ((cs.map lo8).map Value.int) := Or.inl ⟨rfl, by rw [hn], by simp [List.map_map, Function.comp_def], hb⟩
end StrChars.Road
end Jvm.Pilot.@@N@@
namespace Jvm.Pilot.@@N@@
open Jvm Jvm.ClassFile Sem Op Lib Jvm.Free Jvm.Stand Jvm.LawKit Jvm.RoadKit Bundle Jvm.Pilot.@@N@@.Jvm.D
set_option maxRecDepth 65536
set_option maxHeartbeats 40000000
section Own
variable {p : Program} {l : Launch} {e : Env} {R : Room} {s : State} {m : MethodId} {args : Array Value} {below : List Frame} {meth : Method} {c : Code} {T T' : State} {locs : List Loc} {cells slots : Nat} {G : Outcome → State → Prop} {g g' : JFrame}
def OwnGoes (p : Program) (e : Env) (below : List Frame) (G : Outcome → State → Prop) (T : State) (g : JFrame) : Prop := ∃ s₂ o, Steps p.tables e below (T.setTop g) s₂ ∧ s₂.status = .running ∧ Ended s₂ below o ∧ G o s₂
abbrev vI (x : Int32) : Slot := .val (.int x)
abbrev oR (a b c d : Nat) : Room := { frames := a, cells := b, slots := c, locals := d }
abbrev vU : Slot := .unset
theorem own_w {d : Jvm.Cond} {a0 : Array Value} {Z : State} (hw : ∀ d ∈ tables_1, d.before a0 Z = true) (i : Nat) (h : tables_1[i]? = some d) : d.before a0 Z = true := hw _ (List.mem_of_getElem? h)
abbrev vR (a : Addr) : Slot := .val (.ref a)
theorem OwnGoes.step (h : ∀ t, Steps p.tables e below (T'.setTop g') t → Steps p.tables e below (T.setTop g) t) (k : OwnGoes p e below G T' g') : OwnGoes p e below G T g := by
 obtain ⟨s2, o, h1, r⟩ := k
 exact ⟨s2, o, h _ h1, r⟩
theorem OwnGoes.tr (h : Steps p.tables e below (T.setTop g) (T'.setTop g')) (k : OwnGoes p e below G T' g') : OwnGoes p e below G T g := by
 obtain ⟨s2, o, h1, r⟩ := k
 exact ⟨s2, o, h.trans h1, r⟩
theorem og (T' : State) (m' : MethodId) (pc : Nat) (L : Array Slot) (S : List Value) (h : ∀ t, Steps p.tables e below (T'.setTop (mkF m' pc L S)) t → Steps p.tables e below (T.setTop g) t) (k : OwnGoes p e below G T' (mkF m' pc L S)) : OwnGoes p e below G T g := OwnGoes.step h k
theorem own_leave (X : Stand p l e R s m args below meth c T locs cells slots) (hlk : meth.locks = false) {v : Option Value} (hv : meth.sig.returnType = none → v = none)
  (hret : ∀ fs, (∀ (f : JFrame) (acts : List Action), f.method = m → f.locked = none → f.entered = [] → (doReturn e (T.setTop f) acts v).1 = T.setFrames fs) → Steps p.tables e below (T.setTop g) (T.setFrames fs))
  {k n : Nat} (hc : cells ≤ k) (hs : slots ≤ n) {Q : Option Value → Heap → List Loc → Prop} (hQ : Q v T.heap locs) :
  OwnGoes p e below (fun o U' => ∃ v L, o = .returned v ∧ Q v U'.heap L ∧ FrameEnd s o U' L k n) T g := by
 obtain ⟨fs, hr, hrun, hended, hW, hsame⟩ := X.leave (v := v) hv hlk
 exact ⟨_, _, hret fs hr, hrun, hended, v, locs, rfl, hQ, ⟨_, rfl⟩, hW, hsame.mono hc hs⟩
theorem own_leaveW {Z : State} {EL : List (String × Nat)} {vm1 : Vm} (X : Stand p l e R (s.setVm vm1) m args below meth c T locs cells slots) {n1 : Nat} (hS : s.Since vm1 n1) (hn : n1 ≤ T.heap.size) (hlk : meth.locks = false) {v : Option Value} (hv : meth.sig.returnType = none → v = none)
  (hret : ∀ fs, (∀ (f : JFrame) (acts : List Action), f.method = m → f.locked = none → f.entered = [] → (doReturn e (T.setTop f) acts v).1 = T.setFrames fs) → Steps p.tables e below (T.setTop g) (T.setFrames fs))
  {k n : Nat} (hc : cells ≤ k) (hs : slots ≤ n) {Q : Option Value → Heap → List Loc → Prop} (hR : CHr Z EL s.vm s.heap T.vm T.heap) (hQ : Q v T.heap locs) :
  OwnGoes p e below (fun o U' => ∃ v L, o = .returned v ∧ Q v U'.heap L ∧ CHr Z EL s.vm s.heap U'.vm U'.heap ∧ ReturnedEndW s o U' L k n) T g := by
 obtain ⟨fs, hr, hrun, hended, a1, a2, a3, a4⟩ := X.leaveW hS hn (v := v) hv hlk
 exact ⟨_, _, hret fs hr, hrun, hended, v, locs, rfl, hQ, hR, a1, a2, a3, a4.mono hc hs⟩
theorem own_cls {s : State} {args : Array Value} {C : String} {y y' : MethodName} {m : MethodId} (hn : s.methodNamed? y = some m) (hs : (Cond.selects C y' y').before args s = true) (hc : y'.cls = y.cls) : ∃ mk, s.vm.classes[m.cls]? = some mk ∧ mk.isInterface = false := by
 obtain ⟨c2, r2, m2, q1, q2, q3, q4, kP, hkP, hkPi⟩ := Cond.selects_spec hs
 have a := findClass_of_methodNamed hn
 have b := findClass_of_methodNamed q3
 rw [hc, a] at b
 rw [Option.some.inj b]
 exact ⟨kP, hkP, hkPi⟩
theorem own_notface {s : State} {args : Array Value} {C : String} {y y' : MethodName} (hs : (Cond.selects C y' y').before args s = true) (hc : y'.cls = y.cls) : NotFace s y := fun r0 h0 => own_cls h0 hs hc
theorem own_same {s : State} {args : Array Value} {C : String} {y y' : MethodName} (hd : (Cond.declares y).before args s = true) (hs : (Cond.selects C y' y').before args s = true) (hc : y'.cls = y.cls) (hx : y.cls ≠ "java/lang/invoke/MethodHandle" ∧ y.cls ≠ "java/lang/invoke/VarHandle") : (Cond.sameMethod y.cls y.cls y.name y.desc).before args s = true := by
 obtain ⟨m, meth, h1, -⟩ := Cond.declares_spec hd
 obtain ⟨mk, k1, k2⟩ := own_cls h1 hs hc
 have a := findClass_of_methodNamed h1
 have b := State.methodFound?_of_named h1 hx
 have h1' : s.methodNamed? ⟨y.cls, y.name, y.desc⟩ = some m := h1
 simp [Cond.before, Cond.holds, Cond.value, a, b, h1', k1, k2]
theorem own_decl {s : State} {args : Array Value} {y : MethodName} {bytes : ByteArray} {maxL : Nat} {ret : Option FieldType} (h1 : (Cond.instanceMethod y).before args s = true) (h2 : (Cond.code y bytes maxL ret).before args s = true) : (Cond.declares y).before args s = true := by
 obtain ⟨mk, meth, hn, hm, hst, -⟩ := Cond.instanceMethod_spec h1
 obtain ⟨m2, cM, q1, -, -, -, -, -, -, hsig⟩ := Cond.code_spec hn h2
 cases hm.symm.trans q1
 simp [Cond.before, Cond.holds, Cond.value, hn, hm, hst, hsig]
theorem own_arv_ty {Z : State} {h : Heap} {a b : Addr} {k k' : ClassId} {ty ty' : FieldType} {n n' : Int32} {vs vs' : List Value} {d d' : Value} (A : Arv Z h a k ty n vs d) (B : Arv Z h b k' ty' n' vs' d') (q : ty ≠ ty') : a ≠ b := fun e => by
 subst e
 obtain ⟨c1, ⟨a1, ⟨-, k1, a2, c1', a3⟩, -⟩, -⟩ := A
 obtain ⟨c2, ⟨b1, ⟨-, k2, b2, c2', b3⟩, -⟩, -⟩ := B
 cases a1.symm.trans b1
 cases a2.symm.trans b2
 have := a3.symm.trans b3
 injection this with _ e
 exact q e
theorem own_nar2_char (x : Int32) : nar .char (nar .char x) = nar .char x := by simp only [nar, UInt32.toUInt32_toInt32, UInt16.toUInt16_toUInt32]
theorem own_nar2_byte (x : Int32) : nar .byte (nar .byte x) = nar .byte x := by simp [nar]
end Own
section Own2
abbrev OwnP : Type := Heap → Nat → Option Value → Heap → List Loc → Prop
variable {p : Program} {l : Launch} {e : Env} {Rm : Room} {s : State} {m : MethodId} {args : Array Value} {below : List Frame} {meth : Method} {c : Code} {T T' : State} {locs : List Loc} {cells slots : Nat} {G : Outcome → State → Prop} {lst : List (Nat × Instr × Nat)} {pc : Nat} {L l' : Array Slot} {S : List Value} {x y z v : Int32} {k pc' : Nat}
abbrev OwnDec (code : ByteArray) (lst : List (Nat × Instr × Nat)) : Prop := ∀ q ∈ lst, decode code q.1 = .ok q.2
theorem oD0 {code : ByteArray} : OwnDec code [] := fun _ h => nomatch h
theorem oD2 {code : ByteArray} {a n : Nat} {b : Instr} (h : decode code a = .ok (b, n)) (r : OwnDec code lst) : OwnDec code ((a, b, n) :: lst) := fun q hq => by
 rcases List.mem_cons.mp hq with rfl | hq
 ·
  exact h
 ·
  exact r q hq
def OwnY (p : Program) (T : State) (m : MethodId) (c : Code) (below : List Frame) (lst : List (Nat × Instr × Nat)) : Prop := At T m c below ∧ p.tables.exec = Jvm.exec ∧ ∀ q ∈ lst, decode c.code q.1 = .ok q.2
theorem oY0 {code : ByteArray} (hx : p.tables.exec = Jvm.exec) (hby : c.code = code) (hd : OwnDec code lst) (X : Stand p l e Rm s m args below meth c T locs cells slots) : OwnY p T m c below lst := ⟨X.here, hx, fun q hq => hby ▸ hd q hq⟩
theorem OwnY.nx (Y : OwnY p T m c below lst) (X : Stand p l e Rm s m args below meth c T' locs cells slots) : OwnY p T' m c below lst := ⟨X.here, Y.2⟩
theorem OwnY.d (Y : OwnY p T m c below lst) (i : Nat) {a n : Nat} {b : Instr} (h : lst[i]? = some (a, b, n)) : decode c.code a = .ok (b, n) := Y.2.2 (a, b, n) (List.mem_of_getElem? h)
abbrev OwnSl (o : Slot) : Prop := o = .unset ∨ ∃ w, o = .val w ∧ w.category = 1
abbrev OwnH (p : Program) (e : Env) (below : List Frame) (G : Outcome → State → Prop) (T : State) (m : MethodId) (pc : Nat) (L : Array Slot) (S : List Value) : Prop := OwnGoes p e below G T (mkF m pc L S)
theorem oil (Y : OwnY p T m c below lst) (i : Nat) (q : lst[i]? = some (pc, .iload k, 2)) (hl : L[k]? = some (.val (.int v))) (h : OwnH p e below G T m (pc + 2) L (.int v :: S)) : OwnH p e below G T m pc L S := OwnGoes.step (fun _ kgo => XS.iload Y.1 Y.2.1 rfl (Y.d i q) hl kgo) h
theorem oiN {k : Fin 4} (Y : OwnY p T m c below lst) (i : Nat) (q : lst[i]? = some (pc, .iload_n k, 1)) (hl : L[k.val]? = some (.val (.int v))) (h : OwnH p e below G T m (pc + 1) L (.int v :: S)) : OwnH p e below G T m pc L S := OwnGoes.step (fun _ kgo => XS.iloadN Y.1 Y.2.1 rfl (Y.d i q) hl kgo) h
theorem oal {v : Value} (Y : OwnY p T m c below lst) (i : Nat) (q : lst[i]? = some (pc, .aload k, 2)) (hl : L[k]? = some (.val v)) (hv : v.isRef = true) (h : OwnH p e below G T m (pc + 2) L (v :: S)) : OwnH p e below G T m pc L S := OwnGoes.step (fun _ kgo => XS.aload Y.1 Y.2.1 rfl (Y.d i q) hl hv kgo) h
theorem oaN {k : Fin 4} {v : Value} (Y : OwnY p T m c below lst) (i : Nat) (q : lst[i]? = some (pc, .aload_n k, 1)) (hl : L[k.val]? = some (.val v)) (hv : v.isRef = true) (h : OwnH p e below G T m (pc + 1) L (v :: S)) : OwnH p e below G T m pc L S := OwnGoes.step (fun _ kgo => XS.aloadN Y.1 Y.2.1 rfl (Y.d i q) hl hv kgo) h
theorem ois (Y : OwnY p T m c below lst) (i : Nat) (q : lst[i]? = some (pc, .istore k, 2)) (l' : Array Slot) (hl : storeLocals L k (.int x) = some l') (h : OwnH p e below G T m (pc + 2) l' S) : OwnH p e below G T m pc L (.int x :: S) := OwnGoes.step (fun _ kgo => XS.istore Y.1 Y.2.1 rfl (Y.d i q) rfl hl kgo) h
theorem oiS {k : Fin 4} (Y : OwnY p T m c below lst) (i : Nat) (q : lst[i]? = some (pc, .istore_n k, 1)) (l' : Array Slot) (hl : storeLocals L k.val (.int x) = some l') (h : OwnH p e below G T m (pc + 1) l' S) : OwnH p e below G T m pc L (.int x :: S) := OwnGoes.step (fun _ kgo => XS.istoreN Y.1 Y.2.1 rfl (Y.d i q) rfl hl kgo) h
theorem oas {v : Value} (Y : OwnY p T m c below lst) (i : Nat) (q : lst[i]? = some (pc, .astore k, 2)) (l' : Array Slot) (hv : v.isRef = true) (hl : storeLocals L k v = some l') (h : OwnH p e below G T m (pc + 2) l' S) : OwnH p e below G T m pc L (v :: S) := OwnGoes.step (fun _ kgo => XS.astore Y.1 Y.2.1 rfl (Y.d i q) rfl hv hl kgo) h
theorem oaS {k : Fin 4} {v : Value} (Y : OwnY p T m c below lst) (i : Nat) (q : lst[i]? = some (pc, .astore_n k, 1)) (l' : Array Slot) (hv : v.isRef = true) (hl : storeLocals L k.val v = some l') (h : OwnH p e below G T m (pc + 1) l' S) : OwnH p e below G T m pc L (v :: S) := OwnGoes.step (fun _ kgo => XS.astoreN Y.1 Y.2.1 rfl (Y.d i q) rfl hv hl kgo) h
theorem oic {j : Int} (v : Int32) (Y : OwnY p T m c below lst) (i : Nat) (q : lst[i]? = some (pc, .iconst j, 1)) (hv : Int32.ofInt j = v) (h : OwnH p e below G T m (pc + 1) L (.int v :: S)) : OwnH p e below G T m pc L S := OwnGoes.step (fun _ kgo => XS.iconst Y.1 Y.2.1 rfl (Y.d i q) (by subst hv; exact kgo)) h
theorem obp {j : Int} (v : Int32) (Y : OwnY p T m c below lst) (i : Nat) (q : lst[i]? = some (pc, .bipush j, 2)) (hv : (Int8.ofInt j).toInt32 = v) (h : OwnH p e below G T m (pc + 2) L (.int v :: S)) : OwnH p e below G T m pc L S := OwnGoes.step (fun _ kgo => XS.bipush Y.1 Y.2.1 rfl (Y.d i q) (by subst hv; exact kgo)) h
theorem osp {j : Int} (v : Int32) (Y : OwnY p T m c below lst) (i : Nat) (q : lst[i]? = some (pc, .sipush j, 3)) (hv : (Int16.ofInt j).toInt32 = v) (h : OwnH p e below G T m (pc + 3) L (.int v :: S)) : OwnH p e below G T m pc L S := OwnGoes.step (fun _ kgo => XS.sipush Y.1 Y.2.1 rfl (Y.d i q) (by subst hv; exact kgo)) h
theorem onl (Y : OwnY p T m c below lst) (i : Nat) (q : lst[i]? = some (pc, .aconst_null, 1)) (h : OwnH p e below G T m (pc + 1) L (.null :: S)) : OwnH p e below G T m pc L S := OwnGoes.step (fun _ kgo => XS.aconstNull Y.1 Y.2.1 rfl (Y.d i q) kgo) h
theorem oadd (Y : OwnY p T m c below lst) (i : Nat) (q : lst[i]? = some (pc, .iadd, 1)) (h : OwnH p e below G T m (pc + 1) L (.int (x + y) :: S)) : OwnH p e below G T m pc L (.int y :: .int x :: S) := OwnGoes.step (fun _ kgo => XS.iadd Y.1 Y.2.1 rfl (Y.d i q) rfl kgo) h
theorem osub (Y : OwnY p T m c below lst) (i : Nat) (q : lst[i]? = some (pc, .isub, 1)) (h : OwnH p e below G T m (pc + 1) L (.int (x - y) :: S)) : OwnH p e below G T m pc L (.int y :: .int x :: S) := OwnGoes.step (fun _ kgo => XS.isub Y.1 Y.2.1 rfl (Y.d i q) rfl kgo) h
theorem oand (Y : OwnY p T m c below lst) (i : Nat) (q : lst[i]? = some (pc, .iand, 1)) (h : OwnH p e below G T m (pc + 1) L (.int (x &&& y) :: S)) : OwnH p e below G T m pc L (.int y :: .int x :: S) := OwnGoes.step (fun _ kgo => XS.iand Y.1 Y.2.1 rfl (Y.d i q) rfl kgo) h
theorem oor (Y : OwnY p T m c below lst) (i : Nat) (q : lst[i]? = some (pc, .ior, 1)) (h : OwnH p e below G T m (pc + 1) L (.int (x ||| y) :: S)) : OwnH p e below G T m pc L (.int y :: .int x :: S) := OwnGoes.step (fun _ kgo => XS.ior Y.1 Y.2.1 rfl (Y.d i q) rfl kgo) h
theorem oshl (Y : OwnY p T m c below lst) (i : Nat) (q : lst[i]? = some (pc, .ishl, 1)) (h : OwnH p e below G T m (pc + 1) L (.int (x <<< (y &&& 31)) :: S)) : OwnH p e below G T m pc L (.int y :: .int x :: S) := OwnGoes.step (fun _ kgo => XS.ishl Y.1 Y.2.1 rfl (Y.d i q) rfl kgo) h
theorem oshr (Y : OwnY p T m c below lst) (i : Nat) (q : lst[i]? = some (pc, .ishr, 1)) (h : OwnH p e below G T m (pc + 1) L (.int (x >>> (y &&& 31)) :: S)) : OwnH p e below G T m pc L (.int y :: .int x :: S) := OwnGoes.step (fun _ kgo => XS.ishr Y.1 Y.2.1 rfl (Y.d i q) rfl kgo) h
theorem ousr (Y : OwnY p T m c below lst) (i : Nat) (q : lst[i]? = some (pc, .iushr, 1)) (h : OwnH p e below G T m (pc + 1) L (.int ((x.toUInt32 >>> (y &&& 31).toUInt32).toInt32) :: S)) : OwnH p e below G T m pc L (.int y :: .int x :: S) := OwnGoes.step (fun _ kgo => XS.iushr Y.1 Y.2.1 rfl (Y.d i q) rfl kgo) h
theorem oi2b (Y : OwnY p T m c below lst) (i : Nat) (q : lst[i]? = some (pc, .i2b, 1)) (h : OwnH p e below G T m (pc + 1) L (.int (nar .byte x) :: S)) : OwnH p e below G T m pc L (.int x :: S) := OwnGoes.step (fun _ kgo => XS.i2b Y.1 Y.2.1 rfl (Y.d i q) rfl kgo) h
theorem oi2c (Y : OwnY p T m c below lst) (i : Nat) (q : lst[i]? = some (pc, .i2c, 1)) (h : OwnH p e below G T m (pc + 1) L (.int (nar .char x) :: S)) : OwnH p e below G T m pc L (.int x :: S) := OwnGoes.step (fun _ kgo => XS.i2c Y.1 Y.2.1 rfl (Y.d i q) rfl kgo) h
theorem odiv (Y : OwnY p T m c below lst) (i : Nat) (q : lst[i]? = some (pc, .idiv, 1)) (hy : y ≠ 0) (h : OwnH p e below G T m (pc + 1) L (.int (x / y) :: S)) : OwnH p e below G T m pc L (.int y :: .int x :: S) := OwnGoes.step (fun _ kgo => XS.idiv Y.1 Y.2.1 rfl (Y.d i q) rfl hy kgo) h
theorem orem (X : Stand p l e Rm s m args below meth c T locs cells slots) (Y : OwnY p T m c below lst) (i : Nat) (q : lst[i]? = some (pc, .irem, 1)) (hy : y ≠ 0) (h : OwnH p e below G T m (pc + 1) L (.int (x % y) :: S)) : OwnH p e below G T m pc L (.int y :: .int x :: S) := OwnGoes.step (fun _ kgo => iremM X Y.2.1 rfl (Y.d i q) rfl hy kgo) h
theorem oinc {j : Int} (Y : OwnY p T m c below lst) (i : Nat) (q : lst[i]? = some (pc, .iinc k j, 3)) (l' : Array Slot) (hl : L[k]? = some (.val (.int x))) (hl' : storeLocals L k (.int (x + Int32.ofInt j)) = some l') (h : OwnH p e below G T m (pc + 3) l' S) : OwnH p e below G T m pc L S := OwnGoes.step (fun _ kgo => XS.iinc Y.1 Y.2.1 rfl (Y.d i q) hl hl' kgo) h
theorem odup {v : Value} (Y : OwnY p T m c below lst) (i : Nat) (q : lst[i]? = some (pc, .dup, 1)) (hc : v.category = 1) (h : OwnH p e below G T m (pc + 1) L (v :: v :: S)) : OwnH p e below G T m pc L (v :: S) := OwnGoes.step (fun _ kgo => XS.dup Y.1 Y.2.1 rfl (Y.d i q) rfl hc kgo) h
theorem opop {v : Value} (Y : OwnY p T m c below lst) (i : Nat) (q : lst[i]? = some (pc, .pop, 1)) (hc : v.category = 1) (h : OwnH p e below G T m (pc + 1) L S) : OwnH p e below G T m pc L (v :: S) := OwnGoes.step (fun _ kgo => XS.pop Y.1 Y.2.1 rfl (Y.d i q) rfl hc kgo) h
theorem odx1 {v w : Value} (Y : OwnY p T m c below lst) (i : Nat) (q : lst[i]? = some (pc, .dup_x1, 1)) (hc : v.category = 1) (hc' : w.category = 1) (h : OwnH p e below G T m (pc + 1) L (v :: w :: v :: S)) : OwnH p e below G T m pc L (v :: w :: S) := OwnGoes.step (fun _ kgo => XS.dupX1 Y.1 Y.2.1 rfl (Y.d i q) rfl hc hc' kgo) h
def oT (pc : Nat) (o : Int) (pc' : Nat) : Bool := decide (0 ≤ (pc : Int) + o) && decide (((pc : Int) + o).toNat = pc')
theorem oT1 {o : Int} (h : oT pc o pc' = true) : 0 ≤ (pc : Int) + o := of_decide_eq_true (Bool.and_eq_true .. ▸ h).1
theorem oT2 {o : Int} (h : oT pc o pc' = true) : ((pc : Int) + o).toNat = pc' := of_decide_eq_true (Bool.and_eq_true .. ▸ h).2
theorem ogt {o : Int} (pc' : Nat) (Y : OwnY p T m c below lst) (i : Nat) (q : lst[i]? = some (pc, .goto o, 3)) (ht : oT pc o pc' = true) (h : OwnH p e below G T m pc' L S) : OwnH p e below G T m pc L S := OwnGoes.step (fun _ kgo => XS.goto Y.1 Y.2.1 rfl rfl (Y.d i q) (oT1 ht) (oT2 ht) kgo) h
theorem oify {o : Int} {cd : ClassFile.Cond} (pc' : Nat) (Y : OwnY p T m c below lst) (i : Nat) (q : lst[i]? = some (pc, .ifCond cd o, 3)) (ht : oT pc o pc' = true) (hc : ifCond.holds cd x = true) (h : OwnH p e below G T m pc' L S) : OwnH p e below G T m pc L (.int x :: S) := OwnGoes.step (fun _ kgo => XS.ifYes Y.1 Y.2.1 rfl rfl (Y.d i q) rfl hc (oT1 ht) (oT2 ht) kgo) h
theorem oifn {o : Int} {cd : ClassFile.Cond} (Y : OwnY p T m c below lst) (i : Nat) (q : lst[i]? = some (pc, .ifCond cd o, 3)) (hc : ifCond.holds cd x = false) (h : OwnH p e below G T m (pc + 3) L S) : OwnH p e below G T m pc L (.int x :: S) := OwnGoes.step (fun _ kgo => XS.ifNo Y.1 Y.2.1 rfl (Y.d i q) rfl hc kgo) h
theorem ocy {o : Int} {cd : ClassFile.Cond} (pc' : Nat) (Y : OwnY p T m c below lst) (i : Nat) (q : lst[i]? = some (pc, .if_icmp cd o, 3)) (ht : oT pc o pc' = true) (hc : if_icmp.holds cd x y = true) (h : OwnH p e below G T m pc' L S) : OwnH p e below G T m pc L (.int y :: .int x :: S) := OwnGoes.step (fun _ kgo => XS.icmpYes Y.1 Y.2.1 rfl rfl (Y.d i q) rfl hc (oT1 ht) (oT2 ht) kgo) h
theorem ocn {o : Int} {cd : ClassFile.Cond} (Y : OwnY p T m c below lst) (i : Nat) (q : lst[i]? = some (pc, .if_icmp cd o, 3)) (hc : if_icmp.holds cd x y = false) (h : OwnH p e below G T m (pc + 3) L S) : OwnH p e below G T m pc L (.int y :: .int x :: S) := OwnGoes.step (fun _ kgo => XS.icmpNo Y.1 Y.2.1 rfl (Y.d i q) rfl hc kgo) h
theorem oti {v : Int32} (w : Int32) (q : v = w) (h : OwnH p e below G T m pc L (.int w :: S)) : OwnH p e below G T m pc L (.int v :: S) := q ▸ h
theorem olen {Z : State} {h0 : Heap} {a : Addr} {kc : ClassId} {ty : FieldType} {n : Int32} {vs : List Value} {d : Value} (X : Stand p l e Rm s m args below meth c T locs cells slots) (Y : OwnY p T m c below lst) (hZ : Z.Warmed39 s.vm) (eH : T.heap = h0) (A : Arv Z h0 a kc ty n vs d) (i : Nat) (q : lst[i]? = some (pc, .arraylength, 1)) (h : OwnH p e below G T m (pc + 1) L (.int n :: S)) : OwnH p e below G T m pc L (.ref a :: S) := by
 obtain ⟨cl, Ar, q0, Sz, Mx, -, -⟩ := A
 refine OwnGoes.step (fun _ kgo => ?_) h
 refine X.arraylength Y.2.1 (by rw [eH]; exact Ar.1) (State.isArrayOf_alike hZ.alike Ar.2.1) rfl rfl (Y.d i q) _ ?_
 rw [len_of Sz Mx]; exact kgo
theorem oial {Z : State} {h0 : Heap} {a : Addr} {kc : ClassId} {n : Int32} {vs : List Value} {d v : Value} {j : Int32} (X : Stand p l e Rm s m args below meth c T locs cells slots) (Y : OwnY p T m c below lst) (hZ : Z.Warmed39 s.vm) (eH : T.heap = h0) (A : Arv Z h0 a kc .int n vs d) (i : Nat) (q : lst[i]? = some (pc, .iaload, 1)) (hj : ¬ j < 0 ∧ j < n) (hv : vs.getD j.toNatClampNeg d = v) (h : OwnH p e below G T m (pc + 1) L (v :: S)) : OwnH p e below G T m pc L (.int j :: .ref a :: S) := by
 obtain ⟨cl, Ar, q0, Sz, Mx, Hs, -⟩ := A
 refine OwnGoes.step (fun _ kgo => ?_) h
 exact X.iaload Y.2.1 (by rw [eH]; exact Ar.1) (State.isArrayOf_alike hZ.alike Ar.2.1) Ar.2.2 (inb_of Sz hj) (Has.at Hs (inb_of Sz hj) hv) rfl rfl (Y.d i q) _ kgo
theorem ocal {Z : State} {h0 : Heap} {a : Addr} {kc : ClassId} {n : Int32} {vs : List Value} {d v : Value} {j : Int32} (X : Stand p l e Rm s m args below meth c T locs cells slots) (Y : OwnY p T m c below lst) (hZ : Z.Warmed39 s.vm) (eH : T.heap = h0) (A : Arv Z h0 a kc .char n vs d) (i : Nat) (q : lst[i]? = some (pc, .caload, 1)) (hj : ¬ j < 0 ∧ j < n) (hv : vs.getD j.toNatClampNeg d = v) (h : OwnH p e below G T m (pc + 1) L (v :: S)) : OwnH p e below G T m pc L (.int j :: .ref a :: S) := by
 obtain ⟨cl, Ar, q0, Sz, Mx, Hs, -⟩ := A
 refine OwnGoes.step (fun _ kgo => ?_) h
 exact X.caload Y.2.1 (by rw [eH]; exact Ar.1) (State.isArrayOf_alike hZ.alike Ar.2.1) Ar.2.2 (inb_of Sz hj) (Has.at Hs (inb_of Sz hj) hv) rfl rfl (Y.d i q) _ kgo
theorem obal {Z : State} {h0 : Heap} {a : Addr} {kc : ClassId} {n : Int32} {vs : List Value} {d v : Value} {j : Int32} (X : Stand p l e Rm s m args below meth c T locs cells slots) (Y : OwnY p T m c below lst) (hZ : Z.Warmed39 s.vm) (eH : T.heap = h0) (A : Arv Z h0 a kc .byte n vs d) (i : Nat) (q : lst[i]? = some (pc, .baload, 1)) (hj : ¬ j < 0 ∧ j < n) (hv : vs.getD j.toNatClampNeg d = v) (h : OwnH p e below G T m (pc + 1) L (v :: S)) : OwnH p e below G T m pc L (.int j :: .ref a :: S) := by
 obtain ⟨cl, Ar, q0, Sz, Mx, Hs, -⟩ := A
 refine OwnGoes.step (fun _ kgo => ?_) h
 exact X.baloadBytes Y.2.1 (by rw [eH]; exact Ar.1) (State.isArrayOf_alike hZ.alike Ar.2.1) Ar.2.2 (inb_of Sz hj) (Has.at Hs (inb_of Sz hj) hv) rfl rfl (Y.d i q) _ kgo
theorem ozal {Z : State} {h0 : Heap} {a : Addr} {kc : ClassId} {n : Int32} {vs : List Value} {d v : Value} {j : Int32} (X : Stand p l e Rm s m args below meth c T locs cells slots) (Y : OwnY p T m c below lst) (hZ : Z.Warmed39 s.vm) (eH : T.heap = h0) (A : Arv Z h0 a kc .boolean n vs d) (i : Nat) (q : lst[i]? = some (pc, .baload, 1)) (hj : ¬ j < 0 ∧ j < n) (hv : vs.getD j.toNatClampNeg d = v) (h : OwnH p e below G T m (pc + 1) L (v :: S)) : OwnH p e below G T m pc L (.int j :: .ref a :: S) := by
 obtain ⟨cl, Ar, q0, Sz, Mx, Hs, -⟩ := A
 refine OwnGoes.step (fun _ kgo => ?_) h
 exact X.baloadBooleans Y.2.1 (by rw [eH]; exact Ar.1) (State.isArrayOf_alike hZ.alike Ar.2.1) Ar.2.2 (inb_of Sz hj) (Has.at Hs (inb_of Sz hj) hv) rfl rfl (Y.d i q) _ kgo
abbrev OwnM (l : Launch) (Z : State) (y : MethodName) (code : ByteArray) (ml : Nat) (rt : Option FieldType) (R : Room) (as' : Array Value) (h0 : Heap) (Q : Option Value → Heap → List Loc → Prop) : Prop := MetFree l y (head1 [Jvm.Cond.code y code ml rt] R) (fun a U => a = as' ∧ Z.Warmed39 U.vm ∧ U.heap = h0) (fun _ _ _ _ _ => True) (fun _ U o U' => ∃ v L, o = .returned v ∧ Q v U'.heap L ∧ FrameEnd U o U' L R.cells R.slots)
def oOk (R rm : Room) (W ml cells slots : Nat) (y : MethodName) : Bool := decide (y.cls ≠ "java/lang/invoke/MethodHandle" ∧ y.cls ≠ "java/lang/invoke/VarHandle") && (decide (rm.frames + 1 ≤ R.frames) && (decide (W + (ml + 11) + rm.locals ≤ R.locals) && (decide (cells + rm.cells ≤ R.cells) && decide (slots + rm.slots ≤ R.slots))))
theorem oOk_ {R rm : Room} {W ml cells slots : Nat} {y : MethodName} (h : oOk R rm W ml cells slots y = true) : (y.cls ≠ "java/lang/invoke/MethodHandle" ∧ y.cls ≠ "java/lang/invoke/VarHandle") ∧ rm.frames + 1 ≤ R.frames ∧ W + (ml + 11) + rm.locals ≤ R.locals ∧ cells + rm.cells ≤ R.cells ∧ slots + rm.slots ≤ R.slots := by
 simpa only [oOk, Bool.and_eq_true, decide_eq_true_eq] using h
section
variable {Z : State} {a0 : Array Value} {own : String} {index : Nat} {y : MethodName} {bytes : ByteArray} {ml : Nat} {rt : Option FieldType} {rm : Room} {as' : Array Value} {h0 : Heap} {Q : Option Value → Heap → List Loc → Prop} {ps : List FieldType} {r : Option FieldType}
theorem oCS (X : Stand p l e Rm s m args below meth c T locs cells slots) (Y : OwnY p T m c below lst) (hZ : Z.Warmed39 s.vm) (hml : c.maxLocals = k) (hown : s.vm.findClass own = some m.cls)
  (w1 : (Cond.methodLink own index y).before a0 Z = true) (w2 : (Cond.static y).before a0 Z = true) (w3 : (Cond.initialized y.cls).before a0 Z = true) (w4 : (Cond.code y bytes ml rt).before a0 Z = true)
  (hM : OwnM l Z y bytes ml rt rm as' h0 Q) (eH : T.heap = h0) (i : Nat) (q : lst[i]? = some (pc, .invokestatic index, 3)) (n W : Nat) (hpd : parseMethodDescriptor y.desc = some ⟨ps, r⟩) (hln : (S.take n).reverse.length = ps.length) (has : (S.take n).reverse.toArray = as')
  (hsz : L.size = k) (hW : ((S.drop n).map fun v => v.category).sum = W) (ok : oOk Rm rm W ml cells slots y = true)
  (h : ∀ v T' Lq, Stand p l e Rm s m args below meth c T' (locs ++ Lq) (cells + rm.cells) (slots + rm.slots) → OwnY p T' m c below lst → Q v T'.heap Lq → OwnH p e below G T' m (pc + 3) L (v.toList ++ S.drop n)) : OwnH p e below G T m pc L S := by
 obtain ⟨o1, o2, o3, o4, o5⟩ := oOk_ ok
 obtain ⟨v, _, ⟨T', L', k', n'⟩, -, X', ⟨Lq, hQ, e1, e2, e3⟩, st⟩ := Jvm.LawKit.callS X Y.2.1 hown (mvT hZ w1) (mvT hZ w2) (mvT hZ w3) (mvT hZ w4) o1 (backOf (W := W) hM hZ w4 w3 o2 o3) (g := mkF m pc L S) rfl (by rw [hml]; exact hsz) (argsL := (S.take n).reverse) (rest := S.drop n) (lenOf hpd hln) (by rw [List.reverse_reverse]; exact (List.take_append_drop n S).symm) (by show 2 * 0 + _ ≤ W; rw [hW]; omega) (Y.d i q) (fun _ _ => ⟨has, eH, o4, o5⟩)
 dsimp only [Pt.U, Pt.locs, Pt.cells, Pt.slots] at X' e1 e2 e3 st hQ
 subst e1 e2 e3
 exact OwnGoes.step st (h v T' Lq X' (Y.nx X') hQ)
theorem oCV {C : String} {z : MethodName} {b : Addr} (X : Stand p l e Rm s m args below meth c T locs cells slots) (Y : OwnY p T m c below lst) (hZ : Z.Warmed39 s.vm) (hml : c.maxLocals = k) (hown : s.vm.findClass own = some m.cls)
  (w1 : (Cond.methodLink own index y).before a0 Z = true) (w2 : (Cond.declares y).before a0 Z = true) (nf : NotFace s y) (w3 : (Cond.selects C y z).before a0 Z = true) (w5 : (Cond.instanceMethod z).before a0 Z = true) (w4 : (Cond.code z bytes ml rt).before a0 Z = true) (w6 : (Cond.initialized z.cls).before a0 Z = true)
  (hM : OwnM l Z z bytes ml rt rm as' h0 Q) (eH : T.heap = h0) (E : Exa Z h0 b C) (i : Nat) (q : lst[i]? = some (pc, .invokevirtual index, 3)) (n W : Nat) (hpd : parseMethodDescriptor y.desc = some ⟨ps, r⟩) (hln : (S.take n).reverse.length = ps.length) (hb : S.drop n = .ref b :: S.drop (n + 1)) (has : (.ref b :: (S.take n).reverse).toArray = as')
  (hsz : L.size = k) (hW : ((S.drop (n + 1)).map fun v => v.category).sum = W) (ok : oOk Rm rm W ml cells slots z = true) (oky : y.cls ≠ "java/lang/invoke/MethodHandle" ∧ y.cls ≠ "java/lang/invoke/VarHandle")
  (h : ∀ v T' Lq, Stand p l e Rm s m args below meth c T' (locs ++ Lq) (cells + rm.cells) (slots + rm.slots) → OwnY p T' m c below lst → Q v T'.heap Lq → OwnH p e below G T' m (pc + 3) L (v.toList ++ S.drop (n + 1))) : OwnH p e below G T m pc L S := by
 obtain ⟨o1, o2, o3, o4, o5⟩ := oOk_ ok
 obtain ⟨cq, kq, qa, qb, qc⟩ := isOf (s := s) hZ eH E
 obtain ⟨v, _, ⟨T', L', k', n'⟩, -, X', ⟨Lq, hQ, e1, e2, e3⟩, st⟩ := X.virtualBack Y.2.1 (y := y) (z := z) hown (mvT hZ w1) (mvT hZ w2) nf (mvT hZ w3) (mvT hZ w5) oky (backOf (W := W) hM hZ w4 w6 o2 o3) qa qc (g := mkF m pc L S) rfl (by rw [hml]; exact hsz) (Steps.refl _) (argsL := (S.take n).reverse) (rest := S.drop (n + 1)) (lenOf hpd hln) (by rw [List.reverse_reverse, ← hb]; exact (List.take_append_drop n S).symm) (by show 2 * 0 + _ ≤ W; rw [hW]; omega) (Y.d i q) (fun _ _ => ⟨has, eH, o4, o5⟩)
 dsimp only [Pt.U, Pt.locs, Pt.cells, Pt.slots] at X' e1 e2 e3 st hQ
 subst e1 e2 e3
 exact OwnGoes.tr st (h v T' Lq X' (Y.nx X') hQ)
theorem oww {a0 : Array Value} (hw : ∀ d ∈ tables_1, d.before a0 Z = true) : ∀ (i : Nat) {d : Jvm.Cond}, tables_1[i]? = some d → d.before a0 Z = true := fun i _ h => own_w hw i h
abbrev oG (Q : Option Value → Heap → List Loc → Prop) (s : State) (R : Room) : Outcome → State → Prop := fun o U' => ∃ v L, o = .returned v ∧ Q v U'.heap L ∧ FrameEnd s o U' L R.cells R.slots
theorem oE {L0 : Array Slot} (h : Sym.laidSlots as'.toList ++ List.replicate (ml - (Sym.laidSlots as'.toList).length) .unset = L0.toList) : ∀ m, entryFrame m as' ml = mkF m 0 L0 [] := fun m => congrArg (fun z => mkF m 0 z []) (Array.toList_inj.mp ((Sym.argsToLocals_toList as' ml).trans h))
theorem own_in (hpl : plainFor y = true) (hd : OwnDec bytes lst) (L0 : Array Slot) (hE : ∀ m, entryFrame m as' ml = mkF m 0 L0 []) (H : ∀ p e s m below meth c s₁, BodyLoose p l y (head1 [Jvm.Cond.code y bytes ml rt] rm) bytes ml rt e s m as' below meth c s₁ → c.maxLocals = ml → Z.Warmed39 s.vm → Stand p l e rm s m as' below meth c s₁ [] 0 0 → s₁.heap = h0 → p.tables.exec = Jvm.exec → meth.locks = false → OwnY p s₁ m c below lst → s.vm.findClass y.cls = some m.cls → OwnH p e below (oG Q s rm) s₁ m 0 L0 []) : OwnM l Z y bytes ml rt rm as' h0 Q := by
 refine MetFree.of_bodySF hpl hisR ?_
 intro p e s m args below meth c s₁ Bd hml hP hK
 obtain ⟨rfl, hZ, hh⟩ := hP
 show OwnGoes p e below _ s₁ (entryFrame m _ _)
 rw [hE m]
 exact H p e s m below meth c s₁ Bd hml hZ (Stand.of_body Bd) (by rw [← hh, Bd.state]; rfl) Bd.exec Bd.notSynchronized (oY0 Bd.exec Bd.bytes hd (Stand.of_body Bd)) (findClass_of_methodNamed Bd.named)
theorem oGF {R0 O f d : String} {a : Addr} {v : Value} (X : Stand p l e Rm s m args below meth c T locs cells slots) (Y : OwnY p T m c below lst) (hZ : Z.Warmed39 s.vm) (hown : s.vm.findClass own = some m.cls) (w : (Cond.fieldLink own index R0 f d).before a0 Z = true) (via : Via Z R0 O f d) (eH : T.heap = h0) (F : Fld Z h0 a O f d v) (i : Nat) (q : lst[i]? = some (pc, .getfield index, 3))
  (h : ∀ T', Stand p l e Rm s m args below meth c T' locs cells slots → OwnY p T' m c below lst → T'.heap = h0 → OwnH p e below G T' m (pc + 3) L (v :: S)) : OwnH p e below G T m pc L (.ref a :: S) := by
 obtain ⟨T', X', e', st⟩ := getF (host := "") X Y.2.1 hZ hown (Or.inl w) via eH F (g := mkF m pc L (.ref a :: S)) rfl rfl (Y.d i q)
 exact OwnGoes.step st (h T' X' (Y.nx X') e')
theorem oGS {R0 O f d : String} {v : Value} (X : Stand p l e Rm s m args below meth c T locs cells slots) (Y : OwnY p T m c below lst) (hZ : Z.Warmed39 s.vm) (hown : s.vm.findClass own = some m.cls) (w : (Cond.fieldLink own index R0 f d).before a0 Z = true) (via : Via Z R0 O f d) (eH : T.heap = h0) (F : Sta Z h0 O f d v) (i : Nat) (q : lst[i]? = some (pc, .getstatic index, 3))
  (h : ∀ T', Stand p l e Rm s m args below meth c T' locs cells slots → OwnY p T' m c below lst → T'.heap = h0 → OwnH p e below G T' m (pc + 3) L (v :: S)) : OwnH p e below G T m pc L S := by
 obtain ⟨T', X', e', st⟩ := getS2 (host := "") X Y.2.1 hZ hown (Or.inl w) via eH F (g := mkF m pc L S) rfl (Y.d i q)
 exact OwnGoes.step st (h T' X' (Y.nx X') e')
theorem orN {t : FieldType} {kk nn : Nat} (X : Stand p l e Rm s m args below meth c T locs cells slots) (Y : OwnY p T m c below lst) (hlk : meth.locks = false) (hret : meth.sig.returnType = some t) (ht : t = .boolean ∨ t = .byte ∨ t = .char ∨ t = .short) (i : Nat) (q : lst[i]? = some (pc, .ireturn, 1)) (hn : nar t z = v) (hc : cells ≤ kk) (hs : slots ≤ nn) (eH : T.heap = h0) (hQ : Q (some (.int v)) h0 locs) : OwnH p e below (fun o U' => ∃ v L, o = .returned v ∧ Q v U'.heap L ∧ FrameEnd s o U' L kk nn) T m pc L (.int z :: S) :=
 own_leave X hlk (v := some (.int v)) (fun h => by rw [hret] at h; cases h) (fun fs hr => retN X Y.2.1 hret ht (Y.d i q) (by rw [hn]; exact hr)) hc hs (by rw [eH]; exact hQ)
theorem orI {kk nn : Nat} (X : Stand p l e Rm s m args below meth c T locs cells slots) (Y : OwnY p T m c below lst) (hlk : meth.locks = false) (hret : meth.sig.returnType = some .int) (i : Nat) (q : lst[i]? = some (pc, .ireturn, 1)) (hc : cells ≤ kk) (hs : slots ≤ nn) (eH : T.heap = h0) (hQ : Q (some (.int z)) h0 locs) : OwnH p e below (fun o U' => ∃ v L, o = .returned v ∧ Q v U'.heap L ∧ FrameEnd s o U' L kk nn) T m pc L (.int z :: S) :=
 own_leave X hlk (v := some (.int z)) (fun h => by rw [hret] at h; cases h) (fun fs hr => retI X Y.2.1 hret (Y.d i q) hr) hc hs (by rw [eH]; exact hQ)
theorem orV {kk nn : Nat} (X : Stand p l e Rm s m args below meth c T locs cells slots) (Y : OwnY p T m c below lst) (hlk : meth.locks = false) (hret : meth.sig.returnType = none) (i : Nat) (q : lst[i]? = some (pc, .return_, 1)) (hc : cells ≤ kk) (hs : slots ≤ nn) (eH : T.heap = h0) (hQ : Q none h0 locs) : OwnH p e below (fun o U' => ∃ v L, o = .returned v ∧ Q v U'.heap L ∧ FrameEnd s o U' L kk nn) T m pc L [] :=
 own_leave X hlk (v := none) (fun _ => rfl) (fun fs hr => X.returnOut Y.2.1 hret (Y.d i q) hr) hc hs (by rw [eH]; exact hQ)
theorem orA {t : FieldType} {w : Value} {kk nn : Nat} (X : Stand p l e Rm s m args below meth c T locs cells slots) (Y : OwnY p T m c below lst) (hlk : meth.locks = false) (hret : meth.sig.returnType = some t) (hn : narrow t w = w) (ht : t.isReference = true) (hv : w.isRef = true) (i : Nat) (q : lst[i]? = some (pc, .areturn, 1)) (hc : cells ≤ kk) (hs : slots ≤ nn) (eH : T.heap = h0) (hQ : Q (some w) h0 locs) : OwnH p e below (fun o U' => ∃ v L, o = .returned v ∧ Q v U'.heap L ∧ FrameEnd s o U' L kk nn) T m pc L (w :: S) :=
 own_leave X hlk (v := some w) (fun h => by rw [hret] at h; cases h) (fun fs hr => retOut X Y.2.1 hret hn (Or.inr (Or.inr (Or.inr (Or.inr ⟨rfl, ht, hv⟩)))) (Y.d i q) hr) hc hs (by rw [eH]; exact hQ)
end
end Own2
abbrev mN0 : MethodName := (⟨"java/lang/StringUTF16", "getChar", "([BI)C"⟩ : MethodName)
abbrev mN1 : MethodName := (⟨"java/lang/StringUTF16", "putChar", "([BII)V"⟩ : MethodName)
abbrev mN2 : MethodName := (⟨"java/lang/String", "isLatin1", "()Z"⟩ : MethodName)
abbrev mN3 : MethodName := (⟨"jdk/internal/util/Preconditions", "checkIndex", "(IILjava/util/function/BiFunction;)I"⟩ : MethodName)
abbrev mN4 : MethodName := (⟨"java/lang/String", "checkIndex", "(II)V"⟩ : MethodName)
abbrev mN5 : MethodName := (⟨"java/lang/StringUTF16", "length", "([B)I"⟩ : MethodName)
abbrev mN6 : MethodName := (⟨"java/lang/StringUTF16", "checkIndex", "(I[B)V"⟩ : MethodName)
abbrev mN7 : MethodName := (⟨"java/lang/StringUTF16", "charAt", "([BI)C"⟩ : MethodName)
abbrev mN8 : MethodName := (⟨"java/lang/StringLatin1", "charAt", "([BI)C"⟩ : MethodName)
abbrev mN9 : MethodName := (⟨"java/lang/String", "charAt", "(I)C"⟩ : MethodName)
abbrev mN10 : MethodName := (⟨"java/lang/StringUTF16", "compress", "([CI[BII)I"⟩ : MethodName)
abbrev mN11 : MethodName := (⟨"java/lang/StringUTF16", "newBytesLength", "(I)I"⟩ : MethodName)
abbrev mN12 : MethodName := (⟨"java/lang/StringUTF16", "newBytesFor", "(I)[B"⟩ : MethodName)
abbrev mN13 : MethodName := (⟨"java/lang/StringUTF16", "toBytes", "([CII)[B"⟩ : MethodName)
abbrev mN14 : MethodName := (⟨"java/lang/StringUTF16", "compress", "([CII)[B"⟩ : MethodName)
abbrev mN15 : MethodName := (⟨"java/lang/StringUTF16", "coderFromArrayLen", "([BI)B"⟩ : MethodName)
abbrev mN16 : MethodName := (⟨"java/lang/String", "<init>", "([CIILjava/lang/Void;)V"⟩ : MethodName)
abbrev mN17 : MethodName := (⟨"java/lang/String", "<init>", "([C)V"⟩ : MethodName)
abbrev mN18 : MethodName := (⟨"java/lang/AbstractStringBuilder", "<init>", "(I)V"⟩ : MethodName)
abbrev mN19 : MethodName := (⟨"java/lang/StringBuilder", "<init>", "(I)V"⟩ : MethodName)
abbrev mN20 : MethodName := (⟨"java/lang/AbstractStringBuilder", "isLatin1", "()Z"⟩ : MethodName)
abbrev mN21 : MethodName := (⟨"java/lang/AbstractStringBuilder", "ensureCapacityInternal", "(I)V"⟩ : MethodName)
abbrev mN22 : MethodName := (⟨"java/lang/StringLatin1", "canEncode", "(C)Z"⟩ : MethodName)
abbrev mN23 : MethodName := (⟨"java/lang/AbstractStringBuilder", "length", "()I"⟩ : MethodName)
abbrev mN24 : MethodName := (⟨"java/lang/StringBuilder", "length", "()I"⟩ : MethodName)
abbrev mN25 : MethodName := (⟨"java/lang/AbstractStringBuilder", "getValue", "()[B"⟩ : MethodName)
abbrev mN26 : MethodName := (⟨"java/lang/StringUTF16", "putCharSB", "([BII)V"⟩ : MethodName)
abbrev mN27 : MethodName := (⟨"jdk/internal/util/Preconditions", "checkFromIndexSize", "(IIILjava/util/function/BiFunction;)I"⟩ : MethodName)
abbrev mN28 : MethodName := (⟨"java/lang/String", "checkBoundsOffCount", "(III)I"⟩ : MethodName)
abbrev mN29 : MethodName := (⟨"java/lang/StringUTF16", "checkBoundsOffCount", "(II[B)V"⟩ : MethodName)
abbrev mN30 : MethodName := (⟨"java/lang/StringUTF16", "inflate", "([BI[BII)V"⟩ : MethodName)
abbrev mN31 : MethodName := (⟨"java/lang/StringLatin1", "inflate", "([BI[BII)V"⟩ : MethodName)
abbrev mN32 : MethodName := (⟨"java/lang/AbstractStringBuilder", "inflate", "()V"⟩ : MethodName)
abbrev mN33 : MethodName := (⟨"java/lang/AbstractStringBuilder", "append", "(C)Ljava/lang/AbstractStringBuilder;"⟩ : MethodName)
abbrev mN34 : MethodName := (⟨"java/lang/StringBuilder", "append", "(C)Ljava/lang/StringBuilder;"⟩ : MethodName)
abbrev mN35 : MethodName := (⟨"java/lang/AbstractStringBuilder", "setLength", "(I)V"⟩ : MethodName)
abbrev mN36 : MethodName := (⟨"java/lang/StringBuilder", "setLength", "(I)V"⟩ : MethodName)
abbrev mN37 : MethodName := (⟨"java/lang/Math", "min", "(II)I"⟩ : MethodName)
abbrev mN38 : MethodName := (⟨"java/lang/AbstractStringBuilder", "charAt", "(I)C"⟩ : MethodName)
abbrev mN39 : MethodName := (⟨"java/lang/StringBuilder", "charAt", "(I)C"⟩ : MethodName)
abbrev mN40 : MethodName := (⟨"java/lang/StringLatin1", "lastIndexOf", "([BI[BII)I"⟩ : MethodName)
abbrev mN41 : MethodName := (⟨"java/lang/StringUTF16", "lastIndexOfLatin1", "([BI[BII)I"⟩ : MethodName)
abbrev mN42 : MethodName := (⟨"java/lang/String", "coder", "()B"⟩ : MethodName)
abbrev mN43 : MethodName := (⟨"java/lang/String", "length", "()I"⟩ : MethodName)
abbrev mN44 : MethodName := (⟨"java/lang/String", "lastIndexOf", "([BBILjava/lang/String;I)I"⟩ : MethodName)
abbrev mN45 : MethodName := (⟨"java/lang/AbstractStringBuilder", "lastIndexOf", "(Ljava/lang/String;I)I"⟩ : MethodName)
abbrev mN46 : MethodName := (⟨"java/lang/StringBuilder", "lastIndexOf", "(Ljava/lang/String;I)I"⟩ : MethodName)
abbrev mN47 : MethodName := (⟨"java/util/Arrays", "checkLength", "(II)V"⟩ : MethodName)
abbrev mN48 : MethodName := (⟨"java/util/Arrays", "copyOfRangeByte", "([BII)[B"⟩ : MethodName)
abbrev mN49 : MethodName := (⟨"java/util/Arrays", "copyOfRange", "([BII)[B"⟩ : MethodName)
abbrev mN50 : MethodName := (⟨"java/lang/StringUTF16", "compress", "([BI[BII)I"⟩ : MethodName)
abbrev mN51 : MethodName := (⟨"java/lang/StringUTF16", "compress", "([BII)[B"⟩ : MethodName)
abbrev mN52 : MethodName := (⟨"java/lang/String", "<init>", "(Ljava/lang/AbstractStringBuilder;Ljava/lang/Void;)V"⟩ : MethodName)
abbrev mN53 : MethodName := (⟨"java/lang/String", "<init>", "(Ljava/lang/StringBuilder;)V"⟩ : MethodName)
abbrev mN54 : MethodName := (⟨"java/lang/StringBuilder", "toString", "()Ljava/lang/String;"⟩ : MethodName)
abbrev mN55 : MethodName := (⟨"com/example/seekret/seekret/engine/index/Snippets", "isWhitespace", "(C)Z"⟩ : MethodName)
abbrev mN56 : MethodName := (⟨"java/lang/Character", "isLowSurrogate", "(C)Z"⟩ : MethodName)
abbrev mN57 : MethodName := (⟨"java/lang/Character", "isHighSurrogate", "(C)Z"⟩ : MethodName)
abbrev mN58 : MethodName := (⟨"com/example/seekret/seekret/engine/index/Snippets", "skipWhitespace", "(Ljava/lang/String;I)I"⟩ : MethodName)
abbrev mN59 : MethodName := (⟨"com/example/seekret/seekret/engine/index/Snippets", "start", "(Ljava/lang/String;I)I"⟩ : MethodName)
abbrev mN60 : MethodName := (⟨"java/lang/Math", "max", "(II)I"⟩ : MethodName)
abbrev mN61 : MethodName := (⟨"com/example/seekret/seekret/engine/index/Snippets", "cutEnd", "(Ljava/lang/StringBuilder;I)V"⟩ : MethodName)
abbrev mN62 : MethodName := (⟨"com/example/seekret/seekret/engine/index/Snippets", "around", "(Ljava/lang/String;I)Ljava/lang/String;"⟩ : MethodName)
abbrev mN63 : MethodName := (⟨"com/example/seekret/seekret/engine/index/SnippetsAroundPinLaw", "ws", "(C)Z"⟩ : MethodName)
abbrev mN64 : MethodName := (⟨"com/example/seekret/seekret/engine/index/SnippetsAroundPinLaw", "wsAt", "(I[I[Z)Z"⟩ : MethodName)
abbrev mN65 : MethodName := (⟨"com/example/seekret/seekret/engine/index/SnippetsAroundPinLaw", "removed", "(III[I[Z)Z"⟩ : MethodName)
abbrev mN66 : MethodName := (⟨"com/example/seekret/seekret/engine/index/SnippetsAroundPinLaw", "f", "(II[I[Z)I"⟩ : MethodName)
abbrev mN67 : MethodName := (⟨"com/example/seekret/seekret/engine/index/SnippetsAroundPinLaw", "keptSpace", "(III[I[Z[Z)I"⟩ : MethodName)
abbrev mN68 : MethodName := (⟨"com/example/seekret/seekret/engine/index/SnippetsAroundPinLaw", "high238", "(III[I[Z[C[Z)Z"⟩ : MethodName)
abbrev mN69 : MethodName := (⟨"com/example/seekret/seekret/engine/index/SnippetsAroundPinLaw", "earlier", "(IIII[I[Z)I"⟩ : MethodName)
abbrev mN70 : MethodName := (⟨"com/example/seekret/seekret/engine/index/SnippetsAroundPinLaw", "at", "(I[I[C)C"⟩ : MethodName)
abbrev mN71 : MethodName := (⟨"com/example/seekret/seekret/engine/index/SnippetsAroundPinLaw", "firstWs", "(II[I[Z)I"⟩ : MethodName)
abbrev mN72 : MethodName := (⟨"com/example/seekret/seekret/engine/index/SnippetsAroundPinLaw", "pick", "(I)C"⟩ : MethodName)
def OwnStr (cs : List Int32) (cd N : Int32) (vs : List Value) : Prop := StrChars.Road.CodA cs cd N vs ∧ (∀ c ∈ cs, ¬ c < 0 ∧ ¬ (65535 : Int32) < c) ∧ cs.length ≤ 4000
def OwnAt (N : Int32) (vs : List Value) (j v : Int32) : Prop := (¬ j < 0 ∧ j < N) ∧ vs.getD j.toNatClampNeg (.int 0) = .int v
def OwnGet (N : Int32) (vs : List Value) (i c : Int32) : Prop := ∃ v0 v1 : Int32, OwnAt N vs (i <<< ((1 : Int32) &&& 31)) v0 ∧ OwnAt N vs ((i <<< ((1 : Int32) &&& 31)) + (1 : Int32)) v1 ∧ (nar .char (((v0 &&& (255 : Int32)) <<< ((0 : Int32) &&& 31)) ||| ((v1 &&& (255 : Int32)) <<< ((8 : Int32) &&& 31)))) = c ∧ nar .char c = c
theorem own_nar_w {c : Int32} (h : ¬ c < 0 ∧ ¬ (65535 : Int32) < c) : nar .char c = c := by
 have q := StrChars.narrow_ch h.1 h.2
 injection q
theorem own_wide (x : Int32) : ¬ nar .char x < 0 ∧ ¬ (65535 : Int32) < nar .char x := by
 have e : (nar .char x).toInt = ((x.toUInt32.toUInt16.toNat : Nat) : Int) := by
  show (x.toUInt32.toUInt16.toUInt32.toInt32).toInt = _
  have hb : x.toUInt32.toUInt16.toNat < 65536 := x.toUInt32.toUInt16.toBitVec.isLt
  have e1 : (x.toUInt32.toUInt16.toUInt32.toInt32) = Int32.ofNat x.toUInt32.toUInt16.toNat := by
   apply Int32.toBitVec_inj.mp
   apply BitVec.eq_of_toNat_eq
   have z : x.toUInt32.toNat = x.toBitVec.toNat := rfl
   simp
   omega
  rw [e1, Int32.toInt_ofNat_of_lt (by omega)]
 have hb : x.toUInt32.toUInt16.toNat < 65536 := x.toUInt32.toUInt16.toBitVec.isLt
 have e0 : (0 : Int32).toInt = 0 := rfl
 have e2 : (65535 : Int32).toInt = 65535 := rfl
 constructor
 ·
  rw [Int32.lt_iff_toInt_lt]; omega
 ·
  rw [Int32.lt_iff_toInt_lt]; omega
def OwnPut (N : Int32) (vs : List Value) (i : Int32) (na : Nat) : Prop := ((¬ (i <<< ((1 : Int32) &&& 31)) < 0 ∧ (i <<< ((1 : Int32) &&& 31)) < N) ∧ (i <<< ((1 : Int32) &&& 31)).toNatClampNeg = na ∧ na < vs.length) ∧ ((¬ ((i <<< ((1 : Int32) &&& 31)) + (1 : Int32)) < 0 ∧ ((i <<< ((1 : Int32) &&& 31)) + (1 : Int32)) < N) ∧ ((i <<< ((1 : Int32) &&& 31)) + (1 : Int32)).toNatClampNeg = na + 1 ∧ na + 1 < vs.length)
def OwnL (N : Int32) (vs : List Value) (i c : Int32) : Prop := ∃ v : Int32, (¬ i < 0 ∧ i < N) ∧ vs.getD i.toNatClampNeg (.int 0) = .int v ∧ (nar .char (v &&& (255 : Int32))) = c ∧ nar .char c = c
def OwnCh (cd N : Int32) (vs : List Value) (i c : Int32) : Prop := (cd = 0 ∧ OwnL N vs i c) ∨ (cd = 1 ∧ (¬ i < 0 ∧ i < (N >>> ((1 : Int32) &&& 31))) ∧ OwnGet N vs i c)

theorem own_get {cs : List Int32} {N : Int32} {vs : List Value} (h : OwnStr cs 1 N vs) {j : Nat} (hj : j < cs.length) {c : Int32} (hc : cs.getD j 0 = c) : OwnGet N vs (Int32.ofNat j) c := by
 obtain ⟨h1, h2, h3⟩ := h
 have hr : ¬ c < 0 ∧ ¬ (65535 : Int32) < c := by
  have e : cs.getD j 0 = cs[j] := by simp [List.getD_eq_getElem?_getD, hj]
  rw [← hc, e]; exact h2 _ (List.getElem_mem _)
 rcases h1 with ⟨q, -⟩ | ⟨-, rfl, rfl, -⟩
 ·
  exact absurd q (by decide)
 ·
  have ej : (Int32.ofNat j).toInt = (j : Int) := Int32.toInt_ofNat_of_lt (by omega)
  have es : (Int32.ofNat j) <<< ((1 : Int32) &&& 31) = Int32.ofNat (2 * j) := by
   have e : ((1 : Int32) &&& 31) = 1 := by decide
   rw [e]
   apply Int32.toBitVec_inj.mp
   rw [Int32.toBitVec_shiftLeft]
   have e1 : ((1 : Int32).toBitVec.smod 32) = 1#32 := by decide
   rw [e1]
   apply BitVec.eq_of_toNat_eq
   show ((BitVec.ofNat 32 j) <<< (1#32)).toNat = (BitVec.ofNat 32 (2 * j)).toNat
   simp [BitVec.toNat_ofNat, Nat.shiftLeft_eq]
   omega
  have es1 : (Int32.ofNat (2 * j)) + 1 = Int32.ofNat (2 * j + 1) := by
   apply Int32.toBitVec_inj.mp
   apply BitVec.eq_of_toNat_eq
   show ((BitVec.ofNat 32 (2 * j)) + 1#32).toNat = (BitVec.ofNat 32 (2 * j + 1)).toNat
   simp [BitVec.toNat_ofNat, BitVec.toNat_add]
  have a0 : ∀ k : Nat, k < 2 * cs.length → (¬ Int32.ofNat k < 0 ∧ Int32.ofNat k < Int32.ofNat (2 * cs.length)) ∧ (Int32.ofNat k).toNatClampNeg = k := by
   intro k hk
   have ek : (Int32.ofNat k).toInt = (k : Int) := Int32.toInt_ofNat_of_lt (by omega)
   have el : (Int32.ofNat (2 * cs.length)).toInt = ((2 * cs.length : Nat) : Int) := Int32.toInt_ofNat_of_lt (by omega)
   have e0 : (0 : Int32).toInt = 0 := rfl
   refine ⟨⟨?_, ?_⟩, ?_⟩
   ·
    rw [Int32.lt_iff_toInt_lt]; omega
   ·
    rw [Int32.lt_iff_toInt_lt]; omega
   ·
    simp only [Int32.toNatClampNeg]; omega
  refine ⟨StrChars.lo8 c, StrChars.hi8 c, ?_, ?_, StrChars.pair_says hr.1 hr.2, own_nar_w hr⟩
  ·
   rw [es]
   refine ⟨(a0 _ (by omega)).1, ?_⟩
   rw [(a0 _ (by omega)).2, StrChars.Road.wide_lo _ cs j hj, hc]
  ·
   rw [es, es1]
   refine ⟨(a0 _ (by omega)).1, ?_⟩
   rw [(a0 _ (by omega)).2, StrChars.Road.wide_hi _ cs j hj, hc]
theorem own_ch {cs : List Int32} {cd N : Int32} {vs : List Value} (h : OwnStr cs cd N vs) {j : Nat} (hj : j < cs.length) {c : Int32} (hc : cs.getD j 0 = c) : OwnCh cd N vs (Int32.ofNat j) c := by
 have ho := h
 obtain ⟨h1, h2, h3⟩ := h
 have e : cs.getD j 0 = cs[j] := by simp [List.getD_eq_getElem?_getD, hj]
 have hr : ¬ c < 0 ∧ ¬ (65535 : Int32) < c := by rw [← hc, e]; exact h2 _ (List.getElem_mem _)
 have ej : (Int32.ofNat j).toInt = (j : Int) := Int32.toInt_ofNat_of_lt (by omega)
 have e0 : (0 : Int32).toInt = 0 := rfl
 have hj0 : ¬ Int32.ofNat j < 0 := by rw [Int32.lt_iff_toInt_lt]; omega
 rcases h1 with ⟨rfl, rfl, rfl, hl⟩ | ⟨rfl, rfl, rfl, hx⟩
 ·
  have hc2 : ¬ 255 < c := by rw [← hc, e]; exact hl _ (List.getElem_mem _)
  have el : (Int32.ofNat cs.length).toInt = ((cs.length : Nat) : Int) := Int32.toInt_ofNat_of_lt (by omega)
  have et : (Int32.ofNat j).toNatClampNeg = j := by simp only [Int32.toNatClampNeg]; omega
  refine Or.inl ⟨rfl, StrChars.lo8 c, ⟨hj0, by rw [Int32.lt_iff_toInt_lt]; omega⟩, ?_, ?_, own_nar_w hr⟩
  ·
   rw [et, StrChars.Road.low_at _ cs j hj, hc]
  ·
   rw [StrChars.lo8_mask hr.1 hc2, own_nar_w hr]
 ·
  refine Or.inr ⟨rfl, ⟨hj0, ?_⟩, own_get ho hj hc⟩
  rw [StrChars.shr1 (by omega), Int32.lt_iff_toInt_lt]
  have el : (Int32.ofNat cs.length).toInt = ((cs.length : Nat) : Int) := Int32.toInt_ofNat_of_lt (by omega)
  omega
def OwnLen (cd N n : Int32) : Prop := (N >>> (cd &&& 31)) = n ∧ nar .byte cd = cd
theorem own_len {cs : List Int32} {cd N : Int32} {vs : List Value} (h : OwnStr cs cd N vs) {n : Nat} (hn : cs.length = n) : OwnLen cd N (Int32.ofNat n) := by
 subst hn
 obtain ⟨h1, h2, h3⟩ := h
 rcases h1 with ⟨rfl, rfl, -⟩ | ⟨rfl, rfl, -⟩
 ·
  exact ⟨StrChars.shr0 _, by decide⟩
 ·
  exact ⟨StrChars.shr1 (by omega), by decide⟩
theorem own_eq_int {s : State} {args : Array Value} {t : Term} {k : Int32} (h : (Cond.eq t (Term.int k)).value args s none s [] = some true) : t.eval args s none [] s = some (.int k) := by
 simp [Cond.value, Term.eval] at h
 cases hq : t.eval args s none [] s with
 | none => simp [hq] at h
 | some v => cases v <;> simp [hq] at h ⊢; exact h
def Q_u16get (Z : State) (tb1 : Addr) (kb1 : ClassId) (nB1 : Int32) (vs1 : List Value) (i1 : Int32) (c1 : Int32) : OwnP := fun h0 n0 v h L => v = some (.int c1) ∧ Fr n0 L ∧ h = h0
def OwnCx (Z : State) (a0 : Array Value) (wG1 : Int32) (wG3 : Value) : Prop := (Sta Z Z.heap "java/lang/String" "COMPACT_STRINGS" "Z" (.int wG1)) ∧ (¬ (wG1 = (0 : Int32))) ∧ (Sta Z Z.heap "jdk/internal/util/Preconditions" "SIOOBE_FORMATTER" "Ljava/util/function/BiFunction;" wG3) ∧ (wG3.isRef = true) ∧ (∀ a ∈ Bundle.stringAtoms, a.before a0 Z = true) ∧ (Sta Z Z.heap "java/lang/StringUTF16" "$assertionsDisabled" "Z" (.int 1)) ∧ (Sta Z Z.heap "java/lang/StringUTF16" "HI_BYTE_SHIFT" "I" (.int 0)) ∧ (Sta Z Z.heap "java/lang/StringUTF16" "LO_BYTE_SHIFT" "I" (.int 8))
def OwnGl (Z : State) (a0 : Array Value) (wG1 : Int32) (wG3 : Value) : Prop := (∀ d ∈ tables_1, d.before a0 Z = true) ∧ OwnCx Z a0 wG1 wG3 ∧ EW Z a0 consts_1
variable {l : Launch} {Z : State} {a0 : Array Value} {wG1 : Int32} {wG3 : Value} {h0 : Heap} {n0 : Nat}
theorem pn_68381282 : plainName "java/lang/StringUTF16" = true := by first | (simp [plainName, overriddenIn]; done) | decide +kernel
def ll0 : List (Nat × Instr × Nat) := [(0, .getstatic 44, 3), (3, .ifCond .ne 25, 3), (28, .iload_n 1, 1), (29, .iconst 1, 1), (30, .ishl, 1), (31, .istore_n 1, 1), (32, .aload_n 0, 1), (33, .iload_n 1, 1), (34, .iinc 1 1, 3), (37, .baload, 1), (38, .sipush 255, 3), (41, .iand, 1), (42, .getstatic 59, 3), (45, .ishl, 1), (46, .aload_n 0, 1), (47, .iload_n 1, 1), (48, .baload, 1), (49, .sipush 255, 3), (52, .iand, 1), (53, .getstatic 63, 3), (56, .ishl, 1), (57, .ior, 1), (58, .i2c, 1), (59, .ireturn, 1)]
theorem dl0 : OwnDec jdk_52_method_5_code ll0 := by decide +kernel
theorem rm_u16get (Gl : OwnGl Z a0 wG1 wG3) (X00 : Old Z n0 h0) (tb1 : Addr) (kb1 : ClassId) (nB1 : Int32) (vs1 : List Value) (i1 : Int32) (c1 : Int32) (f0 : Arv Z h0 tb1 kb1 .byte nB1 vs1 (.int 0)) (hg : OwnGet nB1 vs1 i1 c1) : OwnM l Z mN0 jdk_52_method_5_code 2 (some .char) (oR 0 0 0 0) #[(.ref tb1), (.int i1)] h0 (Q_u16get Z tb1 kb1 nB1 vs1 i1 c1 h0 n0) := by
 refine own_in (plainFor_of_name pn_68381282) dl0 #[vR tb1, vI i1] (oE rfl) ?_
 intro p e s m below meth c s₁ Bd hml hZ X0 e0 hx hlk Y0 hown
 obtain ⟨hw, cx, hEL⟩ := id Gl
 have wT := oww hw
 obtain ⟨wO2, wP5, wO4, wrG3, hstr, wUA, wUH, wUL⟩ := id cx
 have N0 := Fr.nil n0
 obtain ⟨v0, v1, ha0, ha1, hp, hn⟩ := hg
 refine oGS X0 Y0 hZ hown (wT 268 rfl) Via.refl e0 (wUA.ext X00.2) 0 rfl ?_
 intro T1 X1 Y1 e1
 refine oify 28 Y1 1 rfl rfl ((if0 _ _).trans (feq (by decide : ¬ ((1 : Int32) = (0 : Int32)))).2) <| oiN Y1 2 rfl rfl <| oic 1 Y1 3 rfl rfl <| oshl Y1 4 rfl <| oiS Y1 5 rfl #[vR tb1, vI (i1 <<< ((1 : Int32) &&& 31))] rfl <| oaN Y1 6 rfl rfl rfl <| oiN Y1 7 rfl rfl <| oinc Y1 8 rfl #[vR tb1, vI ((i1 <<< ((1 : Int32) &&& 31)) + (1 : Int32))] rfl rfl <| obal X1 Y1 hZ e1 f0 9 rfl ha0.1 ha0.2 <| osp 255 Y1 10 rfl rfl ?_
 refine oand Y1 11 rfl ?_
 refine oGS X1 Y1 hZ hown (wT 269 rfl) Via.refl e1 (wUH.ext X00.2) 12 rfl ?_
 intro T3 X3 Y3 e3
 refine oshl Y3 13 rfl <| oaN Y3 14 rfl rfl rfl <| oiN Y3 15 rfl rfl <| obal X3 Y3 hZ e3 f0 16 rfl ha1.1 ha1.2 <| osp 255 Y3 17 rfl rfl <| oand Y3 18 rfl ?_
 refine oGS X3 Y3 hZ hown (wT 270 rfl) Via.refl e3 (wUL.ext X00.2) 19 rfl ?_
 intro T5 X5 Y5 e5
 refine oshl Y5 20 rfl <| oor Y5 21 rfl <| oi2c Y5 22 rfl ?_
 refine og T5 m 59 #[vR tb1, vI ((i1 <<< ((1 : Int32) &&& 31)) + (1 : Int32))] [(.int c1)] (fun tgt kgo => castTop (by rw [hp]) kgo) ?_
 exact orN X5 Y5 hlk Bd.returns (by simp) 23 rfl (hn) (by decide) (by decide) e5 ⟨rfl, N0, rfl⟩
def Q_u16put (Z : State) (tb1 : Addr) (kb1 : ClassId) (nB1 : Int32) (vs1 : List Value) (i1 : Int32) (c1 : Int32) (na : Nat) : OwnP := fun h0 n0 v h L => v = none ∧ Fr n0 L ∧ Keep h0 h ([tb1] : List Addr) ∧ Arv Z h tb1 kb1 .byte nB1 ((vs1.set na (.int (nar .byte c1))).set (na + 1) (.int (nar .byte (c1 >>> ((8 : Int32) &&& 31))))) (.int 0)
def ll1 : List (Nat × Instr × Nat) := [(0, .getstatic 44, 3), (3, .ifCond .ne 25, 3), (28, .iload_n 1, 1), (29, .iconst 1, 1), (30, .ishl, 1), (31, .istore_n 1, 1), (32, .aload_n 0, 1), (33, .iload_n 1, 1), (34, .iinc 1 1, 3), (37, .iload_n 2, 1), (38, .getstatic 59, 3), (41, .ishr, 1), (42, .i2b, 1), (43, .bastore, 1), (44, .aload_n 0, 1), (45, .iload_n 1, 1), (46, .iload_n 2, 1), (47, .getstatic 63, 3), (50, .ishr, 1), (51, .i2b, 1), (52, .bastore, 1), (53, .return_, 1)]
theorem dl1 : OwnDec jdk_52_method_4_code ll1 := by decide +kernel
theorem rm_u16put (Gl : OwnGl Z a0 wG1 wG3) (X00 : Old Z n0 h0) (tb1 : Addr) (kb1 : ClassId) (nB1 : Int32) (vs1 : List Value) (i1 : Int32) (c1 : Int32) (na : Nat) (f0 : Arv Z h0 tb1 kb1 .byte nB1 vs1 (.int 0)) (f1 : n0 ≤ tb1) (hput : OwnPut nB1 vs1 i1 na) : OwnM l Z mN1 jdk_52_method_4_code 3 none (oR 0 0 0 0) #[(.ref tb1), (.int i1), (.int c1)] h0 (Q_u16put Z tb1 kb1 nB1 vs1 i1 c1 na h0 n0) := by
 refine own_in (plainFor_of_name pn_68381282) dl1 #[vR tb1, vI i1, vI c1] (oE rfl) ?_
 intro p e s m below meth c s₁ Bd hml hZ X0 e0 hx hlk Y0 hown
 obtain ⟨hw, cx, hEL⟩ := id Gl
 have wT := oww hw
 obtain ⟨wO2, wP5, wO4, wrG3, hstr, wUA, wUH, wUL⟩ := id cx
 have N0 := Fr.nil n0
 have K0 : Keep h0 h0 ([tb1] : List Addr) := Keep.refl _ _
 refine oGS X0 Y0 hZ hown (wT 268 rfl) Via.refl e0 (wUA.ext X00.2) 0 rfl ?_
 intro T1 X1 Y1 e1
 refine oify 28 Y1 1 rfl rfl ((if0 _ _).trans (feq (by decide : ¬ ((1 : Int32) = (0 : Int32)))).2) <| oiN Y1 2 rfl rfl <| oic 1 Y1 3 rfl rfl <| oshl Y1 4 rfl <| oiS Y1 5 rfl #[vR tb1, vI (i1 <<< ((1 : Int32) &&& 31)), vI c1] rfl <| oaN Y1 6 rfl rfl rfl <| oiN Y1 7 rfl rfl <| oinc Y1 8 rfl #[vR tb1, vI ((i1 <<< ((1 : Int32) &&& 31)) + (1 : Int32)), vI c1] rfl rfl <| oiN Y1 9 rfl rfl ?_
 refine oGS X1 Y1 hZ hown (wT 269 rfl) Via.refl e1 (wUH.ext X00.2) 10 rfl ?_
 intro T2 X2 Y2 e2
 refine oshr Y2 11 rfl ?_
 refine og T2 m 42 #[vR tb1, vI ((i1 <<< ((1 : Int32) &&& 31)) + (1 : Int32)), vI c1] [(.int c1), (.int (i1 <<< ((1 : Int32) &&& 31))), (.ref tb1)] (fun tgt kgo => castTop (by rw [(StrChars.shr0 c1)]) kgo) ?_
 refine oi2b Y2 12 rfl ?_
 obtain ⟨cl3, Ar3, q3, S3, M3, H3, G3⟩ := id f0
 obtain ⟨T3, h3, X3, e3, W3, st3⟩ := stB X2 hx hZ e2 Ar3 (j := (i1 <<< ((1 : Int32) &&& 31))) (inb_of S3 hput.1.1) (g := (mkF m 43 #[vR tb1, vI ((i1 <<< ((1 : Int32) &&& 31)) + (1 : Int32)), vI c1] [(.int (nar .byte c1)), (.int (i1 <<< ((1 : Int32) &&& 31))), (.ref tb1)])) rfl rfl (Y0.d 13 rfl)
 refine og T3 m 44 #[vR tb1, vI ((i1 <<< ((1 : Int32) &&& 31)) + (1 : Int32)), vI c1] [] st3 ?_
 have V3 : Arv Z h3 tb1 kb1 .byte nB1 (vs1.set na (.int (nar .byte (nar .byte c1)))) (.int 0) := Arv.set Ar3 q3 S3 M3 H3 G3 (fits_nar_byte _) W3 _ hput.1.2.1 hput.1.2.2
 rw [own_nar2_byte] at V3
 have V3' : Arv Z h3 tb1 kb1 .byte nB1 (vs1.set na (.int (nar .byte c1))) (.int 0) := V3
 have Ol3 := X00.wr W3 f1
 have K3 : Keep h0 h3 ([tb1] : List Addr) := K0.wr W3 (Or.inl (List.mem_of_getElem? (i := 0) rfl))
 have N3 := Fr.snoc X3 N0 f1
 have Y3 := Y0.nx X3
 refine oaN Y3 14 rfl rfl rfl <| oiN Y3 15 rfl rfl <| oiN Y3 16 rfl rfl ?_
 refine oGS X3 Y3 hZ hown (wT 270 rfl) Via.refl e3 (wUL.ext Ol3.2) 17 rfl ?_
 intro T4 X4 Y4 e4
 refine oshr Y4 18 rfl <| oi2b Y4 19 rfl ?_
 obtain ⟨cl5, Ar5, q5, S5, M5, H5, G5⟩ := id V3'
 obtain ⟨T5, h5, X5, e5, W5, st5⟩ := stB X4 hx hZ e4 Ar5 (j := ((i1 <<< ((1 : Int32) &&& 31)) + (1 : Int32))) (inb_of S5 hput.2.1) (g := (mkF m 52 #[vR tb1, vI ((i1 <<< ((1 : Int32) &&& 31)) + (1 : Int32)), vI c1] [(.int (nar .byte (c1 >>> ((8 : Int32) &&& 31)))), (.int ((i1 <<< ((1 : Int32) &&& 31)) + (1 : Int32))), (.ref tb1)])) rfl rfl (Y0.d 20 rfl)
 refine og T5 m 53 #[vR tb1, vI ((i1 <<< ((1 : Int32) &&& 31)) + (1 : Int32)), vI c1] [] st5 ?_
 have V5 : Arv Z h5 tb1 kb1 .byte nB1 ((vs1.set na (.int (nar .byte c1))).set (na + 1) (.int (nar .byte (nar .byte (c1 >>> ((8 : Int32) &&& 31)))))) (.int 0) := Arv.set Ar5 q5 S5 M5 H5 G5 (fits_nar_byte _) W5 _ hput.2.2.1 (by rw [List.length_set]; exact hput.2.2.2)
 rw [own_nar2_byte] at V5
 have V5' : Arv Z h5 tb1 kb1 .byte nB1 ((vs1.set na (.int (nar .byte c1))).set (na + 1) (.int (nar .byte (c1 >>> ((8 : Int32) &&& 31))))) (.int 0) := V5
 have K5 : Keep h0 h5 ([tb1] : List Addr) := K3.wr W5 (Or.inl (List.mem_of_getElem? (i := 0) rfl))
 have N5 := Fr.snoc X5 N3 f1
 have Y5 := Y0.nx X5
 exact orV X5 Y5 hlk Bd.returns 21 rfl (by decide) (by decide) e5 ⟨rfl, N5, K5, V5'⟩
theorem own_nat {n : Nat} (h : n ≤ 4000) : (Int32.ofNat n).toInt = (n : Int) ∧ ¬ Int32.ofNat n < 0 ∧ (Int32.ofNat n).toNatClampNeg = n := by
 have e : (Int32.ofNat n).toInt = (n : Int) := Int32.toInt_ofNat_of_lt (by omega)
 have e0 : (0 : Int32).toInt = 0 := rfl
 refine ⟨e, ?_, ?_⟩
 ·
  rw [Int32.lt_iff_toInt_lt]; omega
 ·
  simp only [Int32.toNatClampNeg]; omega
theorem own_addN (a b : Nat) : Int32.ofNat a + Int32.ofNat b = Int32.ofNat (a + b) := by
 apply Int32.toBitVec_inj.mp
 apply BitVec.eq_of_toNat_eq
 show ((BitVec.ofNat 32 a) + (BitVec.ofNat 32 b)).toNat = (BitVec.ofNat 32 (a + b)).toNat
 simp [BitVec.toNat_ofNat, BitVec.toNat_add]
theorem own_add1 (a : Nat) : Int32.ofNat a + (1 : Int32) = Int32.ofNat (a + 1) := own_addN a 1
theorem own_ofN {a b : Nat} (ha : a ≤ 4000) (hb : b ≤ 4000) (h : Int32.ofNat a = Int32.ofNat b) : a = b := by
 have := congrArg Int32.toInt h
 rw [(own_nat ha).1, (own_nat hb).1] at this
 omega
theorem own_ltN {a b : Nat} (ha : a ≤ 4000) (hb : b ≤ 4000) : Int32.ofNat a < Int32.ofNat b ↔ a < b := by
 rw [Int32.lt_iff_toInt_lt, (own_nat ha).1, (own_nat hb).1]; omega
theorem own_subN {a b : Nat} (h : b ≤ a) : Int32.ofNat a - Int32.ofNat b = Int32.ofNat (a - b) := by
 obtain ⟨d, rfl⟩ : ∃ d, a = b + d := ⟨a - b, by omega⟩
 rw [Nat.add_sub_cancel_left, ← own_addN]
 apply Int32.toBitVec_inj.mp
 apply BitVec.eq_of_toNat_eq
 simp
 omega
theorem own_shlN {j : Nat} (_h : j ≤ 2000) : (Int32.ofNat j) <<< ((1 : Int32) &&& 31) = Int32.ofNat (2 * j) := by
 have e : ((1 : Int32) &&& 31) = 1 := by decide
 rw [e]
 apply Int32.toBitVec_inj.mp
 rw [Int32.toBitVec_shiftLeft]
 have e1 : ((1 : Int32).toBitVec.smod 32) = 1#32 := by decide
 rw [e1]
 apply BitVec.eq_of_toNat_eq
 show ((BitVec.ofNat 32 j) <<< (1#32)).toNat = (BitVec.ofNat 32 (2 * j)).toNat
 simp [BitVec.toNat_ofNat, Nat.shiftLeft_eq]
 omega
def OwnUB (cs : List Int32) (vs : List Value) : Prop := 2 * cs.length ≤ vs.length ∧ ∀ j, j < cs.length → vs.getD (2 * j) (.int 0) = .int (StrChars.lo8 (cs.getD j 0)) ∧ vs.getD (2 * j + 1) (.int 0) = .int (StrChars.hi8 (cs.getD j 0))
def OwnLB (cs : List Int32) (vs : List Value) : Prop := cs.length ≤ vs.length ∧ ∀ j, j < cs.length → vs.getD j (.int 0) = .int (StrChars.lo8 (cs.getD j 0)) ∧ ¬ (255 : Int32) < cs.getD j 0
def OwnRg (cs : List Int32) : Prop := ∀ c ∈ cs, ¬ c < 0 ∧ ¬ (65535 : Int32) < c
theorem own_rg_at {cs : List Int32} (h : OwnRg cs) (j : Nat) : ¬ cs.getD j 0 < 0 ∧ ¬ (65535 : Int32) < cs.getD j 0 := by
 by_cases hj : j < cs.length
 ·
  have e : cs.getD j 0 = cs[j] := by simp [List.getD_eq_getElem?_getD, hj]
  rw [e]; exact h _ (List.getElem_mem _)
 ·
  have e : cs.getD j 0 = 0 := by simp [List.getD_eq_getElem?_getD, List.getElem?_eq_none (Nat.le_of_not_lt hj)]
  rw [e]; decide
theorem own_gd_set {vs : List Value} {i j : Nat} {v d : Value} : (vs.set i v).getD j d = if i = j ∧ i < vs.length then v else vs.getD j d := by
 simp only [List.getD_eq_getElem?_getD, List.getElem?_set]
 by_cases h : i = j
 ·
  subst h
  by_cases hl : i < vs.length
  ·
   simp [hl]
  ·
   simp [hl]
 ·
  simp [h]
theorem own_gd_app {cs : List Int32} {c : Int32} {j : Nat} : (cs ++ [c]).getD j 0 = if j < cs.length then cs.getD j 0 else if j = cs.length then c else 0 := by
 by_cases h : j < cs.length
 ·
  simp [List.getD_eq_getElem?_getD, List.getElem?_append_left h, h]
 ·
  by_cases h2 : j = cs.length
  ·
   subst h2; simp [List.getD_eq_getElem?_getD]
  ·
   have : (cs ++ [c])[j]? = none := List.getElem?_eq_none (by simp; omega)
   simp [List.getD_eq_getElem?_getD, this, h, h2]
theorem own_ub_app {cs : List Int32} {vs : List Value} {c : Int32} (h : OwnUB cs vs) (hl : 2 * cs.length + 2 ≤ vs.length) : OwnUB (cs ++ [c]) ((vs.set (2 * cs.length) (.int (StrChars.lo8 c))).set (2 * cs.length + 1) (.int (StrChars.hi8 c))) := by
 refine ⟨by simp; omega, fun j hj => ?_⟩
 rw [List.length_append] at hj
 simp only [List.length_cons, List.length_nil] at hj
 by_cases q : j < cs.length
 ·
  have z := h.2 j q
  have e : (cs ++ [c]).getD j 0 = cs.getD j 0 := by rw [own_gd_app, if_pos q]
  rw [e]
  refine ⟨?_, ?_⟩
  ·
   rw [own_gd_set, if_neg (by omega), own_gd_set, if_neg (by omega)]; exact z.1
  ·
   rw [own_gd_set, if_neg (by omega), own_gd_set, if_neg (by omega)]; exact z.2
 ·
  obtain rfl : j = cs.length := by omega
  have e : (cs ++ [c]).getD cs.length 0 = c := by rw [own_gd_app, if_neg (Nat.lt_irrefl _), if_pos rfl]
  rw [e]
  refine ⟨?_, ?_⟩
  ·
   rw [own_gd_set, if_neg (by omega), own_gd_set, if_pos ⟨rfl, by omega⟩]
  ·
   rw [own_gd_set, if_pos ⟨rfl, by rw [List.length_set]; omega⟩]
theorem own_ub_put {cs : List Int32} {vs : List Value} {N : Nat} (hN : vs.length = N) (hM : N ≤ 4000) (hl : 2 * cs.length + 2 ≤ N) : OwnPut (Int32.ofNat N) vs (Int32.ofNat cs.length) (2 * cs.length) := by
 have a := own_nat (n := 2 * cs.length) (by omega)
 have b := own_nat (n := 2 * cs.length + 1) (by omega)
 unfold OwnPut
 rw [own_shlN (by omega), own_add1]
 exact ⟨⟨⟨a.2.1, (own_ltN (by omega) hM).mpr (by omega)⟩, a.2.2, by omega⟩, ⟨⟨b.2.1, (own_ltN (by omega) hM).mpr (by omega)⟩, b.2.2, by omega⟩⟩
theorem own_ub_get {cs : List Int32} {vs : List Value} {N j : Nat} (hr : OwnRg cs) (h : OwnUB cs vs) (hN : vs.length = N) (hM : N ≤ 4000) (hj : j < cs.length) : OwnGet (Int32.ofNat N) vs (Int32.ofNat j) (cs.getD j 0) := by
 have hl := h.1
 have a := own_nat (n := 2 * j) (by omega)
 have b := own_nat (n := 2 * j + 1) (by omega)
 have r := own_rg_at hr j
 unfold OwnGet
 rw [own_shlN (by omega), own_add1]
 refine ⟨_, _, ⟨⟨a.2.1, (own_ltN (by omega) hM).mpr (by omega)⟩, ?_⟩, ⟨⟨b.2.1, (own_ltN (by omega) hM).mpr (by omega)⟩, ?_⟩, StrChars.pair_says r.1 r.2, own_nar_w r⟩
 ·
  rw [a.2.2]; exact (h.2 j hj).1
 ·
  rw [b.2.2]; exact (h.2 j hj).2
theorem own_wide_len (cs : List Int32) : (StrChars.Road.wideBytes cs).length = 2 * cs.length := by
 induction cs with
 | nil => rfl
 | cons c cs ih => simp [StrChars.Road.wideBytes, ih]; omega
theorem own_ub_wide {cs : List Int32} {vs : List Value} (h : OwnUB cs vs) (hl : vs.length = 2 * cs.length) : vs = StrChars.Road.wideBytes cs := by
 apply List.ext_getElem (by rw [hl, own_wide_len])
 intro i h1 h2
 have e1 : vs.getD i (.int 0) = vs[i] := by simp [List.getD_eq_getElem?_getD, h1]
 have e2 : (StrChars.Road.wideBytes cs).getD i (.int 0) = (StrChars.Road.wideBytes cs)[i] := by simp [List.getD_eq_getElem?_getD, h2]
 rw [← e1, ← e2]
 rcases Nat.mod_two_eq_zero_or_one i with q | q
 ·
  obtain ⟨j, rfl⟩ : ∃ j, i = 2 * j := ⟨i / 2, by omega⟩
  rw [(h.2 j (by omega)).1, StrChars.Road.wide_lo _ cs j (by omega)]
 ·
  obtain ⟨j, rfl⟩ : ∃ j, i = 2 * j + 1 := ⟨i / 2, by omega⟩
  rw [(h.2 j (by omega)).2, StrChars.Road.wide_hi _ cs j (by omega)]
theorem own_lb_app {cs : List Int32} {vs : List Value} {c : Int32} (h : OwnLB cs vs) (hl : cs.length < vs.length) (hc : ¬ (255 : Int32) < c) : OwnLB (cs ++ [c]) (vs.set cs.length (.int (StrChars.lo8 c))) := by
 refine ⟨by simp; omega, fun j hj => ?_⟩
 rw [List.length_append] at hj
 simp only [List.length_cons, List.length_nil] at hj
 rw [own_gd_set, own_gd_app]
 by_cases q : j < cs.length
 ·
  rw [if_neg (by omega), if_pos q]; exact h.2 j q
 ·
  obtain rfl : j = cs.length := by omega
  rw [if_pos ⟨rfl, hl⟩]
  simp [hc]
theorem own_lb_map {cs : List Int32} {vs : List Value} (h : OwnLB cs vs) : vs.take cs.length = cs.map fun c => Value.int (StrChars.lo8 c) := by
 apply List.ext_getElem
 ·
  simp [h.1]
 ·
  intro i h1 h2
  have hi : i < cs.length := by simpa using h2
  have hv : i < vs.length := by have := h.1; omega
  have e := (h.2 i hi).1
  simp only [List.getD_eq_getElem?_getD, List.getElem?_eq_getElem hv, List.getElem?_eq_getElem hi, Option.getD_some] at e
  simp [e]
theorem own_take_succ {cs : List Int32} {i : Nat} (h : i < cs.length) : cs.take (i + 1) = cs.take i ++ [cs.getD i 0] := by
 rw [List.take_succ, List.getElem?_eq_getElem h]
 simp [List.getD_eq_getElem?_getD, List.getElem?_eq_getElem h]
theorem own_take_len {cs : List Int32} {i : Nat} (h : i ≤ cs.length) : (cs.take i).length = i := by rw [List.length_take]; omega
theorem own_ub0 (n : Nat) : OwnUB [] (List.replicate n (.int 0)) := ⟨by simp, fun j h => absurd h (Nat.not_lt_zero _)⟩
theorem own_lb0 (n : Nat) : OwnLB [] (List.replicate n (.int 0)) := ⟨by simp, fun j h => absurd h (Nat.not_lt_zero _)⟩
theorem own_ub_next {cs : List Int32} {vs : List Value} {i : Nat} (h : OwnUB (cs.take i) vs) (hi : i < cs.length) (hl : 2 * i + 2 ≤ vs.length) : OwnUB (cs.take (i + 1)) ((vs.set (2 * i) (.int (StrChars.lo8 (cs.getD i 0)))).set (2 * i + 1) (.int (StrChars.hi8 (cs.getD i 0)))) := by
 have e := own_take_len (cs := cs) (i := i) (by omega)
 have := own_ub_app (c := cs.getD i 0) h (by rw [e]; exact hl)
 rw [e] at this
 rw [own_take_succ hi]; exact this
theorem own_map_at {cs : List Int32} {i : Nat} (h4 : cs.length ≤ 4000) (h : i < cs.length) : (¬ Int32.ofNat i < 0 ∧ Int32.ofNat i < Int32.ofNat cs.length) ∧ (cs.map Value.int).getD (Int32.ofNat i).toNatClampNeg (.int 0) = .int (cs.getD i 0) := by
 have a := own_nat (n := i) (by omega)
 refine ⟨⟨a.2.1, (own_ltN (by omega) h4).mpr h⟩, ?_⟩
 rw [a.2.2]
 simp [List.getD_eq_getElem?_getD, h]
theorem own_or_nn {a b : Int32} (ha : ¬ a < 0) (hb : ¬ b < 0) : ¬ (a ||| b) < 0 := by
 have e0 : (0 : Int32).toInt = 0 := rfl
 rw [Int32.lt_iff_toInt_lt, e0] at ha hb ⊢
 have k : ∀ x : Int32, ¬ x.toInt < 0 ↔ x.toBitVec.msb = false := fun x => by
  show ¬ x.toBitVec.toInt < 0 ↔ _
  rw [BitVec.msb_eq_toInt]; simp
 rw [k] at ha hb ⊢
 rw [Int32.toBitVec_or, BitVec.msb_or, ha, hb]; rfl
def ownWs (x : Int32) : Bool := x == 32 || x == 9 || x == 10 || x == 11 || x == 12 || x == 13
def ownAt (cs : List Int32) (i : Nat) : Int32 := cs.getD i 0
def ownW (cs : List Int32) (i : Nat) : Bool := ownWs (ownAt cs i)
def OwnEnd (cs : List Int32) (e : Nat) : Prop := e ≤ cs.length ∧ (∀ t, e ≤ t → t < cs.length → ownW cs t = true) ∧ (0 < e → ownW cs (e - 1) = false)
def ownKept (cs : List Int32) (s e j : Nat) : Bool := decide (s ≤ j) && decide (j < e) && (!ownW cs j || (decide (s < j) && !ownW cs (j - 1)))
def ownCnt (cs : List Int32) (s e : Nat) : Nat → Nat
 | 0 => 0
 | j + 1 => ownCnt cs s e j + if ownKept cs s e j = true then 1 else 0
def ownOut (cs : List Int32) (j : Nat) : Int32 := if ownW cs j = true then 32 else ownAt cs j
abbrev OwnInv (cs : List Int32) (s e m i : Nat) (acc : List Int32) : Prop :=
 s ≤ i ∧ i ≤ cs.length ∧ acc.length = m + ownCnt cs s e i ∧ acc.length ≤ 240 ∧ (m = 1 → acc.getD 0 0 = 8230) ∧
 (∀ j, j < i → ownKept cs s e j = true → acc.getD (m + ownCnt cs s e j) 0 = ownOut cs j) ∧
 (i < cs.length → ownW cs i = true → s < i ∧ ownW cs (i - 1) = false) ∧ (e < i → acc.length < 240)
section
variable {cs acc : List Int32} {s e m i : Nat}
theorem OwnInv.le (I : OwnInv cs s e m i acc) : s ≤ i := I.1
theorem OwnInv.ln (I : OwnInv cs s e m i acc) : i ≤ cs.length := I.2.1
theorem OwnInv.len (I : OwnInv cs s e m i acc) : acc.length = m + ownCnt cs s e i := I.2.2.1
theorem OwnInv.cap (I : OwnInv cs s e m i acc) : acc.length ≤ 240 := I.2.2.2.1
theorem OwnInv.mark (I : OwnInv cs s e m i acc) : m = 1 → acc.getD 0 0 = 8230 := I.2.2.2.2.1
theorem OwnInv.hit (I : OwnInv cs s e m i acc) : ∀ j, j < i → ownKept cs s e j = true → acc.getD (m + ownCnt cs s e j) 0 = ownOut cs j := I.2.2.2.2.2.1
theorem OwnInv.bd (I : OwnInv cs s e m i acc) : i < cs.length → ownW cs i = true → s < i ∧ ownW cs (i - 1) = false := I.2.2.2.2.2.2.1
theorem OwnInv.full (I : OwnInv cs s e m i acc) : e < i → acc.length < 240 := I.2.2.2.2.2.2.2
end
theorem own_cnt_succ (cs : List Int32) (s e j : Nat) : ownCnt cs s e (j + 1) = ownCnt cs s e j + if ownKept cs s e j = true then 1 else 0 := rfl
theorem own_cnt_mono (cs : List Int32) (s e : Nat) {i j : Nat} (h : i ≤ j) : ownCnt cs s e i ≤ ownCnt cs s e j := by
 induction j with
 | zero =>
  have : i = 0 := by omega
  subst this; exact Nat.le_refl _
 | succ j ih =>
  rcases Nat.lt_or_ge i (j + 1) with q | q
  ·
   have := ih (by omega)
   rw [own_cnt_succ]; omega
  ·
   have : i = j + 1 := by omega
   subst this; exact Nat.le_refl _
theorem own_cnt_none (cs : List Int32) (s e : Nat) {i j : Nat} (h : i ≤ j) (hn : ∀ t, i ≤ t → t < j → ownKept cs s e t = false) : ownCnt cs s e j = ownCnt cs s e i := by
 induction j with
 | zero =>
  have : i = 0 := by omega
  subst this; rfl
 | succ j ih =>
  rcases Nat.lt_or_ge i (j + 1) with q | q
  ·
   rw [own_cnt_succ, hn j (by omega) (by omega), ih (by omega) (fun t h1 h2 => hn t h1 (by omega))]; rfl
  ·
   have : i = j + 1 := by omega
   subst this; rfl
theorem own_cnt_lt (cs : List Int32) (s e : Nat) {i j : Nat} (h : i < j) (hk : ownKept cs s e i = true) : ownCnt cs s e i < ownCnt cs s e j := by
 have h1 := own_cnt_mono cs s e (i := i + 1) (j := j) h
 have h2 := own_cnt_succ cs s e i
 rw [if_pos hk] at h2
 omega
theorem own_cnt_onto (cs : List Int32) (s e : Nat) : ∀ (i q : Nat), q < ownCnt cs s e i → ∃ j, j < i ∧ ownKept cs s e j = true ∧ ownCnt cs s e j = q
 | 0, q, h => absurd h (Nat.not_lt_zero _)
 | i + 1, q, h => by
  rw [own_cnt_succ] at h
  by_cases hq : q < ownCnt cs s e i
  ·
   obtain ⟨j, h1, h2, h3⟩ := own_cnt_onto cs s e i q hq
   exact ⟨j, by omega, h2, h3⟩
  ·
   by_cases hk : ownKept cs s e i = true
   ·
    rw [if_pos hk] at h
    exact ⟨i, by omega, hk, by omega⟩
   ·
    rw [if_neg hk] at h; omega
theorem own_kept_nws {cs : List Int32} {s e j : Nat} (he : OwnEnd cs e) (h1 : s ≤ j) (h2 : j < cs.length) (h3 : ownW cs j = false) : ownKept cs s e j = true := by
 have : j < e := by
  rcases Nat.lt_or_ge j e with q | q
  ·
   exact q
  ·
   have := he.2.1 j q h2; rw [h3] at this; cases this
 simp [ownKept, h1, this, h3]
theorem own_getD_append {α : Type} (l : List α) (x d : α) {q : Nat} (h : q < l.length) : (l ++ [x]).getD q d = l.getD q d := by
 simp [List.getD_eq_getElem?_getD, List.getElem?_append_left h]
theorem own_getD_last {α : Type} (l : List α) (x d : α) : (l ++ [x]).getD l.length d = x := by
 simp [List.getD_eq_getElem?_getD]
theorem own_inv_init {cs : List Int32} {s e m i : Nat} {acc : List Int32} (hs : s ≤ i) (hi : i ≤ cs.length) (hr : ∀ t, s ≤ t → t < i → ownW cs t = true) (hw : i < cs.length → ownW cs i = false) (hm : (m = 0 ∧ acc = []) ∨ (m = 1 ∧ acc = [8230])) : OwnInv cs s e m i acc := by
 have hk : ∀ t, t < i → ownKept cs s e t = false := fun t ht => by
  rcases Nat.lt_or_ge t s with q | q
  ·
   simp [ownKept, Nat.not_le.mpr q]
  ·
   rcases Nat.lt_or_ge s t with q' | q'
   ·
    simp [ownKept, hr t q ht, hr (t - 1) (by omega) (by omega)]
   ·
    have : t = s := by omega
    subst this; simp [ownKept, hr t q ht]
 have hc : ownCnt cs s e i = 0 := own_cnt_none cs s e (Nat.zero_le i) fun t _ ht => hk t ht
 refine ⟨hs, hi, ?_, ?_, ?_, ?_, ?_, ?_⟩
 ·
  rw [hc]; rcases hm with ⟨rfl, rfl⟩ | ⟨rfl, rfl⟩ <;> rfl
 ·
  rcases hm with ⟨rfl, rfl⟩ | ⟨rfl, rfl⟩ <;> simp
 ·
  intro h; rcases hm with ⟨rfl, rfl⟩ | ⟨rfl, rfl⟩
  ·
   cases h
  ·
   rfl
 ·
  intro j hj hkj; rw [hk j hj] at hkj; cases hkj
 ·
  intro h1 h2; rw [hw h1] at h2; cases h2
 ·
  intro _; rcases hm with ⟨rfl, rfl⟩ | ⟨rfl, rfl⟩ <;> simp
theorem own_inv_char {cs : List Int32} {s e m i : Nat} {acc : List Int32} (he : OwnEnd cs e) (I : OwnInv cs s e m i acc) (hi : i < cs.length) (hw : ownW cs i = false) (hl : acc.length < 240) : OwnInv cs s e m (i + 1) (acc ++ [ownAt cs i]) := by
 have hk := own_kept_nws he I.le hi hw
 have hc : ownCnt cs s e (i + 1) = ownCnt cs s e i + 1 := by rw [own_cnt_succ, if_pos hk]
 have hie : i < e := by simp [ownKept] at hk; omega
 refine ⟨by have := I.le; omega, by omega, ?_, ?_, ?_, ?_, ?_, fun h => absurd h (by omega)⟩
 ·
  simp [I.len, hc]; omega
 ·
  simp; omega
 ·
  intro hm
  have h0 := I.mark hm
  have : 0 < acc.length := by have := I.len; omega
  rw [own_getD_append acc _ _ this]; exact h0
 ·
  intro j hj hkj
  rcases Nat.lt_or_ge j i with q | q
  ·
   have := own_cnt_lt cs s e q hkj
   rw [own_getD_append acc _ _ (by rw [I.len]; omega)]
   exact I.hit j q hkj
  ·
   have : j = i := by omega
   subst this
   rw [← I.len, own_getD_last]; simp [ownOut, hw]
 ·
  intro _ _; exact ⟨by have := I.le; omega, hw⟩
theorem own_inv_space {cs : List Int32} {s e m i j : Nat} {acc : List Int32} (he : OwnEnd cs e) (I : OwnInv cs s e m i acc) (hij : i < j) (hj : j < cs.length) (hr : ∀ t, i ≤ t → t < j → ownW cs t = true) (hw : ownW cs j = false) (hl : acc.length < 240) : OwnInv cs s e m j (acc ++ [32]) := by
 have hiw := hr i (Nat.le_refl _) hij
 obtain ⟨b1, b2⟩ := I.bd (by omega) hiw
 have hje : j < e := by
  rcases Nat.lt_or_ge j e with q | q
  ·
   exact q
  ·
   have := he.2.1 j q hj; rw [hw] at this; cases this
 have hk : ownKept cs s e i = true := by simp [ownKept, b1, b2]; omega
 have hno : ∀ t, i + 1 ≤ t → t < j → ownKept cs s e t = false := fun t h1 h2 => by simp [ownKept, hr t (by omega) h2, hr (t - 1) (by omega) (by omega)]
 have hc : ownCnt cs s e j = ownCnt cs s e i + 1 := by rw [own_cnt_none cs s e (i := i + 1) (by omega) hno, own_cnt_succ, if_pos hk]
 refine ⟨by have := I.le; omega, by omega, ?_, ?_, ?_, ?_, ?_, fun h => absurd h (by omega)⟩
 ·
  simp [I.len, hc]; omega
 ·
  simp; omega
 ·
  intro hm
  have h0 := I.mark hm
  have : 0 < acc.length := by have := I.len; omega
  rw [own_getD_append acc _ _ this]; exact h0
 ·
  intro t ht hkt
  rcases Nat.lt_or_ge t i with q | q
  ·
   have := own_cnt_lt cs s e q hkt
   rw [own_getD_append acc _ _ (by rw [I.len]; omega)]
   exact I.hit t q hkt
  ·
   rcases Nat.lt_or_ge i t with q' | q'
   ·
    rw [hno t q' ht] at hkt; cases hkt
   ·
    have : t = i := by omega
    subst this
    rw [← I.len, own_getD_last]; simp [ownOut, hiw]
 ·
  intro _ h; rw [hw] at h; cases h
theorem own_inv_end {cs : List Int32} {s e m i : Nat} {acc : List Int32} (he : OwnEnd cs e) (I : OwnInv cs s e m i acc) (hr : ∀ t, i ≤ t → t < cs.length → ownW cs t = true) (hl : acc.length < 240) : OwnInv cs s e m cs.length acc := by
 have hei : e ≤ i := by
  rcases Nat.lt_or_ge i e with q | q
  ·
   have h1 := he.2.2 (by omega)
   have h2 := hr (e - 1) (by omega) (by have := he.1; omega)
   rw [h1] at h2; cases h2
  ·
   exact q
 have hno : ∀ t, i ≤ t → t < cs.length → ownKept cs s e t = false := fun t h1 _ => by simp [ownKept]; omega
 have hc := own_cnt_none cs s e I.ln hno
 refine ⟨Nat.le_trans I.le I.ln, Nat.le_refl _, by rw [hc]; exact I.len, I.cap, I.mark, fun j hj hk => ?_, fun h => absurd h (Nat.lt_irrefl _), fun _ => hl⟩
 rcases Nat.lt_or_ge j i with q | q
 ·
  exact I.hit j q hk
 ·
  rw [hno j q hj] at hk; cases hk
theorem own_end_ex (cs : List Int32) : ∃ e, OwnEnd cs e := by
 have : ∀ k, k ≤ cs.length → (∀ t, k ≤ t → t < cs.length → ownW cs t = true) → ∃ e, OwnEnd cs e := by
  intro k
  induction k with
  | zero => intro h1 h2; exact ⟨0, h1, h2, fun h => absurd h (Nat.lt_irrefl _)⟩
  | succ k ih =>
   intro h1 h2
   by_cases q : ownW cs k = true
   ·
    exact ih (by omega) fun t ht1 ht2 => by
     rcases Nat.lt_or_ge k t with z | z
     ·
      exact h2 t z ht2
     ·
      have : t = k := by omega
      subst this; exact q
   ·
    exact ⟨k + 1, h1, h2, fun _ => by simpa using q⟩
 exact this cs.length (Nat.le_refl _) fun t h1 h2 => absurd h2 (by omega)
def ownN (b : Bool) : Nat := if b = true then 1 else 0
abbrev OwnBody (cs : List Int32) (n P0 P1 P2 : Nat) (c0 c1 c2 : Int32) : Prop :=
 cs.length = n ∧ P0 < n ∧ P1 < n ∧ P2 < n ∧ ∀ j, ownAt cs j = if j = P2 then c2 else if j = P1 then c1 else if j = P0 then c0 else 0
section
variable {cs : List Int32} {n P0 P1 P2 : Nat} {c0 c1 c2 : Int32}
theorem OwnBody.len (B : OwnBody cs n P0 P1 P2 c0 c1 c2) : cs.length = n := B.1
theorem OwnBody.l0 (B : OwnBody cs n P0 P1 P2 c0 c1 c2) : P0 < n := B.2.1
theorem OwnBody.l1 (B : OwnBody cs n P0 P1 P2 c0 c1 c2) : P1 < n := B.2.2.1
theorem OwnBody.l2 (B : OwnBody cs n P0 P1 P2 c0 c1 c2) : P2 < n := B.2.2.2.1
theorem OwnBody.at_ (B : OwnBody cs n P0 P1 P2 c0 c1 c2) : ∀ j, ownAt cs j = if j = P2 then c2 else if j = P1 then c1 else if j = P0 then c0 else 0 := B.2.2.2.2
end
def ownW0 (P0 P1 P2 : Nat) (c0 : Int32) : Bool := decide (P0 ≠ P1) && decide (P0 ≠ P2) && ownWs c0
def ownW1 (P1 P2 : Nat) (c1 : Int32) : Bool := decide (P1 ≠ P2) && ownWs c1
def ownWsAt (P0 P1 P2 : Nat) (w0 w1 w2 : Bool) (i : Nat) : Bool := (w0 && decide (i = P0)) || (w1 && decide (i = P1)) || (w2 && decide (i = P2))
theorem own_body_ws {cs : List Int32} {n P0 P1 P2 : Nat} {c0 c1 c2 : Int32} (B : OwnBody cs n P0 P1 P2 c0 c1 c2) (i : Nat) : ownW cs i = ownWsAt P0 P1 P2 (ownW0 P0 P1 P2 c0) (ownW1 P1 P2 c1) (ownWs c2) i := by
 have z : ownWs 0 = false := by decide
 unfold ownW
 rw [B.at_]
 by_cases h2 : i = P2
 ·
  subst h2
  by_cases h1 : i = P1
  ·
   by_cases h0 : i = P0 <;> simp [ownWsAt, ownW0, ownW1, h1, h0]
   all_goals (first | (cases ownWs c2 <;> simp_all; done) | skip)
  ·
   by_cases h0 : i = P0 <;> simp [ownWsAt, ownW0, ownW1, h1, h0]
   all_goals (first | (cases ownWs c2 <;> simp_all; done) | skip)
 ·
  by_cases h1 : i = P1
  ·
   subst h1
   by_cases h0 : i = P0
   ·
    subst h0; simp [ownWsAt, ownW0, ownW1, h2]
   ·
    simp [ownWsAt, ownW0, ownW1, h2, h0]
  ·
   by_cases h0 : i = P0
   ·
    subst h0; simp [ownWsAt, ownW0, h2, h1]
   ·
    simp [ownWsAt, h2, h1, h0, z]
def ownRem (W : Nat → Bool) (n s j : Nat) : Bool := decide (j = s) || (decide (s + 1 ≤ j) && W (j - 1)) || decide (j = n - 1) || (decide (j = n - 2) && W (n - 1)) || (decide (j = n - 3) && W (n - 2) && W (n - 1))
theorem own_four {P0 P1 P2 : Nat} {w0 w1 w2 : Bool} {j : Nat} (h0 : ownWsAt P0 P1 P2 w0 w1 w2 j = true) (h1 : ownWsAt P0 P1 P2 w0 w1 w2 (j + 1) = true) (h2 : ownWsAt P0 P1 P2 w0 w1 w2 (j + 2) = true) (h3 : ownWsAt P0 P1 P2 w0 w1 w2 (j + 3) = true) : False := by
 simp only [ownWsAt, Bool.or_eq_true, Bool.and_eq_true, decide_eq_true_eq] at h0 h1 h2 h3
 omega
theorem own_rem_kept {cs : List Int32} {n P0 P1 P2 : Nat} {c0 c1 c2 : Int32} {s e j : Nat} (hn : 3 < n) (B : OwnBody cs n P0 P1 P2 c0 c1 c2) (he : OwnEnd cs e) (hs : s ≤ j) (hj : j < n) (hw : ownW cs j = true) : ownRem (ownW cs) n s j = !ownKept cs s e j := by
 have h4 : ∀ t, ownW cs t = true → ownW cs (t + 1) = true → ownW cs (t + 2) = true → ownW cs (t + 3) = true → False := fun t a b c d => by
  rw [own_body_ws B] at a b c d; exact own_four a b c d
 have hlen := B.len
 by_cases hje : j < e
 ·
  have g1 : j ≠ n - 1 := fun q => by
   have := he.2.2 (by omega)
   have e1 : e = n := by have := he.1; omega
   rw [e1, ← q, hw] at this; cases this
  have g2 : ¬ (j = n - 2 ∧ ownW cs (n - 1) = true) := fun ⟨q, r⟩ => by
   have := he.2.2 (by omega)
   have e1 : e - 1 = n - 1 ∨ e - 1 = n - 2 := by have := he.1; omega
   rcases e1 with e1 | e1
   ·
    rw [e1, r] at this; cases this
   ·
    rw [e1, ← q, hw] at this; cases this
  have g3 : ¬ (j = n - 3 ∧ ownW cs (n - 2) = true ∧ ownW cs (n - 1) = true) := fun ⟨q, r, r'⟩ => by
   have := he.2.2 (by omega)
   have e1 : e - 1 = n - 1 ∨ e - 1 = n - 2 ∨ e - 1 = n - 3 := by have := he.1; omega
   rcases e1 with e1 | e1 | e1
   ·
    rw [e1, r'] at this; cases this
   ·
    rw [e1, r] at this; cases this
   ·
    rw [e1, ← q, hw] at this; cases this
  simp only [ownRem, ownKept, hw, hje, hs, decide_true, Bool.true_and, Bool.not_true, Bool.false_or]
  have g2' : (decide (j = n - 2) && ownW cs (n - 1)) = false := by
   rw [Bool.and_eq_false_iff]
   by_cases q : j = n - 2
   ·
    right; cases h : ownW cs (n - 1)
    ·
     rfl
    ·
     exact absurd ⟨q, h⟩ g2
   ·
    left; simp [q]
  have g3' : (decide (j = n - 3) && ownW cs (n - 2) && ownW cs (n - 1)) = false := by
   cases h : (decide (j = n - 3) && ownW cs (n - 2) && ownW cs (n - 1))
   ·
    rfl
   ·
    simp only [Bool.and_eq_true, decide_eq_true_eq] at h
    exact absurd ⟨h.1.1, h.1.2, h.2⟩ g3
  rw [g2', g3', decide_eq_false g1]
  by_cases q : j = s
  ·
   subst q; simp
  ·
   have : s < j := by omega
   simp [q, this]
   omega
 ·
  have hall : ∀ t, j ≤ t → t < n → ownW cs t = true := fun t h1 h2 => he.2.1 t (by omega) (by omega)
  have hk : ownKept cs s e j = false := by simp [ownKept, hje]
  rw [hk]
  have : j = n - 1 ∨ j = n - 2 ∨ j = n - 3 := by
   rcases Nat.lt_or_ge (j + 3) n with q | q
   ·
    exact (h4 j hw (hall _ (by omega) (by omega)) (hall _ (by omega) (by omega)) (hall _ (by omega) q)).elim
   ·
    omega
  rcases this with q | q | q
  ·
   simp [ownRem, q]
  ·
   have h1 := hall (n - 1) (by omega) (by omega)
   simp [ownRem, q, h1]
  ·
   have h1 := hall (n - 1) (by omega) (by omega)
   have h2 := hall (n - 2) (by omega) (by omega)
   simp [ownRem, q, h1, h2]
theorem own_cnt_low (cs : List Int32) (s e : Nat) {i : Nat} (h : i ≤ s) : ownCnt cs s e i = 0 := own_cnt_none cs s e (Nat.zero_le i) fun t _ ht => by simp [ownKept]; omega
theorem own_cnt_f {cs : List Int32} {n P0 P1 P2 : Nat} {c0 c1 c2 : Int32} {s e : Nat} (hn : 3 < n) (B : OwnBody cs n P0 P1 P2 c0 c1 c2) (he : OwnEnd cs e) {r0 r1 r2 : Bool}
  (h0 : r0 = (ownW0 P0 P1 P2 c0 && decide (s ≤ P0) && ownRem (ownW cs) n s P0)) (h1 : r1 = (ownW1 P1 P2 c1 && decide (s ≤ P1) && ownRem (ownW cs) n s P1)) (h2 : r2 = (ownWs c2 && decide (s ≤ P2) && ownRem (ownW cs) n s P2)) :
  ∀ i, s ≤ i → i ≤ n → ownCnt cs s e i + ownN (r0 && decide (P0 < i)) + ownN (r1 && decide (P1 < i)) + ownN (r2 && decide (P2 < i)) = i - s := by
 have up : ∀ {r : Bool} {P : Nat}, (r = true → s ≤ P) → ownN (r && decide (P < s)) = 0 := fun {r P} h => by
  cases r
  ·
   rfl
  ·
   have := h rfl; simp [ownN]; omega
 intro i
 induction i with
 | zero =>
  intro hs _
  have : s = 0 := by omega
  subst this
  simp [ownCnt, ownN]
 | succ i ih =>
  intro hs hi
  rcases Nat.lt_or_ge i s with q | q
  ·
   have : s = i + 1 := by omega
   subst this
   rw [own_cnt_low cs _ e (Nat.le_refl _), up, up, up]
   ·
    omega
   ·
    intro z; rw [h2] at z; simp only [Bool.and_eq_true, decide_eq_true_eq] at z; exact z.1.2
   ·
    intro z; rw [h1] at z; simp only [Bool.and_eq_true, decide_eq_true_eq] at z; exact z.1.2
   ·
    intro z; rw [h0] at z; simp only [Bool.and_eq_true, decide_eq_true_eq] at z; exact z.1.2
  ·
   have ih := ih q (by omega)
   have sp : ∀ (r : Bool) (P : Nat), ownN (r && decide (P < i + 1)) = ownN (r && decide (P < i)) + ownN (r && decide (P = i)) := fun r P => by
    cases r
    ·
     rfl
    ·
     rcases Nat.lt_trichotomy P i with z | z | z
     ·
      simp [ownN, z, Nat.ne_of_lt z]; omega
     ·
      subst z; simp [ownN]
     ·
      have z1 : ¬ P < i := by omega
      have z2 : ¬ P < i + 1 := by omega
      have z3 : ¬ P = i := by omega
      simp [ownN, z1, z2, z3]
   rw [own_cnt_succ, sp, sp, sp]
   have key : (if ownKept cs s e i = true then 1 else 0) + ownN (r0 && decide (P0 = i)) + ownN (r1 && decide (P1 = i)) + ownN (r2 && decide (P2 = i)) = 1 := by
    cases hw : ownW cs i
    ·
     have hk := own_kept_nws he q (by rw [B.len]; omega) hw
     rw [own_body_ws B] at hw
     simp only [ownWsAt, Bool.or_eq_false_iff, Bool.and_eq_false_iff, decide_eq_false_iff_not] at hw
     have e0 : (r0 && decide (P0 = i)) = false := by
      rw [Bool.and_eq_false_iff]
      rcases hw.1.1 with z | z
      ·
       left; rw [h0, z]; rfl
      ·
       right; simp; omega
     have e1 : (r1 && decide (P1 = i)) = false := by
      rw [Bool.and_eq_false_iff]
      rcases hw.1.2 with z | z
      ·
       left; rw [h1, z]; rfl
      ·
       right; simp; omega
     have e2 : (r2 && decide (P2 = i)) = false := by
      rw [Bool.and_eq_false_iff]
      rcases hw.2 with z | z
      ·
       left; rw [h2, z]; rfl
      ·
       right; simp; omega
     rw [e0, e1, e2, if_pos hk]; rfl
    ·
     have hr := own_rem_kept hn B he q (by omega) hw
     have hww := hw
     rw [own_body_ws B] at hww
     simp only [ownWsAt, Bool.or_eq_true, Bool.and_eq_true, decide_eq_true_eq] at hww
     rcases hww with (⟨a, b⟩ | ⟨a, b⟩) | ⟨a, b⟩
     ·
      subst b
      have a' := a
      simp only [ownW0, Bool.and_eq_true, decide_eq_true_eq] at a'
      have n1 : ¬ P1 = i := fun z => a'.1.1 z.symm
      have n2 : ¬ P2 = i := fun z => a'.1.2 z.symm
      rw [h0, a, hr]
      simp [n1, n2, q, ownN]
      cases ownKept cs s e i <;> rfl
     ·
      subst b
      have a' := a
      simp only [ownW1, Bool.and_eq_true, decide_eq_true_eq] at a'
      have n2 : ¬ P2 = i := fun z => a'.1 z.symm
      have e0 : (r0 && decide (P0 = i)) = false := by
       rw [Bool.and_eq_false_iff]
       by_cases z : P0 = i
       ·
        left; rw [h0]; simp [ownW0, z]
       ·
        right; simp [z]
      rw [e0, h1, a, hr]
      simp [n2, q, ownN]
      cases ownKept cs s e i <;> rfl
     ·
      subst b
      have e0 : (r0 && decide (P0 = i)) = false := by
       rw [Bool.and_eq_false_iff]
       by_cases z : P0 = i
       ·
        left; rw [h0]; simp [ownW0, z]
       ·
        right; simp [z]
      have e1 : (r1 && decide (P1 = i)) = false := by
       rw [Bool.and_eq_false_iff]
       by_cases z : P1 = i
       ·
        left; rw [h1]; simp [ownW1, z]
       ·
        right; simp [z]
      rw [e0, e1, h2, a, hr]
      simp [q, ownN]
      cases ownKept cs s e i <;> rfl
   omega
def ownLow (x : Int32) : Bool := decide (56320 ≤ x.toInt) && decide (x.toInt ≤ 57343)
def ownHigh (x : Int32) : Bool := decide (55296 ≤ x.toInt) && decide (x.toInt ≤ 56319)
def OwnStart (cs : List Int32) (pl s : Nat) : Prop :=
 (pl ≤ 60 ∧ s = 0) ∨ (60 < pl ∧ ((∃ f, pl - 61 ≤ f ∧ f < pl ∧ ownW cs f = true ∧ (∀ t, pl - 61 ≤ t → t < f → ownW cs t = false) ∧ s = f + 1) ∨
  ((∀ t, pl - 61 ≤ t → t < pl → ownW cs t = false) ∧ s = pl - 60 + ownN (ownLow (ownAt cs (pl - 60))))))
theorem own_start_uniq {cs : List Int32} {pl s s' : Nat} (h : OwnStart cs pl s) (h' : OwnStart cs pl s') : s = s' := by
 rcases h with ⟨a, b⟩ | ⟨a, b⟩ <;> rcases h' with ⟨a', b'⟩ | ⟨a', b'⟩
 ·
  omega
 ·
  omega
 ·
  omega
 ·
  rcases b with ⟨f, f1, f2, f3, f4, f5⟩ | ⟨q1, q2⟩ <;> rcases b' with ⟨g, g1, g2, g3, g4, g5⟩ | ⟨r1, r2⟩
  ·
   rcases Nat.lt_trichotomy f g with z | z | z
   ·
    have := g4 f f1 z; rw [f3] at this; cases this
   ·
    omega
   ·
    have := f4 g g1 z; rw [g3] at this; cases this
  ·
   have := r1 f f1 f2; rw [f3] at this; cases this
  ·
   have := q1 g g1 g2; rw [g3] at this; cases this
  ·
   omega
theorem own_start_le {cs : List Int32} {pl s : Nat} (hp : pl ≤ cs.length) (h : OwnStart cs pl s) : s ≤ cs.length := by
 rcases h with ⟨a, b⟩ | ⟨a, ⟨f, f1, f2, f3, f4, f5⟩ | ⟨q1, q2⟩⟩
 ·
  omega
 ·
  omega
 ·
  have : ownN (ownLow (ownAt cs (pl - 60))) ≤ 1 := by unfold ownN; split <;> omega
  omega
def ownMark (s : Nat) : Nat := if 0 < s then 1 else 0
def OwnCut (m : Nat) (acc : List Int32) (lim : Nat) : Prop :=
 (∃ q, m + (239 - m) / 2 < q ∧ q < 240 ∧ acc.getD q 0 = 32 ∧ (∀ t, q < t → t < 240 → acc.getD t 0 ≠ 32) ∧ lim = q) ∨
 ((∀ t, m + (239 - m) / 2 < t → t < 240 → acc.getD t 0 ≠ 32) ∧ lim = 239 - ownN (ownHigh (acc.getD 238 0)))
def OwnRes (cs : List Int32) (pl : Nat) (R : List Int32) : Prop :=
 ∃ s e i acc, OwnStart cs pl s ∧ OwnEnd cs e ∧ OwnInv cs s e (ownMark s) i acc ∧
  ((i = cs.length ∧ R = acc) ∨ (i < cs.length ∧ acc.length = 240 ∧ ∃ lim, OwnCut (ownMark s) acc lim ∧ R = acc.take lim ++ [8230]))
def ownKs (w r : Bool) (s g P : Nat) : Nat := if w = true ∧ s ≤ P ∧ r = false ∧ g ≤ 239 then g + 1 else 0
def ownLim (m M : Nat) (high : Bool) : Nat := if m + (239 - m) / 2 + 1 < M then M - 1 else 239 - ownN high
theorem own_ws_ne {x : Int32} (h : ownWs x = false) : x ≠ 32 := fun e => by subst e; revert h; decide
theorem own_high_ne {x : Int32} (h : ownHigh x = true) : x ≠ 0 ∧ x ≠ 32 := by
 refine ⟨fun e => ?_, fun e => ?_⟩ <;> subst e <;> revert h <;> decide
theorem own_plain {cs : List Int32} {n P0 P1 P2 : Nat} {c0 c1 c2 : Int32} {pl s : Nat} {R : List Int32} (hn : 3 < n) (B : OwnBody cs n P0 P1 P2 c0 c1 c2) (hS : OwnStart cs pl s) (hR : OwnRes cs pl R) {w0 w1 w2 v0 v1 v2 r0 r1 r2 : Bool} {F : Nat → Nat}
  (hw0 : w0 = ownW0 P0 P1 P2 c0) (hw1 : w1 = ownW1 P1 P2 c1) (hw2 : w2 = ownWs c2)
  (hv0 : v0 = (decide (P0 ≠ P1) && decide (P0 ≠ P2) && !ownWs c0)) (hv1 : v1 = (decide (P1 ≠ P2) && !ownWs c1)) (hv2 : v2 = !ownWs c2)
  (h0 : r0 = (w0 && decide (s ≤ P0) && ownRem (ownW cs) n s P0)) (h1 : r1 = (w1 && decide (s ≤ P1) && ownRem (ownW cs) n s P1)) (h2 : r2 = (w2 && decide (s ≤ P2) && ownRem (ownW cs) n s P2))
  (hF : ∀ i, s ≤ i → i ≤ n → F i + ownN (r0 && decide (P0 < i)) + ownN (r1 && decide (P1 < i)) + ownN (r2 && decide (P2 < i)) = i - s) {full M : Nat} {high : Bool} (hfull : full = ownMark s + F n)
  (hM : M = max (ownKs w0 r0 s (ownMark s + F P0) P0) (max (ownKs w1 r1 s (ownMark s + F P1) P1) (ownKs w2 r2 s (ownMark s + F P2) P2)))
  (hH : high = true ↔ ((v0 = true ∧ s ≤ P0 ∧ ownMark s + F P0 = 238 ∧ ownHigh c0 = true) ∨ (v1 = true ∧ s ≤ P1 ∧ ownMark s + F P1 = 238 ∧ ownHigh c1 = true) ∨ (v2 = true ∧ s ≤ P2 ∧ ownMark s + F P2 = 238 ∧ ownHigh c2 = true))) {lim len : Nat}
  (hcut : (240 < full ∨ (full = 240 ∧ ownW cs (n - 1) = true)) → lim = ownLim (ownMark s) M high ∧ len = lim + 1) (hnot : ¬ (240 < full ∨ (full = 240 ∧ ownW cs (n - 1) = true)) → lim = full ∧ len = full) :
  R.length = len ∧ (ownMark s = 1 → R.getD 0 0 = 8230) ∧ (lim < len → R.getD lim 0 = 8230) ∧
   ∀ i, s ≤ i → i < n → (ownW cs i = true → ownRem (ownW cs) n s i = false) → ownMark s + F i < lim → R.getD (ownMark s + F i) 0 = if ownW cs i = true then 32 else ownAt cs i := by
 obtain ⟨s', e, i, acc, g1, he, I, g4⟩ := hR
 obtain rfl := own_start_uniq hS g1
 have hlen := B.len
 have hm1 : ownMark s ≤ 1 := by unfold ownMark; split <;> omega
 subst hw0 hw1 hw2
 have hcF : ∀ i, s ≤ i → i ≤ n → F i = ownCnt cs s e i := fun i h3 h4 => by
  have a := hF i h3 h4
  have b := own_cnt_f hn B he h0 h1 h2 i h3 h4
  omega
 have hsn : s ≤ n := by have := I.le; have := I.ln; omega
 have hkept : ∀ j, s ≤ j → j < n → (ownW cs j = true → ownRem (ownW cs) n s j = false) → ownKept cs s e j = true := fun j a b c => by
  cases hw : ownW cs j
  ·
   exact own_kept_nws he a (by omega) hw
  ·
   have := own_rem_kept hn B he a b hw
   rw [c hw] at this
   cases hk : ownKept cs s e j
   ·
    rw [hk] at this; cases this
   ·
    rfl
 have hfullc : full = ownMark s + ownCnt cs s e n := by rw [hfull, hcF n hsn (Nat.le_refl _)]
 rcases g4 with ⟨a, b⟩ | ⟨a, b, lim', c, d⟩
 ·
  -- the whole text
  subst b
  rw [hlen] at a
  subst a
  have hno : ¬ (240 < full ∨ (full = 240 ∧ ownW cs (i - 1) = true)) := by
   rintro (q | ⟨q, r⟩)
   ·
    have := I.cap; have := I.len; omega
   ·
    have hf := I.full
    have := I.len
    have : ¬ e < i := fun z => by have := hf z; omega
    have : e = i := by have := he.1; omega
    have z := he.2.2 (by omega)
    rw [this, r] at z; cases z
  obtain ⟨l1, l2⟩ := hnot hno
  refine ⟨by rw [l2, I.len, hfullc], I.mark, fun z => absurd z (by omega), fun j j1 j2 j3 j4 => ?_⟩
  rw [hcF j j1 (by omega)]
  exact I.hit j j2 (hkept j j1 j2 j3)
 ·
  -- the text is cut
  have hcond : 240 < full ∨ (full = 240 ∧ ownW cs (n - 1) = true) := by
   have hmono := own_cnt_mono cs s e (i := i) (j := n) (by omega)
   have := I.len
   rcases Nat.lt_or_ge 240 full with q | q
   ·
    exact Or.inl q
   ·
    refine Or.inr ⟨by omega, ?_⟩
    cases hw : ownW cs (n - 1)
    ·
     have hk := own_kept_nws he (j := n - 1) (s := s) (by have := I.le; omega) (by omega) hw
     have h5 := own_cnt_lt cs s e (i := n - 1) (j := n) (by omega) hk
     have h6 := own_cnt_mono cs s e (i := i) (j := n - 1) (by omega)
     omega
    ·
     rfl
  obtain ⟨l1, l2⟩ := hcut hcond
  have hci : ownMark s + ownCnt cs s e i = 240 := by rw [← I.len]; exact b
  have hback : ∀ j, ownKept cs s e j = true → ownMark s + ownCnt cs s e j < 240 → j < i := fun j hk hj => by
   rcases Nat.lt_or_ge j i with q | q
   ·
    exact q
   ·
    have := own_cnt_mono cs s e q; omega
  have hks : ∀ j, ownKept cs s e j = true → s ≤ j ∧ j < n := fun j hk => by
   simp only [ownKept, Bool.and_eq_true, decide_eq_true_eq] at hk
   have := he.1; omega
  -- where a space stands
  have hsp : ∀ q, q < 240 → acc.getD q 0 = 32 → q + 1 ≤ M := fun q hq hq' => by
   rcases Nat.lt_or_ge q (ownMark s) with z | z
   ·
    have hm : ownMark s = 1 := by omega
    have : q = 0 := by omega
    subst this
    rw [I.mark hm] at hq'; cases hq'
   ·
    obtain ⟨j, j1, j2, j3⟩ := own_cnt_onto cs s e i (q - ownMark s) (by omega)
    have hh := I.hit j j1 j2
    rw [show ownMark s + ownCnt cs s e j = q by omega, hq'] at hh
    have hw : ownW cs j = true := by
     cases hw : ownW cs j
     ·
      simp only [ownOut, hw] at hh
      exact absurd hh.symm (own_ws_ne hw)
     ·
      rfl
    obtain ⟨k1, k2⟩ := hks j j2
    have hr : ownRem (ownW cs) n s j = false := by rw [own_rem_kept hn B he k1 k2 hw, j2]; rfl
    have hww := hw
    rw [own_body_ws B] at hww
    simp only [ownWsAt, Bool.or_eq_true, Bool.and_eq_true, decide_eq_true_eq] at hww
    have fc := hcF j k1 (by omega)
    rcases hww with (⟨x, y⟩ | ⟨x, y⟩) | ⟨x, y⟩
    ·
     subst y
     have : ownKs (ownW0 j P1 P2 c0) r0 s (ownMark s + F j) j = q + 1 := by
      unfold ownKs; rw [if_pos ⟨x, k1, by rw [h0, hr]; simp, by omega⟩]; omega
     omega
    ·
     subst y
     have : ownKs (ownW1 j P2 c1) r1 s (ownMark s + F j) j = q + 1 := by
      unfold ownKs; rw [if_pos ⟨x, k1, by rw [h1, hr]; simp, by omega⟩]; omega
     omega
    ·
     subst y
     have : ownKs (ownWs c2) r2 s (ownMark s + F j) j = q + 1 := by
      unfold ownKs; rw [if_pos ⟨x, k1, by rw [h2, hr]; simp, by omega⟩]; omega
     omega
  have hone : ∀ {w r : Bool} {P : Nat}, P < n → (w = true → ownW cs P = true) → r = (w && decide (s ≤ P) && ownRem (ownW cs) n s P) → 0 < ownKs w r s (ownMark s + F P) P → ∃ q, q + 1 = ownKs w r s (ownMark s + F P) P ∧ q < 240 ∧ acc.getD q 0 = 32 := fun {w r P} hP hwP hr hk => by
   unfold ownKs at hk ⊢
   split at hk
   ·
    rename_i z
    obtain ⟨z1, z2, z3, z4⟩ := z
    rw [if_pos ⟨z1, z2, z3, z4⟩]
    have hW := hwP z1
    have hr' : ownRem (ownW cs) n s P = false := by
     rw [z3, z1] at hr
     simpa [z2] using hr.symm
    have kk := hkept P z2 hP fun _ => hr'
    have fc := hcF P z2 (by omega)
    have hb := hback P kk (by omega)
    refine ⟨ownMark s + F P, rfl, by omega, ?_⟩
    rw [fc, I.hit P hb kk]
    simp [ownOut, hW]
   ·
    exact absurd hk (Nat.lt_irrefl _)
  have hWs : (ownW0 P0 P1 P2 c0 = true → ownW cs P0 = true) ∧ (ownW1 P1 P2 c1 = true → ownW cs P1 = true) ∧ (ownWs c2 = true → ownW cs P2 = true) := by
   refine ⟨fun z => ?_, fun z => ?_, fun z => ?_⟩ <;> rw [own_body_ws B] <;> simp [ownWsAt, z]
  have hMq : 0 < M → ∃ q, q + 1 = M ∧ q < 240 ∧ acc.getD q 0 = 32 := fun hp => by
   rcases Nat.le_total (ownKs (ownW0 P0 P1 P2 c0) r0 s (ownMark s + F P0) P0) (max (ownKs (ownW1 P1 P2 c1) r1 s (ownMark s + F P1) P1) (ownKs (ownWs c2) r2 s (ownMark s + F P2) P2)) with z | z
   ·
    rcases Nat.le_total (ownKs (ownW1 P1 P2 c1) r1 s (ownMark s + F P1) P1) (ownKs (ownWs c2) r2 s (ownMark s + F P2) P2) with y | y
    ·
     obtain ⟨q, q1, q2, q3⟩ := hone B.l2 hWs.2.2 h2 (by omega)
     exact ⟨q, by omega, q2, q3⟩
    ·
     obtain ⟨q, q1, q2, q3⟩ := hone B.l1 hWs.2.1 h1 (by omega)
     exact ⟨q, by omega, q2, q3⟩
   ·
    obtain ⟨q, q1, q2, q3⟩ := hone B.l0 hWs.1 h0 (by omega)
    exact ⟨q, by omega, q2, q3⟩
  -- the high surrogate
  have hhi : ownHigh (acc.getD 238 0) = high := by
   have iff : ownHigh (acc.getD 238 0) = true ↔ high = true := by
    rw [hH]
    obtain ⟨j, j1, j2, j3⟩ := own_cnt_onto cs s e i (238 - ownMark s) (by omega)
    obtain ⟨k1, k2⟩ := hks j j2
    have hh := I.hit j j1 j2
    have e238 : ownMark s + ownCnt cs s e j = 238 := by omega
    rw [e238] at hh
    have fc := hcF j k1 (by omega)
    constructor
    ·
     intro z
     rw [hh] at z
     have hw : ownW cs j = false := by
      cases hw : ownW cs j
      ·
       rfl
      ·
       simp only [ownOut, hw, if_true] at z
       exact absurd rfl (own_high_ne z).2
     simp only [ownOut, hw] at z
     have nz := (own_high_ne z).1
     have hat := B.at_ j
     unfold ownW at hw
     by_cases y2 : j = P2
     ·
      subst y2
      simp only [if_true] at hat
      rw [hat] at z hw
      exact Or.inr (Or.inr ⟨by rw [hv2, hw]; rfl, k1, by omega, z⟩)
     ·
      by_cases y1 : j = P1
      ·
       subst y1
       simp only [y2, if_false, if_true] at hat
       rw [hat] at z hw
       exact Or.inr (Or.inl ⟨by rw [hv1, hw]; simp [y2], k1, by omega, z⟩)
      ·
       by_cases y0 : j = P0
       ·
        subst y0
        simp only [y2, y1, if_false, if_true] at hat
        rw [hat] at z hw
        exact Or.inl ⟨by rw [hv0, hw]; simp [y1, y2], k1, by omega, z⟩
       ·
        simp only [y2, y1, y0, if_false] at hat
        exact absurd hat nz
    ·
     have one : ∀ {P : Nat} {x : Int32}, P < n → s ≤ P → ownMark s + F P = 238 → ownHigh x = true → ownWs x = false → ownAt cs P = x → ownHigh (acc.getD 238 0) = true := fun {P x} p1 p2 p3 p4 p5 p6 => by
      have hw : ownW cs P = false := by unfold ownW; rw [p6]; exact p5
      have kk := own_kept_nws he p2 (by omega) hw
      have fc' := hcF P p2 (by omega)
      have hb := hback P kk (by omega)
      have := I.hit P hb kk
      rw [← fc', p3] at this
      rw [this]
      simp only [ownOut, hw, p6]
      exact p4
     rintro (⟨z1, z2, z3, z4⟩ | ⟨z1, z2, z3, z4⟩ | ⟨z1, z2, z3, z4⟩)
     ·
      rw [hv0] at z1
      simp only [Bool.and_eq_true, decide_eq_true_eq, Bool.not_eq_true'] at z1
      exact one B.l0 z2 z3 z4 z1.2 (by rw [B.at_]; simp [z1.1.1, z1.1.2])
     ·
      rw [hv1] at z1
      simp only [Bool.and_eq_true, decide_eq_true_eq, Bool.not_eq_true'] at z1
      exact one B.l1 z2 z3 z4 z1.2 (by rw [B.at_]; simp [z1.1])
     ·
      rw [hv2] at z1
      simp only [Bool.not_eq_true'] at z1
      exact one B.l2 z2 z3 z4 z1 (by rw [B.at_]; simp)
   cases h : ownHigh (acc.getD 238 0) <;> cases h' : high
   ·
    rfl
   ·
    rw [h, h'] at iff; exact absurd (iff.mpr rfl) (by simp)
   ·
    rw [h, h'] at iff; exact absurd (iff.mp rfl) (by simp)
   ·
    rfl
  have hN1 : ∀ b, ownN b ≤ 1 := fun b => by unfold ownN; split <;> omega
  have hlim : lim' = lim := by
   rw [l1]
   unfold ownLim
   rcases c with ⟨q, q1, q2, q3, q4, q5⟩ | ⟨q1, q2⟩
   ·
    have := hsp q q2 q3
    obtain ⟨t, t1, t2, t3⟩ := hMq (by omega)
    have : ¬ q < t := fun z => q4 t z t2 t3
    rw [if_pos (by omega)]; omega
   ·
    have : ¬ (ownMark s + (239 - ownMark s) / 2 + 1 < M) := fun z => by
     obtain ⟨t, t1, t2, t3⟩ := hMq (by omega)
     exact q1 t (by omega) t2 t3
    rw [if_neg this, q2, hhi]
  subst hlim
  have hl : lim' ≤ 239 ∧ 1 ≤ lim' := by
   rcases c with ⟨q, q1, q2, q3, q4, q5⟩ | ⟨q1, q2⟩
   ·
    omega
   ·
    have := hN1 (ownHigh (acc.getD 238 0)); omega
  have htl : (acc.take lim').length = lim' := by rw [List.length_take]; omega
  have hget : ∀ q, q < lim' → R.getD q 0 = acc.getD q 0 := fun q hq => by
   rw [d, own_getD_append _ _ _ (by omega)]
   simp [List.getD_eq_getElem?_getD, List.getElem?_take, hq]
  refine ⟨by rw [d, List.length_append, htl, l2]; rfl, fun z => by rw [hget 0 (by omega)]; exact I.mark z, fun _ => ?_, fun j j1 j2 j3 j4 => ?_⟩
  ·
   have := own_getD_last (acc.take lim') (8230 : Int32) 0
   rw [htl] at this
   rw [d]; exact this
  ·
   have fc := hcF j j1 (by omega)
   have kk := hkept j j1 j2 j3
   rw [hget _ j4, fc]
   exact I.hit j (hback j kk (by omega)) kk

theorem own_map_nn {cs : List Int32} {n i : Nat} (hn : cs.length = n) (h3 : n ≤ 300) (h : i < n) : (¬ Int32.ofNat i < 0 ∧ Int32.ofNat i < Int32.ofNat n) ∧ (cs.map Value.int).getD (Int32.ofNat i).toNatClampNeg (.int 0) = .int (cs.getD i 0) := by
 subst hn; exact own_map_at (by omega) h
theorem own_c5lt {cs : List Int32} {n i : Nat} (hn : cs.length = n) (hex : ∃ c ∈ cs, (255 : Int32) < c) (hle : i ≤ n) (hinv : ∀ j, j < i → ¬ (255 : Int32) < cs.getD j 0) : i < n := by
 rcases Nat.lt_or_ge i n with q | q
 ·
  exact q
 ·
  obtain ⟨c, hc, hb⟩ := hex
  obtain ⟨j, hj, rfl⟩ := List.getElem_of_mem hc
  have e : cs.getD j 0 = cs[j] := by simp [List.getD_eq_getElem?_getD, hj]
  exact absurd hb (e ▸ hinv j (by omega))
theorem own_all_at {cs : List Int32} {n i : Nat} (hn : cs.length = n) (hall : ∀ c ∈ cs, ¬ (255 : Int32) < c) (h : i < n) : ¬ (255 : Int32) < cs.getD i 0 := by
 have hj : i < cs.length := by omega
 have e : cs.getD i 0 = cs[i] := by simp [List.getD_eq_getElem?_getD, hj]
 rw [e]; exact hall _ (List.getElem_mem _)
theorem own_lb_nil {cs : List Int32} {vs : List Value} (_h : 0 ≤ vs.length) : OwnLB (cs.take 0) vs := ⟨by simp, fun j h => by simp at h⟩
theorem own_lb_next {cs : List Int32} {vs : List Value} {i : Nat} (h : OwnLB (cs.take i) vs) (hi : i < cs.length) (hl : i < vs.length) (hc : ¬ (255 : Int32) < cs.getD i 0) : OwnLB (cs.take (i + 1)) (vs.set i (.int (StrChars.lo8 (cs.getD i 0)))) := by
 have e := own_take_len (cs := cs) (i := i) (by omega)
 have z := own_lb_app (c := cs.getD i 0) h (by rw [e]; exact hl) hc
 rw [e] at z
 rw [own_take_succ hi]; exact z
theorem own_lb_all {cs : List Int32} {vs : List Value} {n i : Nat} (hn : cs.length = n) (hi : i = n) (h : OwnLB (cs.take i) vs) : OwnLB cs vs := by
 subst hn; subst hi; rw [List.take_length] at h; exact h
theorem own_ub_all {cs : List Int32} {vs : List Value} {n i : Nat} (hn : cs.length = n) (hi : i = n) (h : OwnUB (cs.take i) vs) : OwnUB cs vs := by
 subst hn; subst hi; rw [List.take_length] at h; exact h
theorem own_lt_big {n : Nat} (h : n ≤ 4000) : Int32.ofNat n < (1073741823 : Int32) := by
 have e : (1073741823 : Int32).toInt = 1073741823 := rfl
 rw [Int32.lt_iff_toInt_lt, (own_nat h).1, e]; omega
theorem own_put_it {cs : List Int32} {vs : List Value} {n i : Nat} (hn : cs.length = n) (hv : vs.length = 2 * n) (h3 : n ≤ 2000) (hi : i < n) : OwnPut (Int32.ofNat (2 * n)) vs (Int32.ofNat i) (2 * i) := by
 have e := own_take_len (cs := cs) (i := i) (by omega)
 have z := own_ub_put (cs := cs.take i) hv (by omega) (by rw [e]; omega)
 rw [e] at z; exact z
theorem own_str_ub {cs : List Int32} {vs : List Value} {n : Nat} (hn : cs.length = n) (h3 : n ≤ 300) (hr : OwnRg cs) (h : OwnUB cs vs) (hv : vs.length = 2 * n) (hex : ∃ c ∈ cs, (255 : Int32) < c) : OwnStr cs 1 (Int32.ofNat (2 * n)) vs := by
 subst hn
 exact ⟨Or.inr ⟨rfl, rfl, own_ub_wide h hv, hex⟩, hr, by omega⟩
theorem own_str_lb {cs : List Int32} {vs : List Value} {n : Nat} (hn : cs.length = n) (h3 : n ≤ 300) (hr : OwnRg cs) (h : OwnLB cs vs) (hv : vs.length = n) (hall : ∀ c ∈ cs, ¬ (255 : Int32) < c) : OwnStr cs 0 (Int32.ofNat n) vs := by
 subst hn
 refine ⟨Or.inl ⟨rfl, rfl, ?_, hall⟩, hr, by omega⟩
 rw [← own_lb_map h, ← hv, List.take_length]
theorem own_cap {k : Nat} (h : k < 240) : ¬ ((0 : Int32) < ((Int32.ofNat k + (1 : Int32)) - (240 : Int32))) := by
 have e240 : (240 : Int32).toInt = 240 := rfl
 have e0 : (0 : Int32).toInt = 0 := rfl
 rw [own_add1, Int32.lt_iff_toInt_lt, Int32.toInt_sub, (own_nat (n := k + 1) (by omega)).1, e240, e0, Int.bmod_eq_of_le (by omega) (by omega)]; omega
theorem own_cap2 {k : Nat} (h : k ≤ 240) : ¬ ((0 : Int32) < (Int32.ofNat k - (240 : Int32))) := by
 have e240 : (240 : Int32).toInt = 240 := rfl
 have e0 : (0 : Int32).toInt = 0 := rfl
 rw [Int32.lt_iff_toInt_lt, Int32.toInt_sub, (own_nat (n := k) (by omega)).1, e240, e0, Int.bmod_eq_of_le (by omega) (by omega)]; omega
theorem own_len1 (acc : List Int32) (c : Int32) : Int32.ofNat acc.length + (1 : Int32) = Int32.ofNat (acc ++ [c]).length := by rw [own_add1]; simp
theorem own_i480 {k : Nat} (h : k < 240) : Int32.ofNat k < ((480 : Int32) >>> ((1 : Int32) &&& 31)) := by
 have e : ((480 : Int32) >>> ((1 : Int32) &&& 31)) = Int32.ofNat 240 := by decide
 rw [e]; exact (own_ltN (by omega) (by omega)).mpr h
theorem own_or240 {k : Nat} (h : k ≤ 240) : ¬ (((240 : Int32) ||| Int32.ofNat k) < (0 : Int32)) := own_or_nn (by decide) (own_nat (by omega)).2.1
theorem own_le240 {k : Nat} (h : k ≤ 240) : ¬ ((240 : Int32) < Int32.ofNat k) := fun q => absurd ((own_ltN (a := 240) (by omega) (by omega)).mp q) (by omega)
theorem own_lb_take {acc : List Int32} {vs : List Value} {i : Nat} (h : OwnLB acc vs) : OwnLB (acc.take i) vs := by
 refine ⟨by have := h.1; rw [List.length_take]; omega, fun j hj => ?_⟩
 rw [List.length_take] at hj
 have e : (acc.take i).getD j 0 = acc.getD j 0 := by simp only [List.getD_eq_getElem?_getD, List.getElem?_take, if_pos (show j < i by omega)]
 rw [e]; exact h.2 j (by omega)
theorem own_ub_take {acc : List Int32} {vs : List Value} {i : Nat} (h : OwnUB acc vs) : OwnUB (acc.take i) vs := by
 refine ⟨by have := h.1; rw [List.length_take]; omega, fun j hj => ?_⟩
 rw [List.length_take] at hj
 have e : (acc.take i).getD j 0 = acc.getD j 0 := by simp only [List.getD_eq_getElem?_getD, List.getElem?_take, if_pos (show j < i by omega)]
 rw [e]; exact h.2 j (by omega)
theorem own_lb_at {acc : List Int32} {vs : List Value} {j N : Nat} (h : OwnLB acc vs) (hv : vs.length = N) (hN : N ≤ 4000) (hj : j < acc.length) : (¬ Int32.ofNat j < 0 ∧ Int32.ofNat j < Int32.ofNat N) ∧ vs.getD (Int32.ofNat j).toNatClampNeg (.int 0) = .int (StrChars.lo8 (acc.getD j 0)) := by
 have hl := h.1
 have a := own_nat (n := j) (by omega)
 exact ⟨⟨a.2.1, (own_ltN (by omega) hN).mpr (by omega)⟩, by rw [a.2.2]; exact (h.2 j hj).1⟩
theorem own_lb_mask {acc : List Int32} {vs : List Value} {j : Nat} (hr : OwnRg acc) (h : OwnLB acc vs) (hj : j < acc.length) : (StrChars.lo8 (acc.getD j 0) &&& (255 : Int32)) = acc.getD j 0 := StrChars.lo8_mask (own_rg_at hr j).1 (h.2 j hj).2
theorem own_rg_app {acc : List Int32} {c : Int32} (h : OwnRg acc) (hc : ¬ c < 0 ∧ ¬ (65535 : Int32) < c) : OwnRg (acc ++ [c]) := fun x hx => by
 rcases List.mem_append.mp hx with q | q
 ·
  exact h x q
 ·
  rw [List.mem_singleton.mp q]; exact hc
theorem own_rg_take {acc : List Int32} {i : Nat} (h : OwnRg acc) : OwnRg (acc.take i) := fun x hx => h x (List.mem_of_mem_take hx)
def ownPred (it : Nat) : Int32 := Int32.ofNat it - (1 : Int32)
theorem own_pred_succ (k : Nat) : ownPred (k + 1) = Int32.ofNat k := by
 unfold ownPred
 rw [← own_add1]
 simp
theorem own_pred_dec (k : Nat) : Int32.ofNat k + (-1 : Int32) = ownPred k := by
 unfold ownPred
 rw [Int32.sub_eq_add_neg]
theorem own_pred_neg {it : Nat} (h : it ≤ 4000) : ownPred it < (0 : Int32) ↔ it = 0 := by
 cases it with
 | zero => exact ⟨fun _ => rfl, fun _ => by decide⟩
 | succ k => rw [own_pred_succ]; exact ⟨fun q => absurd q (own_nat (by omega)).2.1, fun q => by omega⟩
def OwnLst (acc : List Int32) (r : Int32) : Prop := (r = (-1 : Int32) ∧ ∀ t, t < 240 → acc.getD t 0 ≠ 32) ∨ ∃ k, r = Int32.ofNat k ∧ k < 240 ∧ acc.getD k 0 = 32 ∧ ∀ t, k < t → t < 240 → acc.getD t 0 ≠ 32
def OwnLstAt (acc : List Int32) (it : Nat) : Prop := ∀ t, it ≤ t → t < 240 → acc.getD t 0 ≠ 32
theorem own_lst_dec {acc : List Int32} {k : Nat} (h : OwnLstAt acc (k + 1)) (hk : acc.getD k 0 ≠ 32) : OwnLstAt acc k := fun t h1 h2 => by
 rcases Nat.lt_or_ge k t with q | q
 ·
  exact h t q h2
 ·
  obtain rfl : t = k := by omega
  exact hk
theorem own_take_range {vs : List Value} {n : Nat} (h : n ≤ vs.length) (h4 : n ≤ 4000) {M : Nat} (hM : vs.length = M) (hM4 : M ≤ 4000) :
  ¬ (0 : Int32) < 0 ∧ ¬ Int32.ofNat n < 0 ∧ (0 : Int32).toNatClampNeg + (Int32.ofNat n).toNatClampNeg ≤ (Int32.ofNat M).toNatClampNeg ∧ (0 : Int32).toNatClampNeg + (Int32.ofNat n).toNatClampNeg ≤ (Int32.ofNat n).toNatClampNeg ∧ (vs.take n = (List.range (Int32.ofNat n).toNatClampNeg).map fun i => vs.getD ((0 : Int32).toNatClampNeg + i) (.int 0)) ∧ (0 : Int32).toNatClampNeg + (Int32.ofNat n).toNatClampNeg ≤ (List.replicate n (Value.int (0 : Int32))).length ∧
  (List.replicate n (Value.int (0 : Int32))).take (0 : Int32).toNatClampNeg ++ vs.take n ++ (List.replicate n (Value.int (0 : Int32))).drop ((0 : Int32).toNatClampNeg + (Int32.ofNat n).toNatClampNeg) = vs.take n := by
 have e0 : (0 : Int32).toNatClampNeg = 0 := rfl
 rw [e0, (own_nat h4).2.2, (own_nat hM4).2.2]
 refine ⟨by decide, (own_nat h4).2.1, by omega, by omega, ?_, by simp, by simp⟩
 apply List.ext_getElem?
 intro i
 by_cases hi : i < n
 ·
  have h2 : i < vs.length := by omega
  simp [List.getElem?_take, hi, List.getD_eq_getElem?_getD, h2]
 ·
  simp [List.getElem?_take, hi]
theorem own_ub_str {acc : List Int32} {vs : List Value} (hr : OwnRg acc) (h : OwnUB acc vs) (hl : acc.length ≤ 240) (hex : ∃ c ∈ acc, (255 : Int32) < c) : OwnStr acc 1 (Int32.ofNat (2 * acc.length)) (vs.take (2 * acc.length)) := by
 have e : (vs.take (2 * acc.length)).length = 2 * acc.length := by rw [List.length_take]; have := h.1; omega
 refine ⟨Or.inr ⟨rfl, rfl, own_ub_wide ⟨by omega, fun j hj => ?_⟩ e, hex⟩, hr, by omega⟩
 have a := h.2 j hj
 have t : ∀ q, q < 2 * acc.length → (vs.take (2 * acc.length)).getD q (.int 0) = vs.getD q (.int 0) := fun q hq => by
  simp only [List.getD_eq_getElem?_getD, List.getElem?_take, if_pos hq]
 rw [t _ (by omega), t _ (by omega)]; exact a
theorem own_lb_str {acc : List Int32} {vs : List Value} (hr : OwnRg acc) (h : OwnLB acc vs) (hl : acc.length ≤ 240) : OwnStr acc 0 (Int32.ofNat acc.length) (vs.take acc.length) := by
 refine ⟨Or.inl ⟨rfl, rfl, own_lb_map h, fun c hc => ?_⟩, hr, by omega⟩
 obtain ⟨j, hj, rfl⟩ := List.getElem_of_mem hc
 have := (h.2 j hj).2
 simpa [List.getD_eq_getElem?_getD, hj] using this
theorem own_ub_nil {acc : List Int32} {vs : List Value} (_h : 0 ≤ vs.length) : OwnUB (acc.take 0) vs := ⟨by simp, fun j h => by simp at h⟩
theorem own_put_at {vs : List Value} {i : Nat} (hv : vs.length = 480) (hi : i < 240) : OwnPut (480 : Int32) vs (Int32.ofNat i) (2 * i) := by
 have z := own_ub_put (cs := List.replicate i 0) (N := 480) hv (by decide) (by rw [List.length_replicate]; omega)
 rw [List.length_replicate] at z; exact z
theorem own_sub_irr (x : Int32) : ¬ ((x - (0 : Int32)) < x) := by rw [show x - (0 : Int32) = x by simp, Int32.lt_iff_toInt_lt]; omega
theorem own_sub_back (x : Int32) : (((x - (1 : Int32)) - (0 : Int32)) + (1 : Int32)) = x := by simp
theorem own_sub00 (x : Int32) : x - (0 : Int32) = x := by simp
theorem own_zadd (x : Int32) : (0 : Int32) + x = x := by simp
theorem own_min_eq {a b : Nat} (ha : a ≤ 4000) (h : b ≤ a) (q : ¬ Int32.ofNat b < Int32.ofNat a) : Int32.ofNat a = Int32.ofNat b := by
 have : ¬ b < a := fun z => q ((own_ltN (by omega) ha).mpr z)
 obtain rfl : a = b := by omega
 rfl
theorem own_take_all {vs : List Value} {n N : Nat} (h : n = N) (hv : vs.length = N) : vs.take n = vs := by rw [h, ← hv, List.take_length]
def ownI (b : Bool) : Int32 := if b = true then 1 else 0
theorem own_i0 (b : Bool) : ownI b = (0 : Int32) ↔ b = false := by cases b <;> simp [ownI]
theorem own_i1 (b : Bool) : ¬ (ownI b = (0 : Int32)) ↔ b = true := by cases b <;> simp [ownI]
theorem own_ws0 {c : Int32} (h1 : ¬ c = (32 : Int32)) (h2 : ¬ c = (9 : Int32)) (h3 : ¬ c = (10 : Int32)) (h4 : ¬ c = (11 : Int32)) (h5 : ¬ c = (12 : Int32)) (h6 : ¬ c = (13 : Int32)) : (0 : Int32) = ownI (ownWs c) := by simp [ownI, ownWs, h1, h2, h3, h4, h5, h6]
theorem own_lt_lit {c k : Int32} {n : Int} (hk : k.toInt = n) : c < k ↔ c.toInt < n := by rw [Int32.lt_iff_toInt_lt, hk]
theorem own_low1 {c : Int32} (h1 : ¬ c < (56320 : Int32)) (h2 : c < (57344 : Int32)) : (1 : Int32) = ownI (ownLow c) := by
 rw [own_lt_lit (n := 56320) rfl] at h1; rw [own_lt_lit (n := 57344) rfl] at h2
 simp only [ownI, ownLow, Bool.and_eq_true, decide_eq_true_eq]; rw [if_pos ⟨by omega, by omega⟩]
theorem own_low0a {c : Int32} (h1 : c < (56320 : Int32)) : (0 : Int32) = ownI (ownLow c) := by
 rw [own_lt_lit (n := 56320) rfl] at h1
 simp only [ownI, ownLow, Bool.and_eq_true, decide_eq_true_eq]; rw [if_neg (by omega)]
theorem own_low0b {c : Int32} (h2 : ¬ c < (57344 : Int32)) : (0 : Int32) = ownI (ownLow c) := by
 rw [own_lt_lit (n := 57344) rfl] at h2
 simp only [ownI, ownLow, Bool.and_eq_true, decide_eq_true_eq]; rw [if_neg (by omega)]
theorem own_high1 {c : Int32} (h1 : ¬ c < (55296 : Int32)) (h2 : c < (56320 : Int32)) : (1 : Int32) = ownI (ownHigh c) := by
 rw [own_lt_lit (n := 55296) rfl] at h1; rw [own_lt_lit (n := 56320) rfl] at h2
 simp only [ownI, ownHigh, Bool.and_eq_true, decide_eq_true_eq]; rw [if_pos ⟨by omega, by omega⟩]
theorem own_high0a {c : Int32} (h1 : c < (55296 : Int32)) : (0 : Int32) = ownI (ownHigh c) := by
 rw [own_lt_lit (n := 55296) rfl] at h1
 simp only [ownI, ownHigh, Bool.and_eq_true, decide_eq_true_eq]; rw [if_neg (by omega)]
theorem own_high0b {c : Int32} (h2 : ¬ c < (56320 : Int32)) : (0 : Int32) = ownI (ownHigh c) := by
 rw [own_lt_lit (n := 56320) rfl] at h2
 simp only [ownI, ownHigh, Bool.and_eq_true, decide_eq_true_eq]; rw [if_neg (by omega)]
def OwnSkip (cs : List Int32) (i r : Nat) : Prop := i ≤ r ∧ r ≤ cs.length ∧ (∀ t, i ≤ t → t < r → ownW cs t = true) ∧ (r < cs.length → ownW cs r = false)
theorem own_skip_end {cs : List Int32} {i it : Nat} (h1 : i ≤ it) (h2 : it = cs.length) (h3 : ∀ t, i ≤ t → t < it → ownW cs t = true) : OwnSkip cs i it := ⟨h1, by omega, h3, fun q => absurd q (by omega)⟩
theorem own_skip_no {cs : List Int32} {i it : Nat} (h1 : i ≤ it) (h2 : it < cs.length) (h3 : ∀ t, i ≤ t → t < it → ownW cs t = true) (h4 : ownW cs it = false) : OwnSkip cs i it := ⟨h1, by omega, h3, fun _ => h4⟩
theorem own_run_next {cs : List Int32} {i it : Nat} {b : Bool} (h : ∀ t, i ≤ t → t < it → ownW cs t = b) (hw : ownW cs it = b) : ∀ t, i ≤ t → t < it + 1 → ownW cs t = b := fun t h1 h2 => by
 rcases Nat.lt_or_ge t it with q | q
 ·
  exact h t h1 q
 ·
  obtain rfl : t = it := by omega
  exact hw
theorem own_start_hit {cs : List Int32} {pl it : Nat} (hp : 60 < pl) (hlo : pl - 61 ≤ it) (hlt : it < pl) (hinv : ∀ t, pl - 61 ≤ t → t < it → ownW cs t = false) (hw : ownW cs it = true) : OwnStart cs pl (it + 1) := Or.inr ⟨hp, Or.inl ⟨it, hlo, hlt, hw, hinv, rfl⟩⟩
theorem own_start_low {cs : List Int32} {pl it : Nat} (hp : 60 < pl) (hge : it = pl) (hinv : ∀ t, pl - 61 ≤ t → t < it → ownW cs t = false) (hw : ownLow (ownAt cs (pl - 60)) = true) : OwnStart cs pl (pl - 60 + 1) := Or.inr ⟨hp, Or.inr ⟨hge ▸ hinv, by rw [hw]; rfl⟩⟩
theorem own_start_nlow {cs : List Int32} {pl it : Nat} (hp : 60 < pl) (hge : it = pl) (hinv : ∀ t, pl - 61 ≤ t → t < it → ownW cs t = false) (hw : ownLow (ownAt cs (pl - 60)) = false) : OwnStart cs pl (pl - 60) := Or.inr ⟨hp, Or.inr ⟨hge ▸ hinv, by rw [hw]; rfl⟩⟩
theorem own_max_neg {pa : Int32} {pl : Nat} (h4 : pl ≤ 4000) (h : (pa = (-1 : Int32) ∧ pl = 0) ∨ pa = Int32.ofNat pl) (q : pa < (0 : Int32)) : (0 : Int32) = Int32.ofNat pl := by
 rcases h with ⟨-, rfl⟩ | rfl
 ·
  rfl
 ·
  exact absurd q (own_nat h4).2.1
theorem own_max_pos {pa : Int32} {pl : Nat} (h : (pa = (-1 : Int32) ∧ pl = 0) ∨ pa = Int32.ofNat pl) (q : ¬ pa < (0 : Int32)) : pa = Int32.ofNat pl := by
 rcases h with ⟨rfl, -⟩ | h
 ·
  exact absurd (by decide) q
 ·
  exact h
theorem own_mark0 {s : Nat} (h4 : s ≤ 4000) (h : ¬ (0 : Int32) < Int32.ofNat s) : ownMark s = 0 := by
 have : ¬ 0 < s := fun z => h ((own_ltN (a := 0) (by omega) h4).mpr z)
 simp [ownMark, this]
theorem own_mark1 {s : Nat} (h4 : s ≤ 4000) (h : (0 : Int32) < Int32.ofNat s) : ownMark s = 1 := by
 have : 0 < s := (own_ltN (a := 0) (by omega) h4).mp h
 simp [ownMark, this]
theorem own_lst_pos {acc : List Int32} {r half : Int32} (hh : ¬ half < (0 : Int32)) (h : OwnLst acc r) (q : half < r) : ∃ k, r = Int32.ofNat k ∧ k < 240 ∧ acc.getD k 0 = 32 ∧ ∀ t, k < t → t < 240 → acc.getD t 0 ≠ 32 := by
 rcases h with ⟨rfl, -⟩ | h
 ·
  exfalso
  rw [Int32.lt_iff_toInt_lt] at q hh
  have e0 : (0 : Int32).toInt = 0 := rfl
  have e1 : (-1 : Int32).toInt = -1 := rfl
  omega
 ·
  exact h
theorem own_cut_sp {acc : List Int32} {mk q : Nat} (h1 : mk + (239 - mk) / 2 < q) (h2 : q < 240) (h3 : acc.getD q 0 = 32) (h4 : ∀ t, q < t → t < 240 → acc.getD t 0 ≠ 32) : OwnCut mk acc q := Or.inl ⟨q, h1, h2, h3, h4, rfl⟩
theorem own_cut_no {acc : List Int32} {mk hf : Nat} {r : Int32} (hm : mk + (239 - mk) / 2 = hf) (h4 : hf ≤ 4000) (h : OwnLst acc r) (q : ¬ Int32.ofNat hf < r) : ∀ t, mk + (239 - mk) / 2 < t → t < 240 → acc.getD t 0 ≠ 32 := fun t t1 t2 => by
 rcases h with ⟨-, h⟩ | ⟨k, rfl, k1, k2, k3⟩
 ·
  exact h t t2
 ·
  have : ¬ hf < k := fun z => q ((own_ltN h4 (by omega)).mpr z)
  exact k3 t (by omega) t2
theorem own_cut_hi {acc : List Int32} {mk : Nat} (h : ∀ t, mk + (239 - mk) / 2 < t → t < 240 → acc.getD t 0 ≠ 32) (hh : ownHigh (acc.getD 238 0) = true) : OwnCut mk acc 238 := Or.inr ⟨h, by rw [hh]; rfl⟩
theorem own_cut_lo {acc : List Int32} {mk : Nat} (h : ∀ t, mk + (239 - mk) / 2 < t → t < 240 → acc.getD t 0 ≠ 32) (hh : ownHigh (acc.getD 238 0) = false) : OwnCut mk acc 239 := Or.inr ⟨h, by rw [hh]; rfl⟩
theorem own_take_len240 {acc : List Int32} {lm : Nat} (hq : acc.length = 240) (h : lm < 240) : (acc.take lm).length = lm := by rw [List.length_take]; omega
theorem own_ex_app {acc : List Int32} {c : Int32} (h : (255 : Int32) < c) : ∃ x ∈ acc ++ [c], (255 : Int32) < x := ⟨c, List.mem_append.mpr (Or.inr (List.mem_singleton.mpr rfl)), h⟩
theorem own_ex_more {acc : List Int32} {c : Int32} (h : ∃ x ∈ acc, (255 : Int32) < x) : ∃ x ∈ acc ++ [c], (255 : Int32) < x := let ⟨x, h1, h2⟩ := h; ⟨x, List.mem_append.mpr (Or.inl h1), h2⟩
theorem own_half {hf q : Nat} (h1 : hf ≤ 4000) (h2 : q ≤ 4000) (h : Int32.ofNat hf < Int32.ofNat q) : hf < q := (own_ltN h1 h2).mp h
theorem own_skip_lt {cs : List Int32} {i r : Nat} (h : OwnSkip cs i r) (hw : ownWs (ownAt cs i) = true) : i < r := by
 obtain ⟨h1, h2, h3, h4⟩ := h
 rcases Nat.lt_or_ge i r with q | q
 ·
  exact q
 ·
  obtain rfl : i = r := by omega
  rcases Nat.lt_or_ge i cs.length with z | z
  ·
   have e := h4 z
   have e2 : ownW cs i = true := hw
   rw [e2] at e; cases e
  ·
   have e : ownAt cs i = 0 := by simp [ownAt, List.getD_eq_getElem?_getD, List.getElem?_eq_none z]
   rw [e] at hw; exact absurd hw (by decide)
theorem own_big {n : Nat} (h : n < 2147483648) : (Int32.ofNat n).toInt = (n : Int) := Int32.toInt_ofNat_of_lt (by omega)
theorem own_modN {a b : Nat} (ha : a < 2147483648) (hb : b < 2147483648) (h0 : 0 < b) : Int32.ofNat a % Int32.ofNat b = Int32.ofNat (a % b) := by
 apply Int32.toInt_inj.mp
 have h1 : a % b < 2147483648 := Nat.lt_of_le_of_lt (Nat.mod_le _ _) ha
 rw [Int32.toInt_mod, own_big ha, own_big hb, own_big h1]
 rw [Int.tmod_eq_emod_of_nonneg (by omega)]
 exact (Int.natCast_emod a b).symm
theorem own_of_nn {x : Int32} (h : x.toUInt32.toNat < 2147483648) : x = Int32.ofNat x.toUInt32.toNat := by
 apply Int32.toBitVec_inj.mp
 apply BitVec.eq_of_toNat_eq
 show x.toBitVec.toNat = (BitVec.ofNat 32 x.toBitVec.toNat).toNat
 rw [BitVec.toNat_ofNat]
 have := x.toBitVec.isLt
 omega
theorem own_shr_nat (x : Int32) {k : Nat} (hk : k < 32) (h0 : 0 < k) : ∃ a, a < 2147483648 ∧ ((x.toUInt32 >>> ((Int32.ofNat k) &&& 31).toUInt32).toInt32) = Int32.ofNat a := by
 have e1 : ((Int32.ofNat k) &&& 31).toUInt32.toNat = k := by
  have t : ∀ k : Fin 32, ((Int32.ofNat k.val) &&& 31).toUInt32.toNat = k.val := by decide
  exact t ⟨k, hk⟩
 have e2 : (x.toUInt32 >>> ((Int32.ofNat k) &&& 31).toUInt32).toNat = x.toUInt32.toNat >>> (k % 32) := by rw [UInt32.toNat_shiftRight, e1]
 have hlt : (x.toUInt32 >>> ((Int32.ofNat k) &&& 31).toUInt32).toNat < 2147483648 := by
  rw [e2, Nat.mod_eq_of_lt hk, Nat.shiftRight_eq_div_pow]
  have h1 := x.toUInt32.toNat_lt
  have h2 : 2 ^ 1 ≤ 2 ^ k := Nat.pow_le_pow_right (by decide) h0
  have h3 : x.toUInt32.toNat / 2 ^ k ≤ x.toUInt32.toNat / 2 ^ 1 := Nat.div_le_div_left h2 (by decide)
  omega
 refine ⟨_, hlt, ?_⟩
 have := own_of_nn (x := (x.toUInt32 >>> ((Int32.ofNat k) &&& 31).toUInt32).toInt32) (by simpa using hlt)
 simpa using this
theorem own_pos {x : Int32} {k nn : Nat} (hk : k < 32) (h0 : 0 < k) (hn : 0 < nn) (hn3 : nn ≤ 302) : ∃ P, P < nn ∧ (((x.toUInt32 >>> ((Int32.ofNat k) &&& 31).toUInt32).toInt32) % Int32.ofNat nn) = Int32.ofNat P := by
 obtain ⟨a, h1, h2⟩ := own_shr_nat x hk h0
 exact ⟨a % nn, Nat.mod_lt _ hn, by rw [h2, own_modN h1 (by omega) hn]⟩
theorem own_place {p : Int32} {nn : Nat} (hn3 : nn ≤ 300) : ∃ Q, Q < nn + 2 ∧ (((p &&& (2147483647 : Int32)) % (Int32.ofNat nn + (2 : Int32))) - (1 : Int32)) = ownPred Q := by
 have hlt : (p &&& (2147483647 : Int32)).toUInt32.toNat < 2147483648 := by
  have : (p &&& (2147483647 : Int32)).toBitVec.toNat ≤ 2147483647 := by
   rw [Int32.toBitVec_and, BitVec.toNat_and]
   exact Nat.and_le_right
  show (p &&& (2147483647 : Int32)).toBitVec.toNat < _
  omega
 refine ⟨(p &&& (2147483647 : Int32)).toUInt32.toNat % (nn + 2), Nat.mod_lt _ (by omega), ?_⟩
 have e : Int32.ofNat nn + (2 : Int32) = Int32.ofNat (nn + 2) := own_addN nn 2
 rw [e]
 conv => lhs; rw [own_of_nn hlt]
 rw [own_modN hlt (by omega) (by omega)]
 rfl
theorem own_pa {Q : Nat} : (ownPred Q = (-1 : Int32) ∧ Q - 1 = 0) ∨ ownPred Q = Int32.ofNat (Q - 1) := by
 cases Q with
 | zero => exact Or.inl ⟨by decide, rfl⟩
 | succ k => exact Or.inr (by rw [own_pred_succ]; rfl)
def ownBody (nn P0 P1 P2 : Nat) (c0 c1 c2 : Int32) : List Int32 := (((List.replicate nn (0 : Int32)).set P0 c0).set P1 c1).set P2 c2
theorem own_gd_set32 {vs : List Int32} {i j : Nat} {v d : Int32} : (vs.set i v).getD j d = if i = j ∧ i < vs.length then v else vs.getD j d := by
 simp only [List.getD_eq_getElem?_getD, List.getElem?_set]
 by_cases h : i = j
 ·
  subst h
  by_cases hl : i < vs.length
  ·
   simp [hl]
  ·
   simp [hl]
 ·
  simp [h]
theorem own_body {nn P0 P1 P2 : Nat} {c0 c1 c2 : Int32} (h0 : P0 < nn) (h1 : P1 < nn) (h2 : P2 < nn) : OwnBody (ownBody nn P0 P1 P2 c0 c1 c2) nn P0 P1 P2 c0 c1 c2 := by
 refine ⟨by simp [ownBody], h0, h1, h2, fun j => ?_⟩
 unfold ownAt ownBody
 rw [own_gd_set32, own_gd_set32, own_gd_set32]
 have e : (List.replicate nn (0 : Int32)).getD j 0 = 0 := by
  simp only [List.getD_eq_getElem?_getD, List.getElem?_replicate]
  split <;> rfl
 simp only [List.length_set, List.length_replicate, h0, h1, h2, and_true, e]
 by_cases q2 : P2 = j
 ·
  simp [q2]
 ·
  rw [if_neg q2, if_neg (Ne.symm q2)]
  by_cases q1 : P1 = j
  ·
   simp [q1]
  ·
   rw [if_neg q1, if_neg (Ne.symm q1)]
   by_cases q0 : P0 = j
   ·
    simp [q0]
   ·
    rw [if_neg q0, if_neg (Ne.symm q0)]
theorem own_body_rg {nn P0 P1 P2 : Nat} {c0 c1 c2 : Int32} (h0 : ¬ c0 < 0 ∧ ¬ (65535 : Int32) < c0) (h1 : ¬ c1 < 0 ∧ ¬ (65535 : Int32) < c1) (h2 : ¬ c2 < 0 ∧ ¬ (65535 : Int32) < c2) : OwnRg (ownBody nn P0 P1 P2 c0 c1 c2) := fun x hx => by
 unfold ownBody at hx
 rcases List.mem_or_eq_of_mem_set hx with hx | rfl
 ·
  rcases List.mem_or_eq_of_mem_set hx with hx | rfl
  ·
   rcases List.mem_or_eq_of_mem_set hx with hx | rfl
   ·
    rw [(List.mem_replicate.mp hx).2]; decide
   ·
    exact h0
  ·
   exact h1
 ·
  exact h2
def ownEar (A : Nat) (w : Bool) (P lo hi : Nat) : Nat := if w = true ∧ lo ≤ P ∧ P ≤ hi then (if A = 0 ∨ P + 1 < A then P + 1 else A) else A
theorem own_first {W : Nat → Bool} {P0 P1 P2 lo hi : Nat} {w0 w1 w2 : Bool} (hW : ∀ t, W t = ownWsAt P0 P1 P2 w0 w1 w2 t) {A : Nat} (hA : A = ownEar (ownEar (ownEar 0 w0 P0 lo hi) w1 P1 lo hi) w2 P2 lo hi) :
  (A = 0 ∧ ∀ t, lo ≤ t → t ≤ hi → W t = false) ∨ (0 < A ∧ lo ≤ A - 1 ∧ A - 1 ≤ hi ∧ W (A - 1) = true ∧ ∀ t, lo ≤ t → t < A - 1 → W t = false) := by
 have key : ∀ (t : Nat), W t = true ↔ ((w0 = true ∧ t = P0) ∨ (w1 = true ∧ t = P1) ∨ (w2 = true ∧ t = P2)) := fun t => by
  rw [hW]; simp [ownWsAt, or_assoc]
 have fls : ∀ t, W t = false ↔ ¬ W t = true := fun t => by cases W t <;> simp
 have inv : ∀ (A0 : Nat) (w : Bool) (P : Nat) (S : Nat → Prop), ((A0 = 0 ∧ ∀ t, lo ≤ t → t ≤ hi → ¬ S t) ∨ (0 < A0 ∧ lo ≤ A0 - 1 ∧ A0 - 1 ≤ hi ∧ S (A0 - 1) ∧ ∀ t, lo ≤ t → t < A0 - 1 → ¬ S t)) →
   ((ownEar A0 w P lo hi = 0 ∧ ∀ t, lo ≤ t → t ≤ hi → ¬ (S t ∨ (w = true ∧ t = P))) ∨ (0 < ownEar A0 w P lo hi ∧ lo ≤ ownEar A0 w P lo hi - 1 ∧ ownEar A0 w P lo hi - 1 ≤ hi ∧ (S (ownEar A0 w P lo hi - 1) ∨ (w = true ∧ ownEar A0 w P lo hi - 1 = P)) ∧ ∀ t, lo ≤ t → t < ownEar A0 w P lo hi - 1 → ¬ (S t ∨ (w = true ∧ t = P)))) := by
  intro A0 w P S h
  unfold ownEar
  by_cases c : w = true ∧ lo ≤ P ∧ P ≤ hi
  ·
   rw [if_pos c]
   obtain ⟨c1, c2, c3⟩ := c
   by_cases d : A0 = 0 ∨ P + 1 < A0
   ·
    rw [if_pos d]
    refine Or.inr ⟨by omega, by omega, by omega, Or.inr ⟨c1, by omega⟩, fun t t1 t2 => ?_⟩
    rintro (q | ⟨-, q⟩)
    ·
     rcases h with ⟨h1, h2⟩ | ⟨h1, h2, h3, h4, h5⟩
     ·
      exact h2 t t1 (by omega) q
     ·
      exact h5 t t1 (by omega) q
    ·
     omega
   ·
    rw [if_neg d]
    rcases h with ⟨h1, h2⟩ | ⟨h1, h2, h3, h4, h5⟩
    ·
     omega
    ·
     refine Or.inr ⟨h1, h2, h3, Or.inl h4, fun t t1 t2 => ?_⟩
     rintro (q | ⟨-, q⟩)
     ·
      exact h5 t t1 t2 q
     ·
      omega
  ·
   rw [if_neg c]
   rcases h with ⟨h1, h2⟩ | ⟨h1, h2, h3, h4, h5⟩
   ·
    refine Or.inl ⟨h1, fun t t1 t2 => ?_⟩
    rintro (q | ⟨q1, q2⟩)
    ·
     exact h2 t t1 t2 q
    ·
     exact c ⟨q1, by omega, by omega⟩
   ·
    refine Or.inr ⟨h1, h2, h3, Or.inl h4, fun t t1 t2 => ?_⟩
    rintro (q | ⟨q1, q2⟩)
    ·
     exact h5 t t1 t2 q
    ·
     exact c ⟨q1, by omega, by omega⟩
 have s0 := inv 0 w0 P0 (fun _ => False) (Or.inl ⟨rfl, fun _ _ _ h => h⟩)
 have s1 := inv _ w1 P1 _ s0
 have s2 := inv _ w2 P2 _ s1
 rw [← hA] at s2
 have tr : ∀ t, (((False ∨ (w0 = true ∧ t = P0)) ∨ (w1 = true ∧ t = P1)) ∨ (w2 = true ∧ t = P2)) ↔ W t = true := fun t => by rw [key]; simp [or_assoc]
 rcases s2 with ⟨h1, h2⟩ | ⟨h1, h2, h3, h4, h5⟩
 ·
  exact Or.inl ⟨h1, fun t t1 t2 => (fls t).mpr fun q => h2 t t1 t2 ((tr t).mpr q)⟩
 ·
  exact Or.inr ⟨h1, h2, h3, (tr _).mp h4, fun t t1 t2 => (fls t).mpr fun q => h5 t t1 t2 ((tr t).mpr q)⟩
theorem own_dec1 (F : Nat) : Int32.ofNat (F + 1) + (-1 : Int32) = Int32.ofNat F := by rw [own_pred_dec, own_pred_succ]
theorem own_start_hit2 {cs : List Int32} {pl A : Nat} (hp : 60 < pl) (h0 : 0 < A) (h1 : pl - 61 ≤ A - 1) (h2 : A - 1 ≤ pl - 1) (h3 : ownW cs (A - 1) = true) (h4 : ∀ t, pl - 61 ≤ t → t < A - 1 → ownW cs t = false) : OwnStart cs pl A := Or.inr ⟨hp, Or.inl ⟨A - 1, h1, by omega, h3, h4, by omega⟩⟩
theorem own_start_none {cs : List Int32} {pl : Nat} (hp : 60 < pl) (h : ∀ t, pl - 61 ≤ t → t ≤ pl - 1 → ownW cs t = false) : OwnStart cs pl (pl - 60 + ownN (ownLow (ownAt cs (pl - 60)))) := Or.inr ⟨hp, Or.inr ⟨fun t h1 h2 => h t h1 (by omega), rfl⟩⟩
theorem own_n1 : ownN true = 1 := rfl
theorem own_n0 : ownN false = 0 := rfl
theorem own_d1 {k F : Nat} (h : k = F + 1) : Int32.ofNat k + (-1 : Int32) = Int32.ofNat F := by rw [h]; exact own_dec1 F
theorem own_ks0 {w r : Bool} {s g P : Nat} (h : ¬ (w = true ∧ s ≤ P ∧ r = false ∧ g ≤ 239)) : (-1 : Int32) = ownPred (ownKs w r s g P) := by unfold ownKs; rw [if_neg h]; decide
theorem own_ks1 {w r : Bool} {s g P : Nat} (h1 : w = true) (h2 : s ≤ P) (h3 : r = false) (h4 : g ≤ 239) : Int32.ofNat g = ownPred (ownKs w r s g P) := by unfold ownKs; rw [if_pos ⟨h1, h2, h3, h4⟩, own_pred_succ]
theorem own_hi_t {c : Int32} (h1 : ¬ c < (55296 : Int32)) (h2 : ¬ (56319 : Int32) < c) : ownHigh c = true := by
 rw [own_lt_lit (n := 55296) rfl] at h1
 rw [Int32.lt_iff_toInt_lt, show (56319 : Int32).toInt = 56319 from rfl] at h2
 simp only [ownHigh, Bool.and_eq_true, decide_eq_true_eq]; omega
theorem own_hi_f1 {c : Int32} (h1 : c < (55296 : Int32)) : ownHigh c = false := by
 rw [own_lt_lit (n := 55296) rfl] at h1
 simp only [ownHigh, Bool.and_eq_false_iff, decide_eq_false_iff_not]; omega
theorem own_hi_f2 {c : Int32} (h2 : (56319 : Int32) < c) : ownHigh c = false := by
 rw [Int32.lt_iff_toInt_lt, show (56319 : Int32).toInt = 56319 from rfl] at h2
 simp only [ownHigh, Bool.and_eq_false_iff, decide_eq_false_iff_not]; omega
theorem own_lo_t {c : Int32} (h1 : ¬ c < (56320 : Int32)) (h2 : ¬ (57343 : Int32) < c) : ownLow c = true := by
 rw [own_lt_lit (n := 56320) rfl] at h1
 rw [Int32.lt_iff_toInt_lt, show (57343 : Int32).toInt = 57343 from rfl] at h2
 simp only [ownLow, Bool.and_eq_true, decide_eq_true_eq]; omega
theorem own_lo_f1 {c : Int32} (h1 : c < (56320 : Int32)) : ownLow c = false := by
 rw [own_lt_lit (n := 56320) rfl] at h1
 simp only [ownLow, Bool.and_eq_false_iff, decide_eq_false_iff_not]; omega
theorem own_lo_f2 {c : Int32} (h2 : (57343 : Int32) < c) : ownLow c = false := by
 rw [Int32.lt_iff_toInt_lt, show (57343 : Int32).toInt = 57343 from rfl] at h2
 simp only [ownLow, Bool.and_eq_false_iff, decide_eq_false_iff_not]; omega
def ownSel (P0 P1 P2 : Nat) (c0 c1 c2 : Int32) (i : Nat) : Int32 := if i = P2 then c2 else if i = P1 then c1 else if i = P0 then c0 else 0
theorem own_sel2 {P0 P1 P2 i : Nat} {c0 c1 c2 : Int32} (h : i = P2) : c2 = ownSel P0 P1 P2 c0 c1 c2 i := by simp [ownSel, h]
theorem own_sel1 {P0 P1 P2 i : Nat} {c0 c1 c2 : Int32} (h2 : ¬ i = P2) (h : i = P1) : c1 = ownSel P0 P1 P2 c0 c1 c2 i := by unfold ownSel; rw [if_neg h2, if_pos h]
theorem own_sel0 {P0 P1 P2 i : Nat} {c0 c1 c2 : Int32} (h2 : ¬ i = P2) (h1 : ¬ i = P1) (h : i = P0) : c0 = ownSel P0 P1 P2 c0 c1 c2 i := by unfold ownSel; rw [if_neg h2, if_neg h1, if_pos h]
theorem own_selz {P0 P1 P2 i : Nat} {c0 c1 c2 : Int32} (h2 : ¬ i = P2) (h1 : ¬ i = P1) (h : ¬ i = P0) : (0 : Int32) = ownSel P0 P1 P2 c0 c1 c2 i := by unfold ownSel; rw [if_neg h2, if_neg h1, if_neg h]
theorem own_sel_rg {P0 P1 P2 i : Nat} {c0 c1 c2 : Int32} (h0 : ¬ c0 < 0 ∧ ¬ (65535 : Int32) < c0) (h1 : ¬ c1 < 0 ∧ ¬ (65535 : Int32) < c1) (h2 : ¬ c2 < 0 ∧ ¬ (65535 : Int32) < c2) : ¬ ownSel P0 P1 P2 c0 c1 c2 i < 0 ∧ ¬ (65535 : Int32) < ownSel P0 P1 P2 c0 c1 c2 i := by
 unfold ownSel
 split
 ·
  exact h2
 ·
  split
  ·
   exact h1
  ·
   split
   ·
    exact h0
   ·
    decide
theorem own_ear_no {A P lo hi : Nat} {w : Bool} (h : ¬ (w = true ∧ lo ≤ P ∧ P ≤ hi)) : ownPred A = ownPred (ownEar A w P lo hi) := by unfold ownEar; rw [if_neg h]
theorem own_ear_new {A P lo hi : Nat} {w : Bool} (h1 : w = true) (h2 : lo ≤ P) (h3 : P ≤ hi) (d : A = 0 ∨ P + 1 < A) : Int32.ofNat P = ownPred (ownEar A w P lo hi) := by unfold ownEar; rw [if_pos ⟨h1, h2, h3⟩, if_pos d, own_pred_succ]
theorem own_ear_old {A P lo hi : Nat} {w : Bool} (h1 : w = true) (h2 : lo ≤ P) (h3 : P ≤ hi) (d : ¬ (A = 0 ∨ P + 1 < A)) : ownPred A = ownPred (ownEar A w P lo hi) := by unfold ownEar; rw [if_pos ⟨h1, h2, h3⟩, if_neg d]
theorem own_ear_le {A P lo hi : Nat} {w : Bool} (h : A ≤ 301) (hP : P ≤ 300) : ownEar A w P lo hi ≤ 301 := by unfold ownEar; split <;> (try split) <;> omega
theorem own_pred_big {Q : Nat} (h : Q ≤ 4000) {k : Nat} (hk : k ≤ 4000) : Int32.ofNat k < ownPred Q ↔ k + 1 < Q := by
 cases Q with
 | zero =>
  refine ⟨fun q => ?_, fun q => by omega⟩
  exfalso
  have e : (ownPred 0).toInt = -1 := by decide
  rw [Int32.lt_iff_toInt_lt, (own_nat hk).1, e] at q
  omega
 | succ j => rw [own_pred_succ, own_ltN hk (by omega)]; omega
theorem own_pred_lt {A B : Nat} (ha : A ≤ 4000) (hb : B ≤ 4000) : ownPred A < ownPred B ↔ A < B := by
 cases A with
 | zero =>
  cases B with
  | zero => rw [Int32.lt_iff_toInt_lt]; omega
  | succ k =>
   rw [own_pred_succ, Int32.lt_iff_toInt_lt, (own_nat (n := k) (by omega)).1, show (ownPred 0).toInt = -1 from by decide]; omega
 | succ j => rw [own_pred_succ, own_pred_big hb (by omega)]
theorem own_max_pr {A B : Nat} (ha : A ≤ 4000) (hb : B ≤ 4000) (h : ownPred A < ownPred B) : ownPred B = ownPred (max A B) := by rw [Nat.max_eq_right (Nat.le_of_lt ((own_pred_lt ha hb).mp h))]
theorem own_max_pl {A B : Nat} (ha : A ≤ 4000) (hb : B ≤ 4000) (h : ¬ ownPred A < ownPred B) : ownPred A = ownPred (max A B) := by rw [Nat.max_eq_left (Nat.le_of_not_lt fun z => h ((own_pred_lt ha hb).mpr z))]
theorem own_ks_le {w r : Bool} {s g P : Nat} : ownKs w r s g P ≤ 240 := by unfold ownKs; split <;> omega
theorem own_nar_i (b : Bool) : nar .boolean (ownI b) = ownI b := by cases b <;> decide
theorem own_cfl0 (x : Int32) : (nar .byte (((x - x).toUInt32 >>> ((31 : Int32) &&& 31).toUInt32).toInt32)) = (0 : Int32) := by rw [Int32.sub_self]; decide
theorem own_cfl {k : Nat} (h0 : 0 < k) (h : k ≤ 300) : (nar .byte (((Int32.ofNat k - Int32.ofNat (2 * k)).toUInt32 >>> ((31 : Int32) &&& 31).toUInt32).toInt32)) = (1 : Int32) := by
 have t : ∀ k : Fin 301, 0 < k.val → (nar .byte (((Int32.ofNat k.val - Int32.ofNat (2 * k.val)).toUInt32 >>> ((31 : Int32) &&& 31).toUInt32).toInt32)) = (1 : Int32) := by decide +kernel
 exact t ⟨k, by omega⟩ h0
theorem own_safe_len {Z : State} {a0 : Array Value} {vm : Vm} {h : Heap} {x : Addr} {k : ClassId} {n : Int32} {vs : List Value} {d : Value} (hZ : Z.Warmed39 vm) (w : (Jvm.Cond.stringLink "com/example/seekret/seekret/engine/index/Snippets" (59 : Nat) " ").before a0 Z = true) (A : Arv Z h x k .byte n vs d) (hn : n.toNatClampNeg ≠ 1) : Safe Z consts_1 vm h x := fun B => by
 have hal := hZ.alike
 obtain ⟨p, hp, u, a, hb, q, -, F, hx⟩ := B
 have hp' : p ∈ [("com/example/seekret/seekret/engine/index/Snippets", 59)] := hp
 cases List.mem_singleton.mp hp'
 obtain ⟨cl, Ar, -, S, -⟩ := A
 obtain ⟨c, k', cf, i, hc, hk', hcf', hpool, hu, -⟩ := hb
 have wl := mvS (s := { Z with heap := h }) (args := a0) hZ w
 obtain ⟨k0, cf0, i0, units0, hk0, hcf0, hp0, hu0, -, htext, -⟩ := Cond.stringLink_spec (s := Wst Z vm h) hc wl
 cases hk'.symm.trans hk0
 cases hcf'.symm.trans hcf0
 cases hpool.symm.trans hp0
 cases hu.symm.trans hu0
 rcases hx with rfl | rfl
 ·
  obtain ⟨-, ⟨-, kA, hkA, compA, hkindA⟩, -⟩ := id Ar
  obtain ⟨kA', hkA', ekA⟩ := hal.2.2 _ _ hkA
  cases (show h[q.sa]? = some q.sC from F.ha).symm.trans Ar.1
  obtain ⟨cS, ⟨-, -, e⟩, ⟨kS, g1, g2, -⟩, -⟩ := F
  subst e
  cases (show vm.classes[q.sC.cls]? = some kS from g1).symm.trans hkA'
  rw [ekA] at g2
  have z := hkindA.symm.trans g2
  cases z
 ·
  cases (show h[q.sd]? = some q.SA from F.hd).symm.trans Ar.1
  obtain ⟨cS, -, -, -, hs⟩ := F
  have ht : ∀ c ∈ (" " : String).toList, c.toNat < 256 := by decide
  have hl := Jvm.ClassFile.lat_of_text htext ht
  have hz : u.size = 1 := by
   have hl' : ∀ y ∈ u.toList, y < 256 := fun y hy => by
    rw [Array.all_eq_true_iff_forall_mem] at hl
    exact of_decide_eq_true (hl y (Array.mem_toList_iff.mp hy))
   have z := Jvm.ClassFile.app_eq u.toList "" " " hl' htext
   have z2 := congrArg List.length z
   have z3 : (" " : String).toList.length = 1 := by decide
   rw [z3] at z2
   simpa using z2.symm
  have e1 : q.SA.slots.size = 1 := by rw [hs, stringBytes, if_pos hl, Array.size_map, hz]
  exact hn (S.symm.trans e1)
def Q_isl1_0 (Z : State) (a1 : Addr) : OwnP := fun h0 n0 v h L => v = some (.int 1) ∧ Fr n0 L ∧ h = h0
theorem pn_52039224 : plainName "java/lang/String" = true := by first | (simp [plainName, overriddenIn]; done) | decide +kernel
def ll2 : List (Nat × Instr × Nat) := [(0, .getstatic 38, 3), (3, .ifCond .eq 14, 3), (6, .aload_n 0, 1), (7, .getfield 15, 3), (10, .ifCond .ne 7, 3), (13, .iconst 1, 1), (14, .goto 4, 3), (17, .iconst 0, 1), (18, .ireturn, 1)]
theorem dl2 : OwnDec jdk_42_method_154_code ll2 := by decide +kernel
theorem rm_isl1_0 (Gl : OwnGl Z a0 wG1 wG3) (X00 : Old Z n0 h0) (a1 : Addr) (f0 : Exa Z h0 a1 "java/lang/String") (f1 : Fld Z h0 a1 "java/lang/String" "coder" "B" (.int 0)) : OwnM l Z mN2 jdk_42_method_154_code 1 (some .boolean) (oR 0 0 0 0) #[(.ref a1)] h0 (Q_isl1_0 Z a1 h0 n0) := by
 refine own_in (plainFor_of_name pn_52039224) dl2 #[vR a1] (oE rfl) ?_
 intro p e s m below meth c s₁ Bd hml hZ X0 e0 hx hlk Y0 hown
 obtain ⟨hw, cx, hEL⟩ := id Gl
 have wT := oww hw
 obtain ⟨wO2, wP5, wO4, wrG3, hstr, wUA, wUH, wUL⟩ := id cx
 have N0 := Fr.nil n0
 refine oGS X0 Y0 hZ hown (wT 20 rfl) Via.refl e0 (wO2.ext X00.2) 0 rfl ?_
 intro T1 X1 Y1 e1
 refine oifn Y1 1 rfl ((if0 _ _).trans (feq wP5).1) <| oaN Y1 2 rfl rfl rfl ?_
 refine oGF X1 Y1 hZ hown (wT 32 rfl) Via.refl e1 f1 3 rfl ?_
 intro T2 X2 Y2 e2
 refine oifn Y2 4 rfl ((if0 _ _).trans (teq (by decide : (0 : Int32) = (0 : Int32))).2) <| oic 1 Y2 5 rfl rfl <| ogt 18 Y2 6 rfl rfl ?_
 exact orN X2 Y2 hlk Bd.returns (by simp) 8 rfl ((by decide : nar .boolean (1 : Int32) = (1 : Int32))) (by decide) (by decide) e2 ⟨rfl, N0, rfl⟩
def Q_isl1_1 (Z : State) (a1 : Addr) : OwnP := fun h0 n0 v h L => v = some (.int 0) ∧ Fr n0 L ∧ h = h0
theorem rm_isl1_1 (Gl : OwnGl Z a0 wG1 wG3) (X00 : Old Z n0 h0) (a1 : Addr) (f0 : Exa Z h0 a1 "java/lang/String") (f1 : Fld Z h0 a1 "java/lang/String" "coder" "B" (.int 1)) : OwnM l Z mN2 jdk_42_method_154_code 1 (some .boolean) (oR 0 0 0 0) #[(.ref a1)] h0 (Q_isl1_1 Z a1 h0 n0) := by
 refine own_in (plainFor_of_name pn_52039224) dl2 #[vR a1] (oE rfl) ?_
 intro p e s m below meth c s₁ Bd hml hZ X0 e0 hx hlk Y0 hown
 obtain ⟨hw, cx, hEL⟩ := id Gl
 have wT := oww hw
 obtain ⟨wO2, wP5, wO4, wrG3, hstr, wUA, wUH, wUL⟩ := id cx
 have N0 := Fr.nil n0
 refine oGS X0 Y0 hZ hown (wT 20 rfl) Via.refl e0 (wO2.ext X00.2) 0 rfl ?_
 intro T1 X1 Y1 e1
 refine oifn Y1 1 rfl ((if0 _ _).trans (feq wP5).1) <| oaN Y1 2 rfl rfl rfl ?_
 refine oGF X1 Y1 hZ hown (wT 32 rfl) Via.refl e1 f1 3 rfl ?_
 intro T2 X2 Y2 e2
 refine oify 17 Y2 4 rfl rfl ((if0 _ _).trans (feq (by decide : ¬ ((1 : Int32) = (0 : Int32)))).2) <| oic 0 Y2 7 rfl rfl ?_
 exact orN X2 Y2 hlk Bd.returns (by simp) 8 rfl ((by decide : nar .boolean (0 : Int32) = (0 : Int32))) (by decide) (by decide) e2 ⟨rfl, N0, rfl⟩
theorem ef_pci (m : MethodId) (x0 : Int32) (x1 : Int32) (x2 : Value) (hr_x2 : x2.isRef = true) : entryFrame m #[(.int x0), (.int x1), x2] 3 = mkF m 0 #[vI x0, vI x1, .val x2] [] := by
 cases x2 <;> first | (simp [Value.isRef] at hr_x2; done) | (simp [entryFrame, mkF, argsToLocals, Value.category]; done) | rfl
def Q_pci (Z : State) (i1 : Int32) (nb1 : Int32) : OwnP := fun h0 n0 v h L => v = some (.int i1) ∧ Fr n0 L ∧ h = h0
theorem pn_82171711 : plainName "jdk/internal/util/Preconditions" = true := by first | (simp [plainName, overriddenIn]; done) | decide +kernel
def ll3 : List (Nat × Instr × Nat) := [(0, .iload_n 0, 1), (1, .ifCond .lt 8, 3), (4, .iload_n 0, 1), (5, .iload_n 1, 1), (6, .if_icmp .lt 10, 3), (16, .iload_n 0, 1), (17, .ireturn, 1)]
theorem dl3 : OwnDec jdk_41_method_11_code ll3 := by decide +kernel
theorem rm_pci (Gl : OwnGl Z a0 wG1 wG3) (X00 : Old Z n0 h0) (i1 : Int32) (nb1 : Int32) (hi0 : ¬ (i1 < (0 : Int32))) (hi1 : i1 < nb1) : OwnM l Z mN3 jdk_41_method_11_code 3 (some .int) (oR 0 0 0 0) #[(.int i1), (.int nb1), wG3] h0 (Q_pci Z i1 nb1 h0 n0) := by
 have hE0 : ∀ m, entryFrame m #[(.int i1), (.int nb1), wG3] 3 = mkF m 0 #[vI i1, vI nb1, .val wG3] [] := fun m => ef_pci m i1 nb1 wG3 (id Gl).2.1.2.2.2.1
 refine own_in (plainFor_of_name pn_82171711) dl3 #[vI i1, vI nb1, .val wG3] hE0 ?_
 intro p e s m below meth c s₁ Bd hml hZ X0 e0 hx hlk Y0 hown
 have N0 := Fr.nil n0
 refine oiN Y0 0 rfl rfl <| oifn Y0 1 rfl ((if0 _ _).trans (flt hi0).1) <| oiN Y0 2 rfl rfl <| oiN Y0 3 rfl rfl <| ocy 16 Y0 4 rfl rfl (tlt hi1).1 <| oiN Y0 5 rfl rfl ?_
 exact orI X0 Y0 hlk Bd.returns 6 rfl (by decide) (by decide) e0 ⟨rfl, N0, rfl⟩
def Q_sci (Z : State) (i1 : Int32) (nb1 : Int32) : OwnP := fun h0 n0 v h L => v = none ∧ Fr n0 L ∧ h = h0
def ll4 : List (Nat × Instr × Nat) := [(0, .iload_n 0, 1), (1, .iload_n 1, 1), (2, .getstatic 1053, 3), (5, .invokestatic 1059, 3), (8, .pop, 1), (9, .return_, 1)]
theorem dl4 : OwnDec jdk_42_method_155_code ll4 := by decide +kernel
theorem pd_25906315 : parseMethodDescriptor "(IILjava/util/function/BiFunction;)I" = some ⟨[.int, .int, (.object "java/util/function/BiFunction")], some .int⟩ := by decide +kernel
theorem rm_sci (Gl : OwnGl Z a0 wG1 wG3) (X00 : Old Z n0 h0) (i1 : Int32) (nb1 : Int32) (hi0 : ¬ (i1 < (0 : Int32))) (hi1 : i1 < nb1) : OwnM l Z mN4 jdk_42_method_155_code 2 none (oR 1 0 0 14) #[(.int i1), (.int nb1)] h0 (Q_sci Z i1 nb1 h0 n0) := by
 refine own_in (plainFor_of_name pn_52039224) dl4 #[vI i1, vI nb1] (oE rfl) ?_
 intro p e s m below meth c s₁ Bd hml hZ X0 e0 hx hlk Y0 hown
 obtain ⟨hw, cx, hEL⟩ := id Gl
 have wT := oww hw
 obtain ⟨wO2, wP5, wO4, wrG3, hstr, wUA, wUH, wUL⟩ := id cx
 have N0 := Fr.nil n0
 refine oiN Y0 0 rfl rfl <| oiN Y0 1 rfl rfl ?_
 refine oGS X0 Y0 hZ hown (wT 95 rfl) Via.refl e0 (wO4.ext X00.2) 2 rfl ?_
 intro T1 X1 Y1 e1
 refine oCS X1 Y1 hZ hml hown (wT 97 rfl) (wT 98 rfl) (wT 96 rfl) (wT 99 rfl) (rm_pci Gl X00 i1 nb1 hi0 hi1) e1 3 rfl 3 0 pd_25906315 rfl rfl rfl rfl (by decide +kernel) ?_
 intro v2 T2 L2 X2 Y2 hQ2
 obtain ⟨rfl, Nq2, eq2⟩ := hQ2
 show OwnH p e below _ T2 m _ _ [(.int i1)]
 have N2 := Fr.app N0 Nq2
 refine opop Y2 4 rfl rfl ?_
 exact orV X2 Y2 hlk Bd.returns 5 rfl (by decide) (by decide) eq2 ⟨rfl, N2, rfl⟩
def Q_u16len (Z : State) (tb1 : Addr) (kb1 : ClassId) (nB1 : Int32) (vs1 : List Value) : OwnP := fun h0 n0 v h L => v = some (.int (nB1 >>> ((1 : Int32) &&& 31))) ∧ Fr n0 L ∧ h = h0
def ll5 : List (Nat × Instr × Nat) := [(0, .aload_n 0, 1), (1, .arraylength, 1), (2, .iconst 1, 1), (3, .ishr, 1), (4, .ireturn, 1)]
theorem dl5 : OwnDec jdk_52_method_6_code ll5 := by decide +kernel
theorem rm_u16len (Gl : OwnGl Z a0 wG1 wG3) (X00 : Old Z n0 h0) (tb1 : Addr) (kb1 : ClassId) (nB1 : Int32) (vs1 : List Value) (f0 : Arv Z h0 tb1 kb1 .byte nB1 vs1 (.int 0)) : OwnM l Z mN5 jdk_52_method_6_code 1 (some .int) (oR 0 0 0 0) #[(.ref tb1)] h0 (Q_u16len Z tb1 kb1 nB1 vs1 h0 n0) := by
 refine own_in (plainFor_of_name pn_68381282) dl5 #[vR tb1] (oE rfl) ?_
 intro p e s m below meth c s₁ Bd hml hZ X0 e0 hx hlk Y0 hown
 have N0 := Fr.nil n0
 refine oaN Y0 0 rfl rfl rfl <| olen X0 Y0 hZ e0 f0 1 rfl <| oic 1 Y0 2 rfl rfl <| oshr Y0 3 rfl ?_
 exact orI X0 Y0 hlk Bd.returns 4 rfl (by decide) (by decide) e0 ⟨rfl, N0, rfl⟩
def Q_u16ci (Z : State) (tb1 : Addr) (kb1 : ClassId) (nB1 : Int32) (vs1 : List Value) (i1 : Int32) : OwnP := fun h0 n0 v h L => v = none ∧ Fr n0 L ∧ h = h0
def ll6 : List (Nat × Instr × Nat) := [(0, .iload_n 0, 1), (1, .aload_n 1, 1), (2, .invokestatic 48, 3), (5, .invokestatic 414, 3), (8, .return_, 1)]
theorem dl6 : OwnDec jdk_52_method_91_code ll6 := by decide +kernel
theorem pd_31817994 : parseMethodDescriptor "([B)I" = some ⟨[(.array .byte)], some .int⟩ := by decide +kernel
theorem pd_53897226 : parseMethodDescriptor "(II)V" = some ⟨[.int, .int], none⟩ := by decide +kernel
theorem rm_u16ci (Gl : OwnGl Z a0 wG1 wG3) (X00 : Old Z n0 h0) (tb1 : Addr) (kb1 : ClassId) (nB1 : Int32) (vs1 : List Value) (i1 : Int32) (f0 : Arv Z h0 tb1 kb1 .byte nB1 vs1 (.int 0)) (hi0 : ¬ (i1 < (0 : Int32))) (hi1 : i1 < (nB1 >>> ((1 : Int32) &&& 31))) : OwnM l Z mN6 jdk_52_method_91_code 2 none (oR 2 0 0 27) #[(.int i1), (.ref tb1)] h0 (Q_u16ci Z tb1 kb1 nB1 vs1 i1 h0 n0) := by
 refine own_in (plainFor_of_name pn_68381282) dl6 #[vI i1, vR tb1] (oE rfl) ?_
 intro p e s m below meth c s₁ Bd hml hZ X0 e0 hx hlk Y0 hown
 obtain ⟨hw, cx, hEL⟩ := id Gl
 have wT := oww hw
 have N0 := Fr.nil n0
 refine oiN Y0 0 rfl rfl <| oaN Y0 1 rfl rfl rfl ?_
 refine oCS X0 Y0 hZ hml hown (wT 256 rfl) (wT 257 rfl) (wT 23 rfl) (wT 258 rfl) (rm_u16len Gl X00 tb1 kb1 nB1 vs1 f0) e0 2 rfl 1 1 pd_31817994 rfl rfl rfl rfl (by decide +kernel) ?_
 intro v1 T1 L1 X1 Y1 hQ1
 obtain ⟨rfl, Nq1, eq1⟩ := hQ1
 show OwnH p e below _ T1 m _ _ [(.int (nB1 >>> ((1 : Int32) &&& 31))), (.int i1)]
 have N1 := Fr.app N0 Nq1
 refine oCS X1 Y1 hZ hml hown (wT 277 rfl) (wT 93 rfl) (wT 9 rfl) (wT 94 rfl) (rm_sci Gl X00 i1 (nB1 >>> ((1 : Int32) &&& 31)) hi0 hi1) eq1 3 rfl 2 0 pd_53897226 rfl rfl rfl rfl (by decide +kernel) ?_
 intro v2 T2 L2 X2 Y2 hQ2
 obtain ⟨rfl, Nq2, eq2⟩ := hQ2
 show OwnH p e below _ T2 m _ _ []
 have N2 := Fr.app N1 Nq2
 exact orV X2 Y2 hlk Bd.returns 4 rfl (by decide) (by decide) eq2 ⟨rfl, N2, rfl⟩
def Q_u16ch (Z : State) (tb1 : Addr) (kb1 : ClassId) (nB1 : Int32) (vs1 : List Value) (i1 : Int32) (c1 : Int32) : OwnP := fun h0 n0 v h L => v = some (.int c1) ∧ Fr n0 L ∧ h = h0
def ll7 : List (Nat × Instr × Nat) := [(0, .iload_n 1, 1), (1, .aload_n 0, 1), (2, .invokestatic 67, 3), (5, .aload_n 0, 1), (6, .iload_n 1, 1), (7, .invokestatic 71, 3), (10, .ireturn, 1)]
theorem dl7 : OwnDec jdk_52_method_83_code ll7 := by decide +kernel
theorem pd_93580263 : parseMethodDescriptor "(I[B)V" = some ⟨[.int, (.array .byte)], none⟩ := by decide +kernel
theorem pd_30427418 : parseMethodDescriptor "([BI)C" = some ⟨[(.array .byte), .int], some .char⟩ := by decide +kernel
theorem rm_u16ch (Gl : OwnGl Z a0 wG1 wG3) (X00 : Old Z n0 h0) (tb1 : Addr) (kb1 : ClassId) (nB1 : Int32) (vs1 : List Value) (i1 : Int32) (c1 : Int32) (f0 : Arv Z h0 tb1 kb1 .byte nB1 vs1 (.int 0)) (hi0 : ¬ (i1 < (0 : Int32))) (hi1 : i1 < (nB1 >>> ((1 : Int32) &&& 31))) (hg : OwnGet nB1 vs1 i1 c1) : OwnM l Z mN7 jdk_52_method_83_code 2 (some .char) (oR 3 0 0 40) #[(.ref tb1), (.int i1)] h0 (Q_u16ch Z tb1 kb1 nB1 vs1 i1 c1 h0 n0) := by
 refine own_in (plainFor_of_name pn_68381282) dl7 #[vR tb1, vI i1] (oE rfl) ?_
 intro p e s m below meth c s₁ Bd hml hZ X0 e0 hx hlk Y0 hown
 obtain ⟨hw, cx, hEL⟩ := id Gl
 have wT := oww hw
 have N0 := Fr.nil n0
 obtain ⟨_, _, _, _, _, hn⟩ := id hg
 refine oiN Y0 0 rfl rfl <| oaN Y0 1 rfl rfl rfl ?_
 refine oCS X0 Y0 hZ hml hown (wT 274 rfl) (wT 275 rfl) (wT 23 rfl) (wT 276 rfl) (rm_u16ci Gl X00 tb1 kb1 nB1 vs1 i1 f0 hi0 hi1) e0 2 rfl 2 0 pd_93580263 rfl rfl rfl rfl (by decide +kernel) ?_
 intro v1 T1 L1 X1 Y1 hQ1
 obtain ⟨rfl, Nq1, eq1⟩ := hQ1
 show OwnH p e below _ T1 m _ _ []
 have N1 := Fr.app N0 Nq1
 refine oaN Y1 3 rfl rfl rfl <| oiN Y1 4 rfl rfl ?_
 refine oCS X1 Y1 hZ hml hown (wT 285 rfl) (wT 286 rfl) (wT 23 rfl) (wT 287 rfl) (rm_u16get Gl X00 tb1 kb1 nB1 vs1 i1 c1 f0 hg) eq1 5 rfl 2 0 pd_30427418 rfl rfl rfl rfl (by decide +kernel) ?_
 intro v2 T2 L2 X2 Y2 hQ2
 obtain ⟨rfl, Nq2, eq2⟩ := hQ2
 show OwnH p e below _ T2 m _ _ [(.int c1)]
 have N2 := Fr.app N1 Nq2
 exact orN X2 Y2 hlk Bd.returns (by simp) 6 rfl (hn) (by decide) (by decide) eq2 ⟨rfl, N2, rfl⟩
def Q_l1ch (Z : State) (tb1 : Addr) (kb1 : ClassId) (nB1 : Int32) (vs1 : List Value) (i1 : Int32) (c1 : Int32) : OwnP := fun h0 n0 v h L => v = some (.int c1) ∧ Fr n0 L ∧ h = h0
theorem pn_54843740 : plainName "java/lang/StringLatin1" = true := by first | (simp [plainName, overriddenIn]; done) | decide +kernel
def ll8 : List (Nat × Instr × Nat) := [(0, .iload_n 1, 1), (1, .aload_n 0, 1), (2, .arraylength, 1), (3, .invokestatic 9, 3), (6, .aload_n 0, 1), (7, .iload_n 1, 1), (8, .baload, 1), (9, .sipush 255, 3), (12, .iand, 1), (13, .i2c, 1), (14, .ireturn, 1)]
theorem dl8 : OwnDec jdk_43_method_2_code ll8 := by decide +kernel
theorem rm_l1ch (Gl : OwnGl Z a0 wG1 wG3) (X00 : Old Z n0 h0) (tb1 : Addr) (kb1 : ClassId) (nB1 : Int32) (vs1 : List Value) (i1 : Int32) (c1 : Int32) (f0 : Arv Z h0 tb1 kb1 .byte nB1 vs1 (.int 0)) (hg : OwnL nB1 vs1 i1 c1) : OwnM l Z mN8 jdk_43_method_2_code 2 (some .char) (oR 2 0 0 27) #[(.ref tb1), (.int i1)] h0 (Q_l1ch Z tb1 kb1 nB1 vs1 i1 c1 h0 n0) := by
 refine own_in (plainFor_of_name pn_54843740) dl8 #[vR tb1, vI i1] (oE rfl) ?_
 intro p e s m below meth c s₁ Bd hml hZ X0 e0 hx hlk Y0 hown
 obtain ⟨hw, cx, hEL⟩ := id Gl
 have wT := oww hw
 have N0 := Fr.nil n0
 obtain ⟨v0, hi, hv, hp, hn⟩ := hg
 refine oiN Y0 0 rfl rfl <| oaN Y0 1 rfl rfl rfl <| olen X0 Y0 hZ e0 f0 2 rfl ?_
 refine oCS X0 Y0 hZ hml hown (wT 92 rfl) (wT 93 rfl) (wT 9 rfl) (wT 94 rfl) (rm_sci Gl X00 i1 nB1 hi.1 hi.2) e0 3 rfl 2 0 pd_53897226 rfl rfl rfl rfl (by decide +kernel) ?_
 intro v2 T2 L2 X2 Y2 hQ2
 obtain ⟨rfl, Nq2, eq2⟩ := hQ2
 show OwnH p e below _ T2 m _ _ []
 have N2 := Fr.app N0 Nq2
 refine oaN Y2 4 rfl rfl rfl <| oiN Y2 5 rfl rfl <| obal X2 Y2 hZ eq2 f0 6 rfl hi hv <| osp 255 Y2 7 rfl rfl <| oand Y2 8 rfl <| oi2c Y2 9 rfl ?_
 refine og T2 m 14 #[vR tb1, vI i1] [(.int c1)] (fun tgt kgo => castTop (by rw [hp]) kgo) ?_
 exact orN X2 Y2 hlk Bd.returns (by simp) 10 rfl (hn) (by decide) (by decide) eq2 ⟨rfl, N2, rfl⟩
def Q_chA (Z : State) (a1 : Addr) (cd1 : Int32) (tb1 : Addr) (kb1 : ClassId) (nB1 : Int32) (vs1 : List Value) (i1 : Int32) (c1 : Int32) : OwnP := fun h0 n0 v h L => v = some (.int c1) ∧ Fr n0 L ∧ h = h0
def ll9 : List (Nat × Instr × Nat) := [(0, .aload_n 0, 1), (1, .invokevirtual 492, 3), (4, .ifCond .eq 12, 3), (7, .aload_n 0, 1), (8, .getfield 9, 3), (11, .iload_n 1, 1), (12, .invokestatic 495, 3), (15, .ireturn, 1), (16, .aload_n 0, 1), (17, .getfield 9, 3), (20, .iload_n 1, 1), (21, .invokestatic 498, 3), (24, .ireturn, 1)]
theorem dl9 : OwnDec jdk_42_method_56_code ll9 := by decide +kernel
theorem pd_15861835 : parseMethodDescriptor "()Z" = some ⟨[], some .boolean⟩ := by decide +kernel
theorem rm_chA (Gl : OwnGl Z a0 wG1 wG3) (X00 : Old Z n0 h0) (a1 : Addr) (cd1 : Int32) (tb1 : Addr) (kb1 : ClassId) (nB1 : Int32) (vs1 : List Value) (i1 : Int32) (c1 : Int32) (f0 : Exa Z h0 a1 "java/lang/String") (f1 : Fld Z h0 a1 "java/lang/String" "value" "[B" (.ref tb1)) (f2 : Fld Z h0 a1 "java/lang/String" "coder" "B" (.int cd1)) (f3 : Arv Z h0 tb1 kb1 .byte nB1 vs1 (.int 0)) (hch : OwnCh cd1 nB1 vs1 i1 c1) : OwnM l Z mN9 jdk_42_method_56_code 2 (some .char) (oR 4 0 0 53) #[(.ref a1), (.int i1)] h0 (Q_chA Z a1 cd1 tb1 kb1 nB1 vs1 i1 c1 h0 n0) := by
 refine own_in (plainFor_of_name pn_52039224) dl9 #[vR a1, vI i1] (oE rfl) ?_
 intro p e s m below meth c s₁ Bd hml hZ X0 e0 hx hlk Y0 hown
 obtain ⟨hw, cx, hEL⟩ := id Gl
 have wT := oww hw
 have N0 := Fr.nil n0
 rcases hch with ⟨rfl, hg⟩ | ⟨rfl, hi, hg⟩
 ·
  obtain ⟨_, _, _, _, hn⟩ := id hg
  refine oaN Y0 0 rfl rfl rfl ?_
  refine oCV X0 Y0 hZ hml hown (wT 83 rfl) (wT 84 rfl) (notFace_of_selects (args := #[]) (mvT hZ (wT 86 rfl))) (wT 86 rfl) (wT 85 rfl) (wT 87 rfl) (wT 9 rfl) (rm_isl1_0 Gl X00 a1 f0 f2) e0 f0 1 rfl 0 0 pd_15861835 rfl rfl rfl rfl rfl (by decide +kernel) (by decide +kernel) ?_
  intro v1 T1 L1 X1 Y1 hQ1
  obtain ⟨rfl, Nq1, eq1⟩ := hQ1
  show OwnH p e below _ T1 m _ _ [(.int 1)]
  have N1 := Fr.app N0 Nq1
  refine oifn Y1 2 rfl ((if0 _ _).trans (feq (by decide : ¬ ((1 : Int32) = (0 : Int32)))).1) <| oaN Y1 3 rfl rfl rfl ?_
  refine oGF X1 Y1 hZ hown (wT 34 rfl) Via.refl eq1 f1 4 rfl ?_
  intro T2 X2 Y2 e2
  refine oiN Y2 5 rfl rfl ?_
  refine oCS X2 Y2 hZ hml hown (wT 88 rfl) (wT 89 rfl) (wT 90 rfl) (wT 91 rfl) (rm_l1ch Gl X00 tb1 kb1 nB1 vs1 i1 c1 f3 hg) e2 6 rfl 2 0 pd_30427418 rfl rfl rfl rfl (by decide +kernel) ?_
  intro v3 T3 L3 X3 Y3 hQ3
  obtain ⟨rfl, Nq3, eq3⟩ := hQ3
  show OwnH p e below _ T3 m _ _ [(.int c1)]
  have N3 := Fr.app N1 Nq3
  exact orN X3 Y3 hlk Bd.returns (by simp) 7 rfl (hn) (by decide) (by decide) eq3 ⟨rfl, N3, rfl⟩
 obtain ⟨_, _, _, _, _, hn⟩ := id hg
 refine oaN Y0 0 rfl rfl rfl ?_
 refine oCV X0 Y0 hZ hml hown (wT 83 rfl) (wT 84 rfl) (notFace_of_selects (args := #[]) (mvT hZ (wT 86 rfl))) (wT 86 rfl) (wT 85 rfl) (wT 87 rfl) (wT 9 rfl) (rm_isl1_1 Gl X00 a1 f0 f2) e0 f0 1 rfl 0 0 pd_15861835 rfl rfl rfl rfl rfl (by decide +kernel) (by decide +kernel) ?_
 intro v5 T5 L5 X5 Y5 hQ5
 obtain ⟨rfl, Nq5, eq5⟩ := hQ5
 show OwnH p e below _ T5 m _ _ [(.int 0)]
 have N5 := Fr.app N0 Nq5
 refine oify 16 Y5 2 rfl rfl ((if0 _ _).trans (teq (by decide : (0 : Int32) = (0 : Int32))).1) <| oaN Y5 8 rfl rfl rfl ?_
 refine oGF X5 Y5 hZ hown (wT 34 rfl) Via.refl eq5 f1 9 rfl ?_
 intro T6 X6 Y6 e6
 refine oiN Y6 10 rfl rfl ?_
 refine oCS X6 Y6 hZ hml hown (wT 297 rfl) (wT 298 rfl) (wT 23 rfl) (wT 299 rfl) (rm_u16ch Gl X00 tb1 kb1 nB1 vs1 i1 c1 f3 hi.1 hi.2 hg) e6 11 rfl 2 0 pd_30427418 rfl rfl rfl rfl (by decide +kernel) ?_
 intro v7 T7 L7 X7 Y7 hQ7
 obtain ⟨rfl, Nq7, eq7⟩ := hQ7
 show OwnH p e below _ T7 m _ _ [(.int c1)]
 have N7 := Fr.app N5 Nq7
 exact orN X7 Y7 hlk Bd.returns (by simp) 12 rfl (hn) (by decide) (by decide) eq7 ⟨rfl, N7, rfl⟩
def Q_c5w (Z : State) (ab1 : Addr) (kc : ClassId) (cs1 : List Int32) (nn : Nat) (tb1 : Addr) (kb1 : ClassId) (vs1 : List Value) : OwnP := fun h0 n0 v h L => ∃ (r : Nat), v = some (.int (Int32.ofNat r)) ∧ Fr n0 L ∧ Keep h0 h ([tb1] : List Addr) ∧ (r < nn) ∧ ((255 : Int32) < (cs1.getD r 0))
def ll10 : List (Nat × Instr × Nat) := [(0, .iconst 0, 1), (1, .istore 5, 2), (3, .iload 5, 2), (5, .iload 4, 2), (7, .if_icmp .ge 37, 3), (10, .aload_n 0, 1), (11, .iload_n 1, 1), (12, .caload, 1), (13, .istore 6, 2), (15, .iload 6, 2), (17, .sipush 255, 3), (20, .if_icmp .le 6, 3), (23, .iload 5, 2), (25, .ireturn, 1), (26, .aload_n 2, 1), (27, .iload_n 3, 1), (28, .iload 6, 2), (30, .i2b, 1), (31, .bastore, 1), (32, .iinc 1 1, 3), (35, .iinc 3 1, 3), (38, .iinc 5 1, 3), (41, .goto (-38), 3), (44, .iload 4, 2), (46, .ireturn, 1)]
theorem dl10 : OwnDec jdk_52_method_21_code ll10 := by decide +kernel
theorem rm_c5w (Gl : OwnGl Z a0 wG1 wG3) (X00 : Old Z n0 h0) (ab1 : Addr) (kc : ClassId) (cs1 : List Int32) (nn : Nat) (tb1 : Addr) (kb1 : ClassId) (vs1 : List Value) (f0 : Arv Z h0 ab1 kc .char (Int32.ofNat nn) (cs1.map Value.int) (.int 0)) (f1 : Arv Z h0 tb1 kb1 .byte (Int32.ofNat nn) vs1 (.int 0)) (f2 : n0 ≤ tb1) (hnn : cs1.length = nn) (hn3 : nn ≤ 300) (hrg : OwnRg cs1) (hv1 : vs1.length = nn) (hex : ∃ c ∈ cs1, (255 : Int32) < c) : OwnM l Z mN10 jdk_52_method_21_code 7 (some .int) (oR 0 0 0 0) #[(.ref ab1), (.int 0), (.ref tb1), (.int 0), (.int (Int32.ofNat nn))] h0 (Q_c5w Z ab1 kc cs1 nn tb1 kb1 vs1 h0 n0) := by
 refine own_in (plainFor_of_name pn_68381282) dl10 #[vR ab1, vI 0, vR tb1, vI 0, vI (Int32.ofNat nn), vU, vU] (oE rfl) ?_
 intro p e s m below meth c s₁ Bd hml hZ X0 e0 hx hlk Y0 hown
 have N0 := Fr.nil n0
 have K0 : Keep h0 h0 ([tb1] : List Addr) := Keep.refl _ _
 refine oic 0 Y0 0 rfl rfl <| ois Y0 1 rfl #[vR ab1, vI 0, vR tb1, vI 0, vI (Int32.ofNat nn), vI 0, vU] rfl ?_
 have lp3 : ∀ (fu1 : Nat) (it : Nat) (vs2 : List Value) (sl6 : Slot) (T1 : State) (h1 : Heap) (L1 : List Loc) (X1 : Stand p l e (oR 0 0 0 0) s m #[(.ref ab1), (.int 0), (.ref tb1), (.int 0), (.int (Int32.ofNat nn))] below meth c T1 L1 0 0) (e1 : T1.heap = h1) (Ol1 : Old Z n0 h1) (K1 : Keep h0 h1 ([tb1] : List Addr)) (N1 : Fr n0 L1) (F1_1 : Arv Z h1 ab1 kc .char (Int32.ofNat nn) (cs1.map Value.int) (.int 0)) (F1_2 : Arv Z h1 tb1 kb1 .byte (Int32.ofNat nn) vs2 (.int 0)) (hsl6 : OwnSl sl6) (hle : it ≤ nn) (hvl : vs2.length = nn) (hinv : ∀ j, j < it → ¬ (255 : Int32) < cs1.getD j 0) (hfu1 : nn - it < fu1), OwnGoes p e below (oG (Q_c5w Z ab1 kc cs1 nn tb1 kb1 vs1 h0 n0) s (oR 0 0 0 0)) T1 (mkF m 3 #[vR ab1, vI (Int32.ofNat it), vR tb1, vI (Int32.ofNat it), vI (Int32.ofNat nn), vI (Int32.ofNat it), sl6] []) := by
  intro fu1
  induction fu1 with
  | zero =>
   intro it vs2 sl6 T1 h1 L1 X1 e1 Ol1 K1 N1 F1_1 F1_2 hsl6 hle hvl hinv hfu1
   exact absurd hfu1 (Nat.not_lt_zero _)
  | succ fu1 ih1 =>
   intro it vs2 sl6 T1 h1 L1 X1 e1 Ol1 K1 N1 F1_1 F1_2 hsl6 hle hvl hinv hfu1
   have hlt : it < nn := own_c5lt hnn hex hle hinv
   have Y1 := Y0.nx X1
   refine oil Y1 2 rfl rfl <| oil Y1 3 rfl rfl <| ocn Y1 4 rfl (tlt ((own_ltN (by omega) (by omega)).mpr hlt)).2.1 <| oaN Y1 5 rfl rfl rfl <| oiN Y1 6 rfl rfl <| ocal X1 Y1 hZ e1 F1_1 7 rfl (own_map_nn hnn hn3 hlt).1 (own_map_nn hnn hn3 hlt).2 <| ois Y1 8 rfl #[vR ab1, vI (Int32.ofNat it), vR tb1, vI (Int32.ofNat it), vI (Int32.ofNat nn), vI (Int32.ofNat it), vI (cs1.getD it 0)] (XS.store1 rfl hsl6 rfl) <| oil Y1 9 rfl rfl <| osp 255 Y1 10 rfl rfl ?_
   by_cases cc3 : (255 : Int32) < (cs1.getD it 0)
   ·
    refine ocn Y1 11 rfl (tlt cc3).2.2.2 <| oil Y1 12 rfl rfl ?_
    exact orI X1 Y1 hlk Bd.returns 13 rfl (by decide) (by decide) e1 ⟨it, rfl, N1, K1, hlt, cc3⟩
   refine ocy 26 Y1 11 rfl rfl (flt cc3).2.2.2 <| oaN Y1 14 rfl rfl rfl <| oiN Y1 15 rfl rfl <| oil Y1 16 rfl rfl <| oi2b Y1 17 rfl ?_
   obtain ⟨cl5, Ar5, q5, S5, M5, H5, G5⟩ := id F1_2
   obtain ⟨T5, h5, X5, e5, W5, st5⟩ := stB X1 hx hZ e1 Ar5 (j := (Int32.ofNat it)) (inb_of S5 (own_map_nn hnn hn3 hlt).1) (g := (mkF m 31 #[vR ab1, vI (Int32.ofNat it), vR tb1, vI (Int32.ofNat it), vI (Int32.ofNat nn), vI (Int32.ofNat it), vI (cs1.getD it 0)] [(.int (nar .byte (cs1.getD it 0))), (.int (Int32.ofNat it)), (.ref tb1)])) rfl rfl (Y0.d 18 rfl)
   refine og T5 m 32 #[vR ab1, vI (Int32.ofNat it), vR tb1, vI (Int32.ofNat it), vI (Int32.ofNat nn), vI (Int32.ofNat it), vI (cs1.getD it 0)] [] st5 ?_
   have V5 : Arv Z h5 tb1 kb1 .byte (Int32.ofNat nn) (vs2.set it (.int (nar .byte (nar .byte (cs1.getD it 0))))) (.int 0) := Arv.set Ar5 q5 S5 M5 H5 G5 (fits_nar_byte _) W5 _ (own_nat (by omega)).2.2 (by omega)
   rw [own_nar2_byte] at V5
   have V5' : Arv Z h5 tb1 kb1 .byte (Int32.ofNat nn) (vs2.set it (.int (nar .byte (cs1.getD it 0)))) (.int 0) := V5
   have F5_3 := F1_1.other W5 (own_arv_ty F1_1 F1_2 (by decide))
   have Ol5 := Ol1.wr W5 f2
   have K5 : Keep h0 h5 ([tb1] : List Addr) := K1.wr W5 (Or.inl (List.mem_of_getElem? (i := 0) rfl))
   have N5 := Fr.snoc X5 N1 f2
   have Y5 := Y0.nx X5
   refine oinc Y5 19 rfl #[vR ab1, vI ((Int32.ofNat it) + (1 : Int32)), vR tb1, vI (Int32.ofNat it), vI (Int32.ofNat nn), vI (Int32.ofNat it), vI (cs1.getD it 0)] rfl rfl <| oinc Y5 20 rfl #[vR ab1, vI ((Int32.ofNat it) + (1 : Int32)), vR tb1, vI ((Int32.ofNat it) + (1 : Int32)), vI (Int32.ofNat nn), vI (Int32.ofNat it), vI (cs1.getD it 0)] rfl rfl <| oinc Y5 21 rfl #[vR ab1, vI ((Int32.ofNat it) + (1 : Int32)), vR tb1, vI ((Int32.ofNat it) + (1 : Int32)), vI (Int32.ofNat nn), vI ((Int32.ofNat it) + (1 : Int32)), vI (cs1.getD it 0)] rfl rfl <| ogt 3 Y5 22 rfl rfl ?_
   refine og T5 m 3 #[vR ab1, vI (Int32.ofNat (it + 1)), vR tb1, vI (Int32.ofNat (it + 1)), vI (Int32.ofNat nn), vI (Int32.ofNat (it + 1)), vI (cs1.getD it 0)] [] (fun tgt kgo => castTop (by rw [(own_add1 it)]) kgo) ?_
   exact ih1 (it + 1) (vs2.set it (.int (nar .byte (cs1.getD it 0)))) (vI (cs1.getD it 0)) T5 h5 _ X5 e5 Ol5 K5 N5 F5_3 V5' (Or.inr ⟨_, rfl, rfl⟩) (by omega) (by rw [List.length_set]; exact hvl) (fun j hj => by
     rcases Nat.lt_or_ge j it with q | q
     ·
      exact hinv j q
     ·
      obtain rfl : j = it := by omega
      exact cc3) (by omega)
 exact lp3 (nn - 0 + 1) 0 vs1 .unset s₁ h0 _ X0 e0 X00 K0 N0 f0 f1 (Or.inl rfl) (Nat.zero_le _) hv1 (fun j hj => absurd hj (Nat.not_lt_zero _)) (Nat.lt_succ_self _)
def Q_c5l (Z : State) (ab1 : Addr) (kc : ClassId) (cs1 : List Int32) (nn : Nat) (tb1 : Addr) (kb1 : ClassId) (vs1 : List Value) : OwnP := fun h0 n0 v h L => ∃ (vs : List Value), v = some (.int (Int32.ofNat nn)) ∧ Fr n0 L ∧ Keep h0 h ([tb1] : List Addr) ∧ Arv Z h tb1 kb1 .byte (Int32.ofNat nn) vs (.int 0) ∧ (OwnLB cs1 vs) ∧ (vs.length = nn)
theorem rm_c5l (Gl : OwnGl Z a0 wG1 wG3) (X00 : Old Z n0 h0) (ab1 : Addr) (kc : ClassId) (cs1 : List Int32) (nn : Nat) (tb1 : Addr) (kb1 : ClassId) (vs1 : List Value) (f0 : Arv Z h0 ab1 kc .char (Int32.ofNat nn) (cs1.map Value.int) (.int 0)) (f1 : Arv Z h0 tb1 kb1 .byte (Int32.ofNat nn) vs1 (.int 0)) (f2 : n0 ≤ tb1) (hnn : cs1.length = nn) (hn3 : nn ≤ 300) (hrg : OwnRg cs1) (hv1 : vs1.length = nn) (hall : ∀ c ∈ cs1, ¬ (255 : Int32) < c) : OwnM l Z mN10 jdk_52_method_21_code 7 (some .int) (oR 0 0 0 0) #[(.ref ab1), (.int 0), (.ref tb1), (.int 0), (.int (Int32.ofNat nn))] h0 (Q_c5l Z ab1 kc cs1 nn tb1 kb1 vs1 h0 n0) := by
 refine own_in (plainFor_of_name pn_68381282) dl10 #[vR ab1, vI 0, vR tb1, vI 0, vI (Int32.ofNat nn), vU, vU] (oE rfl) ?_
 intro p e s m below meth c s₁ Bd hml hZ X0 e0 hx hlk Y0 hown
 have N0 := Fr.nil n0
 have K0 : Keep h0 h0 ([tb1] : List Addr) := Keep.refl _ _
 refine oic 0 Y0 0 rfl rfl <| ois Y0 1 rfl #[vR ab1, vI 0, vR tb1, vI 0, vI (Int32.ofNat nn), vI 0, vU] rfl ?_
 have lp3 : ∀ (fu1 : Nat) (it : Nat) (vs2 : List Value) (sl6 : Slot) (T1 : State) (h1 : Heap) (L1 : List Loc) (X1 : Stand p l e (oR 0 0 0 0) s m #[(.ref ab1), (.int 0), (.ref tb1), (.int 0), (.int (Int32.ofNat nn))] below meth c T1 L1 0 0) (e1 : T1.heap = h1) (Ol1 : Old Z n0 h1) (K1 : Keep h0 h1 ([tb1] : List Addr)) (N1 : Fr n0 L1) (F1_1 : Arv Z h1 ab1 kc .char (Int32.ofNat nn) (cs1.map Value.int) (.int 0)) (F1_2 : Arv Z h1 tb1 kb1 .byte (Int32.ofNat nn) vs2 (.int 0)) (hsl6 : OwnSl sl6) (hle : it ≤ nn) (hvl : vs2.length = nn) (hlb : OwnLB (cs1.take it) vs2) (hfu1 : nn - it < fu1), OwnGoes p e below (oG (Q_c5l Z ab1 kc cs1 nn tb1 kb1 vs1 h0 n0) s (oR 0 0 0 0)) T1 (mkF m 3 #[vR ab1, vI (Int32.ofNat it), vR tb1, vI (Int32.ofNat it), vI (Int32.ofNat nn), vI (Int32.ofNat it), sl6] []) := by
  intro fu1
  induction fu1 with
  | zero =>
   intro it vs2 sl6 T1 h1 L1 X1 e1 Ol1 K1 N1 F1_1 F1_2 hsl6 hle hvl hlb hfu1
   exact absurd hfu1 (Nat.not_lt_zero _)
  | succ fu1 ih1 =>
   intro it vs2 sl6 T1 h1 L1 X1 e1 Ol1 K1 N1 F1_1 F1_2 hsl6 hle hvl hlb hfu1
   have Y1 := Y0.nx X1
   refine oil Y1 2 rfl rfl <| oil Y1 3 rfl rfl ?_
   by_cases cc2 : (Int32.ofNat it) < (Int32.ofNat nn)
   ·
    have hlt : it < nn := (own_ltN (by omega) (by omega)).mp cc2
    refine ocn Y1 4 rfl (tlt cc2).2.1 <| oaN Y1 5 rfl rfl rfl <| oiN Y1 6 rfl rfl <| ocal X1 Y1 hZ e1 F1_1 7 rfl (own_map_nn hnn hn3 hlt).1 (own_map_nn hnn hn3 hlt).2 <| ois Y1 8 rfl #[vR ab1, vI (Int32.ofNat it), vR tb1, vI (Int32.ofNat it), vI (Int32.ofNat nn), vI (Int32.ofNat it), vI (cs1.getD it 0)] (XS.store1 rfl hsl6 rfl) <| oil Y1 9 rfl rfl <| osp 255 Y1 10 rfl rfl <| ocy 26 Y1 11 rfl rfl (flt (own_all_at hnn hall hlt)).2.2.2 <| oaN Y1 14 rfl rfl rfl <| oiN Y1 15 rfl rfl ?_
    refine oil Y1 16 rfl rfl <| oi2b Y1 17 rfl ?_
    obtain ⟨cl4, Ar4, q4, S4, M4, H4, G4⟩ := id F1_2
    obtain ⟨T4, h4, X4, e4, W4, st4⟩ := stB X1 hx hZ e1 Ar4 (j := (Int32.ofNat it)) (inb_of S4 (own_map_nn hnn hn3 hlt).1) (g := (mkF m 31 #[vR ab1, vI (Int32.ofNat it), vR tb1, vI (Int32.ofNat it), vI (Int32.ofNat nn), vI (Int32.ofNat it), vI (cs1.getD it 0)] [(.int (nar .byte (cs1.getD it 0))), (.int (Int32.ofNat it)), (.ref tb1)])) rfl rfl (Y0.d 18 rfl)
    refine og T4 m 32 #[vR ab1, vI (Int32.ofNat it), vR tb1, vI (Int32.ofNat it), vI (Int32.ofNat nn), vI (Int32.ofNat it), vI (cs1.getD it 0)] [] st4 ?_
    have V4 : Arv Z h4 tb1 kb1 .byte (Int32.ofNat nn) (vs2.set it (.int (nar .byte (nar .byte (cs1.getD it 0))))) (.int 0) := Arv.set Ar4 q4 S4 M4 H4 G4 (fits_nar_byte _) W4 _ (own_nat (by omega)).2.2 (by omega)
    rw [own_nar2_byte] at V4
    have V4' : Arv Z h4 tb1 kb1 .byte (Int32.ofNat nn) (vs2.set it (.int (nar .byte (cs1.getD it 0)))) (.int 0) := V4
    have F4_3 := F1_1.other W4 (own_arv_ty F1_1 F1_2 (by decide))
    have Ol4 := Ol1.wr W4 f2
    have K4 : Keep h0 h4 ([tb1] : List Addr) := K1.wr W4 (Or.inl (List.mem_of_getElem? (i := 0) rfl))
    have N4 := Fr.snoc X4 N1 f2
    have Y4 := Y0.nx X4
    refine oinc Y4 19 rfl #[vR ab1, vI ((Int32.ofNat it) + (1 : Int32)), vR tb1, vI (Int32.ofNat it), vI (Int32.ofNat nn), vI (Int32.ofNat it), vI (cs1.getD it 0)] rfl rfl <| oinc Y4 20 rfl #[vR ab1, vI ((Int32.ofNat it) + (1 : Int32)), vR tb1, vI ((Int32.ofNat it) + (1 : Int32)), vI (Int32.ofNat nn), vI (Int32.ofNat it), vI (cs1.getD it 0)] rfl rfl <| oinc Y4 21 rfl #[vR ab1, vI ((Int32.ofNat it) + (1 : Int32)), vR tb1, vI ((Int32.ofNat it) + (1 : Int32)), vI (Int32.ofNat nn), vI ((Int32.ofNat it) + (1 : Int32)), vI (cs1.getD it 0)] rfl rfl <| ogt 3 Y4 22 rfl rfl ?_
    refine og T4 m 3 #[vR ab1, vI (Int32.ofNat (it + 1)), vR tb1, vI (Int32.ofNat (it + 1)), vI (Int32.ofNat nn), vI (Int32.ofNat (it + 1)), vI (cs1.getD it 0)] [] (fun tgt kgo => castTop (by rw [(own_add1 it)]) kgo) ?_
    exact ih1 (it + 1) (vs2.set it (.int (nar .byte (cs1.getD it 0)))) (vI (cs1.getD it 0)) T4 h4 _ X4 e4 Ol4 K4 N4 F4_3 V4' (Or.inr ⟨_, rfl, rfl⟩) (by omega) (by rw [List.length_set]; exact hvl) (own_lb_next hlb (by omega) (by omega) (own_all_at hnn hall hlt)) (by omega)
   have hge : it = nn := Nat.le_antisymm hle (Nat.le_of_not_lt fun q => cc2 ((own_ltN (by omega) (by omega)).mpr q))
   refine ocy 44 Y1 4 rfl rfl (flt cc2).2.1 <| oil Y1 23 rfl rfl ?_
   exact orI X1 Y1 hlk Bd.returns 24 rfl (by decide) (by decide) e1 ⟨vs2, rfl, N1, K1, F1_2, (own_lb_all hnn hge hlb), hvl⟩
 exact lp3 (nn - 0 + 1) 0 vs1 .unset s₁ h0 _ X0 e0 X00 K0 N0 f0 f1 (Or.inl rfl) (Nat.zero_le _) hv1 (own_lb_nil (by omega)) (Nat.lt_succ_self _)
def Q_nbl (Z : State) (nn : Nat) : OwnP := fun h0 n0 v h L => v = some (.int (Int32.ofNat (2 * nn))) ∧ Fr n0 L ∧ h = h0
def ll11 : List (Nat × Instr × Nat) := [(0, .iload_n 0, 1), (1, .ifCond .ge 11, 3), (12, .iload_n 0, 1), (13, .ldc 20, 2), (15, .if_icmp .lt 40, 3), (55, .iload_n 0, 1), (56, .iconst 1, 1), (57, .ishl, 1), (58, .ireturn, 1)]
theorem dl11 : OwnDec jdk_52_method_3_code ll11 := by decide +kernel
theorem rm_nbl (Gl : OwnGl Z a0 wG1 wG3) (X00 : Old Z n0 h0) (nn : Nat) (hn3 : nn ≤ 300) : OwnM l Z mN11 jdk_52_method_3_code 1 (some .int) (oR 0 0 0 0) #[(.int (Int32.ofNat nn))] h0 (Q_nbl Z nn h0 n0) := by
 refine own_in (plainFor_of_name pn_68381282) dl11 #[vI (Int32.ofNat nn)] (oE rfl) ?_
 intro p e s m below meth c s₁ Bd hml hZ X0 e0 hx hlk Y0 hown
 obtain ⟨hw, cx, hEL⟩ := id Gl
 have wT := oww hw
 have N0 := Fr.nil n0
 refine oiN Y0 0 rfl rfl <| oify 12 Y0 1 rfl rfl ((if0 _ _).trans (flt (own_nat (by omega)).2.1).2.1) <| oiN Y0 2 rfl rfl ?_
 refine og s₁ m 15 #[vI (Int32.ofNat nn)] [(.int 1073741823), (.int (Int32.ofNat nn))] (fun tgt kgo => ?_) ?_
 ·
  refine X0.ldcInt hx hown (mvT hZ (wT 246 rfl)) (g := (mkF m 13 #[vI (Int32.ofNat nn)] [(.int (Int32.ofNat nn))])) rfl (Y0.d 3 rfl) _ ?_
  exact kgo
 refine ocy 55 Y0 4 rfl rfl (tlt (own_lt_big (by omega))).1 <| oiN Y0 5 rfl rfl <| oic 1 Y0 6 rfl rfl <| oshl Y0 7 rfl ?_
 refine og s₁ m 58 #[vI (Int32.ofNat nn)] [(.int (Int32.ofNat (2 * nn)))] (fun tgt kgo => castTop (by rw [(own_shlN (j := nn) (by omega))]) kgo) ?_
 exact orI X0 Y0 hlk Bd.returns 8 rfl (by decide) (by decide) e0 ⟨rfl, N0, rfl⟩
def Q_nbf (Z : State) (nn : Nat) : OwnP := fun h0 n0 v h L => ∃ (t : Addr), ∃ (k : ClassId), v = some (.ref t) ∧ Fr n0 L ∧ Keep h0 h ([] : List Addr) ∧ h0.size ≤ t ∧ Arv Z h t k .byte (Int32.ofNat (2 * nn)) (List.replicate (2 * nn) (Value.int (0 : Int32))) (.int 0) ∧ Exa Z h t "[B"
def ll12 : List (Nat × Instr × Nat) := [(0, .iload_n 0, 1), (1, .invokestatic 11, 3), (4, .newarray .byte, 2), (6, .areturn, 1)]
theorem dl12 : OwnDec jdk_52_method_2_code ll12 := by decide +kernel
theorem pd_92649053 : parseMethodDescriptor "(I)I" = some ⟨[.int], some .int⟩ := by decide +kernel
theorem rm_nbf (Gl : OwnGl Z a0 wG1 wG3) (X00 : Old Z n0 h0) (nn : Nat) (hn3 : nn ≤ 300) : OwnM l Z mN12 jdk_52_method_2_code 1 (some (.array .byte)) (oR 1 1 600 12) #[(.int (Int32.ofNat nn))] h0 (Q_nbf Z nn h0 n0) := by
 refine own_in (plainFor_of_name pn_68381282) dl12 #[vI (Int32.ofNat nn)] (oE rfl) ?_
 intro p e s m below meth c s₁ Bd hml hZ X0 e0 hx hlk Y0 hown
 obtain ⟨hw, cx, hEL⟩ := id Gl
 have wT := oww hw
 have N0 := Fr.nil n0
 have K0 : Keep h0 h0 ([] : List Addr) := Keep.refl _ _
 refine oiN Y0 0 rfl rfl ?_
 refine oCS X0 Y0 hZ hml hown (wT 243 rfl) (wT 244 rfl) (wT 23 rfl) (wT 245 rfl) (rm_nbl Gl X00 nn hn3) e0 1 rfl 1 0 pd_92649053 rfl rfl rfl rfl (by decide +kernel) ?_
 intro v1 T1 L1 X1 Y1 hQ1
 obtain ⟨rfl, Nq1, eq1⟩ := hQ1
 show OwnH p e below _ T1 m _ _ [(.int (Int32.ofNat (2 * nn)))]
 have N1 := Fr.app N0 Nq1
 obtain ⟨T2, h2, k2, X2, e2, E2, A2, Be2, st2⟩ := newPE X1 hx hZ (wT 25 rfl) eq1 (g := (mkF m 4 #[vI (Int32.ofNat nn)] [(.int (Int32.ofNat (2 * nn)))])) rfl (Y0.d 2 rfl) rfl (own_nat (by omega)).2.1 (cap := 600) (by rw [(own_nat (n := 2 * nn) (by omega)).2.2]; omega) (by decide) (by decide) (by decide) (ad := "[B") (by decide)
 obtain ⟨b2, g2⟩ : ∃ z, z = h0.size := ⟨_, rfl⟩
 rw [← g2] at A2 Be2 st2
 refine og T2 m 6 #[vI (Int32.ofNat nn)] [(.ref b2)] st2 ?_
 have V2 : Arv Z h2 b2 k2 .byte (Int32.ofNat (2 * nn)) [] (.int 0) := Arv.new A2 (own_nat (by omega)).2.1
 have s_b2 : h0.size ≤ b2 := Nat.le_trans K0.1 (Nat.le_of_eq g2.symm)
 have K2 : Keep h0 h2 ([] : List Addr) := K0.ext E2
 have Vr3 : Arv Z h2 b2 k2 .byte (Int32.ofNat (2 * nn)) (List.replicate (2 * nn) (Value.int (0 : Int32))) (.int 0) := V2.pad (pad_rep [] (Value.int (0 : Int32)) (2 * nn))
 have Y2 := Y0.nx X2
 exact orA X2 Y2 hlk Bd.returns rfl rfl rfl 3 rfl (by decide) (by decide) e2 ⟨b2, k2, rfl, N1, K2, s_b2, Vr3, Be2⟩
def Q_tbw (Z : State) (ab1 : Addr) (kc : ClassId) (cs1 : List Int32) (nn : Nat) : OwnP := fun h0 n0 v h L => ∃ (t : Addr), ∃ (k : ClassId), ∃ (vs : List Value), v = some (.ref t) ∧ Fr n0 L ∧ Keep h0 h ([] : List Addr) ∧ h0.size ≤ t ∧ Arv Z h t k .byte (Int32.ofNat (2 * nn)) vs (.int 0) ∧ (OwnUB cs1 vs) ∧ (vs.length = 2 * nn)
def ll13 : List (Nat × Instr × Nat) := [(0, .iload_n 2, 1), (1, .invokestatic 107, 3), (4, .astore_n 3, 1), (5, .iconst 0, 1), (6, .istore 4, 2), (8, .iload 4, 2), (10, .iload_n 2, 1), (11, .if_icmp .ge 21, 3), (14, .aload_n 3, 1), (15, .iload 4, 2), (17, .aload_n 0, 1), (18, .iload_n 1, 1), (19, .caload, 1), (20, .invokestatic 111, 3), (23, .iinc 1 1, 3), (26, .iinc 4 1, 3), (29, .goto (-21), 3), (32, .aload_n 3, 1), (33, .areturn, 1)]
theorem dl13 : OwnDec jdk_52_method_14_code ll13 := by decide +kernel
theorem pd_63641379 : parseMethodDescriptor "(I)[B" = some ⟨[.int], some (.array .byte)⟩ := by decide +kernel
theorem pd_52952394 : parseMethodDescriptor "([BII)V" = some ⟨[(.array .byte), .int, .int], none⟩ := by decide +kernel
theorem rm_tbw (Gl : OwnGl Z a0 wG1 wG3) (X00 : Old Z n0 h0) (ab1 : Addr) (kc : ClassId) (cs1 : List Int32) (nn : Nat) (f0 : Arv Z h0 ab1 kc .char (Int32.ofNat nn) (cs1.map Value.int) (.int 0)) (hnn : cs1.length = nn) (hn3 : nn ≤ 300) (hrg : OwnRg cs1) : OwnM l Z mN13 jdk_52_method_14_code 5 (some (.array .byte)) (oR 2 1 600 24) #[(.ref ab1), (.int 0), (.int (Int32.ofNat nn))] h0 (Q_tbw Z ab1 kc cs1 nn h0 n0) := by
 refine own_in (plainFor_of_name pn_68381282) dl13 #[vR ab1, vI 0, vI (Int32.ofNat nn), vU, vU] (oE rfl) ?_
 intro p e s m below meth c s₁ Bd hml hZ X0 e0 hx hlk Y0 hown
 obtain ⟨hw, cx, hEL⟩ := id Gl
 have wT := oww hw
 have N0 := Fr.nil n0
 have Z0 : n0 ≤ h0.size := X00.1 ▸ X00.2.1
 have K0 : Keep h0 h0 ([] : List Addr) := Keep.refl _ _
 refine oiN Y0 0 rfl rfl ?_
 refine oCS X0 Y0 hZ hml hown (wT 328 rfl) (wT 241 rfl) (wT 23 rfl) (wT 242 rfl) (rm_nbf Gl X00 nn hn3) e0 1 rfl 1 0 pd_63641379 rfl rfl rfl rfl (by decide +kernel) ?_
 intro v1 T1 L1 X1 Y1 hQ1
 obtain ⟨t_1, k_1, rfl, Nq1, Kq1, zq1_0, fq1_0, fq1_1⟩ := hQ1
 show OwnH p e below _ T1 m _ _ [(.ref t_1)]
 have N1 := Fr.app N0 Nq1
 have ne_ab1_t_1 : ab1 ≠ t_1 := Nat.ne_of_lt (Nat.lt_of_lt_of_le f0.lt zq1_0)
 have g_t_1 : n0 ≤ t_1 := Nat.le_trans (Nat.le_trans Z0 K0.1) zq1_0
 have s_t_1 : h0.size ≤ t_1 := Nat.le_trans K0.1 zq1_0
 have F1_1 := f0.keep Kq1 nin0
 have Ol1 := X00.keep Kq1 all0
 have K1 : Keep h0 T1.heap ([] : List Addr) := K0.trans Kq1 all0
 refine oaS Y1 2 rfl #[vR ab1, vI 0, vI (Int32.ofNat nn), vR t_1, vU] rfl rfl <| oic 0 Y1 3 rfl rfl <| ois Y1 4 rfl #[vR ab1, vI 0, vI (Int32.ofNat nn), vR t_1, vI 0] rfl ?_
 have lp8 : ∀ (fu2 : Nat) (it : Nat) (vs2 : List Value) (T2 : State) (h2 : Heap) (L2 : List Loc) (X2 : Stand p l e (oR 2 1 600 24) s m #[(.ref ab1), (.int 0), (.int (Int32.ofNat nn))] below meth c T2 L2 1 600) (e2 : T2.heap = h2) (Ol2 : Old Z n0 h2) (K2 : Keep h0 h2 ([] : List Addr)) (N2 : Fr n0 L2) (F2_2 : Arv Z h2 ab1 kc .char (Int32.ofNat nn) (cs1.map Value.int) (.int 0)) (F2_3 : Arv Z h2 t_1 k_1 .byte (Int32.ofNat (2 * nn)) vs2 (.int 0)) (hle : it ≤ nn) (hvl : vs2.length = 2 * nn) (hub : OwnUB (cs1.take it) vs2) (hfu2 : nn - it < fu2), OwnGoes p e below (oG (Q_tbw Z ab1 kc cs1 nn h0 n0) s (oR 2 1 600 24)) T2 (mkF m 8 #[vR ab1, vI (Int32.ofNat it), vI (Int32.ofNat nn), vR t_1, vI (Int32.ofNat it)] []) := by
  intro fu2
  induction fu2 with
  | zero =>
   intro it vs2 T2 h2 L2 X2 e2 Ol2 K2 N2 F2_2 F2_3 hle hvl hub hfu2
   exact absurd hfu2 (Nat.not_lt_zero _)
  | succ fu2 ih2 =>
   intro it vs2 T2 h2 L2 X2 e2 Ol2 K2 N2 F2_2 F2_3 hle hvl hub hfu2
   have Y2 := Y0.nx X2
   refine oil Y2 5 rfl rfl <| oiN Y2 6 rfl rfl ?_
   by_cases cc3 : (Int32.ofNat it) < (Int32.ofNat nn)
   ·
    have hlt : it < nn := (own_ltN (by omega) (by omega)).mp cc3
    refine ocn Y2 7 rfl (tlt cc3).2.1 <| oaN Y2 8 rfl rfl rfl <| oil Y2 9 rfl rfl <| oaN Y2 10 rfl rfl rfl <| oiN Y2 11 rfl rfl <| ocal X2 Y2 hZ e2 F2_2 12 rfl (own_map_nn hnn hn3 hlt).1 (own_map_nn hnn hn3 hlt).2 ?_
    refine oCS X2 Y2 hZ hml hown (wT 265 rfl) (wT 266 rfl) (wT 23 rfl) (wT 267 rfl) (rm_u16put Gl Ol2 t_1 k_1 (Int32.ofNat (2 * nn)) vs2 (Int32.ofNat it) (cs1.getD it 0) (2 * it) F2_3 g_t_1 (own_put_it hnn hvl (by omega) hlt)) e2 13 rfl 3 0 pd_52952394 rfl rfl rfl rfl (by decide +kernel) ?_
    intro v5 T5 L5 X5 Y5 hQ5
    obtain ⟨rfl, Nq5, Kq5, fq5_0⟩ := hQ5
    show OwnH p e below _ T5 m _ _ []
    have N5 := Fr.app N2 Nq5
    have F5_4 := F2_2.keep Kq5 (ninS ne_ab1_t_1 nin0)
    have Ol5 := Ol2.keep Kq5 (allS g_t_1 all0)
    have K5 : Keep h0 T5.heap ([] : List Addr) := K2.trans Kq5 (allS (Or.inr s_t_1) all0)
    refine oinc Y5 14 rfl #[vR ab1, vI ((Int32.ofNat it) + (1 : Int32)), vI (Int32.ofNat nn), vR t_1, vI (Int32.ofNat it)] rfl rfl <| oinc Y5 15 rfl #[vR ab1, vI ((Int32.ofNat it) + (1 : Int32)), vI (Int32.ofNat nn), vR t_1, vI ((Int32.ofNat it) + (1 : Int32))] rfl rfl <| ogt 8 Y5 16 rfl rfl ?_
    refine og T5 m 8 #[vR ab1, vI (Int32.ofNat (it + 1)), vI (Int32.ofNat nn), vR t_1, vI (Int32.ofNat (it + 1))] [] (fun tgt kgo => castTop (by rw [(own_add1 it)]) kgo) ?_
    exact ih2 (it + 1) ((vs2.set (2 * it) (.int (nar .byte (cs1.getD it 0)))).set ((2 * it) + 1) (.int (nar .byte ((cs1.getD it 0) >>> ((8 : Int32) &&& 31))))) T5 T5.heap _ X5 rfl Ol5 K5 N5 F5_4 fq5_0 (by omega) (by rw [List.length_set, List.length_set]; exact hvl) (own_ub_next hub (by omega) (by omega)) (by omega)
   have hge : it = nn := Nat.le_antisymm hle (Nat.le_of_not_lt fun q => cc3 ((own_ltN (by omega) (by omega)).mpr q))
   refine ocy 32 Y2 7 rfl rfl (flt cc3).2.1 <| oaN Y2 17 rfl rfl rfl ?_
   exact orA X2 Y2 hlk Bd.returns rfl rfl rfl 18 rfl (by decide) (by decide) e2 ⟨t_1, k_1, vs2, rfl, N2, K2, s_t_1, F2_3, (own_ub_all hnn hge hub), hvl⟩
 exact lp8 (nn - 0 + 1) 0 (List.replicate (2 * nn) (Value.int (0 : Int32))) T1 T1.heap _ X1 rfl Ol1 K1 N1 F1_1 fq1_0 (Nat.zero_le _) (List.length_replicate ..) (own_ub0 _) (Nat.lt_succ_self _)
def Q_c3w (Z : State) (ab1 : Addr) (kc : ClassId) (cs1 : List Int32) (nn : Nat) : OwnP := fun h0 n0 v h L => ∃ (t : Addr), ∃ (k : ClassId), ∃ (vs : List Value), v = some (.ref t) ∧ Fr n0 L ∧ Keep h0 h ([] : List Addr) ∧ h0.size ≤ t ∧ Arv Z h t k .byte (Int32.ofNat (2 * nn)) vs (.int 0) ∧ (OwnStr cs1 (1 : Int32) (Int32.ofNat (2 * nn)) vs)
def ll14 : List (Nat × Instr × Nat) := [(0, .iload_n 2, 1), (1, .newarray .byte, 2), (3, .astore_n 3, 1), (4, .aload_n 0, 1), (5, .iload_n 1, 1), (6, .aload_n 3, 1), (7, .iconst 0, 1), (8, .iload_n 2, 1), (9, .invokestatic 115, 3), (12, .istore 4, 2), (14, .iload 4, 2), (16, .iload_n 2, 1), (17, .if_icmp .eq 40, 3), (20, .aload_n 0, 1), (21, .iload_n 1, 1), (22, .iload_n 2, 1), (23, .invokestatic 119, 3), (26, .astore 5, 2), (28, .aload 5, 2), (30, .iload 4, 2), (32, .invokestatic 71, 3), (35, .sipush 255, 3), (38, .if_icmp .gt 16, 3), (54, .aload 5, 2), (56, .areturn, 1), (57, .aload_n 3, 1), (58, .areturn, 1)]
theorem dl14 : OwnDec jdk_52_method_16_code ll14 := by decide +kernel
theorem pd_51558503 : parseMethodDescriptor "([CI[BII)I" = some ⟨[(.array .char), .int, (.array .byte), .int, .int], some .int⟩ := by decide +kernel
theorem pd_23256262 : parseMethodDescriptor "([CII)[B" = some ⟨[(.array .char), .int, .int], some (.array .byte)⟩ := by decide +kernel
theorem rm_c3w (Gl : OwnGl Z a0 wG1 wG3) (X00 : Old Z n0 h0) (ab1 : Addr) (kc : ClassId) (cs1 : List Int32) (nn : Nat) (f0 : Arv Z h0 ab1 kc .char (Int32.ofNat nn) (cs1.map Value.int) (.int 0)) (hnn : cs1.length = nn) (hn3 : nn ≤ 300) (hrg : OwnRg cs1) (hex : ∃ c ∈ cs1, (255 : Int32) < c) : OwnM l Z mN14 jdk_52_method_16_code 6 (some (.array .byte)) (oR 3 2 900 40) #[(.ref ab1), (.int 0), (.int (Int32.ofNat nn))] h0 (Q_c3w Z ab1 kc cs1 nn h0 n0) := by
 refine own_in (plainFor_of_name pn_68381282) dl14 #[vR ab1, vI 0, vI (Int32.ofNat nn), vU, vU, vU] (oE rfl) ?_
 intro p e s m below meth c s₁ Bd hml hZ X0 e0 hx hlk Y0 hown
 obtain ⟨hw, cx, hEL⟩ := id Gl
 have wT := oww hw
 have N0 := Fr.nil n0
 have Z0 : n0 ≤ h0.size := X00.1 ▸ X00.2.1
 have K0 : Keep h0 h0 ([] : List Addr) := Keep.refl _ _
 refine oiN Y0 0 rfl rfl ?_
 obtain ⟨T1, h1, k1, X1, e1, E1, A1, st1⟩ := newP X0 hx hZ (wT 25 rfl) e0 (g := (mkF m 1 #[vR ab1, vI 0, vI (Int32.ofNat nn), vU, vU, vU] [(.int (Int32.ofNat nn))])) rfl (Y0.d 1 rfl) rfl (own_nat (by omega)).2.1 (cap := 300) (by rw [(own_nat (n := nn) (by omega)).2.2]; omega) (by decide) (by decide) (by decide)
 obtain ⟨b1, g1⟩ : ∃ z, z = h0.size := ⟨_, rfl⟩
 rw [← g1] at A1 st1
 refine og T1 m 3 #[vR ab1, vI 0, vI (Int32.ofNat nn), vU, vU, vU] [(.ref b1)] st1 ?_
 have V1 : Arv Z h1 b1 k1 .byte (Int32.ofNat nn) [] (.int 0) := Arv.new A1 (own_nat (by omega)).2.1
 have ne_ab1_b1 : ab1 ≠ b1 := Nat.ne_of_lt (Nat.lt_of_lt_of_le f0.lt (Nat.le_of_eq g1.symm))
 have g_b1 : n0 ≤ b1 := Nat.le_trans (Nat.le_trans Z0 K0.1) (Nat.le_of_eq g1.symm)
 have s_b1 : h0.size ≤ b1 := Nat.le_trans K0.1 (Nat.le_of_eq g1.symm)
 have F1_1 := f0.ext E1
 have Ol1 := X00.ext E1
 have K1 : Keep h0 h1 ([] : List Addr) := K0.ext E1
 have Vr2 : Arv Z h1 b1 k1 .byte (Int32.ofNat nn) (List.replicate nn (Value.int (0 : Int32))) (.int 0) := V1.pad (pad_rep [] (Value.int (0 : Int32)) nn)
 have Y1 := Y0.nx X1
 refine oaS Y1 2 rfl #[vR ab1, vI 0, vI (Int32.ofNat nn), vR b1, vU, vU] rfl rfl <| oaN Y1 3 rfl rfl rfl <| oiN Y1 4 rfl rfl <| oaN Y1 5 rfl rfl rfl <| oic 0 Y1 6 rfl rfl <| oiN Y1 7 rfl rfl ?_
 refine oCS X1 Y1 hZ hml hown (wT 26 rfl) (wT 27 rfl) (wT 23 rfl) (wT 28 rfl) (rm_c5w Gl Ol1 ab1 kc cs1 nn b1 k1 (List.replicate nn (Value.int (0 : Int32))) F1_1 Vr2 g_b1 hnn hn3 hrg (List.length_replicate ..) hex) e1 8 rfl 5 0 pd_51558503 rfl rfl rfl rfl (by decide +kernel) ?_
 intro v3 T3 L3 X3 Y3 hQ3
 obtain ⟨r_3, rfl, Nq3, Kq3, pq3_0, pq3_1⟩ := hQ3
 show OwnH p e below _ T3 m _ _ [(.int (Int32.ofNat r_3))]
 have N3 := Fr.app N0 Nq3
 have F3_2 := F1_1.keep Kq3 (ninS ne_ab1_b1 nin0)
 have Ol3 := Ol1.keep Kq3 (allS g_b1 all0)
 have K3 : Keep h0 T3.heap ([] : List Addr) := K1.trans Kq3 (allS (Or.inr s_b1) all0)
 refine ois Y3 9 rfl #[vR ab1, vI 0, vI (Int32.ofNat nn), vR b1, vI (Int32.ofNat r_3), vU] rfl <| oil Y3 10 rfl rfl <| oiN Y3 11 rfl rfl <| ocn Y3 12 rfl (feq (fun q => absurd (own_ofN (by have := pq3_0; omega) (by omega) q) (by have := pq3_0; omega))).1 <| oaN Y3 13 rfl rfl rfl <| oiN Y3 14 rfl rfl <| oiN Y3 15 rfl rfl ?_
 refine oCS X3 Y3 hZ hml hown (wT 325 rfl) (wT 326 rfl) (wT 23 rfl) (wT 327 rfl) (rm_tbw Gl Ol3 ab1 kc cs1 nn F3_2 hnn hn3 hrg) rfl 16 rfl 3 0 pd_23256262 rfl rfl rfl rfl (by decide +kernel) ?_
 intro v4 T4 L4 X4 Y4 hQ4
 obtain ⟨t_4, k_4, vs_4, rfl, Nq4, Kq4, zq4_0, fq4_0, pq4_0, pq4_1⟩ := hQ4
 show OwnH p e below _ T4 m _ _ [(.ref t_4)]
 have N4 := Fr.app N3 Nq4
 have s_t_4 : h0.size ≤ t_4 := Nat.le_trans K3.1 zq4_0
 have Ol4 := Ol3.keep Kq4 all0
 have K4 : Keep h0 T4.heap ([] : List Addr) := K3.trans Kq4 all0
 refine oas Y4 17 rfl #[vR ab1, vI 0, vI (Int32.ofNat nn), vR b1, vI (Int32.ofNat r_3), vR t_4] rfl rfl <| oal Y4 18 rfl rfl rfl <| oil Y4 19 rfl rfl ?_
 refine oCS X4 Y4 hZ hml hown (wT 285 rfl) (wT 286 rfl) (wT 23 rfl) (wT 287 rfl) (rm_u16get Gl Ol4 t_4 k_4 (Int32.ofNat (2 * nn)) vs_4 (Int32.ofNat r_3) (cs1.getD r_3 0) fq4_0 (own_ub_get hrg pq4_0 pq4_1 (by omega) (by have := pq3_0; omega))) rfl 20 rfl 2 0 pd_30427418 rfl rfl rfl rfl (by decide +kernel) ?_
 intro v5 T5 L5 X5 Y5 hQ5
 obtain ⟨rfl, Nq5, eq5⟩ := hQ5
 show OwnH p e below _ T5 m _ _ [(.int (cs1.getD r_3 0))]
 have N5 := Fr.app N4 Nq5
 refine osp 255 Y5 21 rfl rfl <| ocy 54 Y5 22 rfl rfl (tlt pq3_1).2.2.1 <| oal Y5 23 rfl rfl rfl ?_
 exact orA X5 Y5 hlk Bd.returns rfl rfl rfl 24 rfl (by decide) (by decide) eq5 ⟨t_4, k_4, vs_4, rfl, N5, K4, s_t_4, fq4_0, (own_str_ub hnn hn3 hrg pq4_0 pq4_1 hex)⟩
def Q_c3l (Z : State) (ab1 : Addr) (kc : ClassId) (cs1 : List Int32) (nn : Nat) : OwnP := fun h0 n0 v h L => ∃ (t : Addr), ∃ (k : ClassId), ∃ (vs : List Value), v = some (.ref t) ∧ Fr n0 L ∧ Keep h0 h ([] : List Addr) ∧ h0.size ≤ t ∧ Arv Z h t k .byte (Int32.ofNat nn) vs (.int 0) ∧ (OwnStr cs1 (0 : Int32) (Int32.ofNat nn) vs)
theorem rm_c3l (Gl : OwnGl Z a0 wG1 wG3) (X00 : Old Z n0 h0) (ab1 : Addr) (kc : ClassId) (cs1 : List Int32) (nn : Nat) (f0 : Arv Z h0 ab1 kc .char (Int32.ofNat nn) (cs1.map Value.int) (.int 0)) (hnn : cs1.length = nn) (hn3 : nn ≤ 300) (hrg : OwnRg cs1) (hall : ∀ c ∈ cs1, ¬ (255 : Int32) < c) : OwnM l Z mN14 jdk_52_method_16_code 6 (some (.array .byte)) (oR 1 1 300 18) #[(.ref ab1), (.int 0), (.int (Int32.ofNat nn))] h0 (Q_c3l Z ab1 kc cs1 nn h0 n0) := by
 refine own_in (plainFor_of_name pn_68381282) dl14 #[vR ab1, vI 0, vI (Int32.ofNat nn), vU, vU, vU] (oE rfl) ?_
 intro p e s m below meth c s₁ Bd hml hZ X0 e0 hx hlk Y0 hown
 obtain ⟨hw, cx, hEL⟩ := id Gl
 have wT := oww hw
 have N0 := Fr.nil n0
 have Z0 : n0 ≤ h0.size := X00.1 ▸ X00.2.1
 have K0 : Keep h0 h0 ([] : List Addr) := Keep.refl _ _
 refine oiN Y0 0 rfl rfl ?_
 obtain ⟨T1, h1, k1, X1, e1, E1, A1, st1⟩ := newP X0 hx hZ (wT 25 rfl) e0 (g := (mkF m 1 #[vR ab1, vI 0, vI (Int32.ofNat nn), vU, vU, vU] [(.int (Int32.ofNat nn))])) rfl (Y0.d 1 rfl) rfl (own_nat (by omega)).2.1 (cap := 300) (by rw [(own_nat (n := nn) (by omega)).2.2]; omega) (by decide) (by decide) (by decide)
 obtain ⟨b1, g1⟩ : ∃ z, z = h0.size := ⟨_, rfl⟩
 rw [← g1] at A1 st1
 refine og T1 m 3 #[vR ab1, vI 0, vI (Int32.ofNat nn), vU, vU, vU] [(.ref b1)] st1 ?_
 have V1 : Arv Z h1 b1 k1 .byte (Int32.ofNat nn) [] (.int 0) := Arv.new A1 (own_nat (by omega)).2.1
 have g_b1 : n0 ≤ b1 := Nat.le_trans (Nat.le_trans Z0 K0.1) (Nat.le_of_eq g1.symm)
 have s_b1 : h0.size ≤ b1 := Nat.le_trans K0.1 (Nat.le_of_eq g1.symm)
 have F1_1 := f0.ext E1
 have Ol1 := X00.ext E1
 have K1 : Keep h0 h1 ([] : List Addr) := K0.ext E1
 have Vr2 : Arv Z h1 b1 k1 .byte (Int32.ofNat nn) (List.replicate nn (Value.int (0 : Int32))) (.int 0) := V1.pad (pad_rep [] (Value.int (0 : Int32)) nn)
 have Y1 := Y0.nx X1
 refine oaS Y1 2 rfl #[vR ab1, vI 0, vI (Int32.ofNat nn), vR b1, vU, vU] rfl rfl <| oaN Y1 3 rfl rfl rfl <| oiN Y1 4 rfl rfl <| oaN Y1 5 rfl rfl rfl <| oic 0 Y1 6 rfl rfl <| oiN Y1 7 rfl rfl ?_
 refine oCS X1 Y1 hZ hml hown (wT 26 rfl) (wT 27 rfl) (wT 23 rfl) (wT 28 rfl) (rm_c5l Gl Ol1 ab1 kc cs1 nn b1 k1 (List.replicate nn (Value.int (0 : Int32))) F1_1 Vr2 g_b1 hnn hn3 hrg (List.length_replicate ..) hall) e1 8 rfl 5 0 pd_51558503 rfl rfl rfl rfl (by decide +kernel) ?_
 intro v3 T3 L3 X3 Y3 hQ3
 obtain ⟨vs_3, rfl, Nq3, Kq3, fq3_0, pq3_0, pq3_1⟩ := hQ3
 show OwnH p e below _ T3 m _ _ [(.int (Int32.ofNat nn))]
 have N3 := Fr.app N0 Nq3
 have K3 : Keep h0 T3.heap ([] : List Addr) := K1.trans Kq3 (allS (Or.inr s_b1) all0)
 refine ois Y3 9 rfl #[vR ab1, vI 0, vI (Int32.ofNat nn), vR b1, vI (Int32.ofNat nn), vU] rfl <| oil Y3 10 rfl rfl <| oiN Y3 11 rfl rfl <| ocy 57 Y3 12 rfl rfl (teq (rfl : (Int32.ofNat nn) = (Int32.ofNat nn))).1 <| oaN Y3 25 rfl rfl rfl ?_
 exact orA X3 Y3 hlk Bd.returns rfl rfl rfl 26 rfl (by decide) (by decide) rfl ⟨b1, k1, vs_3, rfl, N3, K3, s_b1, fq3_0, (own_str_lb hnn hn3 hrg pq3_0 pq3_1 hall)⟩
def Q_cfl0 (Z : State) (tb1 : Addr) (kb1 : ClassId) (vs1 : List Value) (ln1 : Nat) : OwnP := fun h0 n0 v h L => v = some (.int 0) ∧ Fr n0 L ∧ h = h0
def ll15 : List (Nat × Instr × Nat) := [(0, .iload_n 1, 1), (1, .aload_n 0, 1), (2, .arraylength, 1), (3, .isub, 1), (4, .bipush 31, 2), (6, .iushr, 1), (7, .i2b, 1), (8, .ireturn, 1)]
theorem dl15 : OwnDec jdk_52_method_15_code ll15 := by decide +kernel
theorem rm_cfl0 (Gl : OwnGl Z a0 wG1 wG3) (X00 : Old Z n0 h0) (tb1 : Addr) (kb1 : ClassId) (vs1 : List Value) (ln1 : Nat) (f0 : Arv Z h0 tb1 kb1 .byte (Int32.ofNat ln1) vs1 (.int 0)) : OwnM l Z mN15 jdk_52_method_15_code 2 (some .byte) (oR 0 0 0 0) #[(.ref tb1), (.int (Int32.ofNat ln1))] h0 (Q_cfl0 Z tb1 kb1 vs1 ln1 h0 n0) := by
 refine own_in (plainFor_of_name pn_68381282) dl15 #[vR tb1, vI (Int32.ofNat ln1)] (oE rfl) ?_
 intro p e s m below meth c s₁ Bd hml hZ X0 e0 hx hlk Y0 hown
 have N0 := Fr.nil n0
 refine oiN Y0 0 rfl rfl <| oaN Y0 1 rfl rfl rfl <| olen X0 Y0 hZ e0 f0 2 rfl <| osub Y0 3 rfl <| obp 31 Y0 4 rfl rfl <| ousr Y0 5 rfl <| oi2b Y0 6 rfl ?_
 refine og s₁ m 8 #[vR tb1, vI (Int32.ofNat ln1)] [(.int 0)] (fun tgt kgo => castTop (by rw [(own_cfl0 _)]) kgo) ?_
 exact orN X0 Y0 hlk Bd.returns (by simp) 7 rfl ((by decide : nar .byte (0 : Int32) = (0 : Int32))) (by decide) (by decide) e0 ⟨rfl, N0, rfl⟩
def Q_cflA (Z : State) (tb1 : Addr) (kb1 : ClassId) (vs1 : List Value) (ln1 : Nat) : OwnP := fun h0 n0 v h L => v = some (.int 1) ∧ Fr n0 L ∧ h = h0
theorem rm_cflA (Gl : OwnGl Z a0 wG1 wG3) (X00 : Old Z n0 h0) (tb1 : Addr) (kb1 : ClassId) (vs1 : List Value) (ln1 : Nat) (f0 : Arv Z h0 tb1 kb1 .byte (Int32.ofNat (2 * ln1)) vs1 (.int 0)) (h0l : 0 < ln1) (hln : ln1 ≤ 300) : OwnM l Z mN15 jdk_52_method_15_code 2 (some .byte) (oR 0 0 0 0) #[(.ref tb1), (.int (Int32.ofNat ln1))] h0 (Q_cflA Z tb1 kb1 vs1 ln1 h0 n0) := by
 refine own_in (plainFor_of_name pn_68381282) dl15 #[vR tb1, vI (Int32.ofNat ln1)] (oE rfl) ?_
 intro p e s m below meth c s₁ Bd hml hZ X0 e0 hx hlk Y0 hown
 have N0 := Fr.nil n0
 refine oiN Y0 0 rfl rfl <| oaN Y0 1 rfl rfl rfl <| olen X0 Y0 hZ e0 f0 2 rfl <| osub Y0 3 rfl <| obp 31 Y0 4 rfl rfl <| ousr Y0 5 rfl <| oi2b Y0 6 rfl ?_
 refine og s₁ m 8 #[vR tb1, vI (Int32.ofNat ln1)] [(.int 1)] (fun tgt kgo => castTop (by rw [(own_cfl h0l hln)]) kgo) ?_
 exact orN X0 Y0 hlk Bd.returns (by simp) 7 rfl ((by decide : nar .byte (1 : Int32) = (1 : Int32))) (by decide) (by decide) e0 ⟨rfl, N0, rfl⟩
def Q_si6_0 (Z : State) (a1 : Addr) (ab1 : Addr) (kc : ClassId) (cs1 : List Int32) (nn : Nat) : OwnP := fun h0 n0 v h L => ∃ (t : Addr), ∃ (k : ClassId), ∃ (vs : List Value), v = none ∧ Fr n0 L ∧ Keep h0 h ([a1] : List Addr) ∧ h0.size ≤ t ∧ Exa Z h a1 "java/lang/String" ∧ Fld Z h a1 "java/lang/String" "value" "[B" (.ref t) ∧ Fld Z h a1 "java/lang/String" "coder" "B" (.int 0) ∧ Arv Z h t k .byte (Int32.ofNat nn) vs (.int 0) ∧ (OwnStr cs1 (0 : Int32) (Int32.ofNat nn) vs)
def ll16 : List (Nat × Instr × Nat) := [(0, .aload_n 0, 1), (1, .invokespecial 1, 3), (4, .iload_n 3, 1), (5, .ifCond .ne 22, 3), (27, .getstatic 38, 3), (30, .ifCond .eq 28, 3), (33, .aload_n 1, 1), (34, .iload_n 2, 1), (35, .iload_n 3, 1), (36, .invokestatic 177, 3), (39, .astore 5, 2), (41, .aload_n 0, 1), (42, .aload 5, 2), (44, .iload_n 3, 1), (45, .invokestatic 47, 3), (48, .putfield 15, 3), (51, .aload_n 0, 1), (52, .aload 5, 2), (54, .putfield 9, 3), (57, .return_, 1)]
theorem dl16 : OwnDec jdk_42_method_149_code ll16 := by decide +kernel
theorem pd_68873100 : parseMethodDescriptor "([BI)B" = some ⟨[(.array .byte), .int], some .byte⟩ := by decide +kernel
theorem rm_si6_0 (Gl : OwnGl Z a0 wG1 wG3) (X00 : Old Z n0 h0) (a1 : Addr) (ab1 : Addr) (kc : ClassId) (cs1 : List Int32) (nn : Nat) (f0 : Exa Z h0 a1 "java/lang/String") (f1 : Fld Z h0 a1 "java/lang/String" "value" "[B" .null) (f2 : Fld Z h0 a1 "java/lang/String" "coder" "B" (.int 0)) (f3 : n0 ≤ a1) (f4 : Arv Z h0 ab1 kc .char (Int32.ofNat nn) (cs1.map Value.int) (.int 0)) (hnn : cs1.length = nn) (hn3 : nn ≤ 300) (hrg : OwnRg cs1) (h0l : 0 < nn) (hall : ∀ c ∈ cs1, ¬ (255 : Int32) < c) : OwnM l Z mN16 jdk_42_method_149_code 6 none (oR 2 1 300 35) #[(.ref a1), (.ref ab1), (.int 0), (.int (Int32.ofNat nn)), .null] h0 (Q_si6_0 Z a1 ab1 kc cs1 nn h0 n0) := by
 refine own_in (plainFor_of_name pn_52039224) dl16 #[vR a1, vR ab1, vI 0, vI (Int32.ofNat nn), .val .null, vU] (oE rfl) ?_
 intro p e s m below meth c s₁ Bd hml hZ X0 e0 hx hlk Y0 hown
 obtain ⟨hw, cx, hEL⟩ := id Gl
 have wT := oww hw
 obtain ⟨wO2, wP5, wO4, wrG3, hstr, wUA, wUH, wUL⟩ := id cx
 have hnm := (name_of_methodNamed Bd.named Bd.method).1
 have N0 := Fr.nil n0
 have K0 : Keep h0 h0 ([a1] : List Addr) := Keep.refl _ _
 refine oaN Y0 0 rfl rfl rfl ?_
 obtain ⟨T1, X1, e1, st1⟩ := initO X0 hx hZ hown (wT 17 rfl) (wT 18 rfl) (wT 19 rfl) e0 (g := (mkF m 1 #[vR a1, vR ab1, vI 0, vI (Int32.ofNat nn), .val .null, vU] [(.ref a1)])) rfl (by rw [hml]; rfl) rfl (Y0.d 1 rfl) (by decide) (W := 0) (Nat.le_of_eq rfl) (by decide)
 refine og T1 m 4 #[vR a1, vR ab1, vI 0, vI (Int32.ofNat nn), .val .null, vU] [] st1 ?_
 have Y1 := Y0.nx X1
 refine oiN Y1 2 rfl rfl <| oify 27 Y1 3 rfl rfl ((if0 _ _).trans (feq (fun q => absurd (own_ofN (b := 0) (by omega) (by decide) q) (by omega))).2) ?_
 refine oGS X1 Y1 hZ hown (wT 20 rfl) Via.refl e1 (wO2.ext X00.2) 4 rfl ?_
 intro T2 X2 Y2 e2
 refine oifn Y2 5 rfl ((if0 _ _).trans (feq wP5).1) <| oaN Y2 6 rfl rfl rfl <| oiN Y2 7 rfl rfl <| oiN Y2 8 rfl rfl ?_
 refine oCS X2 Y2 hZ hml hown (wT 21 rfl) (wT 22 rfl) (wT 23 rfl) (wT 24 rfl) (rm_c3l Gl X00 ab1 kc cs1 nn f4 hnn hn3 hrg hall) e2 9 rfl 3 0 pd_23256262 rfl rfl rfl rfl (by decide +kernel) ?_
 intro v3 T3 L3 X3 Y3 hQ3
 obtain ⟨t_3, k_3, vs_3, rfl, Nq3, Kq3, zq3_0, fq3_0, pq3_0⟩ := hQ3
 show OwnH p e below _ T3 m _ _ [(.ref t_3)]
 have N3 := Fr.app N0 Nq3
 have ne_a1_t_3 : a1 ≠ t_3 := Nat.ne_of_lt (Nat.lt_of_lt_of_le f0.lt zq3_0)
 have s_t_3 : h0.size ≤ t_3 := Nat.le_trans K0.1 zq3_0
 have F3_1 := f0.keep Kq3
 have F3_2 := f1.keep Kq3 nin0
 have F3_3 := f2.keep Kq3 nin0
 have Ol3 := X00.keep Kq3 all0
 have K3 : Keep h0 T3.heap ([a1] : List Addr) := K0.trans Kq3 all0
 refine oas Y3 10 rfl #[vR a1, vR ab1, vI 0, vI (Int32.ofNat nn), .val .null, vR t_3] rfl rfl <| oaN Y3 11 rfl rfl rfl <| oal Y3 12 rfl rfl rfl <| oiN Y3 13 rfl rfl ?_
 refine oCS X3 Y3 hZ hml hown (wT 29 rfl) (wT 30 rfl) (wT 23 rfl) (wT 31 rfl) (rm_cfl0 Gl Ol3 t_3 k_3 vs_3 nn fq3_0) rfl 14 rfl 2 1 pd_68873100 rfl rfl rfl rfl (by decide +kernel) ?_
 intro v4 T4 L4 X4 Y4 hQ4
 obtain ⟨rfl, Nq4, eq4⟩ := hQ4
 show OwnH p e below _ T4 m _ _ [(.int 0), (.ref a1)]
 have N4 := Fr.app N3 Nq4
 obtain ⟨T5, h5, X5, e5, W5, st5⟩ := putFN X4 hx hZ hown (wT 32 rfl) Via.refl eq4 F3_3 F3_1 (Or.inr ⟨(wT 33 rfl), rfl, hnm⟩) (wT 8 rfl) (ty := .byte) (v' := (.int (nar .byte (0 : Int32)))) (by decide) rfl (fits_nar_byte _) (g := (mkF m 48 #[vR a1, vR ab1, vI 0, vI (Int32.ofNat nn), .val .null, vR t_3] [(.int 0), (.ref a1)])) rfl rfl (Y0.d 15 rfl)
 refine og T5 m 51 #[vR a1, vR ab1, vI 0, vI (Int32.ofNat nn), .val .null, vR t_3] [] st5 ?_
 have Fw5 := F3_3.same W5
 rw [(by decide : nar .byte (0 : Int32) = (0 : Int32))] at Fw5
 have F5_5 := F3_1.wr W5
 have F5_6 := F3_2.other W5 (Or.inr (slot_ne (Or.inr (wT 35 rfl)) (Or.inr (wT 33 rfl)) (by decide) (t := (.array .byte)) (t' := .byte) (by decide) (by decide)))
 have F5_8 := fq3_0.other W5 (Ne.symm ne_a1_t_3)
 have K5 : Keep h0 h5 ([a1] : List Addr) := K3.wr W5 (Or.inl (List.mem_of_getElem? (i := 0) rfl))
 have N5 := Fr.snoc X5 N4 f3
 have Y5 := Y0.nx X5
 refine oaN Y5 16 rfl rfl rfl <| oal Y5 17 rfl rfl rfl ?_
 obtain ⟨T6, h6, X6, e6, W6, st6⟩ := putF X5 hx hZ hown (host := "") (Or.inl (wT 34 rfl)) Via.refl e5 F5_6 F5_5 (Or.inr ⟨(wT 35 rfl), rfl, hnm⟩) (wT 8 rfl) (ty := (.array .byte)) (by decide) rfl rfl (g := (mkF m 54 #[vR a1, vR ab1, vI 0, vI (Int32.ofNat nn), .val .null, vR t_3] [(.ref t_3), (.ref a1)])) rfl rfl (Y0.d 18 rfl)
 refine og T6 m 57 #[vR a1, vR ab1, vI 0, vI (Int32.ofNat nn), .val .null, vR t_3] [] st6 ?_
 have Fw6 := F5_6.same W6
 have F6_9 := F5_5.wr W6
 have F6_10 := Fw5.other W6 (Or.inr (slot_ne (Or.inr (wT 33 rfl)) (Or.inr (wT 35 rfl)) (by decide) (t := .byte) (t' := (.array .byte)) (by decide) (by decide)))
 have F6_12 := F5_8.other W6 (Ne.symm ne_a1_t_3)
 have K6 : Keep h0 h6 ([a1] : List Addr) := K5.wr W6 (Or.inl (List.mem_of_getElem? (i := 0) rfl))
 have N6 := Fr.snoc X6 N5 f3
 have Y6 := Y0.nx X6
 exact orV X6 Y6 hlk Bd.returns 19 rfl (by decide) (by decide) e6 ⟨t_3, k_3, vs_3, rfl, N6, K6, s_t_3, F6_9, Fw6, F6_10, F6_12, pq3_0⟩
def Q_si2_0 (Z : State) (a1 : Addr) (ab1 : Addr) (kc : ClassId) (cs1 : List Int32) (nn : Nat) : OwnP := fun h0 n0 v h L => ∃ (t : Addr), ∃ (k : ClassId), ∃ (vs : List Value), v = none ∧ Fr n0 L ∧ Keep h0 h ([a1] : List Addr) ∧ h0.size ≤ t ∧ Exa Z h a1 "java/lang/String" ∧ Fld Z h a1 "java/lang/String" "value" "[B" (.ref t) ∧ Fld Z h a1 "java/lang/String" "coder" "B" (.int 0) ∧ Arv Z h t k .byte (Int32.ofNat nn) vs (.int 0) ∧ (OwnStr cs1 (0 : Int32) (Int32.ofNat nn) vs)
def ll17 : List (Nat × Instr × Nat) := [(0, .aload_n 0, 1), (1, .aload_n 1, 1), (2, .iconst 0, 1), (3, .aload_n 1, 1), (4, .arraylength, 1), (5, .aconst_null, 1), (6, .invokespecial 27, 3), (9, .return_, 1)]
theorem dl17 : OwnDec jdk_42_method_3_code ll17 := by decide +kernel
theorem pd_10261703 : parseMethodDescriptor "([CIILjava/lang/Void;)V" = some ⟨[(.array .char), .int, .int, (.object "java/lang/Void")], none⟩ := by decide +kernel
theorem rm_si2_0 (Gl : OwnGl Z a0 wG1 wG3) (X00 : Old Z n0 h0) (a1 : Addr) (ab1 : Addr) (kc : ClassId) (cs1 : List Int32) (nn : Nat) (f0 : Exa Z h0 a1 "java/lang/String") (f1 : Fld Z h0 a1 "java/lang/String" "value" "[B" .null) (f2 : Fld Z h0 a1 "java/lang/String" "coder" "B" (.int 0)) (f3 : n0 ≤ a1) (f4 : Arv Z h0 ab1 kc .char (Int32.ofNat nn) (cs1.map Value.int) (.int 0)) (hnn : cs1.length = nn) (hn3 : nn ≤ 300) (hrg : OwnRg cs1) (h0l : 0 < nn) (hall : ∀ c ∈ cs1, ¬ (255 : Int32) < c) : OwnM l Z mN17 jdk_42_method_3_code 2 none (oR 3 1 300 52) #[(.ref a1), (.ref ab1)] h0 (Q_si2_0 Z a1 ab1 kc cs1 nn h0 n0) := by
 refine own_in (plainFor_of_name pn_52039224) dl17 #[vR a1, vR ab1] (oE rfl) ?_
 intro p e s m below meth c s₁ Bd hml hZ X0 e0 hx hlk Y0 hown
 obtain ⟨hw, cx, hEL⟩ := id Gl
 have wT := oww hw
 have N0 := Fr.nil n0
 have K0 : Keep h0 h0 ([a1] : List Addr) := Keep.refl _ _
 refine oaN Y0 0 rfl rfl rfl <| oaN Y0 1 rfl rfl rfl <| oic 0 Y0 2 rfl rfl <| oaN Y0 3 rfl rfl rfl <| olen X0 Y0 hZ e0 f4 4 rfl <| onl Y0 5 rfl ?_
 obtain ⟨_, _, ⟨T2, L2, k2, n2⟩, -, X2, ⟨Lc2, hQ2, l2, y2, z2⟩, st2⟩ := X0.specialBack hx (y := mN16) rfl hown (mvT hZ (wT 13 rfl)) (mvT hZ (wT 14 rfl)) (mvT hZ (wT 16 rfl)) (by decide) (backOf (W := 0) (rm_si6_0 Gl X00 a1 ab1 kc cs1 nn f0 f1 f2 f3 f4 hnn hn3 hrg h0l hall) hZ (wT 16 rfl) (wT 9 rfl) (by decide) (by decide)) (g := (mkF m 6 #[vR a1, vR ab1] [.null, (.int (Int32.ofNat nn)), (.int 0), (.ref ab1), (.ref a1)])) rfl (by rw [hml]; rfl) (Steps.refl _) (a := a1) (argsL := [(.ref ab1), (.int 0), (.int (Int32.ofNat nn)), .null]) (rest := []) (lenOf pd_10261703 rfl) rfl (Nat.le_of_eq rfl) (Y0.d 6 rfl) (fun _ _ => ⟨rfl, e0, (by decide : 0 + 1 ≤ _), (by decide : 0 + 300 ≤ _)⟩)
 dsimp only [Pt.U, Pt.locs, Pt.cells, Pt.slots] at X2 l2 y2 z2 st2 hQ2
 subst l2 y2 z2
 obtain ⟨t_2, k_2, vs_2, rfl, Nq2, Kq2, zq2_0, fq2_0, fq2_1, fq2_2, fq2_3, pq2_0⟩ := hQ2
 refine OwnGoes.tr (T' := T2) (g' := (mkF m 9 #[vR a1, vR ab1] [])) st2 ?_
 have N2 := Fr.app N0 Nq2
 have s_t_2 : h0.size ≤ t_2 := Nat.le_trans K0.1 zq2_0
 have K2 : Keep h0 T2.heap ([a1] : List Addr) := K0.trans Kq2 (allS (Or.inl (List.mem_of_getElem? (i := 0) rfl)) all0)
 have Y2 := Y0.nx X2
 exact orV X2 Y2 hlk Bd.returns 7 rfl (by decide) (by decide) rfl ⟨t_2, k_2, vs_2, rfl, N2, K2, s_t_2, fq2_0, fq2_1, fq2_2, fq2_3, pq2_0⟩
def Q_si6_1 (Z : State) (a1 : Addr) (ab1 : Addr) (kc : ClassId) (cs1 : List Int32) (nn : Nat) : OwnP := fun h0 n0 v h L => ∃ (t : Addr), ∃ (k : ClassId), ∃ (vs : List Value), v = none ∧ Fr n0 L ∧ Keep h0 h ([a1] : List Addr) ∧ h0.size ≤ t ∧ Exa Z h a1 "java/lang/String" ∧ Fld Z h a1 "java/lang/String" "value" "[B" (.ref t) ∧ Fld Z h a1 "java/lang/String" "coder" "B" (.int 1) ∧ Arv Z h t k .byte (Int32.ofNat (2 * nn)) vs (.int 0) ∧ (OwnStr cs1 (1 : Int32) (Int32.ofNat (2 * nn)) vs)
theorem rm_si6_1 (Gl : OwnGl Z a0 wG1 wG3) (X00 : Old Z n0 h0) (a1 : Addr) (ab1 : Addr) (kc : ClassId) (cs1 : List Int32) (nn : Nat) (f0 : Exa Z h0 a1 "java/lang/String") (f1 : Fld Z h0 a1 "java/lang/String" "value" "[B" .null) (f2 : Fld Z h0 a1 "java/lang/String" "coder" "B" (.int 0)) (f3 : n0 ≤ a1) (f4 : Arv Z h0 ab1 kc .char (Int32.ofNat nn) (cs1.map Value.int) (.int 0)) (hnn : cs1.length = nn) (hn3 : nn ≤ 300) (hrg : OwnRg cs1) (h0l : 0 < nn) (hex : ∃ c ∈ cs1, (255 : Int32) < c) : OwnM l Z mN16 jdk_42_method_149_code 6 none (oR 4 2 900 57) #[(.ref a1), (.ref ab1), (.int 0), (.int (Int32.ofNat nn)), .null] h0 (Q_si6_1 Z a1 ab1 kc cs1 nn h0 n0) := by
 refine own_in (plainFor_of_name pn_52039224) dl16 #[vR a1, vR ab1, vI 0, vI (Int32.ofNat nn), .val .null, vU] (oE rfl) ?_
 intro p e s m below meth c s₁ Bd hml hZ X0 e0 hx hlk Y0 hown
 obtain ⟨hw, cx, hEL⟩ := id Gl
 have wT := oww hw
 obtain ⟨wO2, wP5, wO4, wrG3, hstr, wUA, wUH, wUL⟩ := id cx
 have hnm := (name_of_methodNamed Bd.named Bd.method).1
 have N0 := Fr.nil n0
 have K0 : Keep h0 h0 ([a1] : List Addr) := Keep.refl _ _
 refine oaN Y0 0 rfl rfl rfl ?_
 obtain ⟨T1, X1, e1, st1⟩ := initO X0 hx hZ hown (wT 17 rfl) (wT 18 rfl) (wT 19 rfl) e0 (g := (mkF m 1 #[vR a1, vR ab1, vI 0, vI (Int32.ofNat nn), .val .null, vU] [(.ref a1)])) rfl (by rw [hml]; rfl) rfl (Y0.d 1 rfl) (by decide) (W := 0) (Nat.le_of_eq rfl) (by decide)
 refine og T1 m 4 #[vR a1, vR ab1, vI 0, vI (Int32.ofNat nn), .val .null, vU] [] st1 ?_
 have Y1 := Y0.nx X1
 refine oiN Y1 2 rfl rfl <| oify 27 Y1 3 rfl rfl ((if0 _ _).trans (feq (fun q => absurd (own_ofN (b := 0) (by omega) (by decide) q) (by omega))).2) ?_
 refine oGS X1 Y1 hZ hown (wT 20 rfl) Via.refl e1 (wO2.ext X00.2) 4 rfl ?_
 intro T2 X2 Y2 e2
 refine oifn Y2 5 rfl ((if0 _ _).trans (feq wP5).1) <| oaN Y2 6 rfl rfl rfl <| oiN Y2 7 rfl rfl <| oiN Y2 8 rfl rfl ?_
 refine oCS X2 Y2 hZ hml hown (wT 21 rfl) (wT 22 rfl) (wT 23 rfl) (wT 24 rfl) (rm_c3w Gl X00 ab1 kc cs1 nn f4 hnn hn3 hrg hex) e2 9 rfl 3 0 pd_23256262 rfl rfl rfl rfl (by decide +kernel) ?_
 intro v3 T3 L3 X3 Y3 hQ3
 obtain ⟨t_3, k_3, vs_3, rfl, Nq3, Kq3, zq3_0, fq3_0, pq3_0⟩ := hQ3
 show OwnH p e below _ T3 m _ _ [(.ref t_3)]
 have N3 := Fr.app N0 Nq3
 have ne_a1_t_3 : a1 ≠ t_3 := Nat.ne_of_lt (Nat.lt_of_lt_of_le f0.lt zq3_0)
 have s_t_3 : h0.size ≤ t_3 := Nat.le_trans K0.1 zq3_0
 have F3_1 := f0.keep Kq3
 have F3_2 := f1.keep Kq3 nin0
 have F3_3 := f2.keep Kq3 nin0
 have Ol3 := X00.keep Kq3 all0
 have K3 : Keep h0 T3.heap ([a1] : List Addr) := K0.trans Kq3 all0
 refine oas Y3 10 rfl #[vR a1, vR ab1, vI 0, vI (Int32.ofNat nn), .val .null, vR t_3] rfl rfl <| oaN Y3 11 rfl rfl rfl <| oal Y3 12 rfl rfl rfl <| oiN Y3 13 rfl rfl ?_
 refine oCS X3 Y3 hZ hml hown (wT 29 rfl) (wT 30 rfl) (wT 23 rfl) (wT 31 rfl) (rm_cflA Gl Ol3 t_3 k_3 vs_3 nn fq3_0 h0l hn3) rfl 14 rfl 2 1 pd_68873100 rfl rfl rfl rfl (by decide +kernel) ?_
 intro v4 T4 L4 X4 Y4 hQ4
 obtain ⟨rfl, Nq4, eq4⟩ := hQ4
 show OwnH p e below _ T4 m _ _ [(.int 1), (.ref a1)]
 have N4 := Fr.app N3 Nq4
 obtain ⟨T5, h5, X5, e5, W5, st5⟩ := putFN X4 hx hZ hown (wT 32 rfl) Via.refl eq4 F3_3 F3_1 (Or.inr ⟨(wT 33 rfl), rfl, hnm⟩) (wT 8 rfl) (ty := .byte) (v' := (.int (nar .byte (1 : Int32)))) (by decide) rfl (fits_nar_byte _) (g := (mkF m 48 #[vR a1, vR ab1, vI 0, vI (Int32.ofNat nn), .val .null, vR t_3] [(.int 1), (.ref a1)])) rfl rfl (Y0.d 15 rfl)
 refine og T5 m 51 #[vR a1, vR ab1, vI 0, vI (Int32.ofNat nn), .val .null, vR t_3] [] st5 ?_
 have Fw5 := F3_3.same W5
 rw [(by decide : nar .byte (1 : Int32) = (1 : Int32))] at Fw5
 have F5_5 := F3_1.wr W5
 have F5_6 := F3_2.other W5 (Or.inr (slot_ne (Or.inr (wT 35 rfl)) (Or.inr (wT 33 rfl)) (by decide) (t := (.array .byte)) (t' := .byte) (by decide) (by decide)))
 have F5_8 := fq3_0.other W5 (Ne.symm ne_a1_t_3)
 have K5 : Keep h0 h5 ([a1] : List Addr) := K3.wr W5 (Or.inl (List.mem_of_getElem? (i := 0) rfl))
 have N5 := Fr.snoc X5 N4 f3
 have Y5 := Y0.nx X5
 refine oaN Y5 16 rfl rfl rfl <| oal Y5 17 rfl rfl rfl ?_
 obtain ⟨T6, h6, X6, e6, W6, st6⟩ := putF X5 hx hZ hown (host := "") (Or.inl (wT 34 rfl)) Via.refl e5 F5_6 F5_5 (Or.inr ⟨(wT 35 rfl), rfl, hnm⟩) (wT 8 rfl) (ty := (.array .byte)) (by decide) rfl rfl (g := (mkF m 54 #[vR a1, vR ab1, vI 0, vI (Int32.ofNat nn), .val .null, vR t_3] [(.ref t_3), (.ref a1)])) rfl rfl (Y0.d 18 rfl)
 refine og T6 m 57 #[vR a1, vR ab1, vI 0, vI (Int32.ofNat nn), .val .null, vR t_3] [] st6 ?_
 have Fw6 := F5_6.same W6
 have F6_9 := F5_5.wr W6
 have F6_10 := Fw5.other W6 (Or.inr (slot_ne (Or.inr (wT 33 rfl)) (Or.inr (wT 35 rfl)) (by decide) (t := .byte) (t' := (.array .byte)) (by decide) (by decide)))
 have F6_12 := F5_8.other W6 (Ne.symm ne_a1_t_3)
 have K6 : Keep h0 h6 ([a1] : List Addr) := K5.wr W6 (Or.inl (List.mem_of_getElem? (i := 0) rfl))
 have N6 := Fr.snoc X6 N5 f3
 have Y6 := Y0.nx X6
 exact orV X6 Y6 hlk Bd.returns 19 rfl (by decide) (by decide) e6 ⟨t_3, k_3, vs_3, rfl, N6, K6, s_t_3, F6_9, Fw6, F6_10, F6_12, pq3_0⟩
def Q_si2_1 (Z : State) (a1 : Addr) (ab1 : Addr) (kc : ClassId) (cs1 : List Int32) (nn : Nat) : OwnP := fun h0 n0 v h L => ∃ (t : Addr), ∃ (k : ClassId), ∃ (vs : List Value), v = none ∧ Fr n0 L ∧ Keep h0 h ([a1] : List Addr) ∧ h0.size ≤ t ∧ Exa Z h a1 "java/lang/String" ∧ Fld Z h a1 "java/lang/String" "value" "[B" (.ref t) ∧ Fld Z h a1 "java/lang/String" "coder" "B" (.int 1) ∧ Arv Z h t k .byte (Int32.ofNat (2 * nn)) vs (.int 0) ∧ (OwnStr cs1 (1 : Int32) (Int32.ofNat (2 * nn)) vs)
theorem rm_si2_1 (Gl : OwnGl Z a0 wG1 wG3) (X00 : Old Z n0 h0) (a1 : Addr) (ab1 : Addr) (kc : ClassId) (cs1 : List Int32) (nn : Nat) (f0 : Exa Z h0 a1 "java/lang/String") (f1 : Fld Z h0 a1 "java/lang/String" "value" "[B" .null) (f2 : Fld Z h0 a1 "java/lang/String" "coder" "B" (.int 0)) (f3 : n0 ≤ a1) (f4 : Arv Z h0 ab1 kc .char (Int32.ofNat nn) (cs1.map Value.int) (.int 0)) (hnn : cs1.length = nn) (hn3 : nn ≤ 300) (hrg : OwnRg cs1) (h0l : 0 < nn) (hex : ∃ c ∈ cs1, (255 : Int32) < c) : OwnM l Z mN17 jdk_42_method_3_code 2 none (oR 5 2 900 74) #[(.ref a1), (.ref ab1)] h0 (Q_si2_1 Z a1 ab1 kc cs1 nn h0 n0) := by
 refine own_in (plainFor_of_name pn_52039224) dl17 #[vR a1, vR ab1] (oE rfl) ?_
 intro p e s m below meth c s₁ Bd hml hZ X0 e0 hx hlk Y0 hown
 obtain ⟨hw, cx, hEL⟩ := id Gl
 have wT := oww hw
 have N0 := Fr.nil n0
 have K0 : Keep h0 h0 ([a1] : List Addr) := Keep.refl _ _
 refine oaN Y0 0 rfl rfl rfl <| oaN Y0 1 rfl rfl rfl <| oic 0 Y0 2 rfl rfl <| oaN Y0 3 rfl rfl rfl <| olen X0 Y0 hZ e0 f4 4 rfl <| onl Y0 5 rfl ?_
 obtain ⟨_, _, ⟨T2, L2, k2, n2⟩, -, X2, ⟨Lc2, hQ2, l2, y2, z2⟩, st2⟩ := X0.specialBack hx (y := mN16) rfl hown (mvT hZ (wT 13 rfl)) (mvT hZ (wT 14 rfl)) (mvT hZ (wT 16 rfl)) (by decide) (backOf (W := 0) (rm_si6_1 Gl X00 a1 ab1 kc cs1 nn f0 f1 f2 f3 f4 hnn hn3 hrg h0l hex) hZ (wT 16 rfl) (wT 9 rfl) (by decide) (by decide)) (g := (mkF m 6 #[vR a1, vR ab1] [.null, (.int (Int32.ofNat nn)), (.int 0), (.ref ab1), (.ref a1)])) rfl (by rw [hml]; rfl) (Steps.refl _) (a := a1) (argsL := [(.ref ab1), (.int 0), (.int (Int32.ofNat nn)), .null]) (rest := []) (lenOf pd_10261703 rfl) rfl (Nat.le_of_eq rfl) (Y0.d 6 rfl) (fun _ _ => ⟨rfl, e0, (by decide : 0 + 2 ≤ _), (by decide : 0 + 900 ≤ _)⟩)
 dsimp only [Pt.U, Pt.locs, Pt.cells, Pt.slots] at X2 l2 y2 z2 st2 hQ2
 subst l2 y2 z2
 obtain ⟨t_2, k_2, vs_2, rfl, Nq2, Kq2, zq2_0, fq2_0, fq2_1, fq2_2, fq2_3, pq2_0⟩ := hQ2
 refine OwnGoes.tr (T' := T2) (g' := (mkF m 9 #[vR a1, vR ab1] [])) st2 ?_
 have N2 := Fr.app N0 Nq2
 have s_t_2 : h0.size ≤ t_2 := Nat.le_trans K0.1 zq2_0
 have K2 : Keep h0 T2.heap ([a1] : List Addr) := K0.trans Kq2 (allS (Or.inl (List.mem_of_getElem? (i := 0) rfl)) all0)
 have Y2 := Y0.nx X2
 exact orV X2 Y2 hlk Bd.returns 7 rfl (by decide) (by decide) rfl ⟨t_2, k_2, vs_2, rfl, N2, K2, s_t_2, fq2_0, fq2_1, fq2_2, fq2_3, pq2_0⟩
def Q_asbi (Z : State) (sb : Addr) : OwnP := fun h0 n0 v h L => ∃ (vv : Addr), ∃ (k : ClassId), v = none ∧ Fr n0 L ∧ Keep h0 h ([sb] : List Addr) ∧ h0.size ≤ vv ∧ Exa Z h sb "java/lang/StringBuilder" ∧ Fld Z h sb "java/lang/AbstractStringBuilder" "value" "[B" (.ref vv) ∧ Fld Z h sb "java/lang/AbstractStringBuilder" "coder" "B" (.int 0) ∧ Fld Z h sb "java/lang/AbstractStringBuilder" "count" "I" (.int 0) ∧ Fld Z h sb "java/lang/AbstractStringBuilder" "maybeLatin1" "Z" (.int 0) ∧ Arv Z h vv k .byte (240 : Int32) (List.replicate 240 (Value.int (0 : Int32))) (.int 0) ∧ Exa Z h vv "[B"
theorem pn_24045714 : plainName "java/lang/AbstractStringBuilder" = true := by first | (simp [plainName, overriddenIn]; done) | decide +kernel
def ll18 : List (Nat × Instr × Nat) := [(0, .aload_n 0, 1), (1, .invokespecial 3, 3), (4, .getstatic 18, 3), (7, .ifCond .eq 18, 3), (10, .aload_n 0, 1), (11, .iload_n 1, 1), (12, .newarray .byte, 2), (14, .putfield 15, 3), (17, .aload_n 0, 1), (18, .iconst 0, 1), (19, .putfield 22, 3), (22, .goto 16, 3), (38, .return_, 1)]
theorem dl18 : OwnDec jdk_68_method_2_code ll18 := by decide +kernel
theorem rm_asbi (Gl : OwnGl Z a0 wG1 wG3) (X00 : Old Z n0 h0) (sb : Addr) (f0 : Exa Z h0 sb "java/lang/StringBuilder") (f1 : Fld Z h0 sb "java/lang/AbstractStringBuilder" "value" "[B" .null) (f2 : Fld Z h0 sb "java/lang/AbstractStringBuilder" "coder" "B" (.int 0)) (f3 : n0 ≤ sb) (f4 : Fld Z h0 sb "java/lang/AbstractStringBuilder" "count" "I" (.int 0)) (f5 : Fld Z h0 sb "java/lang/AbstractStringBuilder" "maybeLatin1" "Z" (.int 0)) : OwnM l Z mN18 jdk_68_method_2_code 2 none (oR 1 1 240 12) #[(.ref sb), (.int 240)] h0 (Q_asbi Z sb h0 n0) := by
 refine own_in (plainFor_of_name pn_24045714) dl18 #[vR sb, vI 240] (oE rfl) ?_
 intro p e s m below meth c s₁ Bd hml hZ X0 e0 hx hlk Y0 hown
 obtain ⟨hw, cx, hEL⟩ := id Gl
 have wT := oww hw
 obtain ⟨wO2, wP5, wO4, wrG3, hstr, wUA, wUH, wUL⟩ := id cx
 have N0 := Fr.nil n0
 have K0 : Keep h0 h0 ([sb] : List Addr) := Keep.refl _ _
 refine oaN Y0 0 rfl rfl rfl ?_
 obtain ⟨T1, X1, e1, st1⟩ := initO X0 hx hZ hown (wT 59 rfl) (wT 18 rfl) (wT 19 rfl) e0 (g := (mkF m 1 #[vR sb, vI 240] [(.ref sb)])) rfl (by rw [hml]; rfl) rfl (Y0.d 1 rfl) (by decide) (W := 0) (Nat.le_of_eq rfl) (by decide)
 refine og T1 m 4 #[vR sb, vI 240] [] st1 ?_
 have Y1 := Y0.nx X1
 refine oGS X1 Y1 hZ hown (wT 60 rfl) Via.refl e1 (wO2.ext X00.2) 2 rfl ?_
 intro T2 X2 Y2 e2
 refine oifn Y2 3 rfl ((if0 _ _).trans (feq wP5).1) <| oaN Y2 4 rfl rfl rfl <| oiN Y2 5 rfl rfl ?_
 obtain ⟨T3, h3, k3, X3, e3, E3, A3, Be3, st3⟩ := newPE X2 hx hZ (wT 25 rfl) e2 (g := (mkF m 12 #[vR sb, vI 240] [(.int 240), (.ref sb)])) rfl (Y0.d 6 rfl) rfl (by decide) (cap := 240) (by decide) (by decide) (by decide) (by decide) (ad := "[B") (by decide)
 obtain ⟨b3, g3⟩ : ∃ z, z = h0.size := ⟨_, rfl⟩
 rw [← g3] at A3 Be3 st3
 refine og T3 m 14 #[vR sb, vI 240] [(.ref b3), (.ref sb)] st3 ?_
 have V3 : Arv Z h3 b3 k3 .byte (240 : Int32) [] (.int 0) := Arv.new A3 (by decide)
 have ne_sb_b3 : sb ≠ b3 := Nat.ne_of_lt (Nat.lt_of_lt_of_le f0.lt (Nat.le_of_eq g3.symm))
 have s_b3 : h0.size ≤ b3 := Nat.le_trans K0.1 (Nat.le_of_eq g3.symm)
 have F3_1 := f0.ext E3
 have F3_2 := f1.ext E3
 have F3_3 := f2.ext E3
 have F3_4 := f4.ext E3
 have F3_5 := f5.ext E3
 have K3 : Keep h0 h3 ([sb] : List Addr) := K0.ext E3
 have Vr4 : Arv Z h3 b3 k3 .byte (240 : Int32) (List.replicate 240 (Value.int (0 : Int32))) (.int 0) := V3.pad (pad_rep [] (Value.int (0 : Int32)) 240)
 obtain ⟨T5, h5, X5, e5, W5, st5⟩ := putF X3 hx hZ hown (host := "") (Or.inl (wT 61 rfl)) Via.refl e3 F3_2 F3_1 (Or.inl (wT 62 rfl)) (wT 48 rfl) (ty := (.array .byte)) (by decide) rfl rfl (g := (mkF m 14 #[vR sb, vI 240] [(.ref b3), (.ref sb)])) rfl rfl (Y0.d 7 rfl)
 refine og T5 m 17 #[vR sb, vI 240] [] st5 ?_
 have Fw5 := F3_2.same W5
 have F5_6 := F3_1.wr W5
 have F5_7 := F3_3.other W5 (Or.inr (slot_ne (Or.inl (wT 64 rfl)) (Or.inl (wT 62 rfl)) (by decide) (t := .byte) (t' := (.array .byte)) (by decide) (by decide)))
 have F5_8 := F3_4.other W5 (Or.inr (slot_ne (Or.inl (wT 114 rfl)) (Or.inl (wT 62 rfl)) (by decide) (t := .int) (t' := (.array .byte)) (by decide) (by decide)))
 have F5_9 := F3_5.other W5 (Or.inr (slot_ne (Or.inl (wT 234 rfl)) (Or.inl (wT 62 rfl)) (by decide) (t := .boolean) (t' := (.array .byte)) (by decide) (by decide)))
 have F5_10 := Vr4.other W5 (Ne.symm ne_sb_b3)
 have F5_11 := Be3.wr W5
 have K5 : Keep h0 h5 ([sb] : List Addr) := K3.wr W5 (Or.inl (List.mem_of_getElem? (i := 0) rfl))
 have N5 := Fr.snoc X5 N0 f3
 have Y5 := Y0.nx X5
 refine oaN Y5 8 rfl rfl rfl <| oic 0 Y5 9 rfl rfl ?_
 obtain ⟨T6, h6, X6, e6, W6, st6⟩ := putFN X5 hx hZ hown (wT 63 rfl) Via.refl e5 F5_7 F5_6 (Or.inl (wT 64 rfl)) (wT 48 rfl) (ty := .byte) (v' := (.int (nar .byte (0 : Int32)))) (by decide) rfl (fits_nar_byte _) (g := (mkF m 19 #[vR sb, vI 240] [(.int 0), (.ref sb)])) rfl rfl (Y0.d 10 rfl)
 refine og T6 m 22 #[vR sb, vI 240] [] st6 ?_
 have Fw6 := F5_7.same W6
 rw [(by decide : nar .byte (0 : Int32) = (0 : Int32))] at Fw6
 have F6_12 := F5_6.wr W6
 have F6_13 := Fw5.other W6 (Or.inr (slot_ne (Or.inl (wT 62 rfl)) (Or.inl (wT 64 rfl)) (by decide) (t := (.array .byte)) (t' := .byte) (by decide) (by decide)))
 have F6_14 := F5_8.other W6 (Or.inr (slot_ne (Or.inl (wT 114 rfl)) (Or.inl (wT 64 rfl)) (by decide) (t := .int) (t' := .byte) (by decide) (by decide)))
 have F6_15 := F5_9.other W6 (Or.inr (slot_ne (Or.inl (wT 234 rfl)) (Or.inl (wT 64 rfl)) (by decide) (t := .boolean) (t' := .byte) (by decide) (by decide)))
 have F6_16 := F5_10.other W6 (Ne.symm ne_sb_b3)
 have F6_17 := F5_11.wr W6
 have K6 : Keep h0 h6 ([sb] : List Addr) := K5.wr W6 (Or.inl (List.mem_of_getElem? (i := 0) rfl))
 have N6 := Fr.snoc X6 N5 f3
 have Y6 := Y0.nx X6
 refine ogt 38 Y6 11 rfl rfl ?_
 exact orV X6 Y6 hlk Bd.returns 12 rfl (by decide) (by decide) e6 ⟨b3, k3, rfl, N6, K6, s_b3, F6_12, F6_13, Fw6, F6_14, F6_15, F6_16, F6_17⟩
def Q_sbi (Z : State) (sb : Addr) : OwnP := fun h0 n0 v h L => ∃ (vv : Addr), ∃ (k : ClassId), v = none ∧ Fr n0 L ∧ Keep h0 h ([sb] : List Addr) ∧ h0.size ≤ vv ∧ Exa Z h sb "java/lang/StringBuilder" ∧ Fld Z h sb "java/lang/AbstractStringBuilder" "value" "[B" (.ref vv) ∧ Fld Z h sb "java/lang/AbstractStringBuilder" "coder" "B" (.int 0) ∧ Fld Z h sb "java/lang/AbstractStringBuilder" "count" "I" (.int 0) ∧ Fld Z h sb "java/lang/AbstractStringBuilder" "maybeLatin1" "Z" (.int 0) ∧ Arv Z h vv k .byte (240 : Int32) (List.replicate 240 (Value.int (0 : Int32))) (.int 0) ∧ Exa Z h vv "[B"
theorem pn_27209738 : plainName "java/lang/StringBuilder" = true := by first | (simp [plainName, overriddenIn]; done) | decide +kernel
def ll19 : List (Nat × Instr × Nat) := [(0, .aload_n 0, 1), (1, .iload_n 1, 1), (2, .invokespecial 1, 3), (5, .return_, 1)]
theorem dl19 : OwnDec jdk_67_method_2_code ll19 := by decide +kernel
theorem pd_57711528 : parseMethodDescriptor "(I)V" = some ⟨[.int], none⟩ := by decide +kernel
theorem rm_sbi (Gl : OwnGl Z a0 wG1 wG3) (X00 : Old Z n0 h0) (sb : Addr) (f0 : Exa Z h0 sb "java/lang/StringBuilder") (f1 : Fld Z h0 sb "java/lang/AbstractStringBuilder" "value" "[B" .null) (f2 : Fld Z h0 sb "java/lang/AbstractStringBuilder" "coder" "B" (.int 0)) (f3 : n0 ≤ sb) (f4 : Fld Z h0 sb "java/lang/AbstractStringBuilder" "count" "I" (.int 0)) (f5 : Fld Z h0 sb "java/lang/AbstractStringBuilder" "maybeLatin1" "Z" (.int 0)) : OwnM l Z mN19 jdk_67_method_2_code 2 none (oR 2 1 240 25) #[(.ref sb), (.int 240)] h0 (Q_sbi Z sb h0 n0) := by
 refine own_in (plainFor_of_name pn_27209738) dl19 #[vR sb, vI 240] (oE rfl) ?_
 intro p e s m below meth c s₁ Bd hml hZ X0 e0 hx hlk Y0 hown
 obtain ⟨hw, cx, hEL⟩ := id Gl
 have wT := oww hw
 have N0 := Fr.nil n0
 have K0 : Keep h0 h0 ([sb] : List Addr) := Keep.refl _ _
 refine oaN Y0 0 rfl rfl rfl <| oiN Y0 1 rfl rfl ?_
 obtain ⟨_, _, ⟨T1, L1, k1, n1⟩, -, X1, ⟨Lc1, hQ1, l1, y1, z1⟩, st1⟩ := X0.specialBack hx (y := mN18) rfl hown (mvT hZ (wT 53 rfl)) (mvT hZ (wT 54 rfl)) (mvT hZ (wT 58 rfl)) (by decide) (backOf (W := 0) (rm_asbi Gl X00 sb f0 f1 f2 f3 f4 f5) hZ (wT 58 rfl) (wT 57 rfl) (by decide) (by decide)) (g := (mkF m 2 #[vR sb, vI 240] [(.int 240), (.ref sb)])) rfl (by rw [hml]; rfl) (Steps.refl _) (a := sb) (argsL := [(.int 240)]) (rest := []) (lenOf pd_57711528 rfl) rfl (Nat.le_of_eq rfl) (Y0.d 2 rfl) (fun _ _ => ⟨rfl, e0, (by decide : 0 + 1 ≤ _), (by decide : 0 + 240 ≤ _)⟩)
 dsimp only [Pt.U, Pt.locs, Pt.cells, Pt.slots] at X1 l1 y1 z1 st1 hQ1
 subst l1 y1 z1
 obtain ⟨vv_1, k_1, rfl, Nq1, Kq1, zq1_0, fq1_0, fq1_1, fq1_2, fq1_3, fq1_4, fq1_5, fq1_6⟩ := hQ1
 refine OwnGoes.tr (T' := T1) (g' := (mkF m 5 #[vR sb, vI 240] [])) st1 ?_
 have N1 := Fr.app N0 Nq1
 have s_vv_1 : h0.size ≤ vv_1 := Nat.le_trans K0.1 zq1_0
 have K1 : Keep h0 T1.heap ([sb] : List Addr) := K0.trans Kq1 (allS (Or.inl (List.mem_of_getElem? (i := 0) rfl)) all0)
 have Y1 := Y0.nx X1
 exact orV X1 Y1 hlk Bd.returns 3 rfl (by decide) (by decide) rfl ⟨vv_1, k_1, rfl, N1, K1, s_vv_1, fq1_0, fq1_1, fq1_2, fq1_3, fq1_4, fq1_5, fq1_6⟩
def Q_ail_0 (Z : State) (sb : Addr) : OwnP := fun h0 n0 v h L => v = some (.int 1) ∧ Fr n0 L ∧ h = h0
def ll20 : List (Nat × Instr × Nat) := [(0, .getstatic 18, 3), (3, .ifCond .eq 14, 3), (6, .aload_n 0, 1), (7, .getfield 22, 3), (10, .ifCond .ne 7, 3), (13, .iconst 1, 1), (14, .goto 4, 3), (17, .iconst 0, 1), (18, .ireturn, 1)]
theorem dl20 : OwnDec jdk_68_method_68_code ll20 := by decide +kernel
theorem rm_ail_0 (Gl : OwnGl Z a0 wG1 wG3) (X00 : Old Z n0 h0) (sb : Addr) (f0 : Exa Z h0 sb "java/lang/StringBuilder") (f1 : Fld Z h0 sb "java/lang/AbstractStringBuilder" "coder" "B" (.int 0)) : OwnM l Z mN20 jdk_68_method_68_code 1 (some .boolean) (oR 0 0 0 0) #[(.ref sb)] h0 (Q_ail_0 Z sb h0 n0) := by
 refine own_in (plainFor_of_name pn_24045714) dl20 #[vR sb] (oE rfl) ?_
 intro p e s m below meth c s₁ Bd hml hZ X0 e0 hx hlk Y0 hown
 obtain ⟨hw, cx, hEL⟩ := id Gl
 have wT := oww hw
 obtain ⟨wO2, wP5, wO4, wrG3, hstr, wUA, wUH, wUL⟩ := id cx
 have N0 := Fr.nil n0
 refine oGS X0 Y0 hZ hown (wT 60 rfl) Via.refl e0 (wO2.ext X00.2) 0 rfl ?_
 intro T1 X1 Y1 e1
 refine oifn Y1 1 rfl ((if0 _ _).trans (feq wP5).1) <| oaN Y1 2 rfl rfl rfl ?_
 refine oGF X1 Y1 hZ hown (wT 63 rfl) Via.refl e1 f1 3 rfl ?_
 intro T2 X2 Y2 e2
 refine oifn Y2 4 rfl ((if0 _ _).trans (teq (by decide : (0 : Int32) = (0 : Int32))).2) <| oic 1 Y2 5 rfl rfl <| ogt 18 Y2 6 rfl rfl ?_
 exact orN X2 Y2 hlk Bd.returns (by simp) 8 rfl ((by decide : nar .boolean (1 : Int32) = (1 : Int32))) (by decide) (by decide) e2 ⟨rfl, N0, rfl⟩
def Q_ecn_0 (Z : State) (sb : Addr) (va : Addr) (kv : ClassId) (vsb : List Value) (m1x : Int32) : OwnP := fun h0 n0 v h L => v = none ∧ Fr n0 L ∧ h = h0
def ll21 : List (Nat × Instr × Nat) := [(0, .aload_n 0, 1), (1, .getfield 15, 3), (4, .arraylength, 1), (5, .aload_n 0, 1), (6, .getfield 22, 3), (9, .ishr, 1), (10, .istore_n 2, 1), (11, .iload_n 1, 1), (12, .iload_n 2, 1), (13, .isub, 1), (14, .ifCond .le 24, 3), (38, .return_, 1)]
theorem dl21 : OwnDec jdk_68_method_9_code ll21 := by decide +kernel
theorem rm_ecn_0 (Gl : OwnGl Z a0 wG1 wG3) (X00 : Old Z n0 h0) (sb : Addr) (va : Addr) (kv : ClassId) (vsb : List Value) (m1x : Int32) (f0 : Exa Z h0 sb "java/lang/StringBuilder") (f1 : Fld Z h0 sb "java/lang/AbstractStringBuilder" "coder" "B" (.int 0)) (f2 : Fld Z h0 sb "java/lang/AbstractStringBuilder" "value" "[B" (.ref va)) (f3 : Arv Z h0 va kv .byte (240 : Int32) vsb (.int 0)) (hm : ¬ ((0 : Int32) < (m1x - (240 : Int32)))) : OwnM l Z mN21 jdk_68_method_9_code 3 none (oR 0 0 0 0) #[(.ref sb), (.int m1x)] h0 (Q_ecn_0 Z sb va kv vsb m1x h0 n0) := by
 refine own_in (plainFor_of_name pn_24045714) dl21 #[vR sb, vI m1x, vU] (oE rfl) ?_
 intro p e s m below meth c s₁ Bd hml hZ X0 e0 hx hlk Y0 hown
 obtain ⟨hw, cx, hEL⟩ := id Gl
 have wT := oww hw
 have N0 := Fr.nil n0
 refine oaN Y0 0 rfl rfl rfl ?_
 refine oGF X0 Y0 hZ hown (wT 61 rfl) Via.refl e0 f2 1 rfl ?_
 intro T1 X1 Y1 e1
 refine olen X1 Y1 hZ e1 f3 2 rfl <| oaN Y1 3 rfl rfl rfl ?_
 refine oGF X1 Y1 hZ hown (wT 63 rfl) Via.refl e1 f1 4 rfl ?_
 intro T3 X3 Y3 e3
 refine oshr Y3 5 rfl <| oti (240 : Int32) (by decide) <| oiS Y3 6 rfl #[vR sb, vI m1x, vI 240] rfl <| oiN Y3 7 rfl rfl <| oiN Y3 8 rfl rfl <| osub Y3 9 rfl <| oify 38 Y3 10 rfl rfl ((if0 _ _).trans (flt hm).2.2.2) ?_
 exact orV X3 Y3 hlk Bd.returns 11 rfl (by decide) (by decide) e3 ⟨rfl, N0, rfl⟩
def Q_can_0 (Z : State) (c1 : Int32) : OwnP := fun h0 n0 v h L => v = some (.int 1) ∧ Fr n0 L ∧ h = h0
def ll22 : List (Nat × Instr × Nat) := [(0, .iload_n 0, 1), (1, .sipush 255, 3), (4, .if_icmp .gt 7, 3), (7, .iconst 1, 1), (8, .goto 4, 3), (11, .iconst 0, 1), (12, .ireturn, 1)]
theorem dl22 : OwnDec jdk_43_method_3_code ll22 := by decide +kernel
theorem rm_can_0 (Gl : OwnGl Z a0 wG1 wG3) (X00 : Old Z n0 h0) (c1 : Int32) (hc : ¬ ((255 : Int32) < c1)) : OwnM l Z mN22 jdk_43_method_3_code 1 (some .boolean) (oR 0 0 0 0) #[(.int c1)] h0 (Q_can_0 Z c1 h0 n0) := by
 refine own_in (plainFor_of_name pn_54843740) dl22 #[vI c1] (oE rfl) ?_
 intro p e s m below meth c s₁ Bd hml hZ X0 e0 hx hlk Y0 hown
 have N0 := Fr.nil n0
 refine oiN Y0 0 rfl rfl <| osp 255 Y0 1 rfl rfl <| ocn Y0 2 rfl (flt hc).2.2.1 <| oic 1 Y0 3 rfl rfl <| ogt 12 Y0 4 rfl rfl ?_
 exact orN X0 Y0 hlk Bd.returns (by simp) 6 rfl ((by decide : nar .boolean (1 : Int32) = (1 : Int32))) (by decide) (by decide) e0 ⟨rfl, N0, rfl⟩
def Q_ail_1 (Z : State) (sb : Addr) : OwnP := fun h0 n0 v h L => v = some (.int 0) ∧ Fr n0 L ∧ h = h0
theorem rm_ail_1 (Gl : OwnGl Z a0 wG1 wG3) (X00 : Old Z n0 h0) (sb : Addr) (f0 : Exa Z h0 sb "java/lang/StringBuilder") (f1 : Fld Z h0 sb "java/lang/AbstractStringBuilder" "coder" "B" (.int 1)) : OwnM l Z mN20 jdk_68_method_68_code 1 (some .boolean) (oR 0 0 0 0) #[(.ref sb)] h0 (Q_ail_1 Z sb h0 n0) := by
 refine own_in (plainFor_of_name pn_24045714) dl20 #[vR sb] (oE rfl) ?_
 intro p e s m below meth c s₁ Bd hml hZ X0 e0 hx hlk Y0 hown
 obtain ⟨hw, cx, hEL⟩ := id Gl
 have wT := oww hw
 obtain ⟨wO2, wP5, wO4, wrG3, hstr, wUA, wUH, wUL⟩ := id cx
 have N0 := Fr.nil n0
 refine oGS X0 Y0 hZ hown (wT 60 rfl) Via.refl e0 (wO2.ext X00.2) 0 rfl ?_
 intro T1 X1 Y1 e1
 refine oifn Y1 1 rfl ((if0 _ _).trans (feq wP5).1) <| oaN Y1 2 rfl rfl rfl ?_
 refine oGF X1 Y1 hZ hown (wT 63 rfl) Via.refl e1 f1 3 rfl ?_
 intro T2 X2 Y2 e2
 refine oify 17 Y2 4 rfl rfl ((if0 _ _).trans (feq (by decide : ¬ ((1 : Int32) = (0 : Int32)))).2) <| oic 0 Y2 7 rfl rfl ?_
 exact orN X2 Y2 hlk Bd.returns (by simp) 8 rfl ((by decide : nar .boolean (0 : Int32) = (0 : Int32))) (by decide) (by decide) e2 ⟨rfl, N0, rfl⟩
def Q_ecn_1 (Z : State) (sb : Addr) (va : Addr) (kv : ClassId) (vsb : List Value) (m1x : Int32) : OwnP := fun h0 n0 v h L => v = none ∧ Fr n0 L ∧ h = h0
theorem rm_ecn_1 (Gl : OwnGl Z a0 wG1 wG3) (X00 : Old Z n0 h0) (sb : Addr) (va : Addr) (kv : ClassId) (vsb : List Value) (m1x : Int32) (f0 : Exa Z h0 sb "java/lang/StringBuilder") (f1 : Fld Z h0 sb "java/lang/AbstractStringBuilder" "coder" "B" (.int 1)) (f2 : Fld Z h0 sb "java/lang/AbstractStringBuilder" "value" "[B" (.ref va)) (f3 : Arv Z h0 va kv .byte (480 : Int32) vsb (.int 0)) (hm : ¬ ((0 : Int32) < (m1x - (240 : Int32)))) : OwnM l Z mN21 jdk_68_method_9_code 3 none (oR 0 0 0 0) #[(.ref sb), (.int m1x)] h0 (Q_ecn_1 Z sb va kv vsb m1x h0 n0) := by
 refine own_in (plainFor_of_name pn_24045714) dl21 #[vR sb, vI m1x, vU] (oE rfl) ?_
 intro p e s m below meth c s₁ Bd hml hZ X0 e0 hx hlk Y0 hown
 obtain ⟨hw, cx, hEL⟩ := id Gl
 have wT := oww hw
 have N0 := Fr.nil n0
 refine oaN Y0 0 rfl rfl rfl ?_
 refine oGF X0 Y0 hZ hown (wT 61 rfl) Via.refl e0 f2 1 rfl ?_
 intro T1 X1 Y1 e1
 refine olen X1 Y1 hZ e1 f3 2 rfl <| oaN Y1 3 rfl rfl rfl ?_
 refine oGF X1 Y1 hZ hown (wT 63 rfl) Via.refl e1 f1 4 rfl ?_
 intro T3 X3 Y3 e3
 refine oshr Y3 5 rfl <| oti (240 : Int32) (by decide) <| oiS Y3 6 rfl #[vR sb, vI m1x, vI 240] rfl <| oiN Y3 7 rfl rfl <| oiN Y3 8 rfl rfl <| osub Y3 9 rfl <| oify 38 Y3 10 rfl rfl ((if0 _ _).trans (flt hm).2.2.2) ?_
 exact orV X3 Y3 hlk Bd.returns 11 rfl (by decide) (by decide) e3 ⟨rfl, N0, rfl⟩
def Q_can_1 (Z : State) (c1 : Int32) : OwnP := fun h0 n0 v h L => v = some (.int 0) ∧ Fr n0 L ∧ h = h0
theorem rm_can_1 (Gl : OwnGl Z a0 wG1 wG3) (X00 : Old Z n0 h0) (c1 : Int32) (hc : (255 : Int32) < c1) : OwnM l Z mN22 jdk_43_method_3_code 1 (some .boolean) (oR 0 0 0 0) #[(.int c1)] h0 (Q_can_1 Z c1 h0 n0) := by
 refine own_in (plainFor_of_name pn_54843740) dl22 #[vI c1] (oE rfl) ?_
 intro p e s m below meth c s₁ Bd hml hZ X0 e0 hx hlk Y0 hown
 have N0 := Fr.nil n0
 refine oiN Y0 0 rfl rfl <| osp 255 Y0 1 rfl rfl <| ocy 11 Y0 2 rfl rfl (tlt hc).2.2.1 <| oic 0 Y0 5 rfl rfl ?_
 exact orN X0 Y0 hlk Bd.returns (by simp) 6 rfl ((by decide : nar .boolean (0 : Int32) = (0 : Int32))) (by decide) (by decide) e0 ⟨rfl, N0, rfl⟩
def Q_aln (Z : State) (sb : Addr) (q1x : Int32) : OwnP := fun h0 n0 v h L => v = some (.int q1x) ∧ Fr n0 L ∧ h = h0
def ll23 : List (Nat × Instr × Nat) := [(0, .aload_n 0, 1), (1, .getfield 79, 3), (4, .ireturn, 1)]
theorem dl23 : OwnDec jdk_68_method_6_code ll23 := by decide +kernel
theorem rm_aln (Gl : OwnGl Z a0 wG1 wG3) (X00 : Old Z n0 h0) (sb : Addr) (q1x : Int32) (f0 : Exa Z h0 sb "java/lang/StringBuilder") (f1 : Fld Z h0 sb "java/lang/AbstractStringBuilder" "count" "I" (.int q1x)) : OwnM l Z mN23 jdk_68_method_6_code 1 (some .int) (oR 0 0 0 0) #[(.ref sb)] h0 (Q_aln Z sb q1x h0 n0) := by
 refine own_in (plainFor_of_name pn_24045714) dl23 #[vR sb] (oE rfl) ?_
 intro p e s m below meth c s₁ Bd hml hZ X0 e0 hx hlk Y0 hown
 obtain ⟨hw, cx, hEL⟩ := id Gl
 have wT := oww hw
 have N0 := Fr.nil n0
 refine oaN Y0 0 rfl rfl rfl ?_
 refine oGF X0 Y0 hZ hown (wT 113 rfl) Via.refl e0 f1 1 rfl ?_
 intro T1 X1 Y1 e1
 exact orI X1 Y1 hlk Bd.returns 2 rfl (by decide) (by decide) e1 ⟨rfl, N0, rfl⟩
def Q_sln (Z : State) (sb : Addr) (q1x : Int32) : OwnP := fun h0 n0 v h L => v = some (.int q1x) ∧ Fr n0 L ∧ h = h0
def ll24 : List (Nat × Instr × Nat) := [(0, .aload_n 0, 1), (1, .invokespecial 343, 3), (4, .ireturn, 1)]
theorem dl24 : OwnDec jdk_67_method_93_code ll24 := by decide +kernel
theorem pd_86913941 : parseMethodDescriptor "()I" = some ⟨[], some .int⟩ := by decide +kernel
theorem rm_sln (Gl : OwnGl Z a0 wG1 wG3) (X00 : Old Z n0 h0) (sb : Addr) (q1x : Int32) (f0 : Exa Z h0 sb "java/lang/StringBuilder") (f1 : Fld Z h0 sb "java/lang/AbstractStringBuilder" "count" "I" (.int q1x)) : OwnM l Z mN24 jdk_67_method_93_code 1 (some .int) (oR 1 0 0 12) #[(.ref sb)] h0 (Q_sln Z sb q1x h0 n0) := by
 refine own_in (plainFor_of_name pn_27209738) dl24 #[vR sb] (oE rfl) ?_
 intro p e s m below meth c s₁ Bd hml hZ X0 e0 hx hlk Y0 hown
 obtain ⟨hw, cx, hEL⟩ := id Gl
 have wT := oww hw
 have N0 := Fr.nil n0
 refine oaN Y0 0 rfl rfl rfl ?_
 obtain ⟨_, _, ⟨T1, L1, k1, n1⟩, -, X1, ⟨Lc1, hQ1, l1, y1, z1⟩, st1⟩ := superBack X0 hx hZ (y := mN23) hown (wT 108 rfl) (own_same (y := mN23) (wT 111 rfl) (wT 127 rfl) rfl ⟨by decide, by decide⟩) (wT 109 rfl) (wT 110 rfl) (by decide) (backOf (W := 0) (rm_aln Gl X00 sb q1x f0 f1) hZ (wT 112 rfl) (wT 57 rfl) (by decide) (by decide)) e0 (Ins.self f0) (g := (mkF m 1 #[vR sb] [(.ref sb)])) rfl (by rw [hml]; rfl) (wT 112 rfl) (argsL := []) (rest := []) (lenOf pd_86913941 rfl) rfl (Nat.le_of_eq rfl) (Y0.d 1 rfl) (fun _ _ => ⟨rfl, e0, (by decide : 0 + 0 ≤ _), (by decide : 0 + 0 ≤ _)⟩)
 dsimp only [Pt.U, Pt.locs, Pt.cells, Pt.slots] at X1 l1 y1 z1 st1 hQ1
 subst l1 y1 z1
 obtain ⟨rfl, Nq1, eq1⟩ := hQ1
 refine OwnGoes.tr (T' := T1) (g' := (mkF m 4 #[vR sb] [(.int q1x)])) st1 ?_
 have N1 := Fr.app N0 Nq1
 have Y1 := Y0.nx X1
 exact orI X1 Y1 hlk Bd.returns 2 rfl (by decide) (by decide) eq1 ⟨rfl, N1, rfl⟩
def Q_getV (Z : State) (sb : Addr) (va : Addr) : OwnP := fun h0 n0 v h L => v = some (.ref va) ∧ Fr n0 L ∧ h = h0
def ll25 : List (Nat × Instr × Nat) := [(0, .aload_n 0, 1), (1, .getfield 15, 3), (4, .areturn, 1)]
theorem dl25 : OwnDec jdk_68_method_64_code ll25 := by decide +kernel
theorem rm_getV (Gl : OwnGl Z a0 wG1 wG3) (X00 : Old Z n0 h0) (sb : Addr) (va : Addr) (f0 : Exa Z h0 sb "java/lang/StringBuilder") (f1 : Fld Z h0 sb "java/lang/AbstractStringBuilder" "value" "[B" (.ref va)) : OwnM l Z mN25 jdk_68_method_64_code 1 (some (.array .byte)) (oR 0 0 0 0) #[(.ref sb)] h0 (Q_getV Z sb va h0 n0) := by
 refine own_in (plainFor_of_name pn_24045714) dl25 #[vR sb] (oE rfl) ?_
 intro p e s m below meth c s₁ Bd hml hZ X0 e0 hx hlk Y0 hown
 obtain ⟨hw, cx, hEL⟩ := id Gl
 have wT := oww hw
 have N0 := Fr.nil n0
 refine oaN Y0 0 rfl rfl rfl ?_
 refine oGF X0 Y0 hZ hown (wT 61 rfl) Via.refl e0 f1 1 rfl ?_
 intro T1 X1 Y1 e1
 exact orA X1 Y1 hlk Bd.returns rfl rfl rfl 2 rfl (by decide) (by decide) e1 ⟨rfl, N0, rfl⟩
def Q_pcsb (Z : State) (tb1 : Addr) (kb1 : ClassId) (vs1 : List Value) (acc : List Int32) (c1 : Int32) : OwnP := fun h0 n0 v h L => ∃ (vs : List Value), v = none ∧ Fr n0 L ∧ Keep h0 h ([tb1] : List Addr) ∧ Arv Z h tb1 kb1 .byte (480 : Int32) vs (.int 0) ∧ (OwnUB (acc ++ [c1]) vs) ∧ (vs.length = 480)
def ll26 : List (Nat × Instr × Nat) := [(0, .iload_n 1, 1), (1, .aload_n 0, 1), (2, .invokestatic 67, 3), (5, .aload_n 0, 1), (6, .iload_n 1, 1), (7, .iload_n 2, 1), (8, .invokestatic 111, 3), (11, .return_, 1)]
theorem dl26 : OwnDec jdk_52_method_71_code ll26 := by decide +kernel
theorem rm_pcsb (Gl : OwnGl Z a0 wG1 wG3) (X00 : Old Z n0 h0) (tb1 : Addr) (kb1 : ClassId) (vs1 : List Value) (acc : List Int32) (c1 : Int32) (f0 : Arv Z h0 tb1 kb1 .byte (480 : Int32) vs1 (.int 0)) (f1 : n0 ≤ tb1) (hlen : acc.length < 240) (hvl : vs1.length = 480) (hub : OwnUB acc vs1) : OwnM l Z mN26 jdk_52_method_71_code 3 none (oR 3 0 0 40) #[(.ref tb1), (.int (Int32.ofNat acc.length)), (.int c1)] h0 (Q_pcsb Z tb1 kb1 vs1 acc c1 h0 n0) := by
 refine own_in (plainFor_of_name pn_68381282) dl26 #[vR tb1, vI (Int32.ofNat acc.length), vI c1] (oE rfl) ?_
 intro p e s m below meth c s₁ Bd hml hZ X0 e0 hx hlk Y0 hown
 obtain ⟨hw, cx, hEL⟩ := id Gl
 have wT := oww hw
 have N0 := Fr.nil n0
 have K0 : Keep h0 h0 ([tb1] : List Addr) := Keep.refl _ _
 refine oiN Y0 0 rfl rfl <| oaN Y0 1 rfl rfl rfl ?_
 refine oCS X0 Y0 hZ hml hown (wT 274 rfl) (wT 275 rfl) (wT 23 rfl) (wT 276 rfl) (rm_u16ci Gl X00 tb1 kb1 (480 : Int32) vs1 (Int32.ofNat acc.length) f0 (own_nat (by omega)).2.1 (own_i480 hlen)) e0 2 rfl 2 0 pd_93580263 rfl rfl rfl rfl (by decide +kernel) ?_
 intro v1 T1 L1 X1 Y1 hQ1
 obtain ⟨rfl, Nq1, eq1⟩ := hQ1
 show OwnH p e below _ T1 m _ _ []
 have N1 := Fr.app N0 Nq1
 refine oaN Y1 3 rfl rfl rfl <| oiN Y1 4 rfl rfl <| oiN Y1 5 rfl rfl ?_
 refine oCS X1 Y1 hZ hml hown (wT 265 rfl) (wT 266 rfl) (wT 23 rfl) (wT 267 rfl) (rm_u16put Gl X00 tb1 kb1 (480 : Int32) vs1 (Int32.ofNat acc.length) c1 (2 * acc.length) f0 f1 (own_ub_put (N := 480) hvl (by decide) (by omega))) eq1 6 rfl 3 0 pd_52952394 rfl rfl rfl rfl (by decide +kernel) ?_
 intro v2 T2 L2 X2 Y2 hQ2
 obtain ⟨rfl, Nq2, Kq2, fq2_0⟩ := hQ2
 show OwnH p e below _ T2 m _ _ []
 have N2 := Fr.app N1 Nq2
 have K2 : Keep h0 T2.heap ([tb1] : List Addr) := K0.trans Kq2 (allS (Or.inl (List.mem_of_getElem? (i := 0) rfl)) all0)
 exact orV X2 Y2 hlk Bd.returns 7 rfl (by decide) (by decide) rfl ⟨((vs1.set (2 * acc.length) (.int (nar .byte c1))).set ((2 * acc.length) + 1) (.int (nar .byte (c1 >>> ((8 : Int32) &&& 31))))), rfl, N2, K2, fq2_0, (own_ub_app hub (by omega)), (by rw [List.length_set, List.length_set]; exact hvl)⟩
theorem ef_cfis (m : MethodId) (x1 : Int32) (x3 : Value) (hr_x3 : x3.isRef = true) : entryFrame m #[(.int 0), (.int x1), (.int 240), x3] 4 = mkF m 0 #[vI 0, vI x1, vI 240, .val x3] [] := by
 cases x3 <;> first | (simp [Value.isRef] at hr_x3; done) | (simp [entryFrame, mkF, argsToLocals, Value.category]; done) | rfl
def Q_cfis (Z : State) (ln1 : Nat) : OwnP := fun h0 n0 v h L => v = some (.int 0) ∧ Fr n0 L ∧ h = h0
def ll27 : List (Nat × Instr × Nat) := [(0, .iload_n 2, 1), (1, .iload_n 0, 1), (2, .ior, 1), (3, .iload_n 1, 1), (4, .ior, 1), (5, .ifCond .lt 10, 3), (8, .iload_n 1, 1), (9, .iload_n 2, 1), (10, .iload_n 0, 1), (11, .isub, 1), (12, .if_icmp .le 11, 3), (23, .iload_n 0, 1), (24, .ireturn, 1)]
theorem dl27 : OwnDec jdk_41_method_13_code ll27 := by decide +kernel
theorem rm_cfis (Gl : OwnGl Z a0 wG1 wG3) (X00 : Old Z n0 h0) (ln1 : Nat) (hln : ln1 ≤ 240) : OwnM l Z mN27 jdk_41_method_13_code 4 (some .int) (oR 0 0 0 0) #[(.int 0), (.int (Int32.ofNat ln1)), (.int 240), wG3] h0 (Q_cfis Z ln1 h0 n0) := by
 have hE0 : ∀ m, entryFrame m #[(.int 0), (.int (Int32.ofNat ln1)), (.int 240), wG3] 4 = mkF m 0 #[vI 0, vI (Int32.ofNat ln1), vI 240, .val wG3] [] := fun m => ef_cfis m (Int32.ofNat ln1) wG3 (id Gl).2.1.2.2.2.1
 refine own_in (plainFor_of_name pn_82171711) dl27 #[vI 0, vI (Int32.ofNat ln1), vI 240, .val wG3] hE0 ?_
 intro p e s m below meth c s₁ Bd hml hZ X0 e0 hx hlk Y0 hown
 have N0 := Fr.nil n0
 refine oiN Y0 0 rfl rfl <| oiN Y0 1 rfl rfl <| oor Y0 2 rfl <| oti (240 : Int32) (by decide) <| oiN Y0 3 rfl rfl <| oor Y0 4 rfl <| oifn Y0 5 rfl ((if0 _ _).trans (flt (own_or240 hln)).1) <| oiN Y0 6 rfl rfl <| oiN Y0 7 rfl rfl <| oiN Y0 8 rfl rfl ?_
 refine osub Y0 9 rfl <| oti (240 : Int32) (by decide) <| ocy 23 Y0 10 rfl rfl (flt (own_le240 hln)).2.2.2 <| oiN Y0 11 rfl rfl ?_
 exact orI X0 Y0 hlk Bd.returns 12 rfl (by decide) (by decide) e0 ⟨rfl, N0, rfl⟩
def Q_cbo (Z : State) (ln1 : Nat) : OwnP := fun h0 n0 v h L => v = some (.int 0) ∧ Fr n0 L ∧ h = h0
def ll28 : List (Nat × Instr × Nat) := [(0, .iload_n 0, 1), (1, .iload_n 1, 1), (2, .iload_n 2, 1), (3, .getstatic 1053, 3), (6, .invokestatic 1065, 3), (9, .ireturn, 1)]
theorem dl28 : OwnDec jdk_42_method_157_code ll28 := by decide +kernel
theorem pd_36149920 : parseMethodDescriptor "(IIILjava/util/function/BiFunction;)I" = some ⟨[.int, .int, .int, (.object "java/util/function/BiFunction")], some .int⟩ := by decide +kernel
theorem rm_cbo (Gl : OwnGl Z a0 wG1 wG3) (X00 : Old Z n0 h0) (ln1 : Nat) (hln : ln1 ≤ 240) : OwnM l Z mN28 jdk_42_method_157_code 3 (some .int) (oR 1 0 0 15) #[(.int 0), (.int (Int32.ofNat ln1)), (.int 240)] h0 (Q_cbo Z ln1 h0 n0) := by
 refine own_in (plainFor_of_name pn_52039224) dl28 #[vI 0, vI (Int32.ofNat ln1), vI 240] (oE rfl) ?_
 intro p e s m below meth c s₁ Bd hml hZ X0 e0 hx hlk Y0 hown
 obtain ⟨hw, cx, hEL⟩ := id Gl
 have wT := oww hw
 obtain ⟨wO2, wP5, wO4, wrG3, hstr, wUA, wUH, wUL⟩ := id cx
 have N0 := Fr.nil n0
 refine oiN Y0 0 rfl rfl <| oiN Y0 1 rfl rfl <| oiN Y0 2 rfl rfl ?_
 refine oGS X0 Y0 hZ hown (wT 95 rfl) Via.refl e0 (wO4.ext X00.2) 3 rfl ?_
 intro T1 X1 Y1 e1
 refine oCS X1 Y1 hZ hml hown (wT 262 rfl) (wT 263 rfl) (wT 96 rfl) (wT 264 rfl) (rm_cfis Gl X00 ln1 hln) e1 4 rfl 4 0 pd_36149920 rfl rfl rfl rfl (by decide +kernel) ?_
 intro v2 T2 L2 X2 Y2 hQ2
 obtain ⟨rfl, Nq2, eq2⟩ := hQ2
 show OwnH p e below _ T2 m _ _ [(.int 0)]
 have N2 := Fr.app N0 Nq2
 exact orI X2 Y2 hlk Bd.returns 5 rfl (by decide) (by decide) eq2 ⟨rfl, N2, rfl⟩
def Q_ucb (Z : State) (tb1 : Addr) (kb1 : ClassId) (vs1 : List Value) (ln1 : Nat) : OwnP := fun h0 n0 v h L => v = none ∧ Fr n0 L ∧ h = h0
def ll29 : List (Nat × Instr × Nat) := [(0, .iload_n 0, 1), (1, .iload_n 1, 1), (2, .aload_n 2, 1), (3, .invokestatic 48, 3), (6, .invokestatic 419, 3), (9, .pop, 1), (10, .return_, 1)]
theorem dl29 : OwnDec jdk_52_method_94_code ll29 := by decide +kernel
theorem pd_21386983 : parseMethodDescriptor "(III)I" = some ⟨[.int, .int, .int], some .int⟩ := by decide +kernel
theorem rm_ucb (Gl : OwnGl Z a0 wG1 wG3) (X00 : Old Z n0 h0) (tb1 : Addr) (kb1 : ClassId) (vs1 : List Value) (ln1 : Nat) (f0 : Arv Z h0 tb1 kb1 .byte (480 : Int32) vs1 (.int 0)) (hln : ln1 ≤ 240) : OwnM l Z mN29 jdk_52_method_94_code 3 none (oR 2 0 0 29) #[(.int 0), (.int (Int32.ofNat ln1)), (.ref tb1)] h0 (Q_ucb Z tb1 kb1 vs1 ln1 h0 n0) := by
 refine own_in (plainFor_of_name pn_68381282) dl29 #[vI 0, vI (Int32.ofNat ln1), vR tb1] (oE rfl) ?_
 intro p e s m below meth c s₁ Bd hml hZ X0 e0 hx hlk Y0 hown
 obtain ⟨hw, cx, hEL⟩ := id Gl
 have wT := oww hw
 have N0 := Fr.nil n0
 refine oiN Y0 0 rfl rfl <| oiN Y0 1 rfl rfl <| oaN Y0 2 rfl rfl rfl ?_
 refine oCS X0 Y0 hZ hml hown (wT 256 rfl) (wT 257 rfl) (wT 23 rfl) (wT 258 rfl) (rm_u16len Gl X00 tb1 kb1 (480 : Int32) vs1 f0) e0 3 rfl 1 2 pd_31817994 rfl rfl rfl rfl (by decide +kernel) ?_
 intro v1 T1 L1 X1 Y1 hQ1
 obtain ⟨rfl, Nq1, eq1⟩ := hQ1
 show OwnH p e below _ T1 m _ _ [(.int ((480 : Int32) >>> ((1 : Int32) &&& 31))), (.int (Int32.ofNat ln1)), (.int 0)]
 have N1 := Fr.app N0 Nq1
 refine og T1 m 6 #[vI 0, vI (Int32.ofNat ln1), vR tb1] [(.int 240), (.int (Int32.ofNat ln1)), (.int 0)] (fun tgt kgo => castTop (by rw [(by decide : ((480 : Int32) >>> ((1 : Int32) &&& 31)) = (240 : Int32))]) kgo) ?_
 refine oCS X1 Y1 hZ hml hown (wT 259 rfl) (wT 260 rfl) (wT 9 rfl) (wT 261 rfl) (rm_cbo Gl X00 ln1 hln) eq1 4 rfl 3 0 pd_21386983 rfl rfl rfl rfl (by decide +kernel) ?_
 intro v2 T2 L2 X2 Y2 hQ2
 obtain ⟨rfl, Nq2, eq2⟩ := hQ2
 show OwnH p e below _ T2 m _ _ [(.int 0)]
 have N2 := Fr.app N1 Nq2
 refine opop Y2 5 rfl rfl ?_
 exact orV X2 Y2 hlk Bd.returns 6 rfl (by decide) (by decide) eq2 ⟨rfl, N2, rfl⟩
def Q_uinf (Z : State) (va : Addr) (kv : ClassId) (vsb : List Value) (tb1 : Addr) (kb1 : ClassId) (vs1 : List Value) (acc : List Int32) : OwnP := fun h0 n0 v h L => ∃ (vs : List Value), v = none ∧ Fr n0 L ∧ Keep h0 h ([tb1] : List Addr) ∧ Arv Z h tb1 kb1 .byte (480 : Int32) vs (.int 0) ∧ (OwnUB acc vs) ∧ (vs.length = 480)
def ll30 : List (Nat × Instr × Nat) := [(0, .iload_n 3, 1), (1, .iload 4, 2), (3, .aload_n 2, 1), (4, .invokestatic 173, 3), (7, .iconst 0, 1), (8, .istore 5, 2), (10, .iload 5, 2), (12, .iload 4, 2), (14, .if_icmp .ge 27, 3), (17, .aload_n 2, 1), (18, .iload_n 3, 1), (19, .iinc 3 1, 3), (22, .aload_n 0, 1), (23, .iload_n 1, 1), (24, .iinc 1 1, 3), (27, .baload, 1), (28, .sipush 255, 3), (31, .iand, 1), (32, .invokestatic 111, 3), (35, .iinc 5 1, 3), (38, .goto (-28), 3), (41, .return_, 1)]
theorem dl30 : OwnDec jdk_52_method_86_code ll30 := by decide +kernel
theorem pd_50730302 : parseMethodDescriptor "(II[B)V" = some ⟨[.int, .int, (.array .byte)], none⟩ := by decide +kernel
theorem rm_uinf (Gl : OwnGl Z a0 wG1 wG3) (X00 : Old Z n0 h0) (va : Addr) (kv : ClassId) (vsb : List Value) (tb1 : Addr) (kb1 : ClassId) (vs1 : List Value) (acc : List Int32) (f0 : Arv Z h0 va kv .byte (240 : Int32) vsb (.int 0)) (f1 : Arv Z h0 tb1 kb1 .byte (480 : Int32) vs1 (.int 0)) (f2 : n0 ≤ tb1) (f3 : va ≠ tb1) (hln : acc.length ≤ 240) (hv0 : vsb.length = 240) (hlb : OwnLB acc vsb) (hrg : OwnRg acc) (hv1 : vs1.length = 480) : OwnM l Z mN30 jdk_52_method_86_code 6 none (oR 3 0 0 43) #[(.ref va), (.int 0), (.ref tb1), (.int 0), (.int (Int32.ofNat acc.length))] h0 (Q_uinf Z va kv vsb tb1 kb1 vs1 acc h0 n0) := by
 refine own_in (plainFor_of_name pn_68381282) dl30 #[vR va, vI 0, vR tb1, vI 0, vI (Int32.ofNat acc.length), vU] (oE rfl) ?_
 intro p e s m below meth c s₁ Bd hml hZ X0 e0 hx hlk Y0 hown
 obtain ⟨hw, cx, hEL⟩ := id Gl
 have wT := oww hw
 have N0 := Fr.nil n0
 have K0 : Keep h0 h0 ([tb1] : List Addr) := Keep.refl _ _
 refine oiN Y0 0 rfl rfl <| oil Y0 1 rfl rfl <| oaN Y0 2 rfl rfl rfl ?_
 refine oCS X0 Y0 hZ hml hown (wT 253 rfl) (wT 254 rfl) (wT 23 rfl) (wT 255 rfl) (rm_ucb Gl X00 tb1 kb1 vs1 acc.length f1 hln) e0 3 rfl 3 0 pd_50730302 rfl rfl rfl rfl (by decide +kernel) ?_
 intro v1 T1 L1 X1 Y1 hQ1
 obtain ⟨rfl, Nq1, eq1⟩ := hQ1
 show OwnH p e below _ T1 m _ _ []
 have N1 := Fr.app N0 Nq1
 refine oic 0 Y1 4 rfl rfl <| ois Y1 5 rfl #[vR va, vI 0, vR tb1, vI 0, vI (Int32.ofNat acc.length), vI 0] rfl ?_
 have lp10 : ∀ (fu2 : Nat) (it : Nat) (vs2 : List Value) (T2 : State) (h2 : Heap) (L2 : List Loc) (X2 : Stand p l e (oR 3 0 0 43) s m #[(.ref va), (.int 0), (.ref tb1), (.int 0), (.int (Int32.ofNat acc.length))] below meth c T2 L2 0 0) (e2 : T2.heap = h2) (Ol2 : Old Z n0 h2) (K2 : Keep h0 h2 ([tb1] : List Addr)) (N2 : Fr n0 L2) (F2_1 : Arv Z h2 va kv .byte (240 : Int32) vsb (.int 0)) (F2_2 : Arv Z h2 tb1 kb1 .byte (480 : Int32) vs2 (.int 0)) (hle : it ≤ acc.length) (hvl : vs2.length = 480) (hub : OwnUB (acc.take it) vs2) (hfu2 : acc.length - it < fu2), OwnGoes p e below (oG (Q_uinf Z va kv vsb tb1 kb1 vs1 acc h0 n0) s (oR 3 0 0 43)) T2 (mkF m 10 #[vR va, vI (Int32.ofNat it), vR tb1, vI (Int32.ofNat it), vI (Int32.ofNat acc.length), vI (Int32.ofNat it)] []) := by
  intro fu2
  induction fu2 with
  | zero =>
   intro it vs2 T2 h2 L2 X2 e2 Ol2 K2 N2 F2_1 F2_2 hle hvl hub hfu2
   exact absurd hfu2 (Nat.not_lt_zero _)
  | succ fu2 ih2 =>
   intro it vs2 T2 h2 L2 X2 e2 Ol2 K2 N2 F2_1 F2_2 hle hvl hub hfu2
   have Y2 := Y0.nx X2
   refine oil Y2 6 rfl rfl <| oil Y2 7 rfl rfl ?_
   by_cases cc3 : (Int32.ofNat it) < (Int32.ofNat acc.length)
   ·
    have hlt : it < acc.length := (own_ltN (by omega) (by omega)).mp cc3
    refine ocn Y2 8 rfl (tlt cc3).2.1 <| oaN Y2 9 rfl rfl rfl <| oiN Y2 10 rfl rfl <| oinc Y2 11 rfl #[vR va, vI (Int32.ofNat it), vR tb1, vI ((Int32.ofNat it) + (1 : Int32)), vI (Int32.ofNat acc.length), vI (Int32.ofNat it)] rfl rfl <| oaN Y2 12 rfl rfl rfl <| oiN Y2 13 rfl rfl <| oinc Y2 14 rfl #[vR va, vI ((Int32.ofNat it) + (1 : Int32)), vR tb1, vI ((Int32.ofNat it) + (1 : Int32)), vI (Int32.ofNat acc.length), vI (Int32.ofNat it)] rfl rfl <| obal (v := (.int (StrChars.lo8 (acc.getD it 0)))) X2 Y2 hZ e2 F2_1 15 rfl (own_lb_at (N := 240) hlb hv0 (by decide) hlt).1 (own_lb_at (N := 240) hlb hv0 (by decide) hlt).2 <| osp 255 Y2 16 rfl rfl <| oand Y2 17 rfl ?_
    refine og T2 m 32 #[vR va, vI ((Int32.ofNat it) + (1 : Int32)), vR tb1, vI ((Int32.ofNat it) + (1 : Int32)), vI (Int32.ofNat acc.length), vI (Int32.ofNat it)] [(.int (acc.getD it 0)), (.int (Int32.ofNat it)), (.ref tb1)] (fun tgt kgo => castTop (by rw [(own_lb_mask hrg hlb hlt)]) kgo) ?_
    refine oCS X2 Y2 hZ hml hown (wT 265 rfl) (wT 266 rfl) (wT 23 rfl) (wT 267 rfl) (rm_u16put Gl Ol2 tb1 kb1 (480 : Int32) vs2 (Int32.ofNat it) (acc.getD it 0) (2 * it) F2_2 f2 (own_put_at hvl (by omega))) e2 18 rfl 3 0 pd_52952394 rfl rfl rfl rfl (by decide +kernel) ?_
    intro v5 T5 L5 X5 Y5 hQ5
    obtain ⟨rfl, Nq5, Kq5, fq5_0⟩ := hQ5
    show OwnH p e below _ T5 m _ _ []
    have N5 := Fr.app N2 Nq5
    have F5_3 := F2_1.keep Kq5 (ninS f3 nin0)
    have Ol5 := Ol2.keep Kq5 (allS f2 all0)
    have K5 : Keep h0 T5.heap ([tb1] : List Addr) := K2.trans Kq5 (allS (Or.inl (List.mem_of_getElem? (i := 0) rfl)) all0)
    refine oinc Y5 19 rfl #[vR va, vI ((Int32.ofNat it) + (1 : Int32)), vR tb1, vI ((Int32.ofNat it) + (1 : Int32)), vI (Int32.ofNat acc.length), vI ((Int32.ofNat it) + (1 : Int32))] rfl rfl <| ogt 10 Y5 20 rfl rfl ?_
    refine og T5 m 10 #[vR va, vI (Int32.ofNat (it + 1)), vR tb1, vI (Int32.ofNat (it + 1)), vI (Int32.ofNat acc.length), vI (Int32.ofNat (it + 1))] [] (fun tgt kgo => castTop (by rw [(own_add1 it)]) kgo) ?_
    exact ih2 (it + 1) ((vs2.set (2 * it) (.int (nar .byte (acc.getD it 0)))).set ((2 * it) + 1) (.int (nar .byte ((acc.getD it 0) >>> ((8 : Int32) &&& 31))))) T5 T5.heap _ X5 rfl Ol5 K5 N5 F5_3 fq5_0 (by omega) (by rw [List.length_set, List.length_set]; exact hvl) (own_ub_next hub (by omega) (by omega)) (by omega)
   have hge : it = acc.length := Nat.le_antisymm hle (Nat.le_of_not_lt fun q => cc3 ((own_ltN (by omega) (by omega)).mpr q))
   refine ocy 41 Y2 8 rfl rfl (flt cc3).2.1 ?_
   exact orV X2 Y2 hlk Bd.returns 21 rfl (by decide) (by decide) e2 ⟨vs2, rfl, N2, K2, F2_2, (own_ub_all rfl hge hub), hvl⟩
 exact lp10 (acc.length - 0 + 1) 0 vs1 T1 h0 _ X1 eq1 X00 K0 N1 f0 f1 (Nat.zero_le _) hv1 (own_ub_nil (by omega)) (Nat.lt_succ_self _)
def Q_linf (Z : State) (va : Addr) (kv : ClassId) (vsb : List Value) (tb1 : Addr) (kb1 : ClassId) (vs1 : List Value) (acc : List Int32) : OwnP := fun h0 n0 v h L => ∃ (vs : List Value), v = none ∧ Fr n0 L ∧ Keep h0 h ([tb1] : List Addr) ∧ Arv Z h tb1 kb1 .byte (480 : Int32) vs (.int 0) ∧ (OwnUB acc vs) ∧ (vs.length = 480)
def ll31 : List (Nat × Instr × Nat) := [(0, .aload_n 0, 1), (1, .iload_n 1, 1), (2, .aload_n 2, 1), (3, .iload_n 3, 1), (4, .iload 4, 2), (6, .invokestatic 240, 3), (9, .return_, 1)]
theorem dl31 : OwnDec jdk_43_method_50_code ll31 := by decide +kernel
theorem pd_98169100 : parseMethodDescriptor "([BI[BII)V" = some ⟨[(.array .byte), .int, (.array .byte), .int, .int], none⟩ := by decide +kernel
theorem rm_linf (Gl : OwnGl Z a0 wG1 wG3) (X00 : Old Z n0 h0) (va : Addr) (kv : ClassId) (vsb : List Value) (tb1 : Addr) (kb1 : ClassId) (vs1 : List Value) (acc : List Int32) (f0 : Arv Z h0 va kv .byte (240 : Int32) vsb (.int 0)) (f1 : Arv Z h0 tb1 kb1 .byte (480 : Int32) vs1 (.int 0)) (f2 : n0 ≤ tb1) (f3 : va ≠ tb1) (hln : acc.length ≤ 240) (hv0 : vsb.length = 240) (hlb : OwnLB acc vsb) (hrg : OwnRg acc) (hv1 : vs1.length = 480) : OwnM l Z mN31 jdk_43_method_50_code 5 none (oR 4 0 0 60) #[(.ref va), (.int 0), (.ref tb1), (.int 0), (.int (Int32.ofNat acc.length))] h0 (Q_linf Z va kv vsb tb1 kb1 vs1 acc h0 n0) := by
 refine own_in (plainFor_of_name pn_54843740) dl31 #[vR va, vI 0, vR tb1, vI 0, vI (Int32.ofNat acc.length)] (oE rfl) ?_
 intro p e s m below meth c s₁ Bd hml hZ X0 e0 hx hlk Y0 hown
 obtain ⟨hw, cx, hEL⟩ := id Gl
 have wT := oww hw
 have N0 := Fr.nil n0
 have K0 : Keep h0 h0 ([tb1] : List Addr) := Keep.refl _ _
 refine oaN Y0 0 rfl rfl rfl <| oiN Y0 1 rfl rfl <| oaN Y0 2 rfl rfl rfl <| oiN Y0 3 rfl rfl <| oil Y0 4 rfl rfl ?_
 refine oCS X0 Y0 hZ hml hown (wT 250 rfl) (wT 251 rfl) (wT 23 rfl) (wT 252 rfl) (rm_uinf Gl X00 va kv vsb tb1 kb1 vs1 acc f0 f1 f2 f3 hln hv0 hlb hrg hv1) e0 5 rfl 5 0 pd_98169100 rfl rfl rfl rfl (by decide +kernel) ?_
 intro v1 T1 L1 X1 Y1 hQ1
 obtain ⟨vs_1, rfl, Nq1, Kq1, fq1_0, pq1_0, pq1_1⟩ := hQ1
 show OwnH p e below _ T1 m _ _ []
 have N1 := Fr.app N0 Nq1
 have K1 : Keep h0 T1.heap ([tb1] : List Addr) := K0.trans Kq1 (allS (Or.inl (List.mem_of_getElem? (i := 0) rfl)) all0)
 exact orV X1 Y1 hlk Bd.returns 6 rfl (by decide) (by decide) rfl ⟨vs_1, rfl, N1, K1, fq1_0, pq1_0, pq1_1⟩
def Q_infl (Z : State) (sb : Addr) (va : Addr) (kv : ClassId) (vsb : List Value) (ml : Int32) (acc : List Int32) : OwnP := fun h0 n0 v h L => ∃ (t : Addr), ∃ (k : ClassId), ∃ (vs : List Value), v = none ∧ Fr n0 L ∧ Keep h0 h ([sb] : List Addr) ∧ h0.size ≤ t ∧ Exa Z h sb "java/lang/StringBuilder" ∧ Fld Z h sb "java/lang/AbstractStringBuilder" "value" "[B" (.ref t) ∧ Fld Z h sb "java/lang/AbstractStringBuilder" "coder" "B" (.int 1) ∧ Fld Z h sb "java/lang/AbstractStringBuilder" "count" "I" (.int (Int32.ofNat acc.length)) ∧ Fld Z h sb "java/lang/AbstractStringBuilder" "maybeLatin1" "Z" (.int ml) ∧ Arv Z h t k .byte (480 : Int32) vs (.int 0) ∧ Exa Z h t "[B" ∧ (OwnUB acc vs) ∧ (vs.length = 480)
def ll32 : List (Nat × Instr × Nat) := [(0, .aload_n 0, 1), (1, .invokevirtual 83, 3), (4, .ifCond .ne 4, 3), (8, .aload_n 0, 1), (9, .getfield 15, 3), (12, .arraylength, 1), (13, .invokestatic 26, 3), (16, .astore_n 1, 1), (17, .aload_n 0, 1), (18, .getfield 15, 3), (21, .iconst 0, 1), (22, .aload_n 1, 1), (23, .iconst 0, 1), (24, .aload_n 0, 1), (25, .getfield 79, 3), (28, .invokestatic 125, 3), (31, .aload_n 0, 1), (32, .aload_n 1, 1), (33, .putfield 15, 3), (36, .aload_n 0, 1), (37, .iconst 1, 1), (38, .putfield 22, 3), (41, .return_, 1)]
theorem dl32 : OwnDec jdk_68_method_11_code ll32 := by decide +kernel
theorem rm_infl (Gl : OwnGl Z a0 wG1 wG3) (X00 : Old Z n0 h0) (sb : Addr) (va : Addr) (kv : ClassId) (vsb : List Value) (ml : Int32) (acc : List Int32) (f0 : Exa Z h0 sb "java/lang/StringBuilder") (f1 : Fld Z h0 sb "java/lang/AbstractStringBuilder" "value" "[B" (.ref va)) (f2 : Fld Z h0 sb "java/lang/AbstractStringBuilder" "coder" "B" (.int 0)) (f3 : Fld Z h0 sb "java/lang/AbstractStringBuilder" "count" "I" (.int (Int32.ofNat acc.length))) (f4 : Fld Z h0 sb "java/lang/AbstractStringBuilder" "maybeLatin1" "Z" (.int ml)) (f5 : Arv Z h0 va kv .byte (240 : Int32) vsb (.int 0)) (f6 : Exa Z h0 va "[B") (f7 : n0 ≤ sb) (hln : acc.length ≤ 240) (hvl : vsb.length = 240) (hlb : OwnLB acc vsb) (hrg : OwnRg acc) : OwnM l Z mN32 jdk_68_method_11_code 2 none (oR 5 1 600 76) #[(.ref sb)] h0 (Q_infl Z sb va kv vsb ml acc h0 n0) := by
 refine own_in (plainFor_of_name pn_24045714) dl32 #[vR sb, vU] (oE rfl) ?_
 intro p e s m below meth c s₁ Bd hml hZ X0 e0 hx hlk Y0 hown
 obtain ⟨hw, cx, hEL⟩ := id Gl
 have wT := oww hw
 have N0 := Fr.nil n0
 have Z0 : n0 ≤ h0.size := X00.1 ▸ X00.2.1
 have K0 : Keep h0 h0 ([sb] : List Addr) := Keep.refl _ _
 refine oaN Y0 0 rfl rfl rfl ?_
 refine oCV X0 Y0 hZ hml hown (wT 129 rfl) (wT 130 rfl) (notFace_of_selects (args := #[]) (mvT hZ (wT 132 rfl))) (wT 132 rfl) (wT 131 rfl) (wT 133 rfl) (wT 57 rfl) (rm_ail_0 Gl X00 sb f0 f2) e0 f0 1 rfl 0 0 pd_15861835 rfl rfl rfl rfl rfl (by decide +kernel) (by decide +kernel) ?_
 intro v1 T1 L1 X1 Y1 hQ1
 obtain ⟨rfl, Nq1, eq1⟩ := hQ1
 show OwnH p e below _ T1 m _ _ [(.int 1)]
 have N1 := Fr.app N0 Nq1
 refine oify 8 Y1 2 rfl rfl ((if0 _ _).trans (feq (by decide : ¬ ((1 : Int32) = (0 : Int32)))).2) <| oaN Y1 3 rfl rfl rfl ?_
 refine oGF X1 Y1 hZ hown (wT 61 rfl) Via.refl eq1 f1 4 rfl ?_
 intro T2 X2 Y2 e2
 refine olen X2 Y2 hZ e2 f5 5 rfl ?_
 refine oCS X2 Y2 hZ hml hown (wT 240 rfl) (wT 241 rfl) (wT 23 rfl) (wT 242 rfl) (rm_nbf Gl X00 240 (by decide)) e2 6 rfl 1 0 pd_63641379 rfl rfl rfl rfl (by decide +kernel) ?_
 intro v4 T4 L4 X4 Y4 hQ4
 obtain ⟨t_4, k_4, rfl, Nq4, Kq4, zq4_0, fq4_0, fq4_1⟩ := hQ4
 show OwnH p e below _ T4 m _ _ [(.ref t_4)]
 have N4 := Fr.app N1 Nq4
 have ne_sb_t_4 : sb ≠ t_4 := Nat.ne_of_lt (Nat.lt_of_lt_of_le f0.lt zq4_0)
 have ne_va_t_4 : va ≠ t_4 := Nat.ne_of_lt (Nat.lt_of_lt_of_le f5.lt zq4_0)
 have g_t_4 : n0 ≤ t_4 := Nat.le_trans (Nat.le_trans Z0 K0.1) zq4_0
 have s_t_4 : h0.size ≤ t_4 := Nat.le_trans K0.1 zq4_0
 have F4_1 := f0.keep Kq4
 have F4_2 := f1.keep Kq4 nin0
 have F4_3 := f2.keep Kq4 nin0
 have F4_4 := f3.keep Kq4 nin0
 have F4_5 := f4.keep Kq4 nin0
 have F4_6 := f5.keep Kq4 nin0
 have Ol4 := X00.keep Kq4 all0
 have K4 : Keep h0 T4.heap ([sb] : List Addr) := K0.trans Kq4 all0
 have Vz5 : Arv Z T4.heap t_4 k_4 .byte (480 : Int32) (List.replicate 480 (Value.int (0 : Int32))) (.int 0) := fq4_0
 refine oaS Y4 7 rfl #[vR sb, vR t_4] rfl rfl <| oaN Y4 8 rfl rfl rfl ?_
 refine oGF X4 Y4 hZ hown (wT 61 rfl) Via.refl rfl F4_2 9 rfl ?_
 intro T6 X6 Y6 e6
 refine oic 0 Y6 10 rfl rfl <| oaN Y6 11 rfl rfl rfl <| oic 0 Y6 12 rfl rfl <| oaN Y6 13 rfl rfl rfl ?_
 refine oGF X6 Y6 hZ hown (wT 113 rfl) Via.refl e6 F4_4 14 rfl ?_
 intro T7 X7 Y7 e7
 refine oCS X7 Y7 hZ hml hown (wT 247 rfl) (wT 248 rfl) (wT 90 rfl) (wT 249 rfl) (rm_linf Gl Ol4 va kv vsb t_4 k_4 (List.replicate 480 (Value.int (0 : Int32))) acc F4_6 Vz5 g_t_4 ne_va_t_4 hln hvl hlb hrg (List.length_replicate ..)) e7 15 rfl 5 0 pd_98169100 rfl rfl rfl rfl (by decide +kernel) ?_
 intro v8 T8 L8 X8 Y8 hQ8
 obtain ⟨vs_8, rfl, Nq8, Kq8, fq8_0, pq8_0, pq8_1⟩ := hQ8
 show OwnH p e below _ T8 m _ _ []
 have N8 := Fr.app N4 Nq8
 have F8_8 := F4_1.keep Kq8
 have F8_9 := F4_2.keep Kq8 (ninS ne_sb_t_4 nin0)
 have F8_10 := F4_3.keep Kq8 (ninS ne_sb_t_4 nin0)
 have F8_11 := F4_4.keep Kq8 (ninS ne_sb_t_4 nin0)
 have F8_12 := F4_5.keep Kq8 (ninS ne_sb_t_4 nin0)
 have F8_15 := fq4_1.keep Kq8
 have K8 : Keep h0 T8.heap ([sb] : List Addr) := K4.trans Kq8 (allS (Or.inr s_t_4) all0)
 refine oaN Y8 16 rfl rfl rfl <| oaN Y8 17 rfl rfl rfl ?_
 obtain ⟨T9, h9, X9, e9, W9, st9⟩ := putF X8 hx hZ hown (host := "") (Or.inl (wT 61 rfl)) Via.refl rfl F8_9 F8_8 (Or.inl (wT 62 rfl)) (wT 48 rfl) (ty := (.array .byte)) (by decide) rfl rfl (g := (mkF m 33 #[vR sb, vR t_4] [(.ref t_4), (.ref sb)])) rfl rfl (Y0.d 18 rfl)
 refine og T9 m 36 #[vR sb, vR t_4] [] st9 ?_
 have Fw9 := F8_9.same W9
 have F9_16 := F8_8.wr W9
 have F9_17 := F8_10.other W9 (Or.inr (slot_ne (Or.inl (wT 64 rfl)) (Or.inl (wT 62 rfl)) (by decide) (t := .byte) (t' := (.array .byte)) (by decide) (by decide)))
 have F9_18 := F8_11.other W9 (Or.inr (slot_ne (Or.inl (wT 114 rfl)) (Or.inl (wT 62 rfl)) (by decide) (t := .int) (t' := (.array .byte)) (by decide) (by decide)))
 have F9_19 := F8_12.other W9 (Or.inr (slot_ne (Or.inl (wT 234 rfl)) (Or.inl (wT 62 rfl)) (by decide) (t := .boolean) (t' := (.array .byte)) (by decide) (by decide)))
 have F9_22 := F8_15.wr W9
 have F9_23 := fq8_0.other W9 (Ne.symm ne_sb_t_4)
 have K9 : Keep h0 h9 ([sb] : List Addr) := K8.wr W9 (Or.inl (List.mem_of_getElem? (i := 0) rfl))
 have N9 := Fr.snoc X9 N8 f7
 have Y9 := Y0.nx X9
 refine oaN Y9 19 rfl rfl rfl <| oic 1 Y9 20 rfl rfl ?_
 obtain ⟨T10, h10, X10, e10, W10, st10⟩ := putFN X9 hx hZ hown (wT 63 rfl) Via.refl e9 F9_17 F9_16 (Or.inl (wT 64 rfl)) (wT 48 rfl) (ty := .byte) (v' := (.int (nar .byte (1 : Int32)))) (by decide) rfl (fits_nar_byte _) (g := (mkF m 38 #[vR sb, vR t_4] [(.int 1), (.ref sb)])) rfl rfl (Y0.d 21 rfl)
 refine og T10 m 41 #[vR sb, vR t_4] [] st10 ?_
 have Fw10 := F9_17.same W10
 rw [(by decide : nar .byte (1 : Int32) = (1 : Int32))] at Fw10
 have F10_24 := F9_16.wr W10
 have F10_25 := Fw9.other W10 (Or.inr (slot_ne (Or.inl (wT 62 rfl)) (Or.inl (wT 64 rfl)) (by decide) (t := (.array .byte)) (t' := .byte) (by decide) (by decide)))
 have F10_26 := F9_18.other W10 (Or.inr (slot_ne (Or.inl (wT 114 rfl)) (Or.inl (wT 64 rfl)) (by decide) (t := .int) (t' := .byte) (by decide) (by decide)))
 have F10_27 := F9_19.other W10 (Or.inr (slot_ne (Or.inl (wT 234 rfl)) (Or.inl (wT 64 rfl)) (by decide) (t := .boolean) (t' := .byte) (by decide) (by decide)))
 have F10_30 := F9_22.wr W10
 have F10_31 := F9_23.other W10 (Ne.symm ne_sb_t_4)
 have K10 : Keep h0 h10 ([sb] : List Addr) := K9.wr W10 (Or.inl (List.mem_of_getElem? (i := 0) rfl))
 have N10 := Fr.snoc X10 N9 f7
 have Y10 := Y0.nx X10
 exact orV X10 Y10 hlk Bd.returns 22 rfl (by decide) (by decide) e10 ⟨t_4, k_4, vs_8, rfl, N10, K10, s_t_4, F10_24, F10_25, Fw10, F10_26, F10_27, F10_31, F10_30, pq8_0, pq8_1⟩
def Q_aappA (Z : State) (sb : Addr) (va : Addr) (kv : ClassId) (vsb : List Value) (ml : Int32) (acc : List Int32) (c1 : Int32) : OwnP := fun h0 n0 v h L => ∃ (vs : List Value), v = some (.ref sb) ∧ Fr n0 L ∧ Keep h0 h ([sb, va] : List Addr) ∧ Exa Z h sb "java/lang/StringBuilder" ∧ Fld Z h sb "java/lang/AbstractStringBuilder" "value" "[B" (.ref va) ∧ Fld Z h sb "java/lang/AbstractStringBuilder" "coder" "B" (.int 0) ∧ Fld Z h sb "java/lang/AbstractStringBuilder" "count" "I" (.int (Int32.ofNat (acc ++ [c1]).length)) ∧ Fld Z h sb "java/lang/AbstractStringBuilder" "maybeLatin1" "Z" (.int ml) ∧ Arv Z h va kv .byte (240 : Int32) vs (.int 0) ∧ Exa Z h va "[B" ∧ (OwnLB (acc ++ [c1]) vs) ∧ (vs.length = 240)
def ll33 : List (Nat × Instr × Nat) := [(0, .aload_n 0, 1), (1, .aload_n 0, 1), (2, .getfield 79, 3), (5, .iconst 1, 1), (6, .iadd, 1), (7, .invokevirtual 100, 3), (10, .aload_n 0, 1), (11, .invokevirtual 83, 3), (14, .ifCond .eq 31, 3), (17, .iload_n 1, 1), (18, .invokestatic 191, 3), (21, .ifCond .eq 24, 3), (24, .aload_n 0, 1), (25, .getfield 15, 3), (28, .aload_n 0, 1), (29, .dup, 1), (30, .getfield 79, 3), (33, .dup_x1, 1), (34, .iconst 1, 1), (35, .iadd, 1), (36, .putfield 79, 3), (39, .iload_n 1, 1), (40, .i2b, 1), (41, .bastore, 1), (42, .goto 33, 3), (45, .aload_n 0, 1), (46, .invokevirtual 83, 3), (49, .ifCond .eq 7, 3), (52, .aload_n 0, 1), (53, .invokevirtual 195, 3), (56, .aload_n 0, 1), (57, .getfield 15, 3), (60, .aload_n 0, 1), (61, .dup, 1), (62, .getfield 79, 3), (65, .dup_x1, 1), (66, .iconst 1, 1), (67, .iadd, 1), (68, .putfield 79, 3), (71, .iload_n 1, 1), (72, .invokestatic 197, 3), (75, .aload_n 0, 1), (76, .areturn, 1)]
theorem dl33 : OwnDec jdk_68_method_31_code ll33 := by decide +kernel
theorem pd_92619605 : parseMethodDescriptor "(C)Z" = some ⟨[.char], some .boolean⟩ := by decide +kernel
theorem rm_aappA (Gl : OwnGl Z a0 wG1 wG3) (X00 : Old Z n0 h0) (sb : Addr) (va : Addr) (kv : ClassId) (vsb : List Value) (ml : Int32) (acc : List Int32) (c1 : Int32) (f0 : Exa Z h0 sb "java/lang/StringBuilder") (f1 : Fld Z h0 sb "java/lang/AbstractStringBuilder" "value" "[B" (.ref va)) (f2 : Fld Z h0 sb "java/lang/AbstractStringBuilder" "coder" "B" (.int 0)) (f3 : Fld Z h0 sb "java/lang/AbstractStringBuilder" "count" "I" (.int (Int32.ofNat acc.length))) (f4 : Fld Z h0 sb "java/lang/AbstractStringBuilder" "maybeLatin1" "Z" (.int ml)) (f5 : Arv Z h0 va kv .byte (240 : Int32) vsb (.int 0)) (f6 : Exa Z h0 va "[B") (f7 : n0 ≤ sb) (f8 : n0 ≤ va) (hlen : acc.length < 240) (hvl : vsb.length = 240) (hlb : OwnLB acc vsb) (hc : ¬ ((255 : Int32) < c1)) : OwnM l Z mN33 jdk_68_method_31_code 2 (some (.object "java/lang/AbstractStringBuilder")) (oR 1 0 0 14) #[(.ref sb), (.int c1)] h0 (Q_aappA Z sb va kv vsb ml acc c1 h0 n0) := by
 refine own_in (plainFor_of_name pn_24045714) dl33 #[vR sb, vI c1] (oE rfl) ?_
 intro p e s m below meth c s₁ Bd hml hZ X0 e0 hx hlk Y0 hown
 obtain ⟨hw, cx, hEL⟩ := id Gl
 have wT := oww hw
 have N0 := Fr.nil n0
 have K0 : Keep h0 h0 ([sb, va] : List Addr) := Keep.refl _ _
 refine oaN Y0 0 rfl rfl rfl <| oaN Y0 1 rfl rfl rfl ?_
 refine oGF X0 Y0 hZ hown (wT 113 rfl) Via.refl e0 f3 2 rfl ?_
 intro T1 X1 Y1 e1
 refine oic 1 Y1 3 rfl rfl <| oadd Y1 4 rfl ?_
 refine oCV X1 Y1 hZ hml hown (wT 124 rfl) (own_decl (wT 125 rfl) (wT 128 rfl)) (notFace_of_selects (args := #[]) (mvT hZ (wT 127 rfl))) (wT 127 rfl) (wT 125 rfl) (wT 128 rfl) (wT 57 rfl) (rm_ecn_0 Gl X00 sb va kv vsb ((Int32.ofNat acc.length) + (1 : Int32)) f0 f2 f1 f5 (own_cap hlen)) e1 f0 5 rfl 1 0 pd_57711528 rfl rfl rfl rfl rfl (by decide +kernel) (by decide +kernel) ?_
 intro v2 T2 L2 X2 Y2 hQ2
 obtain ⟨rfl, Nq2, eq2⟩ := hQ2
 show OwnH p e below _ T2 m _ _ []
 have N2 := Fr.app N0 Nq2
 refine oaN Y2 6 rfl rfl rfl ?_
 refine oCV X2 Y2 hZ hml hown (wT 129 rfl) (wT 130 rfl) (notFace_of_selects (args := #[]) (mvT hZ (wT 132 rfl))) (wT 132 rfl) (wT 131 rfl) (wT 133 rfl) (wT 57 rfl) (rm_ail_0 Gl X00 sb f0 f2) eq2 f0 7 rfl 0 0 pd_15861835 rfl rfl rfl rfl rfl (by decide +kernel) (by decide +kernel) ?_
 intro v3 T3 L3 X3 Y3 hQ3
 obtain ⟨rfl, Nq3, eq3⟩ := hQ3
 show OwnH p e below _ T3 m _ _ [(.int 1)]
 have N3 := Fr.app N2 Nq3
 refine oifn Y3 8 rfl ((if0 _ _).trans (feq (by decide : ¬ ((1 : Int32) = (0 : Int32)))).1) <| oiN Y3 9 rfl rfl ?_
 refine oCS X3 Y3 hZ hml hown (wT 134 rfl) (wT 135 rfl) (wT 90 rfl) (wT 136 rfl) (rm_can_0 Gl X00 c1 hc) eq3 10 rfl 1 0 pd_92619605 rfl rfl rfl rfl (by decide +kernel) ?_
 intro v4 T4 L4 X4 Y4 hQ4
 obtain ⟨rfl, Nq4, eq4⟩ := hQ4
 show OwnH p e below _ T4 m _ _ [(.int 1)]
 have N4 := Fr.app N3 Nq4
 refine oifn Y4 11 rfl ((if0 _ _).trans (feq (by decide : ¬ ((1 : Int32) = (0 : Int32)))).1) <| oaN Y4 12 rfl rfl rfl ?_
 refine oGF X4 Y4 hZ hown (wT 61 rfl) Via.refl eq4 f1 13 rfl ?_
 intro T5 X5 Y5 e5
 refine oaN Y5 14 rfl rfl rfl <| odup Y5 15 rfl rfl ?_
 refine oGF X5 Y5 hZ hown (wT 113 rfl) Via.refl e5 f3 16 rfl ?_
 intro T6 X6 Y6 e6
 refine odx1 Y6 17 rfl rfl rfl <| oic 1 Y6 18 rfl rfl <| oadd Y6 19 rfl ?_
 obtain ⟨T7, h7, X7, e7, W7, st7⟩ := putF X6 hx hZ hown (host := "") (Or.inl (wT 113 rfl)) Via.refl e6 f3 f0 (Or.inl (wT 114 rfl)) (wT 48 rfl) (ty := .int) (by decide) rfl rfl (g := (mkF m 36 #[vR sb, vI c1] [(.int ((Int32.ofNat acc.length) + (1 : Int32))), (.ref sb), (.int (Int32.ofNat acc.length)), (.ref va)])) rfl rfl (Y0.d 20 rfl)
 refine og T7 m 39 #[vR sb, vI c1] [(.int (Int32.ofNat acc.length)), (.ref va)] st7 ?_
 have Fw7 := f3.same W7
 have F7_1 := f0.wr W7
 have F7_2 := f1.other W7 (Or.inr (slot_ne (Or.inl (wT 62 rfl)) (Or.inl (wT 114 rfl)) (by decide) (t := (.array .byte)) (t' := .int) (by decide) (by decide)))
 have F7_3 := f2.other W7 (Or.inr (slot_ne (Or.inl (wT 64 rfl)) (Or.inl (wT 114 rfl)) (by decide) (t := .byte) (t' := .int) (by decide) (by decide)))
 have F7_4 := f4.other W7 (Or.inr (slot_ne (Or.inl (wT 234 rfl)) (Or.inl (wT 114 rfl)) (by decide) (t := .boolean) (t' := .int) (by decide) (by decide)))
 have F7_5 := f5.other W7 (Exa.ne f6 f0 (by decide))
 have F7_6 := f6.wr W7
 have K7 : Keep h0 h7 ([sb, va] : List Addr) := K0.wr W7 (Or.inl (List.mem_of_getElem? (i := 0) rfl))
 have N7 := Fr.snoc X7 N4 f7
 have Y7 := Y0.nx X7
 refine oiN Y7 21 rfl rfl <| oi2b Y7 22 rfl ?_
 obtain ⟨cl8, Ar8, q8, S8, M8, H8, G8⟩ := id F7_5
 obtain ⟨T8, h8, X8, e8, W8, st8⟩ := stB X7 hx hZ e7 Ar8 (j := (Int32.ofNat acc.length)) (inb_of S8 ⟨(own_nat (by omega)).2.1, (own_ltN (b := 240) (by omega) (by decide)).mpr hlen⟩) (g := (mkF m 41 #[vR sb, vI c1] [(.int (nar .byte c1)), (.int (Int32.ofNat acc.length)), (.ref va)])) rfl rfl (Y0.d 23 rfl)
 refine og T8 m 42 #[vR sb, vI c1] [] st8 ?_
 have V8 : Arv Z h8 va kv .byte (240 : Int32) (vsb.set acc.length (.int (nar .byte (nar .byte c1)))) (.int 0) := Arv.set Ar8 q8 S8 M8 H8 G8 (fits_nar_byte _) W8 _ (own_nat (by omega)).2.2 (by omega)
 rw [own_nar2_byte] at V8
 have V8' : Arv Z h8 va kv .byte (240 : Int32) (vsb.set acc.length (.int (nar .byte c1))) (.int 0) := V8
 have F8_7 := F7_1.wr W8
 have F8_8 := F7_2.other W8 (Or.inl (Exa.ne F7_1 F7_6 (by decide)))
 have F8_9 := F7_3.other W8 (Or.inl (Exa.ne F7_1 F7_6 (by decide)))
 have F8_10 := Fw7.other W8 (Or.inl (Exa.ne F7_1 F7_6 (by decide)))
 have F8_11 := F7_4.other W8 (Or.inl (Exa.ne F7_1 F7_6 (by decide)))
 have F8_12 := F7_6.wr W8
 have K8 : Keep h0 h8 ([sb, va] : List Addr) := K7.wr W8 (Or.inl (List.mem_of_getElem? (i := 1) rfl))
 have N8 := Fr.snoc X8 N7 f8
 have Y8 := Y0.nx X8
 refine ogt 75 Y8 24 rfl rfl <| oaN Y8 41 rfl rfl rfl ?_
 have Fl10 : Fld Z h8 sb "java/lang/AbstractStringBuilder" "count" "I" (.int (Int32.ofNat (acc ++ [c1]).length)) := by rw [← own_len1]; exact F8_10
 exact orA X8 Y8 hlk Bd.returns rfl rfl rfl 42 rfl (by decide) (by decide) e8 ⟨(vsb.set acc.length (.int (nar .byte c1))), rfl, N8, K8, F8_7, F8_8, F8_9, Fl10, F8_11, V8', F8_12, (own_lb_app hlb (by omega) hc), (by rw [List.length_set]; exact hvl)⟩
def Q_sappA (Z : State) (sb : Addr) (va : Addr) (kv : ClassId) (vsb : List Value) (ml : Int32) (acc : List Int32) (c1 : Int32) : OwnP := fun h0 n0 v h L => ∃ (vs : List Value), v = some (.ref sb) ∧ Fr n0 L ∧ Keep h0 h ([sb, va] : List Addr) ∧ Exa Z h sb "java/lang/StringBuilder" ∧ Fld Z h sb "java/lang/AbstractStringBuilder" "value" "[B" (.ref va) ∧ Fld Z h sb "java/lang/AbstractStringBuilder" "coder" "B" (.int 0) ∧ Fld Z h sb "java/lang/AbstractStringBuilder" "count" "I" (.int (Int32.ofNat (acc ++ [c1]).length)) ∧ Fld Z h sb "java/lang/AbstractStringBuilder" "maybeLatin1" "Z" (.int ml) ∧ Arv Z h va kv .byte (240 : Int32) vs (.int 0) ∧ Exa Z h va "[B" ∧ (OwnLB (acc ++ [c1]) vs) ∧ (vs.length = 240)
def ll34 : List (Nat × Instr × Nat) := [(0, .aload_n 0, 1), (1, .iload_n 1, 1), (2, .invokespecial 50, 3), (5, .pop, 1), (6, .aload_n 0, 1), (7, .areturn, 1)]
theorem dl34 : OwnDec jdk_67_method_14_code ll34 := by decide +kernel
theorem pd_70363056 : parseMethodDescriptor "(C)Ljava/lang/AbstractStringBuilder;" = some ⟨[.char], some (.object "java/lang/AbstractStringBuilder")⟩ := by decide +kernel
theorem rm_sappA (Gl : OwnGl Z a0 wG1 wG3) (X00 : Old Z n0 h0) (sb : Addr) (va : Addr) (kv : ClassId) (vsb : List Value) (ml : Int32) (acc : List Int32) (c1 : Int32) (f0 : Exa Z h0 sb "java/lang/StringBuilder") (f1 : Fld Z h0 sb "java/lang/AbstractStringBuilder" "value" "[B" (.ref va)) (f2 : Fld Z h0 sb "java/lang/AbstractStringBuilder" "coder" "B" (.int 0)) (f3 : Fld Z h0 sb "java/lang/AbstractStringBuilder" "count" "I" (.int (Int32.ofNat acc.length))) (f4 : Fld Z h0 sb "java/lang/AbstractStringBuilder" "maybeLatin1" "Z" (.int ml)) (f5 : Arv Z h0 va kv .byte (240 : Int32) vsb (.int 0)) (f6 : Exa Z h0 va "[B") (f7 : n0 ≤ sb) (f8 : n0 ≤ va) (hlen : acc.length < 240) (hvl : vsb.length = 240) (hlb : OwnLB acc vsb) (hc : ¬ ((255 : Int32) < c1)) : OwnM l Z mN34 jdk_67_method_14_code 2 (some (.object "java/lang/StringBuilder")) (oR 2 0 0 27) #[(.ref sb), (.int c1)] h0 (Q_sappA Z sb va kv vsb ml acc c1 h0 n0) := by
 refine own_in (plainFor_of_name pn_27209738) dl34 #[vR sb, vI c1] (oE rfl) ?_
 intro p e s m below meth c s₁ Bd hml hZ X0 e0 hx hlk Y0 hown
 obtain ⟨hw, cx, hEL⟩ := id Gl
 have wT := oww hw
 have N0 := Fr.nil n0
 have K0 : Keep h0 h0 ([sb, va] : List Addr) := Keep.refl _ _
 refine oaN Y0 0 rfl rfl rfl <| oiN Y0 1 rfl rfl ?_
 obtain ⟨_, _, ⟨T1, L1, k1, n1⟩, -, X1, ⟨Lc1, hQ1, l1, y1, z1⟩, st1⟩ := superBack X0 hx hZ (y := mN33) hown (wT 120 rfl) (own_same (y := mN33) (wT 122 rfl) (wT 127 rfl) rfl ⟨by decide, by decide⟩) (wT 121 rfl) (wT 110 rfl) (by decide) (backOf (W := 0) (rm_aappA Gl X00 sb va kv vsb ml acc c1 f0 f1 f2 f3 f4 f5 f6 f7 f8 hlen hvl hlb hc) hZ (wT 123 rfl) (wT 57 rfl) (by decide) (by decide)) e0 (Ins.self f0) (g := (mkF m 2 #[vR sb, vI c1] [(.int c1), (.ref sb)])) rfl (by rw [hml]; rfl) (wT 123 rfl) (argsL := [(.int c1)]) (rest := []) (lenOf pd_70363056 rfl) rfl (Nat.le_of_eq rfl) (Y0.d 2 rfl) (fun _ _ => ⟨rfl, e0, (by decide : 0 + 0 ≤ _), (by decide : 0 + 0 ≤ _)⟩)
 dsimp only [Pt.U, Pt.locs, Pt.cells, Pt.slots] at X1 l1 y1 z1 st1 hQ1
 subst l1 y1 z1
 obtain ⟨vs_1, rfl, Nq1, Kq1, fq1_0, fq1_1, fq1_2, fq1_3, fq1_4, fq1_5, fq1_6, pq1_0, pq1_1⟩ := hQ1
 refine OwnGoes.tr (T' := T1) (g' := (mkF m 5 #[vR sb, vI c1] [(.ref sb)])) st1 ?_
 have N1 := Fr.app N0 Nq1
 have K1 : Keep h0 T1.heap ([sb, va] : List Addr) := K0.trans Kq1 (allS (Or.inl (List.mem_of_getElem? (i := 0) rfl)) (allS (Or.inl (List.mem_of_getElem? (i := 1) rfl)) all0))
 have Y1 := Y0.nx X1
 refine opop Y1 3 rfl rfl <| oaN Y1 4 rfl rfl rfl ?_
 exact orA X1 Y1 hlk Bd.returns rfl rfl rfl 5 rfl (by decide) (by decide) rfl ⟨vs_1, rfl, N1, K1, fq1_0, fq1_1, fq1_2, fq1_3, fq1_4, fq1_5, fq1_6, pq1_0, pq1_1⟩
def Q_aappB (Z : State) (sb : Addr) (va : Addr) (kv : ClassId) (vsb : List Value) (ml : Int32) (acc : List Int32) (c1 : Int32) : OwnP := fun h0 n0 v h L => ∃ (t : Addr), ∃ (k : ClassId), ∃ (vs : List Value), v = some (.ref sb) ∧ Fr n0 L ∧ Keep h0 h ([sb] : List Addr) ∧ h0.size ≤ t ∧ Exa Z h sb "java/lang/StringBuilder" ∧ Fld Z h sb "java/lang/AbstractStringBuilder" "value" "[B" (.ref t) ∧ Fld Z h sb "java/lang/AbstractStringBuilder" "coder" "B" (.int 1) ∧ Fld Z h sb "java/lang/AbstractStringBuilder" "count" "I" (.int (Int32.ofNat (acc ++ [c1]).length)) ∧ Fld Z h sb "java/lang/AbstractStringBuilder" "maybeLatin1" "Z" (.int ml) ∧ Arv Z h t k .byte (480 : Int32) vs (.int 0) ∧ Exa Z h t "[B" ∧ (OwnUB (acc ++ [c1]) vs) ∧ (vs.length = 480)
theorem pd_57008992 : parseMethodDescriptor "()V" = some ⟨[], none⟩ := by decide +kernel
theorem rm_aappB (Gl : OwnGl Z a0 wG1 wG3) (X00 : Old Z n0 h0) (sb : Addr) (va : Addr) (kv : ClassId) (vsb : List Value) (ml : Int32) (acc : List Int32) (c1 : Int32) (f0 : Exa Z h0 sb "java/lang/StringBuilder") (f1 : Fld Z h0 sb "java/lang/AbstractStringBuilder" "value" "[B" (.ref va)) (f2 : Fld Z h0 sb "java/lang/AbstractStringBuilder" "coder" "B" (.int 0)) (f3 : Fld Z h0 sb "java/lang/AbstractStringBuilder" "count" "I" (.int (Int32.ofNat acc.length))) (f4 : Fld Z h0 sb "java/lang/AbstractStringBuilder" "maybeLatin1" "Z" (.int ml)) (f5 : Arv Z h0 va kv .byte (240 : Int32) vsb (.int 0)) (f6 : Exa Z h0 va "[B") (f7 : n0 ≤ sb) (hlen : acc.length < 240) (hvl : vsb.length = 240) (hlb : OwnLB acc vsb) (hc : (255 : Int32) < c1) (hrg : OwnRg acc) : OwnM l Z mN33 jdk_68_method_31_code 2 (some (.object "java/lang/AbstractStringBuilder")) (oR 6 1 600 89) #[(.ref sb), (.int c1)] h0 (Q_aappB Z sb va kv vsb ml acc c1 h0 n0) := by
 refine own_in (plainFor_of_name pn_24045714) dl33 #[vR sb, vI c1] (oE rfl) ?_
 intro p e s m below meth c s₁ Bd hml hZ X0 e0 hx hlk Y0 hown
 obtain ⟨hw, cx, hEL⟩ := id Gl
 have wT := oww hw
 have N0 := Fr.nil n0
 have Z0 : n0 ≤ h0.size := X00.1 ▸ X00.2.1
 have K0 : Keep h0 h0 ([sb] : List Addr) := Keep.refl _ _
 refine oaN Y0 0 rfl rfl rfl <| oaN Y0 1 rfl rfl rfl ?_
 refine oGF X0 Y0 hZ hown (wT 113 rfl) Via.refl e0 f3 2 rfl ?_
 intro T1 X1 Y1 e1
 refine oic 1 Y1 3 rfl rfl <| oadd Y1 4 rfl ?_
 refine oCV X1 Y1 hZ hml hown (wT 124 rfl) (own_decl (wT 125 rfl) (wT 128 rfl)) (notFace_of_selects (args := #[]) (mvT hZ (wT 127 rfl))) (wT 127 rfl) (wT 125 rfl) (wT 128 rfl) (wT 57 rfl) (rm_ecn_0 Gl X00 sb va kv vsb ((Int32.ofNat acc.length) + (1 : Int32)) f0 f2 f1 f5 (own_cap hlen)) e1 f0 5 rfl 1 0 pd_57711528 rfl rfl rfl rfl rfl (by decide +kernel) (by decide +kernel) ?_
 intro v2 T2 L2 X2 Y2 hQ2
 obtain ⟨rfl, Nq2, eq2⟩ := hQ2
 show OwnH p e below _ T2 m _ _ []
 have N2 := Fr.app N0 Nq2
 refine oaN Y2 6 rfl rfl rfl ?_
 refine oCV X2 Y2 hZ hml hown (wT 129 rfl) (wT 130 rfl) (notFace_of_selects (args := #[]) (mvT hZ (wT 132 rfl))) (wT 132 rfl) (wT 131 rfl) (wT 133 rfl) (wT 57 rfl) (rm_ail_0 Gl X00 sb f0 f2) eq2 f0 7 rfl 0 0 pd_15861835 rfl rfl rfl rfl rfl (by decide +kernel) (by decide +kernel) ?_
 intro v3 T3 L3 X3 Y3 hQ3
 obtain ⟨rfl, Nq3, eq3⟩ := hQ3
 show OwnH p e below _ T3 m _ _ [(.int 1)]
 have N3 := Fr.app N2 Nq3
 refine oifn Y3 8 rfl ((if0 _ _).trans (feq (by decide : ¬ ((1 : Int32) = (0 : Int32)))).1) <| oiN Y3 9 rfl rfl ?_
 refine oCS X3 Y3 hZ hml hown (wT 134 rfl) (wT 135 rfl) (wT 90 rfl) (wT 136 rfl) (rm_can_1 Gl X00 c1 hc) eq3 10 rfl 1 0 pd_92619605 rfl rfl rfl rfl (by decide +kernel) ?_
 intro v4 T4 L4 X4 Y4 hQ4
 obtain ⟨rfl, Nq4, eq4⟩ := hQ4
 show OwnH p e below _ T4 m _ _ [(.int 0)]
 have N4 := Fr.app N3 Nq4
 refine oify 45 Y4 11 rfl rfl ((if0 _ _).trans (teq (by decide : (0 : Int32) = (0 : Int32))).1) <| oaN Y4 25 rfl rfl rfl ?_
 refine oCV X4 Y4 hZ hml hown (wT 129 rfl) (wT 130 rfl) (notFace_of_selects (args := #[]) (mvT hZ (wT 132 rfl))) (wT 132 rfl) (wT 131 rfl) (wT 133 rfl) (wT 57 rfl) (rm_ail_0 Gl X00 sb f0 f2) eq4 f0 26 rfl 0 0 pd_15861835 rfl rfl rfl rfl rfl (by decide +kernel) (by decide +kernel) ?_
 intro v5 T5 L5 X5 Y5 hQ5
 obtain ⟨rfl, Nq5, eq5⟩ := hQ5
 show OwnH p e below _ T5 m _ _ [(.int 1)]
 have N5 := Fr.app N4 Nq5
 refine oifn Y5 27 rfl ((if0 _ _).trans (feq (by decide : ¬ ((1 : Int32) = (0 : Int32)))).1) <| oaN Y5 28 rfl rfl rfl ?_
 refine oCV X5 Y5 hZ hml hown (wT 235 rfl) (own_decl (wT 236 rfl) (wT 239 rfl)) (notFace_of_selects (args := #[]) (mvT hZ (wT 238 rfl))) (wT 238 rfl) (wT 236 rfl) (wT 239 rfl) (wT 57 rfl) (rm_infl Gl X00 sb va kv vsb ml acc f0 f1 f2 f3 f4 f5 f6 f7 (Nat.le_of_lt hlen) hvl hlb hrg) eq5 f0 29 rfl 0 0 pd_57008992 rfl rfl rfl rfl rfl (by decide +kernel) (by decide +kernel) ?_
 intro v6 T6 L6 X6 Y6 hQ6
 obtain ⟨t_6, k_6, vs_6, rfl, Nq6, Kq6, zq6_0, fq6_0, fq6_1, fq6_2, fq6_3, fq6_4, fq6_5, fq6_6, pq6_0, pq6_1⟩ := hQ6
 show OwnH p e below _ T6 m _ _ []
 have N6 := Fr.app N5 Nq6
 have ne_sb_t_6 : sb ≠ t_6 := Nat.ne_of_lt (Nat.lt_of_lt_of_le f0.lt zq6_0)
 have g_t_6 : n0 ≤ t_6 := Nat.le_trans (Nat.le_trans Z0 K0.1) zq6_0
 have s_t_6 : h0.size ≤ t_6 := Nat.le_trans K0.1 zq6_0
 have Ol6 := X00.keep Kq6 (allS f7 all0)
 have K6 : Keep h0 T6.heap ([sb] : List Addr) := K0.trans Kq6 (allS (Or.inl (List.mem_of_getElem? (i := 0) rfl)) all0)
 refine oaN Y6 30 rfl rfl rfl ?_
 refine oGF X6 Y6 hZ hown (wT 61 rfl) Via.refl rfl fq6_1 31 rfl ?_
 intro T7 X7 Y7 e7
 refine oaN Y7 32 rfl rfl rfl <| odup Y7 33 rfl rfl ?_
 refine oGF X7 Y7 hZ hown (wT 113 rfl) Via.refl e7 fq6_3 34 rfl ?_
 intro T8 X8 Y8 e8
 refine odx1 Y8 35 rfl rfl rfl <| oic 1 Y8 36 rfl rfl <| oadd Y8 37 rfl ?_
 obtain ⟨T9, h9, X9, e9, W9, st9⟩ := putF X8 hx hZ hown (host := "") (Or.inl (wT 113 rfl)) Via.refl e8 fq6_3 fq6_0 (Or.inl (wT 114 rfl)) (wT 48 rfl) (ty := .int) (by decide) rfl rfl (g := (mkF m 68 #[vR sb, vI c1] [(.int ((Int32.ofNat acc.length) + (1 : Int32))), (.ref sb), (.int (Int32.ofNat acc.length)), (.ref t_6)])) rfl rfl (Y0.d 38 rfl)
 refine og T9 m 71 #[vR sb, vI c1] [(.int (Int32.ofNat acc.length)), (.ref t_6)] st9 ?_
 have Fw9 := fq6_3.same W9
 have F9_4 := fq6_0.wr W9
 have F9_7 := fq6_1.other W9 (Or.inr (slot_ne (Or.inl (wT 62 rfl)) (Or.inl (wT 114 rfl)) (by decide) (t := (.array .byte)) (t' := .int) (by decide) (by decide)))
 have F9_8 := fq6_2.other W9 (Or.inr (slot_ne (Or.inl (wT 64 rfl)) (Or.inl (wT 114 rfl)) (by decide) (t := .byte) (t' := .int) (by decide) (by decide)))
 have F9_9 := fq6_4.other W9 (Or.inr (slot_ne (Or.inl (wT 234 rfl)) (Or.inl (wT 114 rfl)) (by decide) (t := .boolean) (t' := .int) (by decide) (by decide)))
 have F9_10 := fq6_5.other W9 (Ne.symm ne_sb_t_6)
 have F9_11 := fq6_6.wr W9
 have Ol9 := Ol6.wr W9 f7
 have K9 : Keep h0 h9 ([sb] : List Addr) := K6.wr W9 (Or.inl (List.mem_of_getElem? (i := 0) rfl))
 have N9 := Fr.snoc X9 N6 f7
 have Y9 := Y0.nx X9
 refine oiN Y9 39 rfl rfl ?_
 refine oCS X9 Y9 hZ hml hown (wT 271 rfl) (wT 272 rfl) (wT 23 rfl) (wT 273 rfl) (rm_pcsb Gl Ol9 t_6 k_6 vs_6 acc c1 F9_10 g_t_6 hlen pq6_1 pq6_0) e9 40 rfl 3 0 pd_52952394 rfl rfl rfl rfl (by decide +kernel) ?_
 intro v10 T10 L10 X10 Y10 hQ10
 obtain ⟨vs_10, rfl, Nq10, Kq10, fq10_0, pq10_0, pq10_1⟩ := hQ10
 show OwnH p e below _ T10 m _ _ []
 have N10 := Fr.app N9 Nq10
 have F10_12 := F9_4.keep Kq10
 have F10_15 := F9_7.keep Kq10 (ninS ne_sb_t_6 nin0)
 have F10_16 := F9_8.keep Kq10 (ninS ne_sb_t_6 nin0)
 have F10_17 := Fw9.keep Kq10 (ninS ne_sb_t_6 nin0)
 have F10_18 := F9_9.keep Kq10 (ninS ne_sb_t_6 nin0)
 have F10_19 := F9_11.keep Kq10
 have K10 : Keep h0 T10.heap ([sb] : List Addr) := K9.trans Kq10 (allS (Or.inr s_t_6) all0)
 refine oaN Y10 41 rfl rfl rfl ?_
 have Fl12 : Fld Z T10.heap sb "java/lang/AbstractStringBuilder" "count" "I" (.int (Int32.ofNat (acc ++ [c1]).length)) := by rw [← own_len1]; exact F10_17
 exact orA X10 Y10 hlk Bd.returns rfl rfl rfl 42 rfl (by decide) (by decide) rfl ⟨t_6, k_6, vs_10, rfl, N10, K10, s_t_6, F10_12, F10_15, F10_16, Fl12, F10_18, fq10_0, F10_19, pq10_0, pq10_1⟩
def Q_sappB (Z : State) (sb : Addr) (va : Addr) (kv : ClassId) (vsb : List Value) (ml : Int32) (acc : List Int32) (c1 : Int32) : OwnP := fun h0 n0 v h L => ∃ (t : Addr), ∃ (k : ClassId), ∃ (vs : List Value), v = some (.ref sb) ∧ Fr n0 L ∧ Keep h0 h ([sb] : List Addr) ∧ h0.size ≤ t ∧ Exa Z h sb "java/lang/StringBuilder" ∧ Fld Z h sb "java/lang/AbstractStringBuilder" "value" "[B" (.ref t) ∧ Fld Z h sb "java/lang/AbstractStringBuilder" "coder" "B" (.int 1) ∧ Fld Z h sb "java/lang/AbstractStringBuilder" "count" "I" (.int (Int32.ofNat (acc ++ [c1]).length)) ∧ Fld Z h sb "java/lang/AbstractStringBuilder" "maybeLatin1" "Z" (.int ml) ∧ Arv Z h t k .byte (480 : Int32) vs (.int 0) ∧ Exa Z h t "[B" ∧ (OwnUB (acc ++ [c1]) vs) ∧ (vs.length = 480)
theorem rm_sappB (Gl : OwnGl Z a0 wG1 wG3) (X00 : Old Z n0 h0) (sb : Addr) (va : Addr) (kv : ClassId) (vsb : List Value) (ml : Int32) (acc : List Int32) (c1 : Int32) (f0 : Exa Z h0 sb "java/lang/StringBuilder") (f1 : Fld Z h0 sb "java/lang/AbstractStringBuilder" "value" "[B" (.ref va)) (f2 : Fld Z h0 sb "java/lang/AbstractStringBuilder" "coder" "B" (.int 0)) (f3 : Fld Z h0 sb "java/lang/AbstractStringBuilder" "count" "I" (.int (Int32.ofNat acc.length))) (f4 : Fld Z h0 sb "java/lang/AbstractStringBuilder" "maybeLatin1" "Z" (.int ml)) (f5 : Arv Z h0 va kv .byte (240 : Int32) vsb (.int 0)) (f6 : Exa Z h0 va "[B") (f7 : n0 ≤ sb) (hlen : acc.length < 240) (hvl : vsb.length = 240) (hlb : OwnLB acc vsb) (hc : (255 : Int32) < c1) (hrg : OwnRg acc) : OwnM l Z mN34 jdk_67_method_14_code 2 (some (.object "java/lang/StringBuilder")) (oR 7 1 600 102) #[(.ref sb), (.int c1)] h0 (Q_sappB Z sb va kv vsb ml acc c1 h0 n0) := by
 refine own_in (plainFor_of_name pn_27209738) dl34 #[vR sb, vI c1] (oE rfl) ?_
 intro p e s m below meth c s₁ Bd hml hZ X0 e0 hx hlk Y0 hown
 obtain ⟨hw, cx, hEL⟩ := id Gl
 have wT := oww hw
 have N0 := Fr.nil n0
 have K0 : Keep h0 h0 ([sb] : List Addr) := Keep.refl _ _
 refine oaN Y0 0 rfl rfl rfl <| oiN Y0 1 rfl rfl ?_
 obtain ⟨_, _, ⟨T1, L1, k1, n1⟩, -, X1, ⟨Lc1, hQ1, l1, y1, z1⟩, st1⟩ := superBack X0 hx hZ (y := mN33) hown (wT 120 rfl) (own_same (y := mN33) (wT 122 rfl) (wT 127 rfl) rfl ⟨by decide, by decide⟩) (wT 121 rfl) (wT 110 rfl) (by decide) (backOf (W := 0) (rm_aappB Gl X00 sb va kv vsb ml acc c1 f0 f1 f2 f3 f4 f5 f6 f7 hlen hvl hlb hc hrg) hZ (wT 123 rfl) (wT 57 rfl) (by decide) (by decide)) e0 (Ins.self f0) (g := (mkF m 2 #[vR sb, vI c1] [(.int c1), (.ref sb)])) rfl (by rw [hml]; rfl) (wT 123 rfl) (argsL := [(.int c1)]) (rest := []) (lenOf pd_70363056 rfl) rfl (Nat.le_of_eq rfl) (Y0.d 2 rfl) (fun _ _ => ⟨rfl, e0, (by decide : 0 + 1 ≤ _), (by decide : 0 + 600 ≤ _)⟩)
 dsimp only [Pt.U, Pt.locs, Pt.cells, Pt.slots] at X1 l1 y1 z1 st1 hQ1
 subst l1 y1 z1
 obtain ⟨t_1, k_1, vs_1, rfl, Nq1, Kq1, zq1_0, fq1_0, fq1_1, fq1_2, fq1_3, fq1_4, fq1_5, fq1_6, pq1_0, pq1_1⟩ := hQ1
 refine OwnGoes.tr (T' := T1) (g' := (mkF m 5 #[vR sb, vI c1] [(.ref sb)])) st1 ?_
 have N1 := Fr.app N0 Nq1
 have s_t_1 : h0.size ≤ t_1 := Nat.le_trans K0.1 zq1_0
 have K1 : Keep h0 T1.heap ([sb] : List Addr) := K0.trans Kq1 (allS (Or.inl (List.mem_of_getElem? (i := 0) rfl)) all0)
 have Y1 := Y0.nx X1
 refine opop Y1 3 rfl rfl <| oaN Y1 4 rfl rfl rfl ?_
 exact orA X1 Y1 hlk Bd.returns rfl rfl rfl 5 rfl (by decide) (by decide) rfl ⟨t_1, k_1, vs_1, rfl, N1, K1, s_t_1, fq1_0, fq1_1, fq1_2, fq1_3, fq1_4, fq1_5, fq1_6, pq1_0, pq1_1⟩
def Q_aappC (Z : State) (sb : Addr) (va : Addr) (kv : ClassId) (vsb : List Value) (ml : Int32) (acc : List Int32) (c1 : Int32) : OwnP := fun h0 n0 v h L => ∃ (vs : List Value), v = some (.ref sb) ∧ Fr n0 L ∧ Keep h0 h ([sb, va] : List Addr) ∧ Exa Z h sb "java/lang/StringBuilder" ∧ Fld Z h sb "java/lang/AbstractStringBuilder" "value" "[B" (.ref va) ∧ Fld Z h sb "java/lang/AbstractStringBuilder" "coder" "B" (.int 1) ∧ Fld Z h sb "java/lang/AbstractStringBuilder" "count" "I" (.int (Int32.ofNat (acc ++ [c1]).length)) ∧ Fld Z h sb "java/lang/AbstractStringBuilder" "maybeLatin1" "Z" (.int ml) ∧ Arv Z h va kv .byte (480 : Int32) vs (.int 0) ∧ Exa Z h va "[B" ∧ (OwnUB (acc ++ [c1]) vs) ∧ (vs.length = 480)
theorem rm_aappC (Gl : OwnGl Z a0 wG1 wG3) (X00 : Old Z n0 h0) (sb : Addr) (va : Addr) (kv : ClassId) (vsb : List Value) (ml : Int32) (acc : List Int32) (c1 : Int32) (f0 : Exa Z h0 sb "java/lang/StringBuilder") (f1 : Fld Z h0 sb "java/lang/AbstractStringBuilder" "value" "[B" (.ref va)) (f2 : Fld Z h0 sb "java/lang/AbstractStringBuilder" "coder" "B" (.int 1)) (f3 : Fld Z h0 sb "java/lang/AbstractStringBuilder" "count" "I" (.int (Int32.ofNat acc.length))) (f4 : Fld Z h0 sb "java/lang/AbstractStringBuilder" "maybeLatin1" "Z" (.int ml)) (f5 : Arv Z h0 va kv .byte (480 : Int32) vsb (.int 0)) (f6 : Exa Z h0 va "[B") (f7 : n0 ≤ sb) (f8 : n0 ≤ va) (hlen : acc.length < 240) (hvl : vsb.length = 480) (hub : OwnUB acc vsb) : OwnM l Z mN33 jdk_68_method_31_code 2 (some (.object "java/lang/AbstractStringBuilder")) (oR 4 0 0 54) #[(.ref sb), (.int c1)] h0 (Q_aappC Z sb va kv vsb ml acc c1 h0 n0) := by
 refine own_in (plainFor_of_name pn_24045714) dl33 #[vR sb, vI c1] (oE rfl) ?_
 intro p e s m below meth c s₁ Bd hml hZ X0 e0 hx hlk Y0 hown
 obtain ⟨hw, cx, hEL⟩ := id Gl
 have wT := oww hw
 have N0 := Fr.nil n0
 have K0 : Keep h0 h0 ([sb, va] : List Addr) := Keep.refl _ _
 refine oaN Y0 0 rfl rfl rfl <| oaN Y0 1 rfl rfl rfl ?_
 refine oGF X0 Y0 hZ hown (wT 113 rfl) Via.refl e0 f3 2 rfl ?_
 intro T1 X1 Y1 e1
 refine oic 1 Y1 3 rfl rfl <| oadd Y1 4 rfl ?_
 refine oCV X1 Y1 hZ hml hown (wT 124 rfl) (own_decl (wT 125 rfl) (wT 128 rfl)) (notFace_of_selects (args := #[]) (mvT hZ (wT 127 rfl))) (wT 127 rfl) (wT 125 rfl) (wT 128 rfl) (wT 57 rfl) (rm_ecn_1 Gl X00 sb va kv vsb ((Int32.ofNat acc.length) + (1 : Int32)) f0 f2 f1 f5 (own_cap hlen)) e1 f0 5 rfl 1 0 pd_57711528 rfl rfl rfl rfl rfl (by decide +kernel) (by decide +kernel) ?_
 intro v2 T2 L2 X2 Y2 hQ2
 obtain ⟨rfl, Nq2, eq2⟩ := hQ2
 show OwnH p e below _ T2 m _ _ []
 have N2 := Fr.app N0 Nq2
 refine oaN Y2 6 rfl rfl rfl ?_
 refine oCV X2 Y2 hZ hml hown (wT 129 rfl) (wT 130 rfl) (notFace_of_selects (args := #[]) (mvT hZ (wT 132 rfl))) (wT 132 rfl) (wT 131 rfl) (wT 133 rfl) (wT 57 rfl) (rm_ail_1 Gl X00 sb f0 f2) eq2 f0 7 rfl 0 0 pd_15861835 rfl rfl rfl rfl rfl (by decide +kernel) (by decide +kernel) ?_
 intro v3 T3 L3 X3 Y3 hQ3
 obtain ⟨rfl, Nq3, eq3⟩ := hQ3
 show OwnH p e below _ T3 m _ _ [(.int 0)]
 have N3 := Fr.app N2 Nq3
 refine oify 45 Y3 8 rfl rfl ((if0 _ _).trans (teq (by decide : (0 : Int32) = (0 : Int32))).1) <| oaN Y3 25 rfl rfl rfl ?_
 refine oCV X3 Y3 hZ hml hown (wT 129 rfl) (wT 130 rfl) (notFace_of_selects (args := #[]) (mvT hZ (wT 132 rfl))) (wT 132 rfl) (wT 131 rfl) (wT 133 rfl) (wT 57 rfl) (rm_ail_1 Gl X00 sb f0 f2) eq3 f0 26 rfl 0 0 pd_15861835 rfl rfl rfl rfl rfl (by decide +kernel) (by decide +kernel) ?_
 intro v4 T4 L4 X4 Y4 hQ4
 obtain ⟨rfl, Nq4, eq4⟩ := hQ4
 show OwnH p e below _ T4 m _ _ [(.int 0)]
 have N4 := Fr.app N3 Nq4
 refine oify 56 Y4 27 rfl rfl ((if0 _ _).trans (teq (by decide : (0 : Int32) = (0 : Int32))).1) <| oaN Y4 30 rfl rfl rfl ?_
 refine oGF X4 Y4 hZ hown (wT 61 rfl) Via.refl eq4 f1 31 rfl ?_
 intro T5 X5 Y5 e5
 refine oaN Y5 32 rfl rfl rfl <| odup Y5 33 rfl rfl ?_
 refine oGF X5 Y5 hZ hown (wT 113 rfl) Via.refl e5 f3 34 rfl ?_
 intro T6 X6 Y6 e6
 refine odx1 Y6 35 rfl rfl rfl <| oic 1 Y6 36 rfl rfl <| oadd Y6 37 rfl ?_
 obtain ⟨T7, h7, X7, e7, W7, st7⟩ := putF X6 hx hZ hown (host := "") (Or.inl (wT 113 rfl)) Via.refl e6 f3 f0 (Or.inl (wT 114 rfl)) (wT 48 rfl) (ty := .int) (by decide) rfl rfl (g := (mkF m 68 #[vR sb, vI c1] [(.int ((Int32.ofNat acc.length) + (1 : Int32))), (.ref sb), (.int (Int32.ofNat acc.length)), (.ref va)])) rfl rfl (Y0.d 38 rfl)
 refine og T7 m 71 #[vR sb, vI c1] [(.int (Int32.ofNat acc.length)), (.ref va)] st7 ?_
 have Fw7 := f3.same W7
 have F7_1 := f0.wr W7
 have F7_2 := f1.other W7 (Or.inr (slot_ne (Or.inl (wT 62 rfl)) (Or.inl (wT 114 rfl)) (by decide) (t := (.array .byte)) (t' := .int) (by decide) (by decide)))
 have F7_3 := f2.other W7 (Or.inr (slot_ne (Or.inl (wT 64 rfl)) (Or.inl (wT 114 rfl)) (by decide) (t := .byte) (t' := .int) (by decide) (by decide)))
 have F7_4 := f4.other W7 (Or.inr (slot_ne (Or.inl (wT 234 rfl)) (Or.inl (wT 114 rfl)) (by decide) (t := .boolean) (t' := .int) (by decide) (by decide)))
 have F7_5 := f5.other W7 (Exa.ne f6 f0 (by decide))
 have F7_6 := f6.wr W7
 have Ol7 := X00.wr W7 f7
 have K7 : Keep h0 h7 ([sb, va] : List Addr) := K0.wr W7 (Or.inl (List.mem_of_getElem? (i := 0) rfl))
 have N7 := Fr.snoc X7 N4 f7
 have Y7 := Y0.nx X7
 refine oiN Y7 39 rfl rfl ?_
 refine oCS X7 Y7 hZ hml hown (wT 271 rfl) (wT 272 rfl) (wT 23 rfl) (wT 273 rfl) (rm_pcsb Gl Ol7 va kv vsb acc c1 F7_5 f8 hlen hvl hub) e7 40 rfl 3 0 pd_52952394 rfl rfl rfl rfl (by decide +kernel) ?_
 intro v8 T8 L8 X8 Y8 hQ8
 obtain ⟨vs_8, rfl, Nq8, Kq8, fq8_0, pq8_0, pq8_1⟩ := hQ8
 show OwnH p e below _ T8 m _ _ []
 have N8 := Fr.app N7 Nq8
 have F8_7 := F7_1.keep Kq8
 have F8_8 := F7_2.keep Kq8 (ninS (Exa.ne F7_1 F7_6 (by decide)) nin0)
 have F8_9 := F7_3.keep Kq8 (ninS (Exa.ne F7_1 F7_6 (by decide)) nin0)
 have F8_10 := Fw7.keep Kq8 (ninS (Exa.ne F7_1 F7_6 (by decide)) nin0)
 have F8_11 := F7_4.keep Kq8 (ninS (Exa.ne F7_1 F7_6 (by decide)) nin0)
 have F8_12 := F7_6.keep Kq8
 have K8 : Keep h0 T8.heap ([sb, va] : List Addr) := K7.trans Kq8 (allS (Or.inl (List.mem_of_getElem? (i := 1) rfl)) all0)
 refine oaN Y8 41 rfl rfl rfl ?_
 have Fl10 : Fld Z T8.heap sb "java/lang/AbstractStringBuilder" "count" "I" (.int (Int32.ofNat (acc ++ [c1]).length)) := by rw [← own_len1]; exact F8_10
 exact orA X8 Y8 hlk Bd.returns rfl rfl rfl 42 rfl (by decide) (by decide) rfl ⟨vs_8, rfl, N8, K8, F8_7, F8_8, F8_9, Fl10, F8_11, fq8_0, F8_12, pq8_0, pq8_1⟩
def Q_sappC (Z : State) (sb : Addr) (va : Addr) (kv : ClassId) (vsb : List Value) (ml : Int32) (acc : List Int32) (c1 : Int32) : OwnP := fun h0 n0 v h L => ∃ (vs : List Value), v = some (.ref sb) ∧ Fr n0 L ∧ Keep h0 h ([sb, va] : List Addr) ∧ Exa Z h sb "java/lang/StringBuilder" ∧ Fld Z h sb "java/lang/AbstractStringBuilder" "value" "[B" (.ref va) ∧ Fld Z h sb "java/lang/AbstractStringBuilder" "coder" "B" (.int 1) ∧ Fld Z h sb "java/lang/AbstractStringBuilder" "count" "I" (.int (Int32.ofNat (acc ++ [c1]).length)) ∧ Fld Z h sb "java/lang/AbstractStringBuilder" "maybeLatin1" "Z" (.int ml) ∧ Arv Z h va kv .byte (480 : Int32) vs (.int 0) ∧ Exa Z h va "[B" ∧ (OwnUB (acc ++ [c1]) vs) ∧ (vs.length = 480)
theorem rm_sappC (Gl : OwnGl Z a0 wG1 wG3) (X00 : Old Z n0 h0) (sb : Addr) (va : Addr) (kv : ClassId) (vsb : List Value) (ml : Int32) (acc : List Int32) (c1 : Int32) (f0 : Exa Z h0 sb "java/lang/StringBuilder") (f1 : Fld Z h0 sb "java/lang/AbstractStringBuilder" "value" "[B" (.ref va)) (f2 : Fld Z h0 sb "java/lang/AbstractStringBuilder" "coder" "B" (.int 1)) (f3 : Fld Z h0 sb "java/lang/AbstractStringBuilder" "count" "I" (.int (Int32.ofNat acc.length))) (f4 : Fld Z h0 sb "java/lang/AbstractStringBuilder" "maybeLatin1" "Z" (.int ml)) (f5 : Arv Z h0 va kv .byte (480 : Int32) vsb (.int 0)) (f6 : Exa Z h0 va "[B") (f7 : n0 ≤ sb) (f8 : n0 ≤ va) (hlen : acc.length < 240) (hvl : vsb.length = 480) (hub : OwnUB acc vsb) : OwnM l Z mN34 jdk_67_method_14_code 2 (some (.object "java/lang/StringBuilder")) (oR 5 0 0 67) #[(.ref sb), (.int c1)] h0 (Q_sappC Z sb va kv vsb ml acc c1 h0 n0) := by
 refine own_in (plainFor_of_name pn_27209738) dl34 #[vR sb, vI c1] (oE rfl) ?_
 intro p e s m below meth c s₁ Bd hml hZ X0 e0 hx hlk Y0 hown
 obtain ⟨hw, cx, hEL⟩ := id Gl
 have wT := oww hw
 have N0 := Fr.nil n0
 have K0 : Keep h0 h0 ([sb, va] : List Addr) := Keep.refl _ _
 refine oaN Y0 0 rfl rfl rfl <| oiN Y0 1 rfl rfl ?_
 obtain ⟨_, _, ⟨T1, L1, k1, n1⟩, -, X1, ⟨Lc1, hQ1, l1, y1, z1⟩, st1⟩ := superBack X0 hx hZ (y := mN33) hown (wT 120 rfl) (own_same (y := mN33) (wT 122 rfl) (wT 127 rfl) rfl ⟨by decide, by decide⟩) (wT 121 rfl) (wT 110 rfl) (by decide) (backOf (W := 0) (rm_aappC Gl X00 sb va kv vsb ml acc c1 f0 f1 f2 f3 f4 f5 f6 f7 f8 hlen hvl hub) hZ (wT 123 rfl) (wT 57 rfl) (by decide) (by decide)) e0 (Ins.self f0) (g := (mkF m 2 #[vR sb, vI c1] [(.int c1), (.ref sb)])) rfl (by rw [hml]; rfl) (wT 123 rfl) (argsL := [(.int c1)]) (rest := []) (lenOf pd_70363056 rfl) rfl (Nat.le_of_eq rfl) (Y0.d 2 rfl) (fun _ _ => ⟨rfl, e0, (by decide : 0 + 0 ≤ _), (by decide : 0 + 0 ≤ _)⟩)
 dsimp only [Pt.U, Pt.locs, Pt.cells, Pt.slots] at X1 l1 y1 z1 st1 hQ1
 subst l1 y1 z1
 obtain ⟨vs_1, rfl, Nq1, Kq1, fq1_0, fq1_1, fq1_2, fq1_3, fq1_4, fq1_5, fq1_6, pq1_0, pq1_1⟩ := hQ1
 refine OwnGoes.tr (T' := T1) (g' := (mkF m 5 #[vR sb, vI c1] [(.ref sb)])) st1 ?_
 have N1 := Fr.app N0 Nq1
 have K1 : Keep h0 T1.heap ([sb, va] : List Addr) := K0.trans Kq1 (allS (Or.inl (List.mem_of_getElem? (i := 0) rfl)) (allS (Or.inl (List.mem_of_getElem? (i := 1) rfl)) all0))
 have Y1 := Y0.nx X1
 refine opop Y1 3 rfl rfl <| oaN Y1 4 rfl rfl rfl ?_
 exact orA X1 Y1 hlk Bd.returns rfl rfl rfl 5 rfl (by decide) (by decide) rfl ⟨vs_1, rfl, N1, K1, fq1_0, fq1_1, fq1_2, fq1_3, fq1_4, fq1_5, fq1_6, pq1_0, pq1_1⟩
def Q_asl_0 (Z : State) (sb : Addr) (va : Addr) (kv : ClassId) (vsb : List Value) (ml : Int32) (acc : List Int32) (lm : Nat) : OwnP := fun h0 n0 v h L => v = none ∧ Fr n0 L ∧ Keep h0 h ([sb] : List Addr) ∧ Exa Z h sb "java/lang/StringBuilder" ∧ Fld Z h sb "java/lang/AbstractStringBuilder" "value" "[B" (.ref va) ∧ Fld Z h sb "java/lang/AbstractStringBuilder" "coder" "B" (.int 0) ∧ Fld Z h sb "java/lang/AbstractStringBuilder" "count" "I" (.int (Int32.ofNat lm)) ∧ Fld Z h sb "java/lang/AbstractStringBuilder" "maybeLatin1" "Z" (.int 1) ∧ Arv Z h va kv .byte (240 : Int32) vsb (.int 0) ∧ Exa Z h va "[B"
def ll35 : List (Nat × Instr × Nat) := [(0, .iload_n 1, 1), (1, .ifCond .ge 12, 3), (13, .aload_n 0, 1), (14, .iload_n 1, 1), (15, .invokevirtual 100, 3), (18, .aload_n 0, 1), (19, .getfield 79, 3), (22, .iload_n 1, 1), (23, .if_icmp .ge 40, 3), (63, .aload_n 0, 1), (64, .getfield 79, 3), (67, .iload_n 1, 1), (68, .if_icmp .le 8, 3), (71, .aload_n 0, 1), (72, .iconst 1, 1), (73, .putfield 73, 3), (76, .aload_n 0, 1), (77, .iload_n 1, 1), (78, .putfield 79, 3), (81, .return_, 1)]
theorem dl35 : OwnDec jdk_68_method_13_code ll35 := by decide +kernel
theorem rm_asl_0 (Gl : OwnGl Z a0 wG1 wG3) (X00 : Old Z n0 h0) (sb : Addr) (va : Addr) (kv : ClassId) (vsb : List Value) (ml : Int32) (acc : List Int32) (lm : Nat) (f0 : Exa Z h0 sb "java/lang/StringBuilder") (f1 : Fld Z h0 sb "java/lang/AbstractStringBuilder" "value" "[B" (.ref va)) (f2 : Fld Z h0 sb "java/lang/AbstractStringBuilder" "coder" "B" (.int 0)) (f3 : Fld Z h0 sb "java/lang/AbstractStringBuilder" "count" "I" (.int (Int32.ofNat acc.length))) (f4 : Fld Z h0 sb "java/lang/AbstractStringBuilder" "maybeLatin1" "Z" (.int ml)) (f5 : Arv Z h0 va kv .byte (240 : Int32) vsb (.int 0)) (f6 : Exa Z h0 va "[B") (f7 : n0 ≤ sb) (hq : acc.length = 240) (hlm : lm < 240) : OwnM l Z mN35 jdk_68_method_13_code 2 none (oR 1 0 0 14) #[(.ref sb), (.int (Int32.ofNat lm))] h0 (Q_asl_0 Z sb va kv vsb ml acc lm h0 n0) := by
 refine own_in (plainFor_of_name pn_24045714) dl35 #[vR sb, vI (Int32.ofNat lm)] (oE rfl) ?_
 intro p e s m below meth c s₁ Bd hml hZ X0 e0 hx hlk Y0 hown
 obtain ⟨hw, cx, hEL⟩ := id Gl
 have wT := oww hw
 have N0 := Fr.nil n0
 have K0 : Keep h0 h0 ([sb] : List Addr) := Keep.refl _ _
 refine oiN Y0 0 rfl rfl <| oify 13 Y0 1 rfl rfl ((if0 _ _).trans (flt (own_nat (by omega)).2.1).2.1) <| oaN Y0 2 rfl rfl rfl <| oiN Y0 3 rfl rfl ?_
 refine oCV X0 Y0 hZ hml hown (wT 124 rfl) (own_decl (wT 125 rfl) (wT 128 rfl)) (notFace_of_selects (args := #[]) (mvT hZ (wT 127 rfl))) (wT 127 rfl) (wT 125 rfl) (wT 128 rfl) (wT 57 rfl) (rm_ecn_0 Gl X00 sb va kv vsb (Int32.ofNat lm) f0 f2 f1 f5 (own_cap2 (by omega))) e0 f0 4 rfl 1 0 pd_57711528 rfl rfl rfl rfl rfl (by decide +kernel) (by decide +kernel) ?_
 intro v1 T1 L1 X1 Y1 hQ1
 obtain ⟨rfl, Nq1, eq1⟩ := hQ1
 show OwnH p e below _ T1 m _ _ []
 have N1 := Fr.app N0 Nq1
 refine oaN Y1 5 rfl rfl rfl ?_
 refine oGF X1 Y1 hZ hown (wT 113 rfl) Via.refl eq1 f3 6 rfl ?_
 intro T2 X2 Y2 e2
 refine oiN Y2 7 rfl rfl <| ocy 63 Y2 8 rfl rfl (flt (fun q => absurd ((own_ltN (by omega) (by omega)).mp q) (by omega))).2.1 <| oaN Y2 9 rfl rfl rfl ?_
 refine oGF X2 Y2 hZ hown (wT 113 rfl) Via.refl e2 f3 10 rfl ?_
 intro T3 X3 Y3 e3
 refine oiN Y3 11 rfl rfl <| ocn Y3 12 rfl (tlt ((own_ltN (by omega) (by omega)).mpr (by omega))).2.2.2 <| oaN Y3 13 rfl rfl rfl <| oic 1 Y3 14 rfl rfl ?_
 obtain ⟨T4, h4, X4, e4, W4, st4⟩ := putFN X3 hx hZ hown (wT 233 rfl) Via.refl e3 f4 f0 (Or.inl (wT 234 rfl)) (wT 48 rfl) (ty := .boolean) (v' := (.int (nar .boolean (1 : Int32)))) (by decide) rfl (fits_nar_bool _) (g := (mkF m 73 #[vR sb, vI (Int32.ofNat lm)] [(.int 1), (.ref sb)])) rfl rfl (Y0.d 15 rfl)
 refine og T4 m 76 #[vR sb, vI (Int32.ofNat lm)] [] st4 ?_
 have Fw4 := f4.same W4
 rw [(by decide : nar .boolean (1 : Int32) = (1 : Int32))] at Fw4
 have F4_1 := f0.wr W4
 have F4_2 := f1.other W4 (Or.inr (slot_ne (Or.inl (wT 62 rfl)) (Or.inl (wT 234 rfl)) (by decide) (t := (.array .byte)) (t' := .boolean) (by decide) (by decide)))
 have F4_3 := f2.other W4 (Or.inr (slot_ne (Or.inl (wT 64 rfl)) (Or.inl (wT 234 rfl)) (by decide) (t := .byte) (t' := .boolean) (by decide) (by decide)))
 have F4_4 := f3.other W4 (Or.inr (slot_ne (Or.inl (wT 114 rfl)) (Or.inl (wT 234 rfl)) (by decide) (t := .int) (t' := .boolean) (by decide) (by decide)))
 have F4_5 := f5.other W4 (Exa.ne f6 f0 (by decide))
 have F4_6 := f6.wr W4
 have K4 : Keep h0 h4 ([sb] : List Addr) := K0.wr W4 (Or.inl (List.mem_of_getElem? (i := 0) rfl))
 have N4 := Fr.snoc X4 N1 f7
 have Y4 := Y0.nx X4
 refine oaN Y4 16 rfl rfl rfl <| oiN Y4 17 rfl rfl ?_
 obtain ⟨T5, h5, X5, e5, W5, st5⟩ := putF X4 hx hZ hown (host := "") (Or.inl (wT 113 rfl)) Via.refl e4 F4_4 F4_1 (Or.inl (wT 114 rfl)) (wT 48 rfl) (ty := .int) (by decide) rfl rfl (g := (mkF m 78 #[vR sb, vI (Int32.ofNat lm)] [(.int (Int32.ofNat lm)), (.ref sb)])) rfl rfl (Y0.d 18 rfl)
 refine og T5 m 81 #[vR sb, vI (Int32.ofNat lm)] [] st5 ?_
 have Fw5 := F4_4.same W5
 have F5_7 := F4_1.wr W5
 have F5_8 := F4_2.other W5 (Or.inr (slot_ne (Or.inl (wT 62 rfl)) (Or.inl (wT 114 rfl)) (by decide) (t := (.array .byte)) (t' := .int) (by decide) (by decide)))
 have F5_9 := F4_3.other W5 (Or.inr (slot_ne (Or.inl (wT 64 rfl)) (Or.inl (wT 114 rfl)) (by decide) (t := .byte) (t' := .int) (by decide) (by decide)))
 have F5_10 := Fw4.other W5 (Or.inr (slot_ne (Or.inl (wT 234 rfl)) (Or.inl (wT 114 rfl)) (by decide) (t := .boolean) (t' := .int) (by decide) (by decide)))
 have F5_11 := F4_5.other W5 (Exa.ne F4_6 F4_1 (by decide))
 have F5_12 := F4_6.wr W5
 have K5 : Keep h0 h5 ([sb] : List Addr) := K4.wr W5 (Or.inl (List.mem_of_getElem? (i := 0) rfl))
 have N5 := Fr.snoc X5 N4 f7
 have Y5 := Y0.nx X5
 exact orV X5 Y5 hlk Bd.returns 19 rfl (by decide) (by decide) e5 ⟨rfl, N5, K5, F5_7, F5_8, F5_9, Fw5, F5_10, F5_11, F5_12⟩
def Q_ssl_0 (Z : State) (sb : Addr) (va : Addr) (kv : ClassId) (vsb : List Value) (ml : Int32) (acc : List Int32) (lm : Nat) : OwnP := fun h0 n0 v h L => v = none ∧ Fr n0 L ∧ Keep h0 h ([sb] : List Addr) ∧ Exa Z h sb "java/lang/StringBuilder" ∧ Fld Z h sb "java/lang/AbstractStringBuilder" "value" "[B" (.ref va) ∧ Fld Z h sb "java/lang/AbstractStringBuilder" "coder" "B" (.int 0) ∧ Fld Z h sb "java/lang/AbstractStringBuilder" "count" "I" (.int (Int32.ofNat lm)) ∧ Fld Z h sb "java/lang/AbstractStringBuilder" "maybeLatin1" "Z" (.int 1) ∧ Arv Z h va kv .byte (240 : Int32) vsb (.int 0) ∧ Exa Z h va "[B"
def ll36 : List (Nat × Instr × Nat) := [(0, .aload_n 0, 1), (1, .iload_n 1, 1), (2, .invokespecial 333, 3), (5, .return_, 1)]
theorem dl36 : OwnDec jdk_67_method_89_code ll36 := by decide +kernel
theorem rm_ssl_0 (Gl : OwnGl Z a0 wG1 wG3) (X00 : Old Z n0 h0) (sb : Addr) (va : Addr) (kv : ClassId) (vsb : List Value) (ml : Int32) (acc : List Int32) (lm : Nat) (f0 : Exa Z h0 sb "java/lang/StringBuilder") (f1 : Fld Z h0 sb "java/lang/AbstractStringBuilder" "value" "[B" (.ref va)) (f2 : Fld Z h0 sb "java/lang/AbstractStringBuilder" "coder" "B" (.int 0)) (f3 : Fld Z h0 sb "java/lang/AbstractStringBuilder" "count" "I" (.int (Int32.ofNat acc.length))) (f4 : Fld Z h0 sb "java/lang/AbstractStringBuilder" "maybeLatin1" "Z" (.int ml)) (f5 : Arv Z h0 va kv .byte (240 : Int32) vsb (.int 0)) (f6 : Exa Z h0 va "[B") (f7 : n0 ≤ sb) (hq : acc.length = 240) (hlm : lm < 240) : OwnM l Z mN36 jdk_67_method_89_code 2 none (oR 2 0 0 27) #[(.ref sb), (.int (Int32.ofNat lm))] h0 (Q_ssl_0 Z sb va kv vsb ml acc lm h0 n0) := by
 refine own_in (plainFor_of_name pn_27209738) dl36 #[vR sb, vI (Int32.ofNat lm)] (oE rfl) ?_
 intro p e s m below meth c s₁ Bd hml hZ X0 e0 hx hlk Y0 hown
 obtain ⟨hw, cx, hEL⟩ := id Gl
 have wT := oww hw
 have N0 := Fr.nil n0
 have K0 : Keep h0 h0 ([sb] : List Addr) := Keep.refl _ _
 refine oaN Y0 0 rfl rfl rfl <| oiN Y0 1 rfl rfl ?_
 obtain ⟨_, _, ⟨T1, L1, k1, n1⟩, -, X1, ⟨Lc1, hQ1, l1, y1, z1⟩, st1⟩ := superBack X0 hx hZ (y := mN35) hown (wT 229 rfl) (own_same (y := mN35) (wT 231 rfl) (wT 127 rfl) rfl ⟨by decide, by decide⟩) (wT 230 rfl) (wT 110 rfl) (by decide) (backOf (W := 0) (rm_asl_0 Gl X00 sb va kv vsb ml acc lm f0 f1 f2 f3 f4 f5 f6 f7 hq hlm) hZ (wT 232 rfl) (wT 57 rfl) (by decide) (by decide)) e0 (Ins.self f0) (g := (mkF m 2 #[vR sb, vI (Int32.ofNat lm)] [(.int (Int32.ofNat lm)), (.ref sb)])) rfl (by rw [hml]; rfl) (wT 232 rfl) (argsL := [(.int (Int32.ofNat lm))]) (rest := []) (lenOf pd_57711528 rfl) rfl (Nat.le_of_eq rfl) (Y0.d 2 rfl) (fun _ _ => ⟨rfl, e0, (by decide : 0 + 0 ≤ _), (by decide : 0 + 0 ≤ _)⟩)
 dsimp only [Pt.U, Pt.locs, Pt.cells, Pt.slots] at X1 l1 y1 z1 st1 hQ1
 subst l1 y1 z1
 obtain ⟨rfl, Nq1, Kq1, fq1_0, fq1_1, fq1_2, fq1_3, fq1_4, fq1_5, fq1_6⟩ := hQ1
 refine OwnGoes.tr (T' := T1) (g' := (mkF m 5 #[vR sb, vI (Int32.ofNat lm)] [])) st1 ?_
 have N1 := Fr.app N0 Nq1
 have K1 : Keep h0 T1.heap ([sb] : List Addr) := K0.trans Kq1 (allS (Or.inl (List.mem_of_getElem? (i := 0) rfl)) all0)
 have Y1 := Y0.nx X1
 exact orV X1 Y1 hlk Bd.returns 3 rfl (by decide) (by decide) rfl ⟨rfl, N1, K1, fq1_0, fq1_1, fq1_2, fq1_3, fq1_4, fq1_5, fq1_6⟩
def Q_asl_1 (Z : State) (sb : Addr) (va : Addr) (kv : ClassId) (vsb : List Value) (ml : Int32) (acc : List Int32) (lm : Nat) : OwnP := fun h0 n0 v h L => v = none ∧ Fr n0 L ∧ Keep h0 h ([sb] : List Addr) ∧ Exa Z h sb "java/lang/StringBuilder" ∧ Fld Z h sb "java/lang/AbstractStringBuilder" "value" "[B" (.ref va) ∧ Fld Z h sb "java/lang/AbstractStringBuilder" "coder" "B" (.int 1) ∧ Fld Z h sb "java/lang/AbstractStringBuilder" "count" "I" (.int (Int32.ofNat lm)) ∧ Fld Z h sb "java/lang/AbstractStringBuilder" "maybeLatin1" "Z" (.int 1) ∧ Arv Z h va kv .byte (480 : Int32) vsb (.int 0) ∧ Exa Z h va "[B"
theorem rm_asl_1 (Gl : OwnGl Z a0 wG1 wG3) (X00 : Old Z n0 h0) (sb : Addr) (va : Addr) (kv : ClassId) (vsb : List Value) (ml : Int32) (acc : List Int32) (lm : Nat) (f0 : Exa Z h0 sb "java/lang/StringBuilder") (f1 : Fld Z h0 sb "java/lang/AbstractStringBuilder" "value" "[B" (.ref va)) (f2 : Fld Z h0 sb "java/lang/AbstractStringBuilder" "coder" "B" (.int 1)) (f3 : Fld Z h0 sb "java/lang/AbstractStringBuilder" "count" "I" (.int (Int32.ofNat acc.length))) (f4 : Fld Z h0 sb "java/lang/AbstractStringBuilder" "maybeLatin1" "Z" (.int ml)) (f5 : Arv Z h0 va kv .byte (480 : Int32) vsb (.int 0)) (f6 : Exa Z h0 va "[B") (f7 : n0 ≤ sb) (hq : acc.length = 240) (hlm : lm < 240) : OwnM l Z mN35 jdk_68_method_13_code 2 none (oR 1 0 0 14) #[(.ref sb), (.int (Int32.ofNat lm))] h0 (Q_asl_1 Z sb va kv vsb ml acc lm h0 n0) := by
 refine own_in (plainFor_of_name pn_24045714) dl35 #[vR sb, vI (Int32.ofNat lm)] (oE rfl) ?_
 intro p e s m below meth c s₁ Bd hml hZ X0 e0 hx hlk Y0 hown
 obtain ⟨hw, cx, hEL⟩ := id Gl
 have wT := oww hw
 have N0 := Fr.nil n0
 have K0 : Keep h0 h0 ([sb] : List Addr) := Keep.refl _ _
 refine oiN Y0 0 rfl rfl <| oify 13 Y0 1 rfl rfl ((if0 _ _).trans (flt (own_nat (by omega)).2.1).2.1) <| oaN Y0 2 rfl rfl rfl <| oiN Y0 3 rfl rfl ?_
 refine oCV X0 Y0 hZ hml hown (wT 124 rfl) (own_decl (wT 125 rfl) (wT 128 rfl)) (notFace_of_selects (args := #[]) (mvT hZ (wT 127 rfl))) (wT 127 rfl) (wT 125 rfl) (wT 128 rfl) (wT 57 rfl) (rm_ecn_1 Gl X00 sb va kv vsb (Int32.ofNat lm) f0 f2 f1 f5 (own_cap2 (by omega))) e0 f0 4 rfl 1 0 pd_57711528 rfl rfl rfl rfl rfl (by decide +kernel) (by decide +kernel) ?_
 intro v1 T1 L1 X1 Y1 hQ1
 obtain ⟨rfl, Nq1, eq1⟩ := hQ1
 show OwnH p e below _ T1 m _ _ []
 have N1 := Fr.app N0 Nq1
 refine oaN Y1 5 rfl rfl rfl ?_
 refine oGF X1 Y1 hZ hown (wT 113 rfl) Via.refl eq1 f3 6 rfl ?_
 intro T2 X2 Y2 e2
 refine oiN Y2 7 rfl rfl <| ocy 63 Y2 8 rfl rfl (flt (fun q => absurd ((own_ltN (by omega) (by omega)).mp q) (by omega))).2.1 <| oaN Y2 9 rfl rfl rfl ?_
 refine oGF X2 Y2 hZ hown (wT 113 rfl) Via.refl e2 f3 10 rfl ?_
 intro T3 X3 Y3 e3
 refine oiN Y3 11 rfl rfl <| ocn Y3 12 rfl (tlt ((own_ltN (by omega) (by omega)).mpr (by omega))).2.2.2 <| oaN Y3 13 rfl rfl rfl <| oic 1 Y3 14 rfl rfl ?_
 obtain ⟨T4, h4, X4, e4, W4, st4⟩ := putFN X3 hx hZ hown (wT 233 rfl) Via.refl e3 f4 f0 (Or.inl (wT 234 rfl)) (wT 48 rfl) (ty := .boolean) (v' := (.int (nar .boolean (1 : Int32)))) (by decide) rfl (fits_nar_bool _) (g := (mkF m 73 #[vR sb, vI (Int32.ofNat lm)] [(.int 1), (.ref sb)])) rfl rfl (Y0.d 15 rfl)
 refine og T4 m 76 #[vR sb, vI (Int32.ofNat lm)] [] st4 ?_
 have Fw4 := f4.same W4
 rw [(by decide : nar .boolean (1 : Int32) = (1 : Int32))] at Fw4
 have F4_1 := f0.wr W4
 have F4_2 := f1.other W4 (Or.inr (slot_ne (Or.inl (wT 62 rfl)) (Or.inl (wT 234 rfl)) (by decide) (t := (.array .byte)) (t' := .boolean) (by decide) (by decide)))
 have F4_3 := f2.other W4 (Or.inr (slot_ne (Or.inl (wT 64 rfl)) (Or.inl (wT 234 rfl)) (by decide) (t := .byte) (t' := .boolean) (by decide) (by decide)))
 have F4_4 := f3.other W4 (Or.inr (slot_ne (Or.inl (wT 114 rfl)) (Or.inl (wT 234 rfl)) (by decide) (t := .int) (t' := .boolean) (by decide) (by decide)))
 have F4_5 := f5.other W4 (Exa.ne f6 f0 (by decide))
 have F4_6 := f6.wr W4
 have K4 : Keep h0 h4 ([sb] : List Addr) := K0.wr W4 (Or.inl (List.mem_of_getElem? (i := 0) rfl))
 have N4 := Fr.snoc X4 N1 f7
 have Y4 := Y0.nx X4
 refine oaN Y4 16 rfl rfl rfl <| oiN Y4 17 rfl rfl ?_
 obtain ⟨T5, h5, X5, e5, W5, st5⟩ := putF X4 hx hZ hown (host := "") (Or.inl (wT 113 rfl)) Via.refl e4 F4_4 F4_1 (Or.inl (wT 114 rfl)) (wT 48 rfl) (ty := .int) (by decide) rfl rfl (g := (mkF m 78 #[vR sb, vI (Int32.ofNat lm)] [(.int (Int32.ofNat lm)), (.ref sb)])) rfl rfl (Y0.d 18 rfl)
 refine og T5 m 81 #[vR sb, vI (Int32.ofNat lm)] [] st5 ?_
 have Fw5 := F4_4.same W5
 have F5_7 := F4_1.wr W5
 have F5_8 := F4_2.other W5 (Or.inr (slot_ne (Or.inl (wT 62 rfl)) (Or.inl (wT 114 rfl)) (by decide) (t := (.array .byte)) (t' := .int) (by decide) (by decide)))
 have F5_9 := F4_3.other W5 (Or.inr (slot_ne (Or.inl (wT 64 rfl)) (Or.inl (wT 114 rfl)) (by decide) (t := .byte) (t' := .int) (by decide) (by decide)))
 have F5_10 := Fw4.other W5 (Or.inr (slot_ne (Or.inl (wT 234 rfl)) (Or.inl (wT 114 rfl)) (by decide) (t := .boolean) (t' := .int) (by decide) (by decide)))
 have F5_11 := F4_5.other W5 (Exa.ne F4_6 F4_1 (by decide))
 have F5_12 := F4_6.wr W5
 have K5 : Keep h0 h5 ([sb] : List Addr) := K4.wr W5 (Or.inl (List.mem_of_getElem? (i := 0) rfl))
 have N5 := Fr.snoc X5 N4 f7
 have Y5 := Y0.nx X5
 exact orV X5 Y5 hlk Bd.returns 19 rfl (by decide) (by decide) e5 ⟨rfl, N5, K5, F5_7, F5_8, F5_9, Fw5, F5_10, F5_11, F5_12⟩
def Q_ssl_1 (Z : State) (sb : Addr) (va : Addr) (kv : ClassId) (vsb : List Value) (ml : Int32) (acc : List Int32) (lm : Nat) : OwnP := fun h0 n0 v h L => v = none ∧ Fr n0 L ∧ Keep h0 h ([sb] : List Addr) ∧ Exa Z h sb "java/lang/StringBuilder" ∧ Fld Z h sb "java/lang/AbstractStringBuilder" "value" "[B" (.ref va) ∧ Fld Z h sb "java/lang/AbstractStringBuilder" "coder" "B" (.int 1) ∧ Fld Z h sb "java/lang/AbstractStringBuilder" "count" "I" (.int (Int32.ofNat lm)) ∧ Fld Z h sb "java/lang/AbstractStringBuilder" "maybeLatin1" "Z" (.int 1) ∧ Arv Z h va kv .byte (480 : Int32) vsb (.int 0) ∧ Exa Z h va "[B"
theorem rm_ssl_1 (Gl : OwnGl Z a0 wG1 wG3) (X00 : Old Z n0 h0) (sb : Addr) (va : Addr) (kv : ClassId) (vsb : List Value) (ml : Int32) (acc : List Int32) (lm : Nat) (f0 : Exa Z h0 sb "java/lang/StringBuilder") (f1 : Fld Z h0 sb "java/lang/AbstractStringBuilder" "value" "[B" (.ref va)) (f2 : Fld Z h0 sb "java/lang/AbstractStringBuilder" "coder" "B" (.int 1)) (f3 : Fld Z h0 sb "java/lang/AbstractStringBuilder" "count" "I" (.int (Int32.ofNat acc.length))) (f4 : Fld Z h0 sb "java/lang/AbstractStringBuilder" "maybeLatin1" "Z" (.int ml)) (f5 : Arv Z h0 va kv .byte (480 : Int32) vsb (.int 0)) (f6 : Exa Z h0 va "[B") (f7 : n0 ≤ sb) (hq : acc.length = 240) (hlm : lm < 240) : OwnM l Z mN36 jdk_67_method_89_code 2 none (oR 2 0 0 27) #[(.ref sb), (.int (Int32.ofNat lm))] h0 (Q_ssl_1 Z sb va kv vsb ml acc lm h0 n0) := by
 refine own_in (plainFor_of_name pn_27209738) dl36 #[vR sb, vI (Int32.ofNat lm)] (oE rfl) ?_
 intro p e s m below meth c s₁ Bd hml hZ X0 e0 hx hlk Y0 hown
 obtain ⟨hw, cx, hEL⟩ := id Gl
 have wT := oww hw
 have N0 := Fr.nil n0
 have K0 : Keep h0 h0 ([sb] : List Addr) := Keep.refl _ _
 refine oaN Y0 0 rfl rfl rfl <| oiN Y0 1 rfl rfl ?_
 obtain ⟨_, _, ⟨T1, L1, k1, n1⟩, -, X1, ⟨Lc1, hQ1, l1, y1, z1⟩, st1⟩ := superBack X0 hx hZ (y := mN35) hown (wT 229 rfl) (own_same (y := mN35) (wT 231 rfl) (wT 127 rfl) rfl ⟨by decide, by decide⟩) (wT 230 rfl) (wT 110 rfl) (by decide) (backOf (W := 0) (rm_asl_1 Gl X00 sb va kv vsb ml acc lm f0 f1 f2 f3 f4 f5 f6 f7 hq hlm) hZ (wT 232 rfl) (wT 57 rfl) (by decide) (by decide)) e0 (Ins.self f0) (g := (mkF m 2 #[vR sb, vI (Int32.ofNat lm)] [(.int (Int32.ofNat lm)), (.ref sb)])) rfl (by rw [hml]; rfl) (wT 232 rfl) (argsL := [(.int (Int32.ofNat lm))]) (rest := []) (lenOf pd_57711528 rfl) rfl (Nat.le_of_eq rfl) (Y0.d 2 rfl) (fun _ _ => ⟨rfl, e0, (by decide : 0 + 0 ≤ _), (by decide : 0 + 0 ≤ _)⟩)
 dsimp only [Pt.U, Pt.locs, Pt.cells, Pt.slots] at X1 l1 y1 z1 st1 hQ1
 subst l1 y1 z1
 obtain ⟨rfl, Nq1, Kq1, fq1_0, fq1_1, fq1_2, fq1_3, fq1_4, fq1_5, fq1_6⟩ := hQ1
 refine OwnGoes.tr (T' := T1) (g' := (mkF m 5 #[vR sb, vI (Int32.ofNat lm)] [])) st1 ?_
 have N1 := Fr.app N0 Nq1
 have K1 : Keep h0 T1.heap ([sb] : List Addr) := K0.trans Kq1 (allS (Or.inl (List.mem_of_getElem? (i := 0) rfl)) all0)
 have Y1 := Y0.nx X1
 exact orV X1 Y1 hlk Bd.returns 3 rfl (by decide) (by decide) rfl ⟨rfl, N1, K1, fq1_0, fq1_1, fq1_2, fq1_3, fq1_4, fq1_5, fq1_6⟩
def Q_min240 (Z : State) (ln1 : Nat) : OwnP := fun h0 n0 v h L => v = some (.int 240) ∧ Fr n0 L ∧ h = h0
def ll37 : List (Nat × Instr × Nat) := [(0, .iload_n 0, 1), (1, .iload_n 1, 1), (2, .if_icmp .gt 7, 3), (5, .iload_n 0, 1), (6, .goto 4, 3), (9, .iload_n 1, 1), (10, .ireturn, 1)]
theorem dl37 : OwnDec jdk_29_method_69_code ll37 := by decide +kernel
theorem rm_min240 (Gl : OwnGl Z a0 wG1 wG3) (X00 : Old Z n0 h0) (ln1 : Nat) (hln : ln1 = 240) : OwnM l Z mN37 jdk_29_method_69_code 2 (some .int) (oR 0 0 0 0) #[(.int (Int32.ofNat ln1)), (.int 240)] h0 (Q_min240 Z ln1 h0 n0) := by
 refine own_in (Jvm.Free.JP.mathPlain rfl (by decide +kernel)) dl37 #[vI (Int32.ofNat ln1), vI 240] (oE rfl) ?_
 intro p e s m below meth c s₁ Bd hml hZ X0 e0 hx hlk Y0 hown
 have N0 := Fr.nil n0
 refine oiN Y0 0 rfl rfl <| oiN Y0 1 rfl rfl ?_
 by_cases cc1 : (240 : Int32) < (Int32.ofNat ln1)
 ·
  refine ocy 9 Y0 2 rfl rfl (tlt cc1).2.2.1 <| oiN Y0 5 rfl rfl ?_
  exact orI X0 Y0 hlk Bd.returns 6 rfl (by decide) (by decide) e0 ⟨rfl, N0, rfl⟩
 refine ocn Y0 2 rfl (flt cc1).2.2.1 <| oiN Y0 3 rfl rfl <| ogt 10 Y0 4 rfl rfl ?_
 refine og s₁ m 10 #[vI 240, vI 240] [(.int 240)] (fun tgt kgo => castTop (by rw [(by rw [hln]; rfl : (Int32.ofNat ln1) = (240 : Int32))]) kgo) ?_
 exact orI X0 Y0 hlk Bd.returns 6 rfl (by decide) (by decide) e0 ⟨rfl, N0, rfl⟩
def Q_ach_0 (Z : State) (sb : Addr) (va : Addr) (kv : ClassId) (vsb : List Value) (ml : Int32) (acc : List Int32) : OwnP := fun h0 n0 v h L => v = some (.int (acc.getD 238 0)) ∧ Fr n0 L ∧ h = h0
def ll38 : List (Nat × Instr × Nat) := [(0, .aload_n 0, 1), (1, .getfield 22, 3), (4, .istore_n 2, 1), (5, .aload_n 0, 1), (6, .getfield 15, 3), (9, .astore_n 3, 1), (10, .aload_n 0, 1), (11, .getfield 79, 3), (14, .aload_n 3, 1), (15, .arraylength, 1), (16, .iload_n 2, 1), (17, .ishr, 1), (18, .invokestatic 138, 3), (21, .istore 4, 2), (23, .iload_n 1, 1), (24, .iload 4, 2), (26, .invokestatic 144, 3), (29, .iload_n 2, 1), (30, .ifCond .ne 12, 3), (33, .aload_n 3, 1), (34, .iload_n 1, 1), (35, .baload, 1), (36, .sipush 255, 3), (39, .iand, 1), (40, .i2c, 1), (41, .ireturn, 1), (42, .aload_n 3, 1), (43, .iload_n 1, 1), (44, .invokestatic 148, 3), (47, .ireturn, 1)]
theorem dl38 : OwnDec jdk_68_method_14_code ll38 := by decide +kernel
theorem pd_50523903 : parseMethodDescriptor "(II)I" = some ⟨[.int, .int], some .int⟩ := by decide +kernel
theorem rm_ach_0 (Gl : OwnGl Z a0 wG1 wG3) (X00 : Old Z n0 h0) (sb : Addr) (va : Addr) (kv : ClassId) (vsb : List Value) (ml : Int32) (acc : List Int32) (f0 : Exa Z h0 sb "java/lang/StringBuilder") (f1 : Fld Z h0 sb "java/lang/AbstractStringBuilder" "value" "[B" (.ref va)) (f2 : Fld Z h0 sb "java/lang/AbstractStringBuilder" "coder" "B" (.int 0)) (f3 : Fld Z h0 sb "java/lang/AbstractStringBuilder" "count" "I" (.int (Int32.ofNat acc.length))) (f4 : Fld Z h0 sb "java/lang/AbstractStringBuilder" "maybeLatin1" "Z" (.int ml)) (f5 : Arv Z h0 va kv .byte (240 : Int32) vsb (.int 0)) (f6 : Exa Z h0 va "[B") (hq : acc.length = 240) (hvl : vsb.length = 240) (hlb : OwnLB acc vsb) (hrg : OwnRg acc) : OwnM l Z mN38 jdk_68_method_14_code 5 (some .char) (oR 2 0 0 27) #[(.ref sb), (.int 238)] h0 (Q_ach_0 Z sb va kv vsb ml acc h0 n0) := by
 refine own_in (plainFor_of_name pn_24045714) dl38 #[vR sb, vI 238, vU, vU, vU] (oE rfl) ?_
 intro p e s m below meth c s₁ Bd hml hZ X0 e0 hx hlk Y0 hown
 obtain ⟨hw, cx, hEL⟩ := id Gl
 have wT := oww hw
 have N0 := Fr.nil n0
 refine oaN Y0 0 rfl rfl rfl ?_
 refine oGF X0 Y0 hZ hown (wT 63 rfl) Via.refl e0 f2 1 rfl ?_
 intro T1 X1 Y1 e1
 refine oiS Y1 2 rfl #[vR sb, vI 238, vI 0, vU, vU] rfl <| oaN Y1 3 rfl rfl rfl ?_
 refine oGF X1 Y1 hZ hown (wT 61 rfl) Via.refl e1 f1 4 rfl ?_
 intro T2 X2 Y2 e2
 refine oaS Y2 5 rfl #[vR sb, vI 238, vI 0, vR va, vU] rfl rfl <| oaN Y2 6 rfl rfl rfl ?_
 refine oGF X2 Y2 hZ hown (wT 113 rfl) Via.refl e2 f3 7 rfl ?_
 intro T3 X3 Y3 e3
 refine oaN Y3 8 rfl rfl rfl <| olen X3 Y3 hZ e3 f5 9 rfl <| oiN Y3 10 rfl rfl <| oshr Y3 11 rfl <| oti (240 : Int32) (by decide) ?_
 refine oCS X3 Y3 hZ hml hown (wT 215 rfl) (wT 216 rfl) (wT 42 rfl) (wT 217 rfl) (rm_min240 Gl X00 acc.length hq) e3 12 rfl 2 0 pd_50523903 rfl rfl rfl rfl (by decide +kernel) ?_
 intro v5 T5 L5 X5 Y5 hQ5
 obtain ⟨rfl, Nq5, eq5⟩ := hQ5
 show OwnH p e below _ T5 m _ _ [(.int 240)]
 have N5 := Fr.app N0 Nq5
 refine ois Y5 13 rfl #[vR sb, vI 238, vI 0, vR va, vI 240] rfl <| oiN Y5 14 rfl rfl <| oil Y5 15 rfl rfl ?_
 refine oCS X5 Y5 hZ hml hown (wT 218 rfl) (wT 93 rfl) (wT 9 rfl) (wT 94 rfl) (rm_sci Gl X00 (238 : Int32) (240 : Int32) (by decide) (by decide)) eq5 16 rfl 2 0 pd_53897226 rfl rfl rfl rfl (by decide +kernel) ?_
 intro v6 T6 L6 X6 Y6 hQ6
 obtain ⟨rfl, Nq6, eq6⟩ := hQ6
 show OwnH p e below _ T6 m _ _ []
 have N6 := Fr.app N5 Nq6
 refine oiN Y6 17 rfl rfl <| oifn Y6 18 rfl ((if0 _ _).trans (teq (by decide : (0 : Int32) = (0 : Int32))).2) <| oaN Y6 19 rfl rfl rfl <| oiN Y6 20 rfl rfl <| obal X6 Y6 hZ eq6 f5 21 rfl (by decide) (hlb.2 238 (by omega)).1 <| osp 255 Y6 22 rfl rfl <| oand Y6 23 rfl ?_
 refine og T6 m 40 #[vR sb, vI 238, vI 0, vR va, vI 240] [(.int (acc.getD 238 0))] (fun tgt kgo => castTop (by rw [(own_lb_mask hrg hlb (by omega))]) kgo) ?_
 refine oi2c Y6 24 rfl ?_
 refine og T6 m 41 #[vR sb, vI 238, vI 0, vR va, vI 240] [(.int (acc.getD 238 0))] (fun tgt kgo => castTop (by rw [(own_nar_w (own_rg_at hrg 238))]) kgo) ?_
 exact orN X6 Y6 hlk Bd.returns (by simp) 25 rfl ((own_nar_w (own_rg_at hrg 238))) (by decide) (by decide) eq6 ⟨rfl, N6, rfl⟩
def Q_sch_0 (Z : State) (sb : Addr) (va : Addr) (kv : ClassId) (vsb : List Value) (ml : Int32) (acc : List Int32) : OwnP := fun h0 n0 v h L => v = some (.int (acc.getD 238 0)) ∧ Fr n0 L ∧ h = h0
def ll39 : List (Nat × Instr × Nat) := [(0, .aload_n 0, 1), (1, .iload_n 1, 1), (2, .invokespecial 329, 3), (5, .ireturn, 1)]
theorem dl39 : OwnDec jdk_67_method_88_code ll39 := by decide +kernel
theorem pd_17647939 : parseMethodDescriptor "(I)C" = some ⟨[.int], some .char⟩ := by decide +kernel
theorem rm_sch_0 (Gl : OwnGl Z a0 wG1 wG3) (X00 : Old Z n0 h0) (sb : Addr) (va : Addr) (kv : ClassId) (vsb : List Value) (ml : Int32) (acc : List Int32) (f0 : Exa Z h0 sb "java/lang/StringBuilder") (f1 : Fld Z h0 sb "java/lang/AbstractStringBuilder" "value" "[B" (.ref va)) (f2 : Fld Z h0 sb "java/lang/AbstractStringBuilder" "coder" "B" (.int 0)) (f3 : Fld Z h0 sb "java/lang/AbstractStringBuilder" "count" "I" (.int (Int32.ofNat acc.length))) (f4 : Fld Z h0 sb "java/lang/AbstractStringBuilder" "maybeLatin1" "Z" (.int ml)) (f5 : Arv Z h0 va kv .byte (240 : Int32) vsb (.int 0)) (f6 : Exa Z h0 va "[B") (hq : acc.length = 240) (hvl : vsb.length = 240) (hlb : OwnLB acc vsb) (hrg : OwnRg acc) : OwnM l Z mN39 jdk_67_method_88_code 2 (some .char) (oR 3 0 0 43) #[(.ref sb), (.int 238)] h0 (Q_sch_0 Z sb va kv vsb ml acc h0 n0) := by
 refine own_in (plainFor_of_name pn_27209738) dl39 #[vR sb, vI 238] (oE rfl) ?_
 intro p e s m below meth c s₁ Bd hml hZ X0 e0 hx hlk Y0 hown
 obtain ⟨hw, cx, hEL⟩ := id Gl
 have wT := oww hw
 have N0 := Fr.nil n0
 refine oaN Y0 0 rfl rfl rfl <| oiN Y0 1 rfl rfl ?_
 obtain ⟨_, _, ⟨T1, L1, k1, n1⟩, -, X1, ⟨Lc1, hQ1, l1, y1, z1⟩, st1⟩ := superBack X0 hx hZ (y := mN38) hown (wT 211 rfl) (own_same (y := mN38) (wT 213 rfl) (wT 127 rfl) rfl ⟨by decide, by decide⟩) (wT 212 rfl) (wT 110 rfl) (by decide) (backOf (W := 0) (rm_ach_0 Gl X00 sb va kv vsb ml acc f0 f1 f2 f3 f4 f5 f6 hq hvl hlb hrg) hZ (wT 214 rfl) (wT 57 rfl) (by decide) (by decide)) e0 (Ins.self f0) (g := (mkF m 2 #[vR sb, vI 238] [(.int 238), (.ref sb)])) rfl (by rw [hml]; rfl) (wT 214 rfl) (argsL := [(.int 238)]) (rest := []) (lenOf pd_17647939 rfl) rfl (Nat.le_of_eq rfl) (Y0.d 2 rfl) (fun _ _ => ⟨rfl, e0, (by decide : 0 + 0 ≤ _), (by decide : 0 + 0 ≤ _)⟩)
 dsimp only [Pt.U, Pt.locs, Pt.cells, Pt.slots] at X1 l1 y1 z1 st1 hQ1
 subst l1 y1 z1
 obtain ⟨rfl, Nq1, eq1⟩ := hQ1
 refine OwnGoes.tr (T' := T1) (g' := (mkF m 5 #[vR sb, vI 238] [(.int (acc.getD 238 0))])) st1 ?_
 have N1 := Fr.app N0 Nq1
 have Y1 := Y0.nx X1
 exact orN X1 Y1 hlk Bd.returns (by simp) 3 rfl ((own_nar_w (own_rg_at hrg 238))) (by decide) (by decide) eq1 ⟨rfl, N1, rfl⟩
def Q_ach_1 (Z : State) (sb : Addr) (va : Addr) (kv : ClassId) (vsb : List Value) (ml : Int32) (acc : List Int32) : OwnP := fun h0 n0 v h L => v = some (.int (acc.getD 238 0)) ∧ Fr n0 L ∧ h = h0
theorem rm_ach_1 (Gl : OwnGl Z a0 wG1 wG3) (X00 : Old Z n0 h0) (sb : Addr) (va : Addr) (kv : ClassId) (vsb : List Value) (ml : Int32) (acc : List Int32) (f0 : Exa Z h0 sb "java/lang/StringBuilder") (f1 : Fld Z h0 sb "java/lang/AbstractStringBuilder" "value" "[B" (.ref va)) (f2 : Fld Z h0 sb "java/lang/AbstractStringBuilder" "coder" "B" (.int 1)) (f3 : Fld Z h0 sb "java/lang/AbstractStringBuilder" "count" "I" (.int (Int32.ofNat acc.length))) (f4 : Fld Z h0 sb "java/lang/AbstractStringBuilder" "maybeLatin1" "Z" (.int ml)) (f5 : Arv Z h0 va kv .byte (480 : Int32) vsb (.int 0)) (f6 : Exa Z h0 va "[B") (hq : acc.length = 240) (hvl : vsb.length = 480) (hub : OwnUB acc vsb) (hrg : OwnRg acc) : OwnM l Z mN38 jdk_68_method_14_code 5 (some .char) (oR 2 0 0 27) #[(.ref sb), (.int 238)] h0 (Q_ach_1 Z sb va kv vsb ml acc h0 n0) := by
 refine own_in (plainFor_of_name pn_24045714) dl38 #[vR sb, vI 238, vU, vU, vU] (oE rfl) ?_
 intro p e s m below meth c s₁ Bd hml hZ X0 e0 hx hlk Y0 hown
 obtain ⟨hw, cx, hEL⟩ := id Gl
 have wT := oww hw
 have N0 := Fr.nil n0
 refine oaN Y0 0 rfl rfl rfl ?_
 refine oGF X0 Y0 hZ hown (wT 63 rfl) Via.refl e0 f2 1 rfl ?_
 intro T1 X1 Y1 e1
 refine oiS Y1 2 rfl #[vR sb, vI 238, vI 1, vU, vU] rfl <| oaN Y1 3 rfl rfl rfl ?_
 refine oGF X1 Y1 hZ hown (wT 61 rfl) Via.refl e1 f1 4 rfl ?_
 intro T2 X2 Y2 e2
 refine oaS Y2 5 rfl #[vR sb, vI 238, vI 1, vR va, vU] rfl rfl <| oaN Y2 6 rfl rfl rfl ?_
 refine oGF X2 Y2 hZ hown (wT 113 rfl) Via.refl e2 f3 7 rfl ?_
 intro T3 X3 Y3 e3
 refine oaN Y3 8 rfl rfl rfl <| olen X3 Y3 hZ e3 f5 9 rfl <| oiN Y3 10 rfl rfl <| oshr Y3 11 rfl <| oti (240 : Int32) (by decide) ?_
 refine oCS X3 Y3 hZ hml hown (wT 215 rfl) (wT 216 rfl) (wT 42 rfl) (wT 217 rfl) (rm_min240 Gl X00 acc.length hq) e3 12 rfl 2 0 pd_50523903 rfl rfl rfl rfl (by decide +kernel) ?_
 intro v5 T5 L5 X5 Y5 hQ5
 obtain ⟨rfl, Nq5, eq5⟩ := hQ5
 show OwnH p e below _ T5 m _ _ [(.int 240)]
 have N5 := Fr.app N0 Nq5
 refine ois Y5 13 rfl #[vR sb, vI 238, vI 1, vR va, vI 240] rfl <| oiN Y5 14 rfl rfl <| oil Y5 15 rfl rfl ?_
 refine oCS X5 Y5 hZ hml hown (wT 218 rfl) (wT 93 rfl) (wT 9 rfl) (wT 94 rfl) (rm_sci Gl X00 (238 : Int32) (240 : Int32) (by decide) (by decide)) eq5 16 rfl 2 0 pd_53897226 rfl rfl rfl rfl (by decide +kernel) ?_
 intro v6 T6 L6 X6 Y6 hQ6
 obtain ⟨rfl, Nq6, eq6⟩ := hQ6
 show OwnH p e below _ T6 m _ _ []
 have N6 := Fr.app N5 Nq6
 refine oiN Y6 17 rfl rfl <| oify 42 Y6 18 rfl rfl ((if0 _ _).trans (feq (by decide : ¬ ((1 : Int32) = (0 : Int32)))).2) <| oaN Y6 26 rfl rfl rfl <| oiN Y6 27 rfl rfl ?_
 refine oCS X6 Y6 hZ hml hown (wT 332 rfl) (wT 286 rfl) (wT 23 rfl) (wT 287 rfl) (rm_u16get Gl X00 va kv (480 : Int32) vsb (238 : Int32) (acc.getD 238 0) f5 (own_ub_get (N := 480) (j := 238) hrg hub hvl (by decide) (by omega))) eq6 28 rfl 2 0 pd_30427418 rfl rfl rfl rfl (by decide +kernel) ?_
 intro v7 T7 L7 X7 Y7 hQ7
 obtain ⟨rfl, Nq7, eq7⟩ := hQ7
 show OwnH p e below _ T7 m _ _ [(.int (acc.getD 238 0))]
 have N7 := Fr.app N6 Nq7
 exact orN X7 Y7 hlk Bd.returns (by simp) 29 rfl ((own_nar_w (own_rg_at hrg 238))) (by decide) (by decide) eq7 ⟨rfl, N7, rfl⟩
def Q_sch_1 (Z : State) (sb : Addr) (va : Addr) (kv : ClassId) (vsb : List Value) (ml : Int32) (acc : List Int32) : OwnP := fun h0 n0 v h L => v = some (.int (acc.getD 238 0)) ∧ Fr n0 L ∧ h = h0
theorem rm_sch_1 (Gl : OwnGl Z a0 wG1 wG3) (X00 : Old Z n0 h0) (sb : Addr) (va : Addr) (kv : ClassId) (vsb : List Value) (ml : Int32) (acc : List Int32) (f0 : Exa Z h0 sb "java/lang/StringBuilder") (f1 : Fld Z h0 sb "java/lang/AbstractStringBuilder" "value" "[B" (.ref va)) (f2 : Fld Z h0 sb "java/lang/AbstractStringBuilder" "coder" "B" (.int 1)) (f3 : Fld Z h0 sb "java/lang/AbstractStringBuilder" "count" "I" (.int (Int32.ofNat acc.length))) (f4 : Fld Z h0 sb "java/lang/AbstractStringBuilder" "maybeLatin1" "Z" (.int ml)) (f5 : Arv Z h0 va kv .byte (480 : Int32) vsb (.int 0)) (f6 : Exa Z h0 va "[B") (hq : acc.length = 240) (hvl : vsb.length = 480) (hub : OwnUB acc vsb) (hrg : OwnRg acc) : OwnM l Z mN39 jdk_67_method_88_code 2 (some .char) (oR 3 0 0 43) #[(.ref sb), (.int 238)] h0 (Q_sch_1 Z sb va kv vsb ml acc h0 n0) := by
 refine own_in (plainFor_of_name pn_27209738) dl39 #[vR sb, vI 238] (oE rfl) ?_
 intro p e s m below meth c s₁ Bd hml hZ X0 e0 hx hlk Y0 hown
 obtain ⟨hw, cx, hEL⟩ := id Gl
 have wT := oww hw
 have N0 := Fr.nil n0
 refine oaN Y0 0 rfl rfl rfl <| oiN Y0 1 rfl rfl ?_
 obtain ⟨_, _, ⟨T1, L1, k1, n1⟩, -, X1, ⟨Lc1, hQ1, l1, y1, z1⟩, st1⟩ := superBack X0 hx hZ (y := mN38) hown (wT 211 rfl) (own_same (y := mN38) (wT 213 rfl) (wT 127 rfl) rfl ⟨by decide, by decide⟩) (wT 212 rfl) (wT 110 rfl) (by decide) (backOf (W := 0) (rm_ach_1 Gl X00 sb va kv vsb ml acc f0 f1 f2 f3 f4 f5 f6 hq hvl hub hrg) hZ (wT 214 rfl) (wT 57 rfl) (by decide) (by decide)) e0 (Ins.self f0) (g := (mkF m 2 #[vR sb, vI 238] [(.int 238), (.ref sb)])) rfl (by rw [hml]; rfl) (wT 214 rfl) (argsL := [(.int 238)]) (rest := []) (lenOf pd_17647939 rfl) rfl (Nat.le_of_eq rfl) (Y0.d 2 rfl) (fun _ _ => ⟨rfl, e0, (by decide : 0 + 0 ≤ _), (by decide : 0 + 0 ≤ _)⟩)
 dsimp only [Pt.U, Pt.locs, Pt.cells, Pt.slots] at X1 l1 y1 z1 st1 hQ1
 subst l1 y1 z1
 obtain ⟨rfl, Nq1, eq1⟩ := hQ1
 refine OwnGoes.tr (T' := T1) (g' := (mkF m 5 #[vR sb, vI 238] [(.int (acc.getD 238 0))])) st1 ?_
 have N1 := Fr.app N0 Nq1
 have Y1 := Y0.nx X1
 exact orN X1 Y1 hlk Bd.returns (by simp) 3 rfl ((own_nar_w (own_rg_at hrg 238))) (by decide) (by decide) eq1 ⟨rfl, N1, rfl⟩
def Q_lli (Z : State) (va : Addr) (kv : ClassId) (vsb : List Value) (acc : List Int32) (tg : Addr) (kg : ClassId) (z1x : Int32) : OwnP := fun h0 n0 v h L => ∃ (r : Int32), v = some (.int r) ∧ Fr n0 L ∧ h = h0 ∧ (OwnLst acc r)
def ll40 : List (Nat × Instr × Nat) := [(0, .iload_n 3, 1), (1, .iconst 1, 1), (2, .isub, 1), (3, .istore 5, 2), (5, .iload 5, 2), (7, .iload 4, 2), (9, .iadd, 1), (10, .istore 6, 2), (12, .iload_n 3, 1), (13, .iconst 1, 1), (14, .isub, 1), (15, .istore 7, 2), (17, .aload_n 2, 1), (18, .iload 7, 2), (20, .baload, 1), (21, .sipush 255, 3), (24, .iand, 1), (25, .i2c, 1), (26, .istore 8, 2), (28, .iload 6, 2), (30, .iload 5, 2), (32, .if_icmp .lt 22, 3), (35, .aload_n 0, 1), (36, .iload 6, 2), (38, .baload, 1), (39, .sipush 255, 3), (42, .iand, 1), (43, .iload 8, 2), (45, .if_icmp .eq 9, 3), (48, .iinc 6 (-1), 3), (51, .goto (-23), 3), (54, .iload 6, 2), (56, .iload 5, 2), (58, .if_icmp .ge 5, 3), (61, .iconst (-1), 1), (62, .ireturn, 1), (63, .iload 6, 2), (65, .iconst 1, 1), (66, .isub, 1), (67, .istore 9, 2), (69, .iload 9, 2), (71, .iload 7, 2), (73, .isub, 1), (74, .istore 10, 2), (76, .iload 7, 2), (78, .iconst 1, 1), (79, .isub, 1), (80, .istore 11, 2), (82, .iload 9, 2), (84, .iload 10, 2), (86, .if_icmp .le 34, 3), (120, .iload 10, 2), (122, .iconst 1, 1), (123, .iadd, 1), (124, .ireturn, 1)]
theorem dl40 : OwnDec jdk_43_method_26_code ll40 := by decide +kernel
theorem rm_lli (Gl : OwnGl Z a0 wG1 wG3) (X00 : Old Z n0 h0) (va : Addr) (kv : ClassId) (vsb : List Value) (acc : List Int32) (tg : Addr) (kg : ClassId) (z1x : Int32) (f0 : Arv Z h0 va kv .byte (240 : Int32) vsb (.int 0)) (f1 : Arv Z h0 tg kg .byte (1 : Int32) ((([32] : List Int32).map (fun c => c.toInt8.toInt32)).map Value.int) (.int 0)) (hq : acc.length = 240) (hvl : vsb.length = 240) (hlb : OwnLB acc vsb) (hrg : OwnRg acc) : OwnM l Z mN40 jdk_43_method_26_code 12 (some .int) (oR 0 0 0 0) #[(.ref va), (.int z1x), (.ref tg), (.int 1), (.int 239)] h0 (Q_lli Z va kv vsb acc tg kg z1x h0 n0) := by
 refine own_in (plainFor_of_name pn_54843740) dl40 #[vR va, vI z1x, vR tg, vI 1, vI 239, vU, vU, vU, vU, vU, vU, vU] (oE rfl) ?_
 intro p e s m below meth c s₁ Bd hml hZ X0 e0 hx hlk Y0 hown
 have N0 := Fr.nil n0
 refine oiN Y0 0 rfl rfl <| oic 1 Y0 1 rfl rfl <| osub Y0 2 rfl <| oti (0 : Int32) (by decide) <| ois Y0 3 rfl #[vR va, vI z1x, vR tg, vI 1, vI 239, vI 0, vU, vU, vU, vU, vU, vU] rfl <| oil Y0 4 rfl rfl <| oil Y0 5 rfl rfl <| oadd Y0 6 rfl <| oti (239 : Int32) (by decide) <| ois Y0 7 rfl #[vR va, vI z1x, vR tg, vI 1, vI 239, vI 0, vI 239, vU, vU, vU, vU, vU] rfl ?_
 refine oiN Y0 8 rfl rfl <| oic 1 Y0 9 rfl rfl <| osub Y0 10 rfl <| oti (0 : Int32) (by decide) <| ois Y0 11 rfl #[vR va, vI z1x, vR tg, vI 1, vI 239, vI 0, vI 239, vI 0, vU, vU, vU, vU] rfl <| oaN Y0 12 rfl rfl rfl <| oil Y0 13 rfl rfl <| obal (v := (.int 32)) X0 Y0 hZ e0 f1 14 rfl (by decide) (by decide) <| osp 255 Y0 15 rfl rfl <| oand Y0 16 rfl ?_
 refine oti (32 : Int32) (by decide) <| oi2c Y0 17 rfl <| oti (32 : Int32) (by decide) <| ois Y0 18 rfl #[vR va, vI z1x, vR tg, vI 1, vI 239, vI 0, vI 239, vI 0, vI 32, vU, vU, vU] rfl ?_
 have lpd : ∀ (fu2 : Nat) (it : Nat) (T2 : State) (L2 : List Loc) (X2 : Stand p l e (oR 0 0 0 0) s m #[(.ref va), (.int z1x), (.ref tg), (.int 1), (.int 239)] below meth c T2 L2 0 0) (e2 : T2.heap = h0) (N2 : Fr n0 L2) (hle : it ≤ 240) (hli : OwnLstAt acc it) (hfu2 : it < fu2), OwnGoes p e below (oG (Q_lli Z va kv vsb acc tg kg z1x h0 n0) s (oR 0 0 0 0)) T2 (mkF m 28 #[vR va, vI z1x, vR tg, vI 1, vI 239, vI 0, vI (ownPred it), vI 0, vI 32, vU, vU, vU] []) := by
  intro fu2
  induction fu2 with
  | zero =>
   intro it T2 L2 X2 e2 N2 hle hli hfu2
   exact absurd hfu2 (Nat.not_lt_zero _)
  | succ fu2 ih2 =>
   intro it T2 L2 X2 e2 N2 hle hli hfu2
   have Y2 := Y0.nx X2
   refine oil Y2 19 rfl rfl <| oil Y2 20 rfl rfl ?_
   by_cases cc3 : (ownPred it) < (0 : Int32)
   ·
    have hit : it = 0 := (own_pred_neg (by omega)).mp cc3
    refine ocy 54 Y2 21 rfl rfl (tlt cc3).1 <| oil Y2 31 rfl rfl <| oil Y2 32 rfl rfl <| ocn Y2 33 rfl (tlt cc3).2.1 <| oic (-1) Y2 34 rfl rfl ?_
    exact orI X2 Y2 hlk Bd.returns 35 rfl (by decide) (by decide) e2 ⟨(-1 : Int32), rfl, N2, rfl, (Or.inl ⟨rfl, fun t ht => hli t (by omega) ht⟩)⟩
   obtain ⟨kt, hkt⟩ : ∃ kt, it = kt + 1 := ⟨it - 1, by have : it ≠ 0 := (fun z => cc3 ((own_pred_neg (it := it) (by omega)).mpr z)); omega⟩
   refine ocn Y2 21 rfl (flt cc3).1 ?_
   refine og T2 m 35 #[vR va, vI z1x, vR tg, vI 1, vI 239, vI 0, vI (Int32.ofNat kt), vI 0, vI 32, vU, vU, vU] [] (fun tgt kgo => castTop (by rw [(show (ownPred it) = (Int32.ofNat kt) by rw [hkt, own_pred_succ])]) kgo) ?_
   refine oaN Y2 22 rfl rfl rfl <| oil Y2 23 rfl rfl <| obal (v := (.int (StrChars.lo8 (acc.getD kt 0)))) X2 Y2 hZ e2 f0 24 rfl (own_lb_at (j := kt) (N := 240) hlb hvl (by decide) (by omega)).1 (own_lb_at (j := kt) (N := 240) hlb hvl (by decide) (by omega)).2 <| osp 255 Y2 25 rfl rfl <| oand Y2 26 rfl ?_
   refine og T2 m 43 #[vR va, vI z1x, vR tg, vI 1, vI 239, vI 0, vI (Int32.ofNat kt), vI 0, vI 32, vU, vU, vU] [(.int (acc.getD kt 0))] (fun tgt kgo => castTop (by rw [(own_lb_mask (j := kt) hrg hlb (by omega))]) kgo) ?_
   refine oil Y2 27 rfl rfl ?_
   by_cases cc6 : (acc.getD kt 0) = (32 : Int32)
   ·
    refine ocy 54 Y2 28 rfl rfl (teq cc6).1 <| oil Y2 31 rfl rfl <| oil Y2 32 rfl rfl <| ocy 63 Y2 33 rfl rfl (flt (own_nat (by omega)).2.1).2.1 <| oil Y2 36 rfl rfl <| oic 1 Y2 37 rfl rfl <| osub Y2 38 rfl <| ois Y2 39 rfl #[vR va, vI z1x, vR tg, vI 1, vI 239, vI 0, vI (Int32.ofNat kt), vI 0, vI 32, vI ((Int32.ofNat kt) - (1 : Int32)), vU, vU] rfl <| oil Y2 40 rfl rfl <| oil Y2 41 rfl rfl ?_
    refine osub Y2 42 rfl <| ois Y2 43 rfl #[vR va, vI z1x, vR tg, vI 1, vI 239, vI 0, vI (Int32.ofNat kt), vI 0, vI 32, vI ((Int32.ofNat kt) - (1 : Int32)), vI (((Int32.ofNat kt) - (1 : Int32)) - (0 : Int32)), vU] rfl <| oil Y2 44 rfl rfl <| oic 1 Y2 45 rfl rfl <| osub Y2 46 rfl <| oti (-1 : Int32) (by decide) <| ois Y2 47 rfl #[vR va, vI z1x, vR tg, vI 1, vI 239, vI 0, vI (Int32.ofNat kt), vI 0, vI 32, vI ((Int32.ofNat kt) - (1 : Int32)), vI (((Int32.ofNat kt) - (1 : Int32)) - (0 : Int32)), vI (-1)] rfl <| oil Y2 48 rfl rfl <| oil Y2 49 rfl rfl <| ocy 120 Y2 50 rfl rfl (flt (own_sub_irr _)).2.2.2 ?_
    refine oil Y2 51 rfl rfl <| oic 1 Y2 52 rfl rfl <| oadd Y2 53 rfl ?_
    refine og T2 m 124 #[vR va, vI z1x, vR tg, vI 1, vI 239, vI 0, vI (Int32.ofNat kt), vI 0, vI 32, vI ((Int32.ofNat kt) - (1 : Int32)), vI (((Int32.ofNat kt) - (1 : Int32)) - (0 : Int32)), vI (-1)] [(.int (Int32.ofNat kt))] (fun tgt kgo => castTop (by rw [(own_sub_back _)]) kgo) ?_
    exact orI X2 Y2 hlk Bd.returns 54 rfl (by decide) (by decide) e2 ⟨(Int32.ofNat kt), rfl, N2, rfl, (Or.inr ⟨kt, rfl, by omega, cc6, fun t h1 h2 => hli t (by omega) h2⟩)⟩
   refine ocn Y2 28 rfl (feq cc6).1 <| oinc Y2 29 rfl #[vR va, vI z1x, vR tg, vI 1, vI 239, vI 0, vI ((Int32.ofNat kt) + (-1 : Int32)), vI 0, vI 32, vU, vU, vU] rfl rfl <| ogt 28 Y2 30 rfl rfl ?_
   refine og T2 m 28 #[vR va, vI z1x, vR tg, vI 1, vI 239, vI 0, vI (ownPred kt), vI 0, vI 32, vU, vU, vU] [] (fun tgt kgo => castTop (by rw [(own_pred_dec kt)]) kgo) ?_
   exact ih2 kt T2 _ X2 e2 N2 (by omega) (own_lst_dec (hkt ▸ hli) cc6) (by omega)
 refine og s₁ m 28 #[vR va, vI z1x, vR tg, vI 1, vI (ownPred 240), vI 0, vI (ownPred 240), vI 0, vI 32, vU, vU, vU] [] (fun tgt kgo => castTop (by rw [(by decide : (239 : Int32) = ownPred 240)]) kgo) ?_
 exact lpd (240 + 1) 240 s₁ _ X0 e0 N0 (Nat.le_refl _) (fun t h1 h2 => absurd h2 (by omega)) (Nat.lt_succ_self _)
def Q_ull (Z : State) (va : Addr) (kv : ClassId) (vsb : List Value) (acc : List Int32) (tg : Addr) (kg : ClassId) (z1x : Int32) : OwnP := fun h0 n0 v h L => ∃ (r : Int32), v = some (.int r) ∧ Fr n0 L ∧ h = h0 ∧ (OwnLst acc r)
def ll41 : List (Nat × Instr × Nat) := [(0, .getstatic 44, 3), (3, .ifCond .ne 16, 3), (19, .getstatic 44, 3), (22, .ifCond .ne 15, 3), (37, .getstatic 44, 3), (40, .ifCond .ne 17, 3), (57, .iload_n 3, 1), (58, .iconst 1, 1), (59, .isub, 1), (60, .istore 5, 2), (62, .iload 5, 2), (64, .iload 4, 2), (66, .iadd, 1), (67, .istore 6, 2), (69, .iload_n 3, 1), (70, .iconst 1, 1), (71, .isub, 1), (72, .istore 7, 2), (74, .aload_n 2, 1), (75, .iload 7, 2), (77, .baload, 1), (78, .sipush 255, 3), (81, .iand, 1), (82, .i2c, 1), (83, .istore 8, 2), (85, .iload 6, 2), (87, .aload_n 0, 1), (88, .invokestatic 67, 3), (91, .iload 6, 2), (93, .iload 5, 2), (95, .if_icmp .lt 20, 3), (98, .aload_n 0, 1), (99, .iload 6, 2), (101, .invokestatic 71, 3), (104, .iload 8, 2), (106, .if_icmp .eq 9, 3), (109, .iinc 6 (-1), 3), (112, .goto (-21), 3), (115, .iload 6, 2), (117, .iload 5, 2), (119, .if_icmp .ge 5, 3), (122, .iconst (-1), 1), (123, .ireturn, 1), (124, .iload 6, 2), (126, .iconst 1, 1), (127, .isub, 1), (128, .istore 9, 2), (130, .iload 9, 2), (132, .iload 7, 2), (134, .isub, 1), (135, .istore 10, 2), (137, .iload 7, 2), (139, .iconst 1, 1), (140, .isub, 1), (141, .istore 11, 2), (143, .iload 9, 2), (145, .iload 10, 2), (147, .if_icmp .le 32, 3), (179, .iload 10, 2), (181, .iconst 1, 1), (182, .iadd, 1), (183, .ireturn, 1)]
theorem dl41 : OwnDec jdk_52_method_87_code ll41 := by decide +kernel
theorem rm_ull (Gl : OwnGl Z a0 wG1 wG3) (X00 : Old Z n0 h0) (va : Addr) (kv : ClassId) (vsb : List Value) (acc : List Int32) (tg : Addr) (kg : ClassId) (z1x : Int32) (f0 : Arv Z h0 va kv .byte (480 : Int32) vsb (.int 0)) (f1 : Arv Z h0 tg kg .byte (1 : Int32) ((([32] : List Int32).map (fun c => c.toInt8.toInt32)).map Value.int) (.int 0)) (hq : acc.length = 240) (hvl : vsb.length = 480) (hub : OwnUB acc vsb) (hrg : OwnRg acc) : OwnM l Z mN41 jdk_52_method_87_code 12 (some .int) (oR 3 0 0 40) #[(.ref va), (.int z1x), (.ref tg), (.int 1), (.int 239)] h0 (Q_ull Z va kv vsb acc tg kg z1x h0 n0) := by
 refine own_in (plainFor_of_name pn_68381282) dl41 #[vR va, vI z1x, vR tg, vI 1, vI 239, vU, vU, vU, vU, vU, vU, vU] (oE rfl) ?_
 intro p e s m below meth c s₁ Bd hml hZ X0 e0 hx hlk Y0 hown
 obtain ⟨hw, cx, hEL⟩ := id Gl
 have wT := oww hw
 obtain ⟨wO2, wP5, wO4, wrG3, hstr, wUA, wUH, wUL⟩ := id cx
 have N0 := Fr.nil n0
 refine oGS X0 Y0 hZ hown (wT 268 rfl) Via.refl e0 (wUA.ext X00.2) 0 rfl ?_
 intro T1 X1 Y1 e1
 refine oify 19 Y1 1 rfl rfl ((if0 _ _).trans (feq (by decide : ¬ ((1 : Int32) = (0 : Int32)))).2) ?_
 refine oGS X1 Y1 hZ hown (wT 268 rfl) Via.refl e1 (wUA.ext X00.2) 2 rfl ?_
 intro T2 X2 Y2 e2
 refine oify 37 Y2 3 rfl rfl ((if0 _ _).trans (feq (by decide : ¬ ((1 : Int32) = (0 : Int32)))).2) ?_
 refine oGS X2 Y2 hZ hown (wT 268 rfl) Via.refl e2 (wUA.ext X00.2) 4 rfl ?_
 intro T3 X3 Y3 e3
 refine oify 57 Y3 5 rfl rfl ((if0 _ _).trans (feq (by decide : ¬ ((1 : Int32) = (0 : Int32)))).2) <| oiN Y3 6 rfl rfl <| oic 1 Y3 7 rfl rfl <| osub Y3 8 rfl <| oti (0 : Int32) (by decide) <| ois Y3 9 rfl #[vR va, vI z1x, vR tg, vI 1, vI 239, vI 0, vU, vU, vU, vU, vU, vU] rfl <| oil Y3 10 rfl rfl <| oil Y3 11 rfl rfl <| oadd Y3 12 rfl <| oti (239 : Int32) (by decide) ?_
 refine ois Y3 13 rfl #[vR va, vI z1x, vR tg, vI 1, vI 239, vI 0, vI 239, vU, vU, vU, vU, vU] rfl <| oiN Y3 14 rfl rfl <| oic 1 Y3 15 rfl rfl <| osub Y3 16 rfl <| oti (0 : Int32) (by decide) <| ois Y3 17 rfl #[vR va, vI z1x, vR tg, vI 1, vI 239, vI 0, vI 239, vI 0, vU, vU, vU, vU] rfl <| oaN Y3 18 rfl rfl rfl <| oil Y3 19 rfl rfl <| obal (v := (.int 32)) X3 Y3 hZ e3 f1 20 rfl (by decide) (by decide) <| osp 255 Y3 21 rfl rfl ?_
 refine oand Y3 22 rfl <| oti (32 : Int32) (by decide) <| oi2c Y3 23 rfl <| oti (32 : Int32) (by decide) <| ois Y3 24 rfl #[vR va, vI z1x, vR tg, vI 1, vI 239, vI 0, vI 239, vI 0, vI 32, vU, vU, vU] rfl <| oil Y3 25 rfl rfl <| oaN Y3 26 rfl rfl rfl ?_
 refine oCS X3 Y3 hZ hml hown (wT 274 rfl) (wT 275 rfl) (wT 23 rfl) (wT 276 rfl) (rm_u16ci Gl X00 va kv (480 : Int32) vsb (239 : Int32) f0 (by decide : ¬ ((239 : Int32) < (0 : Int32))) (by decide : (239 : Int32) < ((480 : Int32) >>> ((1 : Int32) &&& 31)))) e3 27 rfl 2 0 pd_93580263 rfl rfl rfl rfl (by decide +kernel) ?_
 intro v5 T5 L5 X5 Y5 hQ5
 obtain ⟨rfl, Nq5, eq5⟩ := hQ5
 show OwnH p e below _ T5 m _ _ []
 have N5 := Fr.app N0 Nq5
 have lpd : ∀ (fu6 : Nat) (it : Nat) (T6 : State) (L6 : List Loc) (X6 : Stand p l e (oR 3 0 0 40) s m #[(.ref va), (.int z1x), (.ref tg), (.int 1), (.int 239)] below meth c T6 L6 0 0) (e6 : T6.heap = h0) (N6 : Fr n0 L6) (hle : it ≤ 240) (hli : OwnLstAt acc it) (hfu6 : it < fu6), OwnGoes p e below (oG (Q_ull Z va kv vsb acc tg kg z1x h0 n0) s (oR 3 0 0 40)) T6 (mkF m 91 #[vR va, vI z1x, vR tg, vI 1, vI 239, vI 0, vI (ownPred it), vI 0, vI 32, vU, vU, vU] []) := by
  intro fu6
  induction fu6 with
  | zero =>
   intro it T6 L6 X6 e6 N6 hle hli hfu6
   exact absurd hfu6 (Nat.not_lt_zero _)
  | succ fu6 ih6 =>
   intro it T6 L6 X6 e6 N6 hle hli hfu6
   have Y6 := Y0.nx X6
   refine oil Y6 28 rfl rfl <| oil Y6 29 rfl rfl ?_
   by_cases cc7 : (ownPred it) < (0 : Int32)
   ·
    have hit : it = 0 := (own_pred_neg (by omega)).mp cc7
    refine ocy 115 Y6 30 rfl rfl (tlt cc7).1 <| oil Y6 38 rfl rfl <| oil Y6 39 rfl rfl <| ocn Y6 40 rfl (tlt cc7).2.1 <| oic (-1) Y6 41 rfl rfl ?_
    exact orI X6 Y6 hlk Bd.returns 42 rfl (by decide) (by decide) e6 ⟨(-1 : Int32), rfl, N6, rfl, (Or.inl ⟨rfl, fun t ht => hli t (by omega) ht⟩)⟩
   obtain ⟨kt, hkt⟩ : ∃ kt, it = kt + 1 := ⟨it - 1, by have : it ≠ 0 := (fun z => cc7 ((own_pred_neg (it := it) (by omega)).mpr z)); omega⟩
   refine ocn Y6 30 rfl (flt cc7).1 ?_
   refine og T6 m 98 #[vR va, vI z1x, vR tg, vI 1, vI 239, vI 0, vI (Int32.ofNat kt), vI 0, vI 32, vU, vU, vU] [] (fun tgt kgo => castTop (by rw [(show (ownPred it) = (Int32.ofNat kt) by rw [hkt, own_pred_succ])]) kgo) ?_
   refine oaN Y6 31 rfl rfl rfl <| oil Y6 32 rfl rfl ?_
   refine oCS X6 Y6 hZ hml hown (wT 285 rfl) (wT 286 rfl) (wT 23 rfl) (wT 287 rfl) (rm_u16get Gl X00 va kv (480 : Int32) vsb (Int32.ofNat kt) (acc.getD kt 0) f0 (own_ub_get (N := 480) (j := kt) hrg hub hvl (by decide) (by omega))) e6 33 rfl 2 0 pd_30427418 rfl rfl rfl rfl (by decide +kernel) ?_
   intro v9 T9 L9 X9 Y9 hQ9
   obtain ⟨rfl, Nq9, eq9⟩ := hQ9
   show OwnH p e below _ T9 m _ _ [(.int (acc.getD kt 0))]
   have N9 := Fr.app N6 Nq9
   refine oil Y9 34 rfl rfl ?_
   by_cases cc10 : (acc.getD kt 0) = (32 : Int32)
   ·
    refine ocy 115 Y9 35 rfl rfl (teq cc10).1 <| oil Y9 38 rfl rfl <| oil Y9 39 rfl rfl <| ocy 124 Y9 40 rfl rfl (flt (own_nat (by omega)).2.1).2.1 <| oil Y9 43 rfl rfl <| oic 1 Y9 44 rfl rfl <| osub Y9 45 rfl <| ois Y9 46 rfl #[vR va, vI z1x, vR tg, vI 1, vI 239, vI 0, vI (Int32.ofNat kt), vI 0, vI 32, vI ((Int32.ofNat kt) - (1 : Int32)), vU, vU] rfl <| oil Y9 47 rfl rfl <| oil Y9 48 rfl rfl ?_
    refine osub Y9 49 rfl <| ois Y9 50 rfl #[vR va, vI z1x, vR tg, vI 1, vI 239, vI 0, vI (Int32.ofNat kt), vI 0, vI 32, vI ((Int32.ofNat kt) - (1 : Int32)), vI (((Int32.ofNat kt) - (1 : Int32)) - (0 : Int32)), vU] rfl <| oil Y9 51 rfl rfl <| oic 1 Y9 52 rfl rfl <| osub Y9 53 rfl <| oti (-1 : Int32) (by decide) <| ois Y9 54 rfl #[vR va, vI z1x, vR tg, vI 1, vI 239, vI 0, vI (Int32.ofNat kt), vI 0, vI 32, vI ((Int32.ofNat kt) - (1 : Int32)), vI (((Int32.ofNat kt) - (1 : Int32)) - (0 : Int32)), vI (-1)] rfl <| oil Y9 55 rfl rfl <| oil Y9 56 rfl rfl <| ocy 179 Y9 57 rfl rfl (flt (own_sub_irr _)).2.2.2 ?_
    refine oil Y9 58 rfl rfl <| oic 1 Y9 59 rfl rfl <| oadd Y9 60 rfl ?_
    refine og T9 m 183 #[vR va, vI z1x, vR tg, vI 1, vI 239, vI 0, vI (Int32.ofNat kt), vI 0, vI 32, vI ((Int32.ofNat kt) - (1 : Int32)), vI (((Int32.ofNat kt) - (1 : Int32)) - (0 : Int32)), vI (-1)] [(.int (Int32.ofNat kt))] (fun tgt kgo => castTop (by rw [(own_sub_back _)]) kgo) ?_
    exact orI X9 Y9 hlk Bd.returns 61 rfl (by decide) (by decide) eq9 ⟨(Int32.ofNat kt), rfl, N9, rfl, (Or.inr ⟨kt, rfl, by omega, cc10, fun t h1 h2 => hli t (by omega) h2⟩)⟩
   refine ocn Y9 35 rfl (feq cc10).1 <| oinc Y9 36 rfl #[vR va, vI z1x, vR tg, vI 1, vI 239, vI 0, vI ((Int32.ofNat kt) + (-1 : Int32)), vI 0, vI 32, vU, vU, vU] rfl rfl <| ogt 91 Y9 37 rfl rfl ?_
   refine og T9 m 91 #[vR va, vI z1x, vR tg, vI 1, vI 239, vI 0, vI (ownPred kt), vI 0, vI 32, vU, vU, vU] [] (fun tgt kgo => castTop (by rw [(own_pred_dec kt)]) kgo) ?_
   exact ih6 kt T9 _ X9 eq9 N9 (by omega) (own_lst_dec (hkt ▸ hli) cc10) (by omega)
 refine og T5 m 91 #[vR va, vI z1x, vR tg, vI 1, vI (ownPred 240), vI 0, vI (ownPred 240), vI 0, vI 32, vU, vU, vU] [] (fun tgt kgo => castTop (by rw [(by decide : (239 : Int32) = ownPred 240)]) kgo) ?_
 exact lpd (240 + 1) 240 T5 _ X5 eq5 N5 (Nat.le_refl _) (fun t h1 h2 => absurd h2 (by omega)) (Nat.lt_succ_self _)
def Q_coder0 (Z : State) (x1 : Addr) : OwnP := fun h0 n0 v h L => v = some (.int 0) ∧ Fr n0 L ∧ h = h0
def ll42 : List (Nat × Instr × Nat) := [(0, .getstatic 38, 3), (3, .ifCond .eq 10, 3), (6, .aload_n 0, 1), (7, .getfield 15, 3), (10, .goto 4, 3), (14, .ireturn, 1)]
theorem dl42 : OwnDec jdk_42_method_152_code ll42 := by decide +kernel
theorem rm_coder0 (Gl : OwnGl Z a0 wG1 wG3) (X00 : Old Z n0 h0) (x1 : Addr) (f0 : Exa Z h0 x1 "java/lang/String") (f1 : Fld Z h0 x1 "java/lang/String" "coder" "B" (.int 0)) : OwnM l Z mN42 jdk_42_method_152_code 1 (some .byte) (oR 0 0 0 0) #[(.ref x1)] h0 (Q_coder0 Z x1 h0 n0) := by
 refine own_in (plainFor_of_name pn_52039224) dl42 #[vR x1] (oE rfl) ?_
 intro p e s m below meth c s₁ Bd hml hZ X0 e0 hx hlk Y0 hown
 obtain ⟨hw, cx, hEL⟩ := id Gl
 have wT := oww hw
 obtain ⟨wO2, wP5, wO4, wrG3, hstr, wUA, wUH, wUL⟩ := id cx
 have N0 := Fr.nil n0
 refine oGS X0 Y0 hZ hown (wT 20 rfl) Via.refl e0 (wO2.ext X00.2) 0 rfl ?_
 intro T1 X1 Y1 e1
 refine oifn Y1 1 rfl ((if0 _ _).trans (feq wP5).1) <| oaN Y1 2 rfl rfl rfl ?_
 refine oGF X1 Y1 hZ hown (wT 32 rfl) Via.refl e1 f1 3 rfl ?_
 intro T2 X2 Y2 e2
 refine ogt 14 Y2 4 rfl rfl ?_
 exact orN X2 Y2 hlk Bd.returns (by simp) 5 rfl ((by decide : nar .byte (0 : Int32) = (0 : Int32))) (by decide) (by decide) e2 ⟨rfl, N0, rfl⟩
def Q_len1 (Z : State) (x1 : Addr) (tg : Addr) (kg : ClassId) : OwnP := fun h0 n0 v h L => v = some (.int 1) ∧ Fr n0 L ∧ h = h0
def ll43 : List (Nat × Instr × Nat) := [(0, .aload_n 0, 1), (1, .getfield 9, 3), (4, .arraylength, 1), (5, .aload_n 0, 1), (6, .invokevirtual 335, 3), (9, .ishr, 1), (10, .ireturn, 1)]
theorem dl43 : OwnDec jdk_42_method_54_code ll43 := by decide +kernel
theorem pd_61459997 : parseMethodDescriptor "()B" = some ⟨[], some .byte⟩ := by decide +kernel
theorem rm_len1 (Gl : OwnGl Z a0 wG1 wG3) (X00 : Old Z n0 h0) (x1 : Addr) (tg : Addr) (kg : ClassId) (f0 : Exa Z h0 x1 "java/lang/String") (f1 : Fld Z h0 x1 "java/lang/String" "value" "[B" (.ref tg)) (f2 : Fld Z h0 x1 "java/lang/String" "coder" "B" (.int 0)) (f3 : Arv Z h0 tg kg .byte (1 : Int32) ((([32] : List Int32).map (fun c => c.toInt8.toInt32)).map Value.int) (.int 0)) : OwnM l Z mN43 jdk_42_method_54_code 1 (some .int) (oR 1 0 0 13) #[(.ref x1)] h0 (Q_len1 Z x1 tg kg h0 n0) := by
 refine own_in (plainFor_of_name pn_52039224) dl43 #[vR x1] (oE rfl) ?_
 intro p e s m below meth c s₁ Bd hml hZ X0 e0 hx hlk Y0 hown
 obtain ⟨hw, cx, hEL⟩ := id Gl
 have wT := oww hw
 have N0 := Fr.nil n0
 refine oaN Y0 0 rfl rfl rfl ?_
 refine oGF X0 Y0 hZ hown (wT 34 rfl) Via.refl e0 f1 1 rfl ?_
 intro T1 X1 Y1 e1
 refine olen X1 Y1 hZ e1 f3 2 rfl <| oaN Y1 3 rfl rfl rfl ?_
 refine oCV X1 Y1 hZ hml hown (wT 73 rfl) (wT 74 rfl) (notFace_of_selects (args := #[]) (mvT hZ (wT 76 rfl))) (wT 76 rfl) (wT 75 rfl) (wT 77 rfl) (wT 9 rfl) (rm_coder0 Gl X00 x1 f0 f2) e1 f0 4 rfl 0 1 pd_61459997 rfl rfl rfl rfl rfl (by decide +kernel) (by decide +kernel) ?_
 intro v3 T3 L3 X3 Y3 hQ3
 obtain ⟨rfl, Nq3, eq3⟩ := hQ3
 show OwnH p e below _ T3 m _ _ [(.int 0), (.int 1)]
 have N3 := Fr.app N0 Nq3
 refine oshr Y3 5 rfl <| oti (1 : Int32) (by decide) ?_
 exact orI X3 Y3 hlk Bd.returns 6 rfl (by decide) (by decide) eq3 ⟨rfl, N3, rfl⟩
def Q_slio_0 (Z : State) (va : Addr) (kv : ClassId) (vsb : List Value) (acc : List Int32) (x1 : Addr) (tg : Addr) (kg : ClassId) : OwnP := fun h0 n0 v h L => ∃ (r : Int32), v = some (.int r) ∧ Fr n0 L ∧ h = h0 ∧ (OwnLst acc r)
def ll44 : List (Nat × Instr × Nat) := [(0, .aload_n 3, 1), (1, .getfield 9, 3), (4, .astore 5, 2), (6, .aload_n 3, 1), (7, .invokevirtual 335, 3), (10, .istore 6, 2), (12, .aload_n 3, 1), (13, .invokevirtual 505, 3), (16, .istore 7, 2), (18, .iload_n 2, 1), (19, .iload 7, 2), (21, .isub, 1), (22, .istore 8, 2), (24, .iload 4, 2), (26, .iload 8, 2), (28, .if_icmp .le 7, 3), (35, .iload 4, 2), (37, .ifCond .ge 5, 3), (42, .iload 7, 2), (44, .ifCond .ne 6, 3), (50, .iload_n 1, 1), (51, .iload 6, 2), (53, .if_icmp .ne 33, 3), (56, .iload_n 1, 1), (57, .ifCond .ne 17, 3), (60, .aload_n 0, 1), (61, .iload_n 2, 1), (62, .aload 5, 2), (64, .iload 7, 2), (66, .iload 4, 2), (68, .invokestatic 675, 3), (71, .goto 14, 3), (85, .ireturn, 1), (86, .iload_n 1, 1), (87, .ifCond .ne 5, 3), (92, .aload_n 0, 1), (93, .iload_n 2, 1), (94, .aload 5, 2), (96, .iload 7, 2), (98, .iload 4, 2), (100, .invokestatic 678, 3), (103, .ireturn, 1)]
theorem dl44 : OwnDec jdk_42_method_90_code ll44 := by decide +kernel
theorem pd_65611257 : parseMethodDescriptor "([BI[BII)I" = some ⟨[(.array .byte), .int, (.array .byte), .int, .int], some .int⟩ := by decide +kernel
theorem rm_slio_0 (Gl : OwnGl Z a0 wG1 wG3) (X00 : Old Z n0 h0) (va : Addr) (kv : ClassId) (vsb : List Value) (acc : List Int32) (x1 : Addr) (tg : Addr) (kg : ClassId) (f0 : Arv Z h0 va kv .byte (240 : Int32) vsb (.int 0)) (f1 : Exa Z h0 x1 "java/lang/String") (f2 : Fld Z h0 x1 "java/lang/String" "value" "[B" (.ref tg)) (f3 : Fld Z h0 x1 "java/lang/String" "coder" "B" (.int 0)) (f4 : Arv Z h0 tg kg .byte (1 : Int32) ((([32] : List Int32).map (fun c => c.toInt8.toInt32)).map Value.int) (.int 0)) (hq : acc.length = 240) (hvl : vsb.length = 240) (hlb : OwnLB acc vsb) (hrg : OwnRg acc) : OwnM l Z mN44 jdk_42_method_90_code 9 (some .int) (oR 2 0 0 25) #[(.ref va), (.int 0), (.int (Int32.ofNat acc.length)), (.ref x1), (.int 239)] h0 (Q_slio_0 Z va kv vsb acc x1 tg kg h0 n0) := by
 refine own_in (plainFor_of_name pn_52039224) dl44 #[vR va, vI 0, vI (Int32.ofNat acc.length), vR x1, vI 239, vU, vU, vU, vU] (oE rfl) ?_
 intro p e s m below meth c s₁ Bd hml hZ X0 e0 hx hlk Y0 hown
 obtain ⟨hw, cx, hEL⟩ := id Gl
 have wT := oww hw
 have N0 := Fr.nil n0
 refine oaN Y0 0 rfl rfl rfl ?_
 refine oGF X0 Y0 hZ hown (wT 34 rfl) Via.refl e0 f2 1 rfl ?_
 intro T1 X1 Y1 e1
 refine oas Y1 2 rfl #[vR va, vI 0, vI (Int32.ofNat acc.length), vR x1, vI 239, vR tg, vU, vU, vU] rfl rfl <| oaN Y1 3 rfl rfl rfl ?_
 refine oCV X1 Y1 hZ hml hown (wT 73 rfl) (wT 74 rfl) (notFace_of_selects (args := #[]) (mvT hZ (wT 76 rfl))) (wT 76 rfl) (wT 75 rfl) (wT 77 rfl) (wT 9 rfl) (rm_coder0 Gl X00 x1 f1 f3) e1 f1 4 rfl 0 0 pd_61459997 rfl rfl rfl rfl rfl (by decide +kernel) (by decide +kernel) ?_
 intro v2 T2 L2 X2 Y2 hQ2
 obtain ⟨rfl, Nq2, eq2⟩ := hQ2
 show OwnH p e below _ T2 m _ _ [(.int 0)]
 have N2 := Fr.app N0 Nq2
 refine ois Y2 5 rfl #[vR va, vI 0, vI (Int32.ofNat acc.length), vR x1, vI 239, vR tg, vI 0, vU, vU] rfl <| oaN Y2 6 rfl rfl rfl ?_
 refine oCV X2 Y2 hZ hml hown (wT 202 rfl) (wT 69 rfl) (notFace_of_selects (args := #[]) (mvT hZ (wT 71 rfl))) (wT 71 rfl) (wT 70 rfl) (wT 72 rfl) (wT 9 rfl) (rm_len1 Gl X00 x1 tg kg f1 f2 f3 f4) eq2 f1 7 rfl 0 0 pd_86913941 rfl rfl rfl rfl rfl (by decide +kernel) (by decide +kernel) ?_
 intro v3 T3 L3 X3 Y3 hQ3
 obtain ⟨rfl, Nq3, eq3⟩ := hQ3
 show OwnH p e below _ T3 m _ _ [(.int 1)]
 have N3 := Fr.app N2 Nq3
 refine ois Y3 8 rfl #[vR va, vI 0, vI (Int32.ofNat acc.length), vR x1, vI 239, vR tg, vI 0, vI 1, vU] rfl <| oiN Y3 9 rfl rfl <| oil Y3 10 rfl rfl <| osub Y3 11 rfl ?_
 refine og T3 m 22 #[vR va, vI 0, vI (Int32.ofNat acc.length), vR x1, vI 239, vR tg, vI 0, vI 1, vU] [(.int 239)] (fun tgt kgo => castTop (by rw [(by rw [hq]; decide : ((Int32.ofNat acc.length) - (1 : Int32)) = (239 : Int32))]) kgo) ?_
 refine ois Y3 12 rfl #[vR va, vI 0, vI (Int32.ofNat acc.length), vR x1, vI 239, vR tg, vI 0, vI 1, vI 239] rfl <| oil Y3 13 rfl rfl <| oil Y3 14 rfl rfl <| ocy 35 Y3 15 rfl rfl (flt (by decide : ¬ ((239 : Int32) < (239 : Int32)))).2.2.2 <| oil Y3 16 rfl rfl <| oify 42 Y3 17 rfl rfl ((if0 _ _).trans (flt (by decide : ¬ ((239 : Int32) < (0 : Int32)))).2.1) <| oil Y3 18 rfl rfl <| oify 50 Y3 19 rfl rfl ((if0 _ _).trans (feq (by decide : ¬ ((1 : Int32) = (0 : Int32)))).2) <| oiN Y3 20 rfl rfl <| oil Y3 21 rfl rfl ?_
 refine ocn Y3 22 rfl (teq (by decide : (0 : Int32) = (0 : Int32))).2 <| oiN Y3 23 rfl rfl <| oifn Y3 24 rfl ((if0 _ _).trans (teq (by decide : (0 : Int32) = (0 : Int32))).2) <| oaN Y3 25 rfl rfl rfl <| oiN Y3 26 rfl rfl <| oal Y3 27 rfl rfl rfl <| oil Y3 28 rfl rfl <| oil Y3 29 rfl rfl ?_
 refine oCS X3 Y3 hZ hml hown (wT 203 rfl) (wT 204 rfl) (wT 90 rfl) (wT 205 rfl) (rm_lli Gl X00 va kv vsb acc tg kg (Int32.ofNat acc.length) f0 f4 hq hvl hlb hrg) eq3 30 rfl 5 0 pd_65611257 rfl rfl rfl rfl (by decide +kernel) ?_
 intro v4 T4 L4 X4 Y4 hQ4
 obtain ⟨r_4, rfl, Nq4, eq4, pq4_0⟩ := hQ4
 show OwnH p e below _ T4 m _ _ [(.int r_4)]
 have N4 := Fr.app N3 Nq4
 refine ogt 85 Y4 31 rfl rfl ?_
 exact orI X4 Y4 hlk Bd.returns 32 rfl (by decide) (by decide) eq4 ⟨r_4, rfl, N4, rfl, pq4_0⟩
def Q_alio_0 (Z : State) (sb : Addr) (va : Addr) (kv : ClassId) (vsb : List Value) (ml : Int32) (acc : List Int32) (x1 : Addr) (tg : Addr) (kg : ClassId) : OwnP := fun h0 n0 v h L => ∃ (r : Int32), v = some (.int r) ∧ Fr n0 L ∧ h = h0 ∧ (OwnLst acc r)
def ll45 : List (Nat × Instr × Nat) := [(0, .aload_n 0, 1), (1, .getfield 15, 3), (4, .aload_n 0, 1), (5, .getfield 22, 3), (8, .aload_n 0, 1), (9, .getfield 79, 3), (12, .aload_n 1, 1), (13, .iload_n 2, 1), (14, .invokestatic 356, 3), (17, .ireturn, 1)]
theorem dl45 : OwnDec jdk_68_method_59_code ll45 := by decide +kernel
theorem pd_79989690 : parseMethodDescriptor "([BBILjava/lang/String;I)I" = some ⟨[(.array .byte), .byte, .int, (.object "java/lang/String"), .int], some .int⟩ := by decide +kernel
theorem rm_alio_0 (Gl : OwnGl Z a0 wG1 wG3) (X00 : Old Z n0 h0) (sb : Addr) (va : Addr) (kv : ClassId) (vsb : List Value) (ml : Int32) (acc : List Int32) (x1 : Addr) (tg : Addr) (kg : ClassId) (f0 : Exa Z h0 sb "java/lang/StringBuilder") (f1 : Fld Z h0 sb "java/lang/AbstractStringBuilder" "value" "[B" (.ref va)) (f2 : Fld Z h0 sb "java/lang/AbstractStringBuilder" "coder" "B" (.int 0)) (f3 : Fld Z h0 sb "java/lang/AbstractStringBuilder" "count" "I" (.int (Int32.ofNat acc.length))) (f4 : Fld Z h0 sb "java/lang/AbstractStringBuilder" "maybeLatin1" "Z" (.int ml)) (f5 : Arv Z h0 va kv .byte (240 : Int32) vsb (.int 0)) (f6 : Exa Z h0 va "[B") (f7 : Exa Z h0 x1 "java/lang/String") (f8 : Fld Z h0 x1 "java/lang/String" "value" "[B" (.ref tg)) (f9 : Fld Z h0 x1 "java/lang/String" "coder" "B" (.int 0)) (f10 : Arv Z h0 tg kg .byte (1 : Int32) ((([32] : List Int32).map (fun c => c.toInt8.toInt32)).map Value.int) (.int 0)) (hq : acc.length = 240) (hvl : vsb.length = 240) (hlb : OwnLB acc vsb) (hrg : OwnRg acc) : OwnM l Z mN45 jdk_68_method_59_code 3 (some .int) (oR 3 0 0 45) #[(.ref sb), (.ref x1), (.int 239)] h0 (Q_alio_0 Z sb va kv vsb ml acc x1 tg kg h0 n0) := by
 refine own_in (plainFor_of_name pn_24045714) dl45 #[vR sb, vR x1, vI 239] (oE rfl) ?_
 intro p e s m below meth c s₁ Bd hml hZ X0 e0 hx hlk Y0 hown
 obtain ⟨hw, cx, hEL⟩ := id Gl
 have wT := oww hw
 have N0 := Fr.nil n0
 refine oaN Y0 0 rfl rfl rfl ?_
 refine oGF X0 Y0 hZ hown (wT 61 rfl) Via.refl e0 f1 1 rfl ?_
 intro T1 X1 Y1 e1
 refine oaN Y1 2 rfl rfl rfl ?_
 refine oGF X1 Y1 hZ hown (wT 63 rfl) Via.refl e1 f2 3 rfl ?_
 intro T2 X2 Y2 e2
 refine oaN Y2 4 rfl rfl rfl ?_
 refine oGF X2 Y2 hZ hown (wT 113 rfl) Via.refl e2 f3 5 rfl ?_
 intro T3 X3 Y3 e3
 refine oaN Y3 6 rfl rfl rfl <| oiN Y3 7 rfl rfl ?_
 refine oCS X3 Y3 hZ hml hown (wT 199 rfl) (wT 200 rfl) (wT 9 rfl) (wT 201 rfl) (rm_slio_0 Gl X00 va kv vsb acc x1 tg kg f5 f7 f8 f9 f10 hq hvl hlb hrg) e3 8 rfl 5 0 pd_79989690 rfl rfl rfl rfl (by decide +kernel) ?_
 intro v4 T4 L4 X4 Y4 hQ4
 obtain ⟨r_4, rfl, Nq4, eq4, pq4_0⟩ := hQ4
 show OwnH p e below _ T4 m _ _ [(.int r_4)]
 have N4 := Fr.app N0 Nq4
 exact orI X4 Y4 hlk Bd.returns 9 rfl (by decide) (by decide) eq4 ⟨r_4, rfl, N4, rfl, pq4_0⟩
def Q_blio_0 (Z : State) (sb : Addr) (va : Addr) (kv : ClassId) (vsb : List Value) (ml : Int32) (acc : List Int32) (x1 : Addr) (tg : Addr) (kg : ClassId) : OwnP := fun h0 n0 v h L => ∃ (r : Int32), v = some (.int r) ∧ Fr n0 L ∧ h = h0 ∧ (OwnLst acc r)
def ll46 : List (Nat × Instr × Nat) := [(0, .aload_n 0, 1), (1, .aload_n 1, 1), (2, .iload_n 2, 1), (3, .invokespecial 125, 3), (6, .ireturn, 1)]
theorem dl46 : OwnDec jdk_67_method_38_code ll46 := by decide +kernel
theorem pd_96034481 : parseMethodDescriptor "(Ljava/lang/String;I)I" = some ⟨[(.object "java/lang/String"), .int], some .int⟩ := by decide +kernel
theorem rm_blio_0 (Gl : OwnGl Z a0 wG1 wG3) (X00 : Old Z n0 h0) (sb : Addr) (va : Addr) (kv : ClassId) (vsb : List Value) (ml : Int32) (acc : List Int32) (x1 : Addr) (tg : Addr) (kg : ClassId) (f0 : Exa Z h0 sb "java/lang/StringBuilder") (f1 : Fld Z h0 sb "java/lang/AbstractStringBuilder" "value" "[B" (.ref va)) (f2 : Fld Z h0 sb "java/lang/AbstractStringBuilder" "coder" "B" (.int 0)) (f3 : Fld Z h0 sb "java/lang/AbstractStringBuilder" "count" "I" (.int (Int32.ofNat acc.length))) (f4 : Fld Z h0 sb "java/lang/AbstractStringBuilder" "maybeLatin1" "Z" (.int ml)) (f5 : Arv Z h0 va kv .byte (240 : Int32) vsb (.int 0)) (f6 : Exa Z h0 va "[B") (f7 : Exa Z h0 x1 "java/lang/String") (f8 : Fld Z h0 x1 "java/lang/String" "value" "[B" (.ref tg)) (f9 : Fld Z h0 x1 "java/lang/String" "coder" "B" (.int 0)) (f10 : Arv Z h0 tg kg .byte (1 : Int32) ((([32] : List Int32).map (fun c => c.toInt8.toInt32)).map Value.int) (.int 0)) (hq : acc.length = 240) (hvl : vsb.length = 240) (hlb : OwnLB acc vsb) (hrg : OwnRg acc) : OwnM l Z mN46 jdk_67_method_38_code 3 (some .int) (oR 4 0 0 59) #[(.ref sb), (.ref x1), (.int 239)] h0 (Q_blio_0 Z sb va kv vsb ml acc x1 tg kg h0 n0) := by
 refine own_in (plainFor_of_name pn_27209738) dl46 #[vR sb, vR x1, vI 239] (oE rfl) ?_
 intro p e s m below meth c s₁ Bd hml hZ X0 e0 hx hlk Y0 hown
 obtain ⟨hw, cx, hEL⟩ := id Gl
 have wT := oww hw
 have N0 := Fr.nil n0
 refine oaN Y0 0 rfl rfl rfl <| oaN Y0 1 rfl rfl rfl <| oiN Y0 2 rfl rfl ?_
 obtain ⟨_, _, ⟨T1, L1, k1, n1⟩, -, X1, ⟨Lc1, hQ1, l1, y1, z1⟩, st1⟩ := superBack X0 hx hZ (y := mN45) hown (wT 195 rfl) (own_same (y := mN45) (wT 197 rfl) (wT 127 rfl) rfl ⟨by decide, by decide⟩) (wT 196 rfl) (wT 110 rfl) (by decide) (backOf (W := 0) (rm_alio_0 Gl X00 sb va kv vsb ml acc x1 tg kg f0 f1 f2 f3 f4 f5 f6 f7 f8 f9 f10 hq hvl hlb hrg) hZ (wT 198 rfl) (wT 57 rfl) (by decide) (by decide)) e0 (Ins.self f0) (g := (mkF m 3 #[vR sb, vR x1, vI 239] [(.int 239), (.ref x1), (.ref sb)])) rfl (by rw [hml]; rfl) (wT 198 rfl) (argsL := [(.ref x1), (.int 239)]) (rest := []) (lenOf pd_96034481 rfl) rfl (Nat.le_of_eq rfl) (Y0.d 3 rfl) (fun _ _ => ⟨rfl, e0, (by decide : 0 + 0 ≤ _), (by decide : 0 + 0 ≤ _)⟩)
 dsimp only [Pt.U, Pt.locs, Pt.cells, Pt.slots] at X1 l1 y1 z1 st1 hQ1
 subst l1 y1 z1
 obtain ⟨r_1, rfl, Nq1, eq1, pq1_0⟩ := hQ1
 refine OwnGoes.tr (T' := T1) (g' := (mkF m 6 #[vR sb, vR x1, vI 239] [(.int r_1)])) st1 ?_
 have N1 := Fr.app N0 Nq1
 have Y1 := Y0.nx X1
 exact orI X1 Y1 hlk Bd.returns 4 rfl (by decide) (by decide) eq1 ⟨r_1, rfl, N1, rfl, pq1_0⟩
def Q_slio_1 (Z : State) (va : Addr) (kv : ClassId) (vsb : List Value) (acc : List Int32) (x1 : Addr) (tg : Addr) (kg : ClassId) : OwnP := fun h0 n0 v h L => ∃ (r : Int32), v = some (.int r) ∧ Fr n0 L ∧ h = h0 ∧ (OwnLst acc r)
theorem rm_slio_1 (Gl : OwnGl Z a0 wG1 wG3) (X00 : Old Z n0 h0) (va : Addr) (kv : ClassId) (vsb : List Value) (acc : List Int32) (x1 : Addr) (tg : Addr) (kg : ClassId) (f0 : Arv Z h0 va kv .byte (480 : Int32) vsb (.int 0)) (f1 : Exa Z h0 x1 "java/lang/String") (f2 : Fld Z h0 x1 "java/lang/String" "value" "[B" (.ref tg)) (f3 : Fld Z h0 x1 "java/lang/String" "coder" "B" (.int 0)) (f4 : Arv Z h0 tg kg .byte (1 : Int32) ((([32] : List Int32).map (fun c => c.toInt8.toInt32)).map Value.int) (.int 0)) (hq : acc.length = 240) (hvl : vsb.length = 480) (hub : OwnUB acc vsb) (hrg : OwnRg acc) : OwnM l Z mN44 jdk_42_method_90_code 9 (some .int) (oR 4 0 0 63) #[(.ref va), (.int 1), (.int (Int32.ofNat acc.length)), (.ref x1), (.int 239)] h0 (Q_slio_1 Z va kv vsb acc x1 tg kg h0 n0) := by
 refine own_in (plainFor_of_name pn_52039224) dl44 #[vR va, vI 1, vI (Int32.ofNat acc.length), vR x1, vI 239, vU, vU, vU, vU] (oE rfl) ?_
 intro p e s m below meth c s₁ Bd hml hZ X0 e0 hx hlk Y0 hown
 obtain ⟨hw, cx, hEL⟩ := id Gl
 have wT := oww hw
 have N0 := Fr.nil n0
 refine oaN Y0 0 rfl rfl rfl ?_
 refine oGF X0 Y0 hZ hown (wT 34 rfl) Via.refl e0 f2 1 rfl ?_
 intro T1 X1 Y1 e1
 refine oas Y1 2 rfl #[vR va, vI 1, vI (Int32.ofNat acc.length), vR x1, vI 239, vR tg, vU, vU, vU] rfl rfl <| oaN Y1 3 rfl rfl rfl ?_
 refine oCV X1 Y1 hZ hml hown (wT 73 rfl) (wT 74 rfl) (notFace_of_selects (args := #[]) (mvT hZ (wT 76 rfl))) (wT 76 rfl) (wT 75 rfl) (wT 77 rfl) (wT 9 rfl) (rm_coder0 Gl X00 x1 f1 f3) e1 f1 4 rfl 0 0 pd_61459997 rfl rfl rfl rfl rfl (by decide +kernel) (by decide +kernel) ?_
 intro v2 T2 L2 X2 Y2 hQ2
 obtain ⟨rfl, Nq2, eq2⟩ := hQ2
 show OwnH p e below _ T2 m _ _ [(.int 0)]
 have N2 := Fr.app N0 Nq2
 refine ois Y2 5 rfl #[vR va, vI 1, vI (Int32.ofNat acc.length), vR x1, vI 239, vR tg, vI 0, vU, vU] rfl <| oaN Y2 6 rfl rfl rfl ?_
 refine oCV X2 Y2 hZ hml hown (wT 202 rfl) (wT 69 rfl) (notFace_of_selects (args := #[]) (mvT hZ (wT 71 rfl))) (wT 71 rfl) (wT 70 rfl) (wT 72 rfl) (wT 9 rfl) (rm_len1 Gl X00 x1 tg kg f1 f2 f3 f4) eq2 f1 7 rfl 0 0 pd_86913941 rfl rfl rfl rfl rfl (by decide +kernel) (by decide +kernel) ?_
 intro v3 T3 L3 X3 Y3 hQ3
 obtain ⟨rfl, Nq3, eq3⟩ := hQ3
 show OwnH p e below _ T3 m _ _ [(.int 1)]
 have N3 := Fr.app N2 Nq3
 refine ois Y3 8 rfl #[vR va, vI 1, vI (Int32.ofNat acc.length), vR x1, vI 239, vR tg, vI 0, vI 1, vU] rfl <| oiN Y3 9 rfl rfl <| oil Y3 10 rfl rfl <| osub Y3 11 rfl ?_
 refine og T3 m 22 #[vR va, vI 1, vI (Int32.ofNat acc.length), vR x1, vI 239, vR tg, vI 0, vI 1, vU] [(.int 239)] (fun tgt kgo => castTop (by rw [(by rw [hq]; decide : ((Int32.ofNat acc.length) - (1 : Int32)) = (239 : Int32))]) kgo) ?_
 refine ois Y3 12 rfl #[vR va, vI 1, vI (Int32.ofNat acc.length), vR x1, vI 239, vR tg, vI 0, vI 1, vI 239] rfl <| oil Y3 13 rfl rfl <| oil Y3 14 rfl rfl <| ocy 35 Y3 15 rfl rfl (flt (by decide : ¬ ((239 : Int32) < (239 : Int32)))).2.2.2 <| oil Y3 16 rfl rfl <| oify 42 Y3 17 rfl rfl ((if0 _ _).trans (flt (by decide : ¬ ((239 : Int32) < (0 : Int32)))).2.1) <| oil Y3 18 rfl rfl <| oify 50 Y3 19 rfl rfl ((if0 _ _).trans (feq (by decide : ¬ ((1 : Int32) = (0 : Int32)))).2) <| oiN Y3 20 rfl rfl <| oil Y3 21 rfl rfl ?_
 refine ocy 86 Y3 22 rfl rfl (feq (by decide : ¬ ((1 : Int32) = (0 : Int32)))).2 <| oiN Y3 33 rfl rfl <| oify 92 Y3 34 rfl rfl ((if0 _ _).trans (feq (by decide : ¬ ((1 : Int32) = (0 : Int32)))).2) <| oaN Y3 35 rfl rfl rfl <| oiN Y3 36 rfl rfl <| oal Y3 37 rfl rfl rfl <| oil Y3 38 rfl rfl <| oil Y3 39 rfl rfl ?_
 refine oCS X3 Y3 hZ hml hown (wT 329 rfl) (wT 330 rfl) (wT 23 rfl) (wT 331 rfl) (rm_ull Gl X00 va kv vsb acc tg kg (Int32.ofNat acc.length) f0 f4 hq hvl hub hrg) eq3 40 rfl 5 0 pd_65611257 rfl rfl rfl rfl (by decide +kernel) ?_
 intro v4 T4 L4 X4 Y4 hQ4
 obtain ⟨r_4, rfl, Nq4, eq4, pq4_0⟩ := hQ4
 show OwnH p e below _ T4 m _ _ [(.int r_4)]
 have N4 := Fr.app N3 Nq4
 exact orI X4 Y4 hlk Bd.returns 41 rfl (by decide) (by decide) eq4 ⟨r_4, rfl, N4, rfl, pq4_0⟩
def Q_alio_1 (Z : State) (sb : Addr) (va : Addr) (kv : ClassId) (vsb : List Value) (ml : Int32) (acc : List Int32) (x1 : Addr) (tg : Addr) (kg : ClassId) : OwnP := fun h0 n0 v h L => ∃ (r : Int32), v = some (.int r) ∧ Fr n0 L ∧ h = h0 ∧ (OwnLst acc r)
theorem rm_alio_1 (Gl : OwnGl Z a0 wG1 wG3) (X00 : Old Z n0 h0) (sb : Addr) (va : Addr) (kv : ClassId) (vsb : List Value) (ml : Int32) (acc : List Int32) (x1 : Addr) (tg : Addr) (kg : ClassId) (f0 : Exa Z h0 sb "java/lang/StringBuilder") (f1 : Fld Z h0 sb "java/lang/AbstractStringBuilder" "value" "[B" (.ref va)) (f2 : Fld Z h0 sb "java/lang/AbstractStringBuilder" "coder" "B" (.int 1)) (f3 : Fld Z h0 sb "java/lang/AbstractStringBuilder" "count" "I" (.int (Int32.ofNat acc.length))) (f4 : Fld Z h0 sb "java/lang/AbstractStringBuilder" "maybeLatin1" "Z" (.int ml)) (f5 : Arv Z h0 va kv .byte (480 : Int32) vsb (.int 0)) (f6 : Exa Z h0 va "[B") (f7 : Exa Z h0 x1 "java/lang/String") (f8 : Fld Z h0 x1 "java/lang/String" "value" "[B" (.ref tg)) (f9 : Fld Z h0 x1 "java/lang/String" "coder" "B" (.int 0)) (f10 : Arv Z h0 tg kg .byte (1 : Int32) ((([32] : List Int32).map (fun c => c.toInt8.toInt32)).map Value.int) (.int 0)) (hq : acc.length = 240) (hvl : vsb.length = 480) (hub : OwnUB acc vsb) (hrg : OwnRg acc) : OwnM l Z mN45 jdk_68_method_59_code 3 (some .int) (oR 5 0 0 83) #[(.ref sb), (.ref x1), (.int 239)] h0 (Q_alio_1 Z sb va kv vsb ml acc x1 tg kg h0 n0) := by
 refine own_in (plainFor_of_name pn_24045714) dl45 #[vR sb, vR x1, vI 239] (oE rfl) ?_
 intro p e s m below meth c s₁ Bd hml hZ X0 e0 hx hlk Y0 hown
 obtain ⟨hw, cx, hEL⟩ := id Gl
 have wT := oww hw
 have N0 := Fr.nil n0
 refine oaN Y0 0 rfl rfl rfl ?_
 refine oGF X0 Y0 hZ hown (wT 61 rfl) Via.refl e0 f1 1 rfl ?_
 intro T1 X1 Y1 e1
 refine oaN Y1 2 rfl rfl rfl ?_
 refine oGF X1 Y1 hZ hown (wT 63 rfl) Via.refl e1 f2 3 rfl ?_
 intro T2 X2 Y2 e2
 refine oaN Y2 4 rfl rfl rfl ?_
 refine oGF X2 Y2 hZ hown (wT 113 rfl) Via.refl e2 f3 5 rfl ?_
 intro T3 X3 Y3 e3
 refine oaN Y3 6 rfl rfl rfl <| oiN Y3 7 rfl rfl ?_
 refine oCS X3 Y3 hZ hml hown (wT 199 rfl) (wT 200 rfl) (wT 9 rfl) (wT 201 rfl) (rm_slio_1 Gl X00 va kv vsb acc x1 tg kg f5 f7 f8 f9 f10 hq hvl hub hrg) e3 8 rfl 5 0 pd_79989690 rfl rfl rfl rfl (by decide +kernel) ?_
 intro v4 T4 L4 X4 Y4 hQ4
 obtain ⟨r_4, rfl, Nq4, eq4, pq4_0⟩ := hQ4
 show OwnH p e below _ T4 m _ _ [(.int r_4)]
 have N4 := Fr.app N0 Nq4
 exact orI X4 Y4 hlk Bd.returns 9 rfl (by decide) (by decide) eq4 ⟨r_4, rfl, N4, rfl, pq4_0⟩
def Q_blio_1 (Z : State) (sb : Addr) (va : Addr) (kv : ClassId) (vsb : List Value) (ml : Int32) (acc : List Int32) (x1 : Addr) (tg : Addr) (kg : ClassId) : OwnP := fun h0 n0 v h L => ∃ (r : Int32), v = some (.int r) ∧ Fr n0 L ∧ h = h0 ∧ (OwnLst acc r)
theorem rm_blio_1 (Gl : OwnGl Z a0 wG1 wG3) (X00 : Old Z n0 h0) (sb : Addr) (va : Addr) (kv : ClassId) (vsb : List Value) (ml : Int32) (acc : List Int32) (x1 : Addr) (tg : Addr) (kg : ClassId) (f0 : Exa Z h0 sb "java/lang/StringBuilder") (f1 : Fld Z h0 sb "java/lang/AbstractStringBuilder" "value" "[B" (.ref va)) (f2 : Fld Z h0 sb "java/lang/AbstractStringBuilder" "coder" "B" (.int 1)) (f3 : Fld Z h0 sb "java/lang/AbstractStringBuilder" "count" "I" (.int (Int32.ofNat acc.length))) (f4 : Fld Z h0 sb "java/lang/AbstractStringBuilder" "maybeLatin1" "Z" (.int ml)) (f5 : Arv Z h0 va kv .byte (480 : Int32) vsb (.int 0)) (f6 : Exa Z h0 va "[B") (f7 : Exa Z h0 x1 "java/lang/String") (f8 : Fld Z h0 x1 "java/lang/String" "value" "[B" (.ref tg)) (f9 : Fld Z h0 x1 "java/lang/String" "coder" "B" (.int 0)) (f10 : Arv Z h0 tg kg .byte (1 : Int32) ((([32] : List Int32).map (fun c => c.toInt8.toInt32)).map Value.int) (.int 0)) (hq : acc.length = 240) (hvl : vsb.length = 480) (hub : OwnUB acc vsb) (hrg : OwnRg acc) : OwnM l Z mN46 jdk_67_method_38_code 3 (some .int) (oR 6 0 0 97) #[(.ref sb), (.ref x1), (.int 239)] h0 (Q_blio_1 Z sb va kv vsb ml acc x1 tg kg h0 n0) := by
 refine own_in (plainFor_of_name pn_27209738) dl46 #[vR sb, vR x1, vI 239] (oE rfl) ?_
 intro p e s m below meth c s₁ Bd hml hZ X0 e0 hx hlk Y0 hown
 obtain ⟨hw, cx, hEL⟩ := id Gl
 have wT := oww hw
 have N0 := Fr.nil n0
 refine oaN Y0 0 rfl rfl rfl <| oaN Y0 1 rfl rfl rfl <| oiN Y0 2 rfl rfl ?_
 obtain ⟨_, _, ⟨T1, L1, k1, n1⟩, -, X1, ⟨Lc1, hQ1, l1, y1, z1⟩, st1⟩ := superBack X0 hx hZ (y := mN45) hown (wT 195 rfl) (own_same (y := mN45) (wT 197 rfl) (wT 127 rfl) rfl ⟨by decide, by decide⟩) (wT 196 rfl) (wT 110 rfl) (by decide) (backOf (W := 0) (rm_alio_1 Gl X00 sb va kv vsb ml acc x1 tg kg f0 f1 f2 f3 f4 f5 f6 f7 f8 f9 f10 hq hvl hub hrg) hZ (wT 198 rfl) (wT 57 rfl) (by decide) (by decide)) e0 (Ins.self f0) (g := (mkF m 3 #[vR sb, vR x1, vI 239] [(.int 239), (.ref x1), (.ref sb)])) rfl (by rw [hml]; rfl) (wT 198 rfl) (argsL := [(.ref x1), (.int 239)]) (rest := []) (lenOf pd_96034481 rfl) rfl (Nat.le_of_eq rfl) (Y0.d 3 rfl) (fun _ _ => ⟨rfl, e0, (by decide : 0 + 0 ≤ _), (by decide : 0 + 0 ≤ _)⟩)
 dsimp only [Pt.U, Pt.locs, Pt.cells, Pt.slots] at X1 l1 y1 z1 st1 hQ1
 subst l1 y1 z1
 obtain ⟨r_1, rfl, Nq1, eq1, pq1_0⟩ := hQ1
 refine OwnGoes.tr (T' := T1) (g' := (mkF m 6 #[vR sb, vR x1, vI 239] [(.int r_1)])) st1 ?_
 have N1 := Fr.app N0 Nq1
 have Y1 := Y0.nx X1
 exact orI X1 Y1 hlk Bd.returns 4 rfl (by decide) (by decide) eq1 ⟨r_1, rfl, N1, rfl, pq1_0⟩
def Q_ckl (Z : State) (ln1 : Nat) : OwnP := fun h0 n0 v h L => v = none ∧ Fr n0 L ∧ h = h0
theorem pn_78818854 : plainName "java/util/Arrays" = true := by first | (simp [plainName, overriddenIn]; done) | decide +kernel
def ll47 : List (Nat × Instr × Nat) := [(0, .iload_n 1, 1), (1, .iload_n 0, 1), (2, .if_icmp .ge 35, 3), (37, .return_, 1)]
theorem dl47 : OwnDec jdk_65_method_131_code ll47 := by decide +kernel
theorem rm_ckl (Gl : OwnGl Z a0 wG1 wG3) (X00 : Old Z n0 h0) (ln1 : Nat) (hln : ln1 ≤ 480) : OwnM l Z mN47 jdk_65_method_131_code 2 none (oR 0 0 0 0) #[(.int 0), (.int (Int32.ofNat ln1))] h0 (Q_ckl Z ln1 h0 n0) := by
 refine own_in (plainFor_of_name pn_78818854) dl47 #[vI 0, vI (Int32.ofNat ln1)] (oE rfl) ?_
 intro p e s m below meth c s₁ Bd hml hZ X0 e0 hx hlk Y0 hown
 have N0 := Fr.nil n0
 refine oiN Y0 0 rfl rfl <| oiN Y0 1 rfl rfl <| ocy 37 Y0 2 rfl rfl (flt (own_nat (by omega)).2.1).2.1 ?_
 exact orV X0 Y0 hlk Bd.returns 3 rfl (by decide) (by decide) e0 ⟨rfl, N0, rfl⟩
def Q_min_240 (Z : State) (ln1 : Nat) : OwnP := fun h0 n0 v h L => v = some (.int (Int32.ofNat ln1)) ∧ Fr n0 L ∧ h = h0
theorem rm_min_240 (Gl : OwnGl Z a0 wG1 wG3) (X00 : Old Z n0 h0) (ln1 : Nat) (hln : ln1 ≤ 240) : OwnM l Z mN37 jdk_29_method_69_code 2 (some .int) (oR 0 0 0 0) #[(.int 240), (.int (Int32.ofNat ln1))] h0 (Q_min_240 Z ln1 h0 n0) := by
 refine own_in (Jvm.Free.JP.mathPlain rfl (by decide +kernel)) dl37 #[vI 240, vI (Int32.ofNat ln1)] (oE rfl) ?_
 intro p e s m below meth c s₁ Bd hml hZ X0 e0 hx hlk Y0 hown
 have N0 := Fr.nil n0
 refine oiN Y0 0 rfl rfl <| oiN Y0 1 rfl rfl ?_
 by_cases cc1 : (Int32.ofNat ln1) < (240 : Int32)
 ·
  refine ocy 9 Y0 2 rfl rfl (tlt cc1).2.2.1 <| oiN Y0 5 rfl rfl ?_
  exact orI X0 Y0 hlk Bd.returns 6 rfl (by decide) (by decide) e0 ⟨rfl, N0, rfl⟩
 refine ocn Y0 2 rfl (flt cc1).2.2.1 <| oiN Y0 3 rfl rfl <| ogt 10 Y0 4 rfl rfl ?_
 refine og s₁ m 10 #[vI (Int32.ofNat ln1), vI (Int32.ofNat ln1)] [(.int (Int32.ofNat ln1))] (fun tgt kgo => castTop (by rw [(show (240 : Int32) = (Int32.ofNat ln1) from own_min_eq (a := 240) (by decide) hln cc1)]) kgo) ?_
 exact orI X0 Y0 hlk Bd.returns 6 rfl (by decide) (by decide) e0 ⟨rfl, N0, rfl⟩
def Q_crb_240 (Z : State) (va : Addr) (kv : ClassId) (vsb : List Value) (ln1 : Nat) : OwnP := fun h0 n0 v h L => ∃ (t : Addr), ∃ (k : ClassId), v = some (.ref t) ∧ Fr n0 L ∧ Keep h0 h ([] : List Addr) ∧ h0.size ≤ t ∧ Arv Z h t k .byte (Int32.ofNat ln1) (vsb.take ln1) (.int 0)
def ll48 : List (Nat × Instr × Nat) := [(0, .iload_n 1, 1), (1, .iload_n 2, 1), (2, .invokestatic 343, 3), (5, .iload_n 2, 1), (6, .iload_n 1, 1), (7, .isub, 1), (8, .istore_n 3, 1), (9, .iload_n 3, 1), (10, .newarray .byte, 2), (12, .astore 4, 2), (14, .aload_n 0, 1), (15, .iload_n 1, 1), (16, .aload 4, 2), (18, .iconst 0, 1), (19, .aload_n 0, 1), (20, .arraylength, 1), (21, .iload_n 1, 1), (22, .isub, 1), (23, .iload_n 3, 1), (24, .invokestatic 304, 3), (27, .invokestatic 150, 3), (30, .aload 4, 2), (32, .areturn, 1)]
theorem dl48 : OwnDec jdk_65_method_133_code ll48 := by decide +kernel
theorem rm_crb_240 (Gl : OwnGl Z a0 wG1 wG3) (X00 : Old Z n0 h0) (va : Addr) (kv : ClassId) (vsb : List Value) (ln1 : Nat) (f0 : Arv Z h0 va kv .byte (240 : Int32) vsb (.int 0)) (hln : ln1 ≤ 240) (hvl : vsb.length = 240) : OwnM l Z mN48 jdk_65_method_133_code 5 (some (.array .byte)) (oR 1 1 240 18) #[(.ref va), (.int 0), (.int (Int32.ofNat ln1))] h0 (Q_crb_240 Z va kv vsb ln1 h0 n0) := by
 refine own_in (plainFor_of_name pn_78818854) dl48 #[vR va, vI 0, vI (Int32.ofNat ln1), vU, vU] (oE rfl) ?_
 intro p e s m below meth c s₁ Bd hml hZ X0 e0 hx hlk Y0 hown
 obtain ⟨hw, cx, hEL⟩ := id Gl
 have wT := oww hw
 have N0 := Fr.nil n0
 have Z0 : n0 ≤ h0.size := X00.1 ▸ X00.2.1
 have K0 : Keep h0 h0 ([] : List Addr) := Keep.refl _ _
 refine oiN Y0 0 rfl rfl <| oiN Y0 1 rfl rfl ?_
 refine oCS X0 Y0 hZ hml hown (wT 310 rfl) (wT 311 rfl) (wT 159 rfl) (wT 312 rfl) (rm_ckl Gl X00 ln1 (by omega)) e0 2 rfl 2 0 pd_53897226 rfl rfl rfl rfl (by decide +kernel) ?_
 intro v1 T1 L1 X1 Y1 hQ1
 obtain ⟨rfl, Nq1, eq1⟩ := hQ1
 show OwnH p e below _ T1 m _ _ []
 have N1 := Fr.app N0 Nq1
 refine oiN Y1 3 rfl rfl <| oiN Y1 4 rfl rfl <| osub Y1 5 rfl ?_
 refine og T1 m 8 #[vR va, vI 0, vI (Int32.ofNat ln1), vU, vU] [(.int (Int32.ofNat ln1))] (fun tgt kgo => castTop (by rw [(own_sub00 _)]) kgo) ?_
 refine oiS Y1 6 rfl #[vR va, vI 0, vI (Int32.ofNat ln1), vI (Int32.ofNat ln1), vU] rfl <| oiN Y1 7 rfl rfl ?_
 obtain ⟨T2, h2, k2, X2, e2, E2, A2, st2⟩ := newP X1 hx hZ (wT 25 rfl) eq1 (g := (mkF m 10 #[vR va, vI 0, vI (Int32.ofNat ln1), vI (Int32.ofNat ln1), vU] [(.int (Int32.ofNat ln1))])) rfl (Y0.d 8 rfl) rfl (own_nat (n := ln1) (by omega)).2.1 (cap := 240) (by rw [(own_nat (n := ln1) (by omega)).2.2]; exact hln) (by decide) (by decide) (by decide)
 obtain ⟨b2, g2⟩ : ∃ z, z = h0.size := ⟨_, rfl⟩
 rw [← g2] at A2 st2
 refine og T2 m 12 #[vR va, vI 0, vI (Int32.ofNat ln1), vI (Int32.ofNat ln1), vU] [(.ref b2)] st2 ?_
 have V2 : Arv Z h2 b2 k2 .byte (Int32.ofNat ln1) [] (.int 0) := Arv.new A2 (own_nat (n := ln1) (by omega)).2.1
 have g_b2 : n0 ≤ b2 := Nat.le_trans (Nat.le_trans Z0 K0.1) (Nat.le_of_eq g2.symm)
 have s_b2 : h0.size ≤ b2 := Nat.le_trans K0.1 (Nat.le_of_eq g2.symm)
 have F2_1 := f0.ext E2
 have Ol2 := X00.ext E2
 have K2 : Keep h0 h2 ([] : List Addr) := K0.ext E2
 have Vr3 : Arv Z h2 b2 k2 .byte (Int32.ofNat ln1) (List.replicate ln1 (Value.int (0 : Int32))) (.int 0) := V2.pad (pad_rep [] (Value.int (0 : Int32)) ln1)
 have Y2 := Y0.nx X2
 refine oas Y2 9 rfl #[vR va, vI 0, vI (Int32.ofNat ln1), vI (Int32.ofNat ln1), vR b2] rfl rfl <| oaN Y2 10 rfl rfl rfl <| oiN Y2 11 rfl rfl <| oal Y2 12 rfl rfl rfl <| oic 0 Y2 13 rfl rfl <| oaN Y2 14 rfl rfl rfl <| olen X2 Y2 hZ e2 F2_1 15 rfl <| oiN Y2 16 rfl rfl <| osub Y2 17 rfl <| oti (240 : Int32) (by decide) ?_
 refine oiN Y2 18 rfl rfl ?_
 refine oCS X2 Y2 hZ hml hown (wT 313 rfl) (wT 216 rfl) (wT 42 rfl) (wT 217 rfl) (rm_min_240 Gl Ol2 ln1 hln) e2 19 rfl 2 4 pd_50523903 rfl rfl rfl rfl (by decide +kernel) ?_
 intro v5 T5 L5 X5 Y5 hQ5
 obtain ⟨rfl, Nq5, eq5⟩ := hQ5
 show OwnH p e below _ T5 m _ _ [(.int (Int32.ofNat ln1)), (.int 0), (.ref b2), (.int 0), (.ref va)]
 have N5 := Fr.app N1 Nq5
 obtain ⟨T6, h6, L6, X6, e6, N6, Kq6, V6, st6⟩ := cpA X5 hx hZ hown (wT 314 rfl) (wT 317 rfl) (wT 315 rfl) (wT 316 rfl) eq5 F2_1 Vr3 (us := (vsb.take ln1)) (Or.inl ⟨rfl, rfl⟩) (own_take_range (vs := vsb) (n := ln1) (M := 240) (by omega) (by omega) hvl (by decide)).1 (by decide) (own_take_range (vs := vsb) (n := ln1) (M := 240) (by omega) (by omega) hvl (by decide)).2.1 (own_take_range (vs := vsb) (n := ln1) (M := 240) (by omega) (by omega) hvl (by decide)).2.2.1 (own_take_range (vs := vsb) (n := ln1) (M := 240) (by omega) (by omega) hvl (by decide)).2.2.2.1 (own_take_range (vs := vsb) (n := ln1) (M := 240) (by omega) (by omega) hvl (by decide)).2.2.2.2.1 (own_take_range (vs := vsb) (n := ln1) (M := 240) (by omega) (by omega) hvl (by decide)).2.2.2.2.2.1 N5 g_b2 (g := (mkF m 27 #[vR va, vI 0, vI (Int32.ofNat ln1), vI (Int32.ofNat ln1), vR b2] [(.int (Int32.ofNat ln1)), (.int 0), (.ref b2), (.int 0), (.ref va)])) rfl (by rw [hml]; rfl) (rest := []) rfl (Y0.d 20 rfl) (by decide) (W := 0) (Nat.le_of_eq rfl) (by decide)
 refine og T6 m 30 #[vR va, vI 0, vI (Int32.ofNat ln1), vI (Int32.ofNat ln1), vR b2] [] st6 ?_
 have K6 : Keep h0 h6 ([] : List Addr) := K2.trans Kq6 (allS (Or.inr s_b2) all0)
 rw [(own_take_range (vs := vsb) (n := ln1) (M := 240) (by omega) (by omega) hvl (by decide)).2.2.2.2.2.2] at V6
 have V6' : Arv Z h6 b2 k2 .byte (Int32.ofNat ln1) (vsb.take ln1) (.int 0) := V6
 have Y6 := Y0.nx X6
 refine oal Y6 21 rfl rfl rfl ?_
 exact orA X6 Y6 hlk Bd.returns rfl rfl rfl 22 rfl (by decide) (by decide) e6 ⟨b2, k2, rfl, N6, K6, s_b2, V6'⟩
def Q_cr_240 (Z : State) (va : Addr) (kv : ClassId) (vsb : List Value) (ln1 : Nat) : OwnP := fun h0 n0 v h L => ∃ (t : Addr), ∃ (k : ClassId), v = some (.ref t) ∧ Fr n0 L ∧ Keep h0 h ([] : List Addr) ∧ h0.size ≤ t ∧ Arv Z h t k .byte (Int32.ofNat ln1) (vsb.take ln1) (.int 0)
def ll49 : List (Nat × Instr × Nat) := [(0, .iload_n 1, 1), (1, .ifCond .ne 9, 3), (4, .iload_n 2, 1), (5, .aload_n 0, 1), (6, .arraylength, 1), (7, .if_icmp .eq 10, 3), (10, .aload_n 0, 1), (11, .iload_n 1, 1), (12, .iload_n 2, 1), (13, .invokestatic 339, 3), (16, .areturn, 1), (17, .aload_n 0, 1), (18, .invokevirtual 310, 3), (21, .checkcast 311, 3), (24, .areturn, 1)]
theorem dl49 : OwnDec jdk_65_method_132_code ll49 := by decide +kernel
theorem pd_62477155 : parseMethodDescriptor "([BII)[B" = some ⟨[(.array .byte), .int, .int], some (.array .byte)⟩ := by decide +kernel
theorem rm_cr_240 (Gl : OwnGl Z a0 wG1 wG3) (X00 : Old Z n0 h0) (va : Addr) (kv : ClassId) (vsb : List Value) (ln1 : Nat) (f0 : Arv Z h0 va kv .byte (240 : Int32) vsb (.int 0)) (f1 : Exa Z h0 va "[B") (hln : ln1 ≤ 240) (hvl : vsb.length = 240) : OwnM l Z mN49 jdk_65_method_132_code 3 (some (.array .byte)) (oR 2 1 240 34) #[(.ref va), (.int 0), (.int (Int32.ofNat ln1))] h0 (Q_cr_240 Z va kv vsb ln1 h0 n0) := by
 refine own_in (plainFor_of_name pn_78818854) dl49 #[vR va, vI 0, vI (Int32.ofNat ln1)] (oE rfl) ?_
 intro p e s m below meth c s₁ Bd hml hZ X0 e0 hx hlk Y0 hown
 obtain ⟨hw, cx, hEL⟩ := id Gl
 have wT := oww hw
 have N0 := Fr.nil n0
 have K0 : Keep h0 h0 ([] : List Addr) := Keep.refl _ _
 refine oiN Y0 0 rfl rfl <| oifn Y0 1 rfl ((if0 _ _).trans (teq (by decide : (0 : Int32) = (0 : Int32))).2) <| oiN Y0 2 rfl rfl <| oaN Y0 3 rfl rfl rfl <| olen X0 Y0 hZ e0 f0 4 rfl ?_
 by_cases cc2 : (Int32.ofNat ln1) = (240 : Int32)
 ·
  refine ocy 17 Y0 5 rfl rfl (teq cc2).1 <| oaN Y0 11 rfl rfl rfl ?_
  obtain ⟨T3, h3, X3, e3, E3, A3, B3, st3⟩ := cloneH X0 hx hZ hown (wT 161 rfl) (wT 162 rfl) (wT 166 rfl) (wT 164 rfl) (wT 165 rfl) (wT 167 rfl) e0 (Arv.arh f0) f1 (g := (mkF m 18 #[vR va, vI 0, vI (Int32.ofNat ln1)] [(.ref va)])) rfl (by rw [hml]; rfl) rfl (Y0.d 12 rfl) (by decide) (W := 0) (cap := 240) (Nat.le_of_eq rfl) (by decide) (by decide) (by decide) (by decide)
  obtain ⟨b3, g3⟩ : ∃ z, z = h0.size := ⟨_, rfl⟩
  rw [← g3] at A3 B3 st3
  refine og T3 m 21 #[vR va, vI 0, vI (Int32.ofNat ln1)] [(.ref b3)] st3 ?_
  have V3 : Arv Z h3 b3 kv .byte (240 : Int32) vsb (.int 0) := A3
  have s_b3 : h0.size ≤ b3 := Nat.le_trans K0.1 (Nat.le_of_eq g3.symm)
  have K3 : Keep h0 h3 ([] : List Addr) := K0.ext E3
  obtain ⟨T4, X4, e4, st4⟩ := castY X3 hx hZ hown (wT 168 rfl) e3 (Ins.self B3) (g := (mkF m 21 #[vR va, vI 0, vI (Int32.ofNat ln1)] [(.ref b3)])) rfl rfl (Y0.d 13 rfl)
  refine og T4 m 24 #[vR va, vI 0, vI (Int32.ofNat ln1)] [(.ref b3)] st4 ?_
  have Vy6 : Arv Z h3 b3 kv .byte (Int32.ofNat ln1) (vsb.take ln1) (.int 0) := by rw [cc2, own_take_all (own_ofN (b := 240) (by omega) (by decide) cc2) hvl]; exact V3
  have Y4 := Y0.nx X4
  exact orA X4 Y4 hlk Bd.returns rfl rfl rfl 14 rfl (by decide) (by decide) e4 ⟨b3, kv, rfl, N0, K3, s_b3, Vy6⟩
 refine ocn Y0 5 rfl (feq cc2).1 <| oaN Y0 6 rfl rfl rfl <| oiN Y0 7 rfl rfl <| oiN Y0 8 rfl rfl ?_
 refine oCS X0 Y0 hZ hml hown (wT 307 rfl) (wT 308 rfl) (wT 159 rfl) (wT 309 rfl) (rm_crb_240 Gl X00 va kv vsb ln1 f0 hln hvl) e0 9 rfl 3 0 pd_62477155 rfl rfl rfl rfl (by decide +kernel) ?_
 intro v7 T7 L7 X7 Y7 hQ7
 obtain ⟨t_7, k_7, rfl, Nq7, Kq7, zq7_0, fq7_0⟩ := hQ7
 show OwnH p e below _ T7 m _ _ [(.ref t_7)]
 have N7 := Fr.app N0 Nq7
 have s_t_7 : h0.size ≤ t_7 := Nat.le_trans K0.1 zq7_0
 have K7 : Keep h0 T7.heap ([] : List Addr) := K0.trans Kq7 all0
 exact orA X7 Y7 hlk Bd.returns rfl rfl rfl 10 rfl (by decide) (by decide) rfl ⟨t_7, k_7, rfl, N7, K7, s_t_7, fq7_0⟩
def Q_min_480 (Z : State) (ln1 : Nat) : OwnP := fun h0 n0 v h L => v = some (.int (Int32.ofNat ln1)) ∧ Fr n0 L ∧ h = h0
theorem rm_min_480 (Gl : OwnGl Z a0 wG1 wG3) (X00 : Old Z n0 h0) (ln1 : Nat) (hln : ln1 ≤ 480) : OwnM l Z mN37 jdk_29_method_69_code 2 (some .int) (oR 0 0 0 0) #[(.int 480), (.int (Int32.ofNat ln1))] h0 (Q_min_480 Z ln1 h0 n0) := by
 refine own_in (Jvm.Free.JP.mathPlain rfl (by decide +kernel)) dl37 #[vI 480, vI (Int32.ofNat ln1)] (oE rfl) ?_
 intro p e s m below meth c s₁ Bd hml hZ X0 e0 hx hlk Y0 hown
 have N0 := Fr.nil n0
 refine oiN Y0 0 rfl rfl <| oiN Y0 1 rfl rfl ?_
 by_cases cc1 : (Int32.ofNat ln1) < (480 : Int32)
 ·
  refine ocy 9 Y0 2 rfl rfl (tlt cc1).2.2.1 <| oiN Y0 5 rfl rfl ?_
  exact orI X0 Y0 hlk Bd.returns 6 rfl (by decide) (by decide) e0 ⟨rfl, N0, rfl⟩
 refine ocn Y0 2 rfl (flt cc1).2.2.1 <| oiN Y0 3 rfl rfl <| ogt 10 Y0 4 rfl rfl ?_
 refine og s₁ m 10 #[vI (Int32.ofNat ln1), vI (Int32.ofNat ln1)] [(.int (Int32.ofNat ln1))] (fun tgt kgo => castTop (by rw [(show (480 : Int32) = (Int32.ofNat ln1) from own_min_eq (a := 480) (by decide) hln cc1)]) kgo) ?_
 exact orI X0 Y0 hlk Bd.returns 6 rfl (by decide) (by decide) e0 ⟨rfl, N0, rfl⟩
def Q_crb_480 (Z : State) (va : Addr) (kv : ClassId) (vsb : List Value) (ln1 : Nat) : OwnP := fun h0 n0 v h L => ∃ (t : Addr), ∃ (k : ClassId), v = some (.ref t) ∧ Fr n0 L ∧ Keep h0 h ([] : List Addr) ∧ h0.size ≤ t ∧ Arv Z h t k .byte (Int32.ofNat ln1) (vsb.take ln1) (.int 0)
theorem rm_crb_480 (Gl : OwnGl Z a0 wG1 wG3) (X00 : Old Z n0 h0) (va : Addr) (kv : ClassId) (vsb : List Value) (ln1 : Nat) (f0 : Arv Z h0 va kv .byte (480 : Int32) vsb (.int 0)) (hln : ln1 ≤ 480) (hvl : vsb.length = 480) : OwnM l Z mN48 jdk_65_method_133_code 5 (some (.array .byte)) (oR 1 1 480 18) #[(.ref va), (.int 0), (.int (Int32.ofNat ln1))] h0 (Q_crb_480 Z va kv vsb ln1 h0 n0) := by
 refine own_in (plainFor_of_name pn_78818854) dl48 #[vR va, vI 0, vI (Int32.ofNat ln1), vU, vU] (oE rfl) ?_
 intro p e s m below meth c s₁ Bd hml hZ X0 e0 hx hlk Y0 hown
 obtain ⟨hw, cx, hEL⟩ := id Gl
 have wT := oww hw
 have N0 := Fr.nil n0
 have Z0 : n0 ≤ h0.size := X00.1 ▸ X00.2.1
 have K0 : Keep h0 h0 ([] : List Addr) := Keep.refl _ _
 refine oiN Y0 0 rfl rfl <| oiN Y0 1 rfl rfl ?_
 refine oCS X0 Y0 hZ hml hown (wT 310 rfl) (wT 311 rfl) (wT 159 rfl) (wT 312 rfl) (rm_ckl Gl X00 ln1 hln) e0 2 rfl 2 0 pd_53897226 rfl rfl rfl rfl (by decide +kernel) ?_
 intro v1 T1 L1 X1 Y1 hQ1
 obtain ⟨rfl, Nq1, eq1⟩ := hQ1
 show OwnH p e below _ T1 m _ _ []
 have N1 := Fr.app N0 Nq1
 refine oiN Y1 3 rfl rfl <| oiN Y1 4 rfl rfl <| osub Y1 5 rfl ?_
 refine og T1 m 8 #[vR va, vI 0, vI (Int32.ofNat ln1), vU, vU] [(.int (Int32.ofNat ln1))] (fun tgt kgo => castTop (by rw [(own_sub00 _)]) kgo) ?_
 refine oiS Y1 6 rfl #[vR va, vI 0, vI (Int32.ofNat ln1), vI (Int32.ofNat ln1), vU] rfl <| oiN Y1 7 rfl rfl ?_
 obtain ⟨T2, h2, k2, X2, e2, E2, A2, st2⟩ := newP X1 hx hZ (wT 25 rfl) eq1 (g := (mkF m 10 #[vR va, vI 0, vI (Int32.ofNat ln1), vI (Int32.ofNat ln1), vU] [(.int (Int32.ofNat ln1))])) rfl (Y0.d 8 rfl) rfl (own_nat (n := ln1) (by omega)).2.1 (cap := 480) (by rw [(own_nat (n := ln1) (by omega)).2.2]; exact hln) (by decide) (by decide) (by decide)
 obtain ⟨b2, g2⟩ : ∃ z, z = h0.size := ⟨_, rfl⟩
 rw [← g2] at A2 st2
 refine og T2 m 12 #[vR va, vI 0, vI (Int32.ofNat ln1), vI (Int32.ofNat ln1), vU] [(.ref b2)] st2 ?_
 have V2 : Arv Z h2 b2 k2 .byte (Int32.ofNat ln1) [] (.int 0) := Arv.new A2 (own_nat (n := ln1) (by omega)).2.1
 have g_b2 : n0 ≤ b2 := Nat.le_trans (Nat.le_trans Z0 K0.1) (Nat.le_of_eq g2.symm)
 have s_b2 : h0.size ≤ b2 := Nat.le_trans K0.1 (Nat.le_of_eq g2.symm)
 have F2_1 := f0.ext E2
 have Ol2 := X00.ext E2
 have K2 : Keep h0 h2 ([] : List Addr) := K0.ext E2
 have Vr3 : Arv Z h2 b2 k2 .byte (Int32.ofNat ln1) (List.replicate ln1 (Value.int (0 : Int32))) (.int 0) := V2.pad (pad_rep [] (Value.int (0 : Int32)) ln1)
 have Y2 := Y0.nx X2
 refine oas Y2 9 rfl #[vR va, vI 0, vI (Int32.ofNat ln1), vI (Int32.ofNat ln1), vR b2] rfl rfl <| oaN Y2 10 rfl rfl rfl <| oiN Y2 11 rfl rfl <| oal Y2 12 rfl rfl rfl <| oic 0 Y2 13 rfl rfl <| oaN Y2 14 rfl rfl rfl <| olen X2 Y2 hZ e2 F2_1 15 rfl <| oiN Y2 16 rfl rfl <| osub Y2 17 rfl <| oti (480 : Int32) (by decide) ?_
 refine oiN Y2 18 rfl rfl ?_
 refine oCS X2 Y2 hZ hml hown (wT 313 rfl) (wT 216 rfl) (wT 42 rfl) (wT 217 rfl) (rm_min_480 Gl Ol2 ln1 hln) e2 19 rfl 2 4 pd_50523903 rfl rfl rfl rfl (by decide +kernel) ?_
 intro v5 T5 L5 X5 Y5 hQ5
 obtain ⟨rfl, Nq5, eq5⟩ := hQ5
 show OwnH p e below _ T5 m _ _ [(.int (Int32.ofNat ln1)), (.int 0), (.ref b2), (.int 0), (.ref va)]
 have N5 := Fr.app N1 Nq5
 obtain ⟨T6, h6, L6, X6, e6, N6, Kq6, V6, st6⟩ := cpA X5 hx hZ hown (wT 314 rfl) (wT 317 rfl) (wT 315 rfl) (wT 316 rfl) eq5 F2_1 Vr3 (us := (vsb.take ln1)) (Or.inl ⟨rfl, rfl⟩) (own_take_range (vs := vsb) (n := ln1) (M := 480) (by omega) (by omega) hvl (by decide)).1 (by decide) (own_take_range (vs := vsb) (n := ln1) (M := 480) (by omega) (by omega) hvl (by decide)).2.1 (own_take_range (vs := vsb) (n := ln1) (M := 480) (by omega) (by omega) hvl (by decide)).2.2.1 (own_take_range (vs := vsb) (n := ln1) (M := 480) (by omega) (by omega) hvl (by decide)).2.2.2.1 (own_take_range (vs := vsb) (n := ln1) (M := 480) (by omega) (by omega) hvl (by decide)).2.2.2.2.1 (own_take_range (vs := vsb) (n := ln1) (M := 480) (by omega) (by omega) hvl (by decide)).2.2.2.2.2.1 N5 g_b2 (g := (mkF m 27 #[vR va, vI 0, vI (Int32.ofNat ln1), vI (Int32.ofNat ln1), vR b2] [(.int (Int32.ofNat ln1)), (.int 0), (.ref b2), (.int 0), (.ref va)])) rfl (by rw [hml]; rfl) (rest := []) rfl (Y0.d 20 rfl) (by decide) (W := 0) (Nat.le_of_eq rfl) (by decide)
 refine og T6 m 30 #[vR va, vI 0, vI (Int32.ofNat ln1), vI (Int32.ofNat ln1), vR b2] [] st6 ?_
 have K6 : Keep h0 h6 ([] : List Addr) := K2.trans Kq6 (allS (Or.inr s_b2) all0)
 rw [(own_take_range (vs := vsb) (n := ln1) (M := 480) (by omega) (by omega) hvl (by decide)).2.2.2.2.2.2] at V6
 have V6' : Arv Z h6 b2 k2 .byte (Int32.ofNat ln1) (vsb.take ln1) (.int 0) := V6
 have Y6 := Y0.nx X6
 refine oal Y6 21 rfl rfl rfl ?_
 exact orA X6 Y6 hlk Bd.returns rfl rfl rfl 22 rfl (by decide) (by decide) e6 ⟨b2, k2, rfl, N6, K6, s_b2, V6'⟩
def Q_cr_480 (Z : State) (va : Addr) (kv : ClassId) (vsb : List Value) (ln1 : Nat) : OwnP := fun h0 n0 v h L => ∃ (t : Addr), ∃ (k : ClassId), v = some (.ref t) ∧ Fr n0 L ∧ Keep h0 h ([] : List Addr) ∧ h0.size ≤ t ∧ Arv Z h t k .byte (Int32.ofNat ln1) (vsb.take ln1) (.int 0)
theorem rm_cr_480 (Gl : OwnGl Z a0 wG1 wG3) (X00 : Old Z n0 h0) (va : Addr) (kv : ClassId) (vsb : List Value) (ln1 : Nat) (f0 : Arv Z h0 va kv .byte (480 : Int32) vsb (.int 0)) (f1 : Exa Z h0 va "[B") (hln : ln1 ≤ 480) (hvl : vsb.length = 480) : OwnM l Z mN49 jdk_65_method_132_code 3 (some (.array .byte)) (oR 2 1 480 34) #[(.ref va), (.int 0), (.int (Int32.ofNat ln1))] h0 (Q_cr_480 Z va kv vsb ln1 h0 n0) := by
 refine own_in (plainFor_of_name pn_78818854) dl49 #[vR va, vI 0, vI (Int32.ofNat ln1)] (oE rfl) ?_
 intro p e s m below meth c s₁ Bd hml hZ X0 e0 hx hlk Y0 hown
 obtain ⟨hw, cx, hEL⟩ := id Gl
 have wT := oww hw
 have N0 := Fr.nil n0
 have K0 : Keep h0 h0 ([] : List Addr) := Keep.refl _ _
 refine oiN Y0 0 rfl rfl <| oifn Y0 1 rfl ((if0 _ _).trans (teq (by decide : (0 : Int32) = (0 : Int32))).2) <| oiN Y0 2 rfl rfl <| oaN Y0 3 rfl rfl rfl <| olen X0 Y0 hZ e0 f0 4 rfl ?_
 by_cases cc2 : (Int32.ofNat ln1) = (480 : Int32)
 ·
  refine ocy 17 Y0 5 rfl rfl (teq cc2).1 <| oaN Y0 11 rfl rfl rfl ?_
  obtain ⟨T3, h3, X3, e3, E3, A3, B3, st3⟩ := cloneH X0 hx hZ hown (wT 161 rfl) (wT 162 rfl) (wT 166 rfl) (wT 164 rfl) (wT 165 rfl) (wT 167 rfl) e0 (Arv.arh f0) f1 (g := (mkF m 18 #[vR va, vI 0, vI (Int32.ofNat ln1)] [(.ref va)])) rfl (by rw [hml]; rfl) rfl (Y0.d 12 rfl) (by decide) (W := 0) (cap := 480) (Nat.le_of_eq rfl) (by decide) (by decide) (by decide) (by decide)
  obtain ⟨b3, g3⟩ : ∃ z, z = h0.size := ⟨_, rfl⟩
  rw [← g3] at A3 B3 st3
  refine og T3 m 21 #[vR va, vI 0, vI (Int32.ofNat ln1)] [(.ref b3)] st3 ?_
  have V3 : Arv Z h3 b3 kv .byte (480 : Int32) vsb (.int 0) := A3
  have s_b3 : h0.size ≤ b3 := Nat.le_trans K0.1 (Nat.le_of_eq g3.symm)
  have K3 : Keep h0 h3 ([] : List Addr) := K0.ext E3
  obtain ⟨T4, X4, e4, st4⟩ := castY X3 hx hZ hown (wT 168 rfl) e3 (Ins.self B3) (g := (mkF m 21 #[vR va, vI 0, vI (Int32.ofNat ln1)] [(.ref b3)])) rfl rfl (Y0.d 13 rfl)
  refine og T4 m 24 #[vR va, vI 0, vI (Int32.ofNat ln1)] [(.ref b3)] st4 ?_
  have Vy6 : Arv Z h3 b3 kv .byte (Int32.ofNat ln1) (vsb.take ln1) (.int 0) := by rw [cc2, own_take_all (own_ofN (b := 480) (by omega) (by decide) cc2) hvl]; exact V3
  have Y4 := Y0.nx X4
  exact orA X4 Y4 hlk Bd.returns rfl rfl rfl 14 rfl (by decide) (by decide) e4 ⟨b3, kv, rfl, N0, K3, s_b3, Vy6⟩
 refine ocn Y0 5 rfl (feq cc2).1 <| oaN Y0 6 rfl rfl rfl <| oiN Y0 7 rfl rfl <| oiN Y0 8 rfl rfl ?_
 refine oCS X0 Y0 hZ hml hown (wT 307 rfl) (wT 308 rfl) (wT 159 rfl) (wT 309 rfl) (rm_crb_480 Gl X00 va kv vsb ln1 f0 hln hvl) e0 9 rfl 3 0 pd_62477155 rfl rfl rfl rfl (by decide +kernel) ?_
 intro v7 T7 L7 X7 Y7 hQ7
 obtain ⟨t_7, k_7, rfl, Nq7, Kq7, zq7_0, fq7_0⟩ := hQ7
 show OwnH p e below _ T7 m _ _ [(.ref t_7)]
 have N7 := Fr.app N0 Nq7
 have s_t_7 : h0.size ≤ t_7 := Nat.le_trans K0.1 zq7_0
 have K7 : Keep h0 T7.heap ([] : List Addr) := K0.trans Kq7 all0
 exact orA X7 Y7 hlk Bd.returns rfl rfl rfl 10 rfl (by decide) (by decide) rfl ⟨t_7, k_7, rfl, N7, K7, s_t_7, fq7_0⟩
def Q_cub (Z : State) (va : Addr) (kv : ClassId) (vsb : List Value) (acc : List Int32) (tb1 : Addr) (kb1 : ClassId) (vs1 : List Value) : OwnP := fun h0 n0 v h L => ∃ (r : Nat), v = some (.int (Int32.ofNat r)) ∧ Fr n0 L ∧ Keep h0 h ([tb1] : List Addr) ∧ (r < acc.length) ∧ ((255 : Int32) < (acc.getD r 0))
def ll50 : List (Nat × Instr × Nat) := [(0, .iload_n 1, 1), (1, .iload 4, 2), (3, .aload_n 0, 1), (4, .invokestatic 173, 3), (7, .iconst 0, 1), (8, .istore 5, 2), (10, .iload 5, 2), (12, .iload 4, 2), (14, .if_icmp .ge 39, 3), (17, .aload_n 0, 1), (18, .iload_n 1, 1), (19, .invokestatic 71, 3), (22, .istore 6, 2), (24, .iload 6, 2), (26, .sipush 255, 3), (29, .if_icmp .le 6, 3), (32, .iload 5, 2), (34, .ireturn, 1), (35, .aload_n 2, 1), (36, .iload_n 3, 1), (37, .iload 6, 2), (39, .i2b, 1), (40, .bastore, 1), (41, .iinc 1 1, 3), (44, .iinc 3 1, 3), (47, .iinc 5 1, 3), (50, .goto (-40), 3)]
theorem dl50 : OwnDec jdk_52_method_22_code ll50 := by decide +kernel
theorem rm_cub (Gl : OwnGl Z a0 wG1 wG3) (X00 : Old Z n0 h0) (va : Addr) (kv : ClassId) (vsb : List Value) (acc : List Int32) (tb1 : Addr) (kb1 : ClassId) (vs1 : List Value) (f0 : Arv Z h0 va kv .byte (480 : Int32) vsb (.int 0)) (f1 : Arv Z h0 tb1 kb1 .byte (Int32.ofNat acc.length) vs1 (.int 0)) (f2 : n0 ≤ tb1) (f3 : va ≠ tb1) (hln : acc.length ≤ 240) (hvl : vsb.length = 480) (hub : OwnUB acc vsb) (hrg : OwnRg acc) (hv1 : vs1.length = acc.length) (hexA : ∃ c ∈ acc, (255 : Int32) < c) : OwnM l Z mN50 jdk_52_method_22_code 7 (some .int) (oR 3 0 0 43) #[(.ref va), (.int 0), (.ref tb1), (.int 0), (.int (Int32.ofNat acc.length))] h0 (Q_cub Z va kv vsb acc tb1 kb1 vs1 h0 n0) := by
 refine own_in (plainFor_of_name pn_68381282) dl50 #[vR va, vI 0, vR tb1, vI 0, vI (Int32.ofNat acc.length), vU, vU] (oE rfl) ?_
 intro p e s m below meth c s₁ Bd hml hZ X0 e0 hx hlk Y0 hown
 obtain ⟨hw, cx, hEL⟩ := id Gl
 have wT := oww hw
 have N0 := Fr.nil n0
 have K0 : Keep h0 h0 ([tb1] : List Addr) := Keep.refl _ _
 refine oiN Y0 0 rfl rfl <| oil Y0 1 rfl rfl <| oaN Y0 2 rfl rfl rfl ?_
 refine oCS X0 Y0 hZ hml hown (wT 253 rfl) (wT 254 rfl) (wT 23 rfl) (wT 255 rfl) (rm_ucb Gl X00 va kv vsb acc.length f0 hln) e0 3 rfl 3 0 pd_50730302 rfl rfl rfl rfl (by decide +kernel) ?_
 intro v1 T1 L1 X1 Y1 hQ1
 obtain ⟨rfl, Nq1, eq1⟩ := hQ1
 show OwnH p e below _ T1 m _ _ []
 have N1 := Fr.app N0 Nq1
 refine oic 0 Y1 4 rfl rfl <| ois Y1 5 rfl #[vR va, vI 0, vR tb1, vI 0, vI (Int32.ofNat acc.length), vI 0, vU] rfl ?_
 have lpc : ∀ (fu2 : Nat) (it : Nat) (vs2 : List Value) (sl6 : Slot) (T2 : State) (h2 : Heap) (L2 : List Loc) (X2 : Stand p l e (oR 3 0 0 43) s m #[(.ref va), (.int 0), (.ref tb1), (.int 0), (.int (Int32.ofNat acc.length))] below meth c T2 L2 0 0) (e2 : T2.heap = h2) (Ol2 : Old Z n0 h2) (K2 : Keep h0 h2 ([tb1] : List Addr)) (N2 : Fr n0 L2) (F2_1 : Arv Z h2 va kv .byte (480 : Int32) vsb (.int 0)) (F2_2 : Arv Z h2 tb1 kb1 .byte (Int32.ofNat acc.length) vs2 (.int 0)) (hsl6 : OwnSl sl6) (hle : it ≤ acc.length) (hv2 : vs2.length = acc.length) (hinv : ∀ j, j < it → ¬ (255 : Int32) < acc.getD j 0) (hfu2 : acc.length - it < fu2), OwnGoes p e below (oG (Q_cub Z va kv vsb acc tb1 kb1 vs1 h0 n0) s (oR 3 0 0 43)) T2 (mkF m 10 #[vR va, vI (Int32.ofNat it), vR tb1, vI (Int32.ofNat it), vI (Int32.ofNat acc.length), vI (Int32.ofNat it), sl6] []) := by
  intro fu2
  induction fu2 with
  | zero =>
   intro it vs2 sl6 T2 h2 L2 X2 e2 Ol2 K2 N2 F2_1 F2_2 hsl6 hle hv2 hinv hfu2
   exact absurd hfu2 (Nat.not_lt_zero _)
  | succ fu2 ih2 =>
   intro it vs2 sl6 T2 h2 L2 X2 e2 Ol2 K2 N2 F2_1 F2_2 hsl6 hle hv2 hinv hfu2
   have hlt : it < acc.length := own_c5lt rfl hexA hle hinv
   have Y2 := Y0.nx X2
   refine oil Y2 6 rfl rfl <| oil Y2 7 rfl rfl <| ocn Y2 8 rfl (tlt ((own_ltN (by omega) (by omega)).mpr hlt)).2.1 <| oaN Y2 9 rfl rfl rfl <| oiN Y2 10 rfl rfl ?_
   refine oCS X2 Y2 hZ hml hown (wT 285 rfl) (wT 286 rfl) (wT 23 rfl) (wT 287 rfl) (rm_u16get Gl Ol2 va kv (480 : Int32) vsb (Int32.ofNat it) (acc.getD it 0) F2_1 (own_ub_get (N := 480) (j := it) hrg hub hvl (by decide) hlt)) e2 11 rfl 2 0 pd_30427418 rfl rfl rfl rfl (by decide +kernel) ?_
   intro v3 T3 L3 X3 Y3 hQ3
   obtain ⟨rfl, Nq3, eq3⟩ := hQ3
   show OwnH p e below _ T3 m _ _ [(.int (acc.getD it 0))]
   have N3 := Fr.app N2 Nq3
   refine ois Y3 12 rfl #[vR va, vI (Int32.ofNat it), vR tb1, vI (Int32.ofNat it), vI (Int32.ofNat acc.length), vI (Int32.ofNat it), vI (acc.getD it 0)] (XS.store1 rfl hsl6 rfl) <| oil Y3 13 rfl rfl <| osp 255 Y3 14 rfl rfl ?_
   by_cases cc4 : (255 : Int32) < (acc.getD it 0)
   ·
    refine ocn Y3 15 rfl (tlt cc4).2.2.2 <| oil Y3 16 rfl rfl ?_
    exact orI X3 Y3 hlk Bd.returns 17 rfl (by decide) (by decide) eq3 ⟨it, rfl, N3, K2, hlt, cc4⟩
   refine ocy 35 Y3 15 rfl rfl (flt cc4).2.2.2 <| oaN Y3 18 rfl rfl rfl <| oiN Y3 19 rfl rfl <| oil Y3 20 rfl rfl <| oi2b Y3 21 rfl ?_
   obtain ⟨cl6, Ar6, q6, S6, M6, H6, G6⟩ := id F2_2
   obtain ⟨T6, h6, X6, e6, W6, st6⟩ := stB X3 hx hZ eq3 Ar6 (j := (Int32.ofNat it)) (inb_of S6 ⟨(own_nat (by omega)).2.1, (own_ltN (by omega) (by omega)).mpr hlt⟩) (g := (mkF m 40 #[vR va, vI (Int32.ofNat it), vR tb1, vI (Int32.ofNat it), vI (Int32.ofNat acc.length), vI (Int32.ofNat it), vI (acc.getD it 0)] [(.int (nar .byte (acc.getD it 0))), (.int (Int32.ofNat it)), (.ref tb1)])) rfl rfl (Y0.d 22 rfl)
   refine og T6 m 41 #[vR va, vI (Int32.ofNat it), vR tb1, vI (Int32.ofNat it), vI (Int32.ofNat acc.length), vI (Int32.ofNat it), vI (acc.getD it 0)] [] st6 ?_
   have V6 : Arv Z h6 tb1 kb1 .byte (Int32.ofNat acc.length) (vs2.set it (.int (nar .byte (nar .byte (acc.getD it 0))))) (.int 0) := Arv.set Ar6 q6 S6 M6 H6 G6 (fits_nar_byte _) W6 _ (own_nat (by omega)).2.2 (by omega)
   rw [own_nar2_byte] at V6
   have V6' : Arv Z h6 tb1 kb1 .byte (Int32.ofNat acc.length) (vs2.set it (.int (nar .byte (acc.getD it 0)))) (.int 0) := V6
   have F6_3 := F2_1.other W6 f3
   have Ol6 := Ol2.wr W6 f2
   have K6 : Keep h0 h6 ([tb1] : List Addr) := K2.wr W6 (Or.inl (List.mem_of_getElem? (i := 0) rfl))
   have N6 := Fr.snoc X6 N3 f2
   have Y6 := Y0.nx X6
   refine oinc Y6 23 rfl #[vR va, vI ((Int32.ofNat it) + (1 : Int32)), vR tb1, vI (Int32.ofNat it), vI (Int32.ofNat acc.length), vI (Int32.ofNat it), vI (acc.getD it 0)] rfl rfl <| oinc Y6 24 rfl #[vR va, vI ((Int32.ofNat it) + (1 : Int32)), vR tb1, vI ((Int32.ofNat it) + (1 : Int32)), vI (Int32.ofNat acc.length), vI (Int32.ofNat it), vI (acc.getD it 0)] rfl rfl <| oinc Y6 25 rfl #[vR va, vI ((Int32.ofNat it) + (1 : Int32)), vR tb1, vI ((Int32.ofNat it) + (1 : Int32)), vI (Int32.ofNat acc.length), vI ((Int32.ofNat it) + (1 : Int32)), vI (acc.getD it 0)] rfl rfl <| ogt 10 Y6 26 rfl rfl ?_
   refine og T6 m 10 #[vR va, vI (Int32.ofNat (it + 1)), vR tb1, vI (Int32.ofNat (it + 1)), vI (Int32.ofNat acc.length), vI (Int32.ofNat (it + 1)), vI (acc.getD it 0)] [] (fun tgt kgo => castTop (by rw [(own_add1 it)]) kgo) ?_
   exact ih2 (it + 1) (vs2.set it (.int (nar .byte (acc.getD it 0)))) (vI (acc.getD it 0)) T6 h6 _ X6 e6 Ol6 K6 N6 F6_3 V6' (Or.inr ⟨_, rfl, rfl⟩) (by omega) (by rw [List.length_set]; exact hv2) (fun j hj => by
     rcases Nat.lt_or_ge j it with q | q
     ·
      exact hinv j q
     ·
      obtain rfl : j = it := by omega
      exact cc4) (by omega)
 exact lpc (acc.length - 0 + 1) 0 vs1 .unset T1 h0 _ X1 eq1 X00 K0 N1 f0 f1 (Or.inl rfl) (Nat.zero_le _) hv1 (fun j hj => absurd hj (Nat.not_lt_zero _)) (Nat.lt_succ_self _)
def Q_cub3 (Z : State) (va : Addr) (kv : ClassId) (vsb : List Value) (acc : List Int32) : OwnP := fun h0 n0 v h L => ∃ (t : Addr), ∃ (k : ClassId), ∃ (vs : List Value), v = some (.ref t) ∧ Fr n0 L ∧ Keep h0 h ([] : List Addr) ∧ h0.size ≤ t ∧ Arv Z h t k .byte (Int32.ofNat (2 * acc.length)) vs (.int 0) ∧ (OwnStr acc (1 : Int32) (Int32.ofNat (2 * acc.length)) vs)
def ll51 : List (Nat × Instr × Nat) := [(0, .iload_n 2, 1), (1, .newarray .byte, 2), (3, .astore_n 3, 1), (4, .aload_n 0, 1), (5, .iload_n 1, 1), (6, .aload_n 3, 1), (7, .iconst 0, 1), (8, .iload_n 2, 1), (9, .invokestatic 123, 3), (12, .istore 4, 2), (14, .iload 4, 2), (16, .iload_n 2, 1), (17, .if_icmp .eq 47, 3), (20, .aload_n 0, 1), (21, .iload_n 1, 1), (22, .iconst 1, 1), (23, .ishl, 1), (24, .iload_n 1, 1), (25, .iload_n 2, 1), (26, .iadd, 1), (27, .invokestatic 11, 3), (30, .invokestatic 126, 3), (33, .astore 5, 2), (35, .aload 5, 2), (37, .iload 4, 2), (39, .invokestatic 71, 3), (42, .sipush 255, 3), (45, .if_icmp .gt 16, 3), (61, .aload 5, 2), (63, .areturn, 1)]
theorem dl51 : OwnDec jdk_52_method_17_code ll51 := by decide +kernel
theorem rm_cub3 (Gl : OwnGl Z a0 wG1 wG3) (X00 : Old Z n0 h0) (va : Addr) (kv : ClassId) (vsb : List Value) (acc : List Int32) (f0 : Arv Z h0 va kv .byte (480 : Int32) vsb (.int 0)) (f1 : Exa Z h0 va "[B") (hln : acc.length ≤ 240) (hvl : vsb.length = 480) (hub : OwnUB acc vsb) (hrg : OwnRg acc) (hexA : ∃ c ∈ acc, (255 : Int32) < c) : OwnM l Z mN51 jdk_52_method_17_code 6 (some (.array .byte)) (oR 4 2 720 61) #[(.ref va), (.int 0), (.int (Int32.ofNat acc.length))] h0 (Q_cub3 Z va kv vsb acc h0 n0) := by
 refine own_in (plainFor_of_name pn_68381282) dl51 #[vR va, vI 0, vI (Int32.ofNat acc.length), vU, vU, vU] (oE rfl) ?_
 intro p e s m below meth c s₁ Bd hml hZ X0 e0 hx hlk Y0 hown
 obtain ⟨hw, cx, hEL⟩ := id Gl
 have wT := oww hw
 have N0 := Fr.nil n0
 have Z0 : n0 ≤ h0.size := X00.1 ▸ X00.2.1
 have K0 : Keep h0 h0 ([] : List Addr) := Keep.refl _ _
 refine oiN Y0 0 rfl rfl ?_
 obtain ⟨T1, h1, k1, X1, e1, E1, A1, st1⟩ := newP X0 hx hZ (wT 25 rfl) e0 (g := (mkF m 1 #[vR va, vI 0, vI (Int32.ofNat acc.length), vU, vU, vU] [(.int (Int32.ofNat acc.length))])) rfl (Y0.d 1 rfl) rfl (own_nat (n := acc.length) (by omega)).2.1 (cap := 240) (by rw [(own_nat (n := acc.length) (by omega)).2.2]; exact hln) (by decide) (by decide) (by decide)
 obtain ⟨b1, g1⟩ : ∃ z, z = h0.size := ⟨_, rfl⟩
 rw [← g1] at A1 st1
 refine og T1 m 3 #[vR va, vI 0, vI (Int32.ofNat acc.length), vU, vU, vU] [(.ref b1)] st1 ?_
 have V1 : Arv Z h1 b1 k1 .byte (Int32.ofNat acc.length) [] (.int 0) := Arv.new A1 (own_nat (n := acc.length) (by omega)).2.1
 have ne_va_b1 : va ≠ b1 := Nat.ne_of_lt (Nat.lt_of_lt_of_le f0.lt (Nat.le_of_eq g1.symm))
 have g_b1 : n0 ≤ b1 := Nat.le_trans (Nat.le_trans Z0 K0.1) (Nat.le_of_eq g1.symm)
 have s_b1 : h0.size ≤ b1 := Nat.le_trans K0.1 (Nat.le_of_eq g1.symm)
 have F1_1 := f0.ext E1
 have F1_2 := f1.ext E1
 have Ol1 := X00.ext E1
 have K1 : Keep h0 h1 ([] : List Addr) := K0.ext E1
 have Vr2 : Arv Z h1 b1 k1 .byte (Int32.ofNat acc.length) (List.replicate acc.length (Value.int (0 : Int32))) (.int 0) := V1.pad (pad_rep [] (Value.int (0 : Int32)) acc.length)
 have Y1 := Y0.nx X1
 refine oaS Y1 2 rfl #[vR va, vI 0, vI (Int32.ofNat acc.length), vR b1, vU, vU] rfl rfl <| oaN Y1 3 rfl rfl rfl <| oiN Y1 4 rfl rfl <| oaN Y1 5 rfl rfl rfl <| oic 0 Y1 6 rfl rfl <| oiN Y1 7 rfl rfl ?_
 refine oCS X1 Y1 hZ hml hown (wT 282 rfl) (wT 283 rfl) (wT 23 rfl) (wT 284 rfl) (rm_cub Gl Ol1 va kv vsb acc b1 k1 (List.replicate acc.length (Value.int (0 : Int32))) F1_1 Vr2 g_b1 ne_va_b1 hln hvl hub hrg (List.length_replicate ..) hexA) e1 8 rfl 5 0 pd_65611257 rfl rfl rfl rfl (by decide +kernel) ?_
 intro v3 T3 L3 X3 Y3 hQ3
 obtain ⟨r_3, rfl, Nq3, Kq3, pq3_0, pq3_1⟩ := hQ3
 show OwnH p e below _ T3 m _ _ [(.int (Int32.ofNat r_3))]
 have N3 := Fr.app N0 Nq3
 have F3_3 := F1_1.keep Kq3 (ninS ne_va_b1 nin0)
 have F3_4 := F1_2.keep Kq3
 have Ol3 := Ol1.keep Kq3 (allS g_b1 all0)
 have K3 : Keep h0 T3.heap ([] : List Addr) := K1.trans Kq3 (allS (Or.inr s_b1) all0)
 refine ois Y3 9 rfl #[vR va, vI 0, vI (Int32.ofNat acc.length), vR b1, vI (Int32.ofNat r_3), vU] rfl <| oil Y3 10 rfl rfl <| oiN Y3 11 rfl rfl <| ocn Y3 12 rfl (feq (fun q => absurd (own_ofN (by have := pq3_0; omega) (by omega) q) (by have := pq3_0; omega))).1 <| oaN Y3 13 rfl rfl rfl <| oiN Y3 14 rfl rfl <| oic 1 Y3 15 rfl rfl <| oshl Y3 16 rfl <| oti (0 : Int32) (by decide) <| oiN Y3 17 rfl rfl ?_
 refine oiN Y3 18 rfl rfl <| oadd Y3 19 rfl ?_
 refine og T3 m 27 #[vR va, vI 0, vI (Int32.ofNat acc.length), vR b1, vI (Int32.ofNat r_3), vU] [(.int (Int32.ofNat acc.length)), (.int 0), (.ref va)] (fun tgt kgo => castTop (by rw [(own_zadd _)]) kgo) ?_
 refine oCS X3 Y3 hZ hml hown (wT 243 rfl) (wT 244 rfl) (wT 23 rfl) (wT 245 rfl) (rm_nbl Gl Ol3 acc.length (by omega)) rfl 20 rfl 1 2 pd_92649053 rfl rfl rfl rfl (by decide +kernel) ?_
 intro v4 T4 L4 X4 Y4 hQ4
 obtain ⟨rfl, Nq4, eq4⟩ := hQ4
 show OwnH p e below _ T4 m _ _ [(.int (Int32.ofNat (2 * acc.length))), (.int 0), (.ref va)]
 have N4 := Fr.app N3 Nq4
 refine oCS X4 Y4 hZ hml hown (wT 288 rfl) (wT 158 rfl) (wT 159 rfl) (wT 160 rfl) (rm_cr_480 Gl Ol3 va kv vsb (2 * acc.length) F3_3 F3_4 (by omega) hvl) eq4 21 rfl 3 0 pd_62477155 rfl rfl rfl rfl (by decide +kernel) ?_
 intro v5 T5 L5 X5 Y5 hQ5
 obtain ⟨t_5, k_5, rfl, Nq5, Kq5, zq5_0, fq5_0⟩ := hQ5
 show OwnH p e below _ T5 m _ _ [(.ref t_5)]
 have N5 := Fr.app N4 Nq5
 have s_t_5 : h0.size ≤ t_5 := Nat.le_trans K3.1 zq5_0
 have Ol5 := Ol3.keep Kq5 all0
 have K5 : Keep h0 T5.heap ([] : List Addr) := K3.trans Kq5 all0
 refine oas Y5 22 rfl #[vR va, vI 0, vI (Int32.ofNat acc.length), vR b1, vI (Int32.ofNat r_3), vR t_5] rfl rfl <| oal Y5 23 rfl rfl rfl <| oil Y5 24 rfl rfl ?_
 refine oCS X5 Y5 hZ hml hown (wT 285 rfl) (wT 286 rfl) (wT 23 rfl) (wT 287 rfl) (rm_u16get Gl Ol5 t_5 k_5 (Int32.ofNat (2 * acc.length)) (vsb.take (2 * acc.length)) (Int32.ofNat r_3) (acc.getD r_3 0) fq5_0 (own_get (own_ub_str hrg hub hln hexA) (j := r_3) pq3_0 rfl)) rfl 25 rfl 2 0 pd_30427418 rfl rfl rfl rfl (by decide +kernel) ?_
 intro v6 T6 L6 X6 Y6 hQ6
 obtain ⟨rfl, Nq6, eq6⟩ := hQ6
 show OwnH p e below _ T6 m _ _ [(.int (acc.getD r_3 0))]
 have N6 := Fr.app N5 Nq6
 refine osp 255 Y6 26 rfl rfl <| ocy 61 Y6 27 rfl rfl (tlt pq3_1).2.2.1 <| oal Y6 28 rfl rfl rfl ?_
 exact orA X6 Y6 hlk Bd.returns rfl rfl rfl 29 rfl (by decide) (by decide) eq6 ⟨t_5, k_5, (vsb.take (2 * acc.length)), rfl, N6, K5, s_t_5, fq5_0, (own_ub_str hrg hub hln hexA)⟩
def Q_siAA (Z : State) (a1 : Addr) (sb : Addr) (va : Addr) (kv : ClassId) (vsb : List Value) (ml : Int32) (acc : List Int32) : OwnP := fun h0 n0 v h L => ∃ (t : Addr), ∃ (k : ClassId), ∃ (vs : List Value), v = none ∧ Fr n0 L ∧ Keep h0 h ([a1] : List Addr) ∧ h0.size ≤ t ∧ Exa Z h a1 "java/lang/String" ∧ Fld Z h a1 "java/lang/String" "value" "[B" (.ref t) ∧ Fld Z h a1 "java/lang/String" "coder" "B" (.int 0) ∧ Arv Z h t k .byte (Int32.ofNat acc.length) vs (.int 0) ∧ (OwnStr acc (0 : Int32) (Int32.ofNat acc.length) vs)
def ll52 : List (Nat × Instr × Nat) := [(0, .aload_n 0, 1), (1, .invokespecial 1, 3), (4, .aload_n 1, 1), (5, .invokevirtual 552, 3), (8, .astore_n 3, 1), (9, .aload_n 1, 1), (10, .invokevirtual 549, 3), (13, .istore 4, 2), (15, .aload_n 1, 1), (16, .invokevirtual 1047, 3), (19, .ifCond .eq 22, 3), (22, .aload_n 0, 1), (23, .iconst 0, 1), (24, .putfield 15, 3), (27, .aload_n 0, 1), (28, .aload_n 3, 1), (29, .iconst 0, 1), (30, .iload 4, 2), (32, .invokestatic 54, 3), (35, .putfield 9, 3), (38, .goto 59, 3), (41, .getstatic 38, 3), (44, .ifCond .eq 35, 3), (47, .aload_n 1, 1), (48, .getfield 1048, 3), (51, .ifCond .eq 28, 3), (54, .aload_n 0, 1), (55, .aload_n 3, 1), (56, .iconst 0, 1), (57, .iload 4, 2), (59, .invokestatic 1051, 3), (62, .putfield 9, 3), (65, .aload_n 0, 1), (66, .aload_n 0, 1), (67, .getfield 9, 3), (70, .iload 4, 2), (72, .invokestatic 47, 3), (75, .putfield 15, 3), (78, .return_, 1), (79, .aload_n 0, 1), (80, .iconst 1, 1), (81, .putfield 15, 3), (84, .aload_n 0, 1), (85, .aload_n 3, 1), (86, .iconst 0, 1), (87, .iload 4, 2), (89, .iconst 1, 1), (90, .ishl, 1), (91, .invokestatic 54, 3), (94, .putfield 9, 3), (97, .return_, 1)]
theorem dl52 : OwnDec jdk_42_method_150_code ll52 := by decide +kernel
theorem pd_99157121 : parseMethodDescriptor "()[B" = some ⟨[], some (.array .byte)⟩ := by decide +kernel
theorem rm_siAA (Gl : OwnGl Z a0 wG1 wG3) (X00 : Old Z n0 h0) (a1 : Addr) (sb : Addr) (va : Addr) (kv : ClassId) (vsb : List Value) (ml : Int32) (acc : List Int32) (f0 : Exa Z h0 a1 "java/lang/String") (f1 : Fld Z h0 a1 "java/lang/String" "value" "[B" .null) (f2 : Fld Z h0 a1 "java/lang/String" "coder" "B" (.int 0)) (f3 : n0 ≤ a1) (f4 : Exa Z h0 sb "java/lang/StringBuilder") (f5 : Fld Z h0 sb "java/lang/AbstractStringBuilder" "value" "[B" (.ref va)) (f6 : Fld Z h0 sb "java/lang/AbstractStringBuilder" "coder" "B" (.int 0)) (f7 : Fld Z h0 sb "java/lang/AbstractStringBuilder" "count" "I" (.int (Int32.ofNat acc.length))) (f8 : Fld Z h0 sb "java/lang/AbstractStringBuilder" "maybeLatin1" "Z" (.int ml)) (f9 : Arv Z h0 va kv .byte (240 : Int32) vsb (.int 0)) (f10 : Exa Z h0 va "[B") (hln : acc.length ≤ 240) (hvl : vsb.length = 240) (hlb : OwnLB acc vsb) (hrg : OwnRg acc) : OwnM l Z mN52 jdk_42_method_150_code 5 none (oR 3 1 240 49) #[(.ref a1), (.ref sb), .null] h0 (Q_siAA Z a1 sb va kv vsb ml acc h0 n0) := by
 refine own_in (plainFor_of_name pn_52039224) dl52 #[vR a1, vR sb, .val .null, vU, vU] (oE rfl) ?_
 intro p e s m below meth c s₁ Bd hml hZ X0 e0 hx hlk Y0 hown
 obtain ⟨hw, cx, hEL⟩ := id Gl
 have wT := oww hw
 have hnm := (name_of_methodNamed Bd.named Bd.method).1
 have N0 := Fr.nil n0
 have K0 : Keep h0 h0 ([a1] : List Addr) := Keep.refl _ _
 refine oaN Y0 0 rfl rfl rfl ?_
 obtain ⟨T1, X1, e1, st1⟩ := initO X0 hx hZ hown (wT 17 rfl) (wT 18 rfl) (wT 19 rfl) e0 (g := (mkF m 1 #[vR a1, vR sb, .val .null, vU, vU] [(.ref a1)])) rfl (by rw [hml]; rfl) rfl (Y0.d 1 rfl) (by decide) (W := 0) (Nat.le_of_eq rfl) (by decide)
 refine og T1 m 4 #[vR a1, vR sb, .val .null, vU, vU] [] st1 ?_
 have Y1 := Y0.nx X1
 refine oaN Y1 2 rfl rfl rfl ?_
 refine oCV X1 Y1 hZ hml hown (wT 149 rfl) (wT 150 rfl) (notFace_of_selects (args := #[]) (mvT hZ (wT 152 rfl))) (wT 152 rfl) (wT 151 rfl) (wT 153 rfl) (wT 57 rfl) (rm_getV Gl X00 sb va f4 f5) e1 f4 3 rfl 0 0 pd_99157121 rfl rfl rfl rfl rfl (by decide +kernel) (by decide +kernel) ?_
 intro v2 T2 L2 X2 Y2 hQ2
 obtain ⟨rfl, Nq2, eq2⟩ := hQ2
 show OwnH p e below _ T2 m _ _ [(.ref va)]
 have N2 := Fr.app N0 Nq2
 refine oaS Y2 4 rfl #[vR a1, vR sb, .val .null, vR va, vU] rfl rfl <| oaN Y2 5 rfl rfl rfl ?_
 refine oCV X2 Y2 hZ hml hown (wT 154 rfl) (wT 111 rfl) (own_notface (args := #[]) (mvT hZ (wT 127 rfl)) rfl) (wT 155 rfl) (wT 105 rfl) (wT 107 rfl) (wT 49 rfl) (rm_sln Gl X00 sb (Int32.ofNat acc.length) f4 f7) eq2 f4 6 rfl 0 0 pd_86913941 rfl rfl rfl rfl rfl (by decide +kernel) (by decide +kernel) ?_
 intro v3 T3 L3 X3 Y3 hQ3
 obtain ⟨rfl, Nq3, eq3⟩ := hQ3
 show OwnH p e below _ T3 m _ _ [(.int (Int32.ofNat acc.length))]
 have N3 := Fr.app N2 Nq3
 refine ois Y3 7 rfl #[vR a1, vR sb, .val .null, vR va, vI (Int32.ofNat acc.length)] rfl <| oaN Y3 8 rfl rfl rfl ?_
 refine oCV X3 Y3 hZ hml hown (wT 156 rfl) (wT 130 rfl) (notFace_of_selects (args := #[]) (mvT hZ (wT 132 rfl))) (wT 132 rfl) (wT 131 rfl) (wT 133 rfl) (wT 57 rfl) (rm_ail_0 Gl X00 sb f4 f6) eq3 f4 9 rfl 0 0 pd_15861835 rfl rfl rfl rfl rfl (by decide +kernel) (by decide +kernel) ?_
 intro v4 T4 L4 X4 Y4 hQ4
 obtain ⟨rfl, Nq4, eq4⟩ := hQ4
 show OwnH p e below _ T4 m _ _ [(.int 1)]
 have N4 := Fr.app N3 Nq4
 refine oifn Y4 10 rfl ((if0 _ _).trans (feq (by decide : ¬ ((1 : Int32) = (0 : Int32)))).1) <| oaN Y4 11 rfl rfl rfl <| oic 0 Y4 12 rfl rfl ?_
 obtain ⟨T5, h5, X5, e5, W5, st5⟩ := putFN X4 hx hZ hown (wT 32 rfl) Via.refl eq4 f2 f0 (Or.inr ⟨(wT 33 rfl), rfl, hnm⟩) (wT 8 rfl) (ty := .byte) (v' := (.int (nar .byte (0 : Int32)))) (by decide) rfl (fits_nar_byte _) (g := (mkF m 24 #[vR a1, vR sb, .val .null, vR va, vI (Int32.ofNat acc.length)] [(.int 0), (.ref a1)])) rfl rfl (Y0.d 13 rfl)
 refine og T5 m 27 #[vR a1, vR sb, .val .null, vR va, vI (Int32.ofNat acc.length)] [] st5 ?_
 have Fw5 := f2.same W5
 rw [(by decide : nar .byte (0 : Int32) = (0 : Int32))] at Fw5
 have F5_1 := f0.wr W5
 have F5_2 := f1.other W5 (Or.inr (slot_ne (Or.inr (wT 35 rfl)) (Or.inr (wT 33 rfl)) (by decide) (t := (.array .byte)) (t' := .byte) (by decide) (by decide)))
 have F5_8 := f9.other W5 (Exa.ne f10 f0 (by decide))
 have F5_9 := f10.wr W5
 have Ol5 := X00.wr W5 f3
 have K5 : Keep h0 h5 ([a1] : List Addr) := K0.wr W5 (Or.inl (List.mem_of_getElem? (i := 0) rfl))
 have N5 := Fr.snoc X5 N4 f3
 have Y5 := Y0.nx X5
 refine oaN Y5 14 rfl rfl rfl <| oaN Y5 15 rfl rfl rfl <| oic 0 Y5 16 rfl rfl <| oil Y5 17 rfl rfl ?_
 refine oCS X5 Y5 hZ hml hown (wT 157 rfl) (wT 158 rfl) (wT 159 rfl) (wT 160 rfl) (rm_cr_240 Gl Ol5 va kv vsb acc.length F5_8 F5_9 hln hvl) e5 18 rfl 3 1 pd_62477155 rfl rfl rfl rfl (by decide +kernel) ?_
 intro v6 T6 L6 X6 Y6 hQ6
 obtain ⟨t_6, k_6, rfl, Nq6, Kq6, zq6_0, fq6_0⟩ := hQ6
 show OwnH p e below _ T6 m _ _ [(.ref t_6), (.ref a1)]
 have N6 := Fr.app N5 Nq6
 have ne_a1_t_6 : a1 ≠ t_6 := Nat.ne_of_lt (Nat.lt_of_lt_of_le F5_1.lt zq6_0)
 have s_t_6 : h0.size ≤ t_6 := Nat.le_trans K5.1 zq6_0
 have F6_10 := F5_1.keep Kq6
 have F6_11 := F5_2.keep Kq6 nin0
 have F6_12 := Fw5.keep Kq6 nin0
 have K6 : Keep h0 T6.heap ([a1] : List Addr) := K5.trans Kq6 all0
 obtain ⟨T7, h7, X7, e7, W7, st7⟩ := putF X6 hx hZ hown (host := "") (Or.inl (wT 34 rfl)) Via.refl rfl F6_11 F6_10 (Or.inr ⟨(wT 35 rfl), rfl, hnm⟩) (wT 8 rfl) (ty := (.array .byte)) (by decide) rfl rfl (g := (mkF m 35 #[vR a1, vR sb, .val .null, vR va, vI (Int32.ofNat acc.length)] [(.ref t_6), (.ref a1)])) rfl rfl (Y0.d 19 rfl)
 refine og T7 m 38 #[vR a1, vR sb, .val .null, vR va, vI (Int32.ofNat acc.length)] [] st7 ?_
 have Fw7 := F6_11.same W7
 have F7_20 := F6_10.wr W7
 have F7_21 := F6_12.other W7 (Or.inr (slot_ne (Or.inr (wT 33 rfl)) (Or.inr (wT 35 rfl)) (by decide) (t := .byte) (t' := (.array .byte)) (by decide) (by decide)))
 have F7_29 := fq6_0.other W7 (Ne.symm ne_a1_t_6)
 have K7 : Keep h0 h7 ([a1] : List Addr) := K6.wr W7 (Or.inl (List.mem_of_getElem? (i := 0) rfl))
 have N7 := Fr.snoc X7 N6 f3
 have Y7 := Y0.nx X7
 refine ogt 97 Y7 20 rfl rfl ?_
 exact orV X7 Y7 hlk Bd.returns 50 rfl (by decide) (by decide) e7 ⟨t_6, k_6, (vsb.take acc.length), rfl, N7, K7, s_t_6, F7_20, Fw7, F7_21, F7_29, (own_lb_str hrg hlb hln)⟩
def Q_siBA (Z : State) (a1 : Addr) (sb : Addr) (va : Addr) (kv : ClassId) (vsb : List Value) (ml : Int32) (acc : List Int32) : OwnP := fun h0 n0 v h L => ∃ (t : Addr), ∃ (k : ClassId), ∃ (vs : List Value), v = none ∧ Fr n0 L ∧ Keep h0 h ([a1] : List Addr) ∧ h0.size ≤ t ∧ Exa Z h a1 "java/lang/String" ∧ Fld Z h a1 "java/lang/String" "value" "[B" (.ref t) ∧ Fld Z h a1 "java/lang/String" "coder" "B" (.int 0) ∧ Arv Z h t k .byte (Int32.ofNat acc.length) vs (.int 0) ∧ (OwnStr acc (0 : Int32) (Int32.ofNat acc.length) vs)
def ll53 : List (Nat × Instr × Nat) := [(0, .aload_n 0, 1), (1, .aload_n 1, 1), (2, .aconst_null, 1), (3, .invokespecial 489, 3), (6, .return_, 1)]
theorem dl53 : OwnDec jdk_42_method_53_code ll53 := by decide +kernel
theorem pd_42496373 : parseMethodDescriptor "(Ljava/lang/AbstractStringBuilder;Ljava/lang/Void;)V" = some ⟨[(.object "java/lang/AbstractStringBuilder"), (.object "java/lang/Void")], none⟩ := by decide +kernel
theorem rm_siBA (Gl : OwnGl Z a0 wG1 wG3) (X00 : Old Z n0 h0) (a1 : Addr) (sb : Addr) (va : Addr) (kv : ClassId) (vsb : List Value) (ml : Int32) (acc : List Int32) (f0 : Exa Z h0 a1 "java/lang/String") (f1 : Fld Z h0 a1 "java/lang/String" "value" "[B" .null) (f2 : Fld Z h0 a1 "java/lang/String" "coder" "B" (.int 0)) (f3 : n0 ≤ a1) (f4 : Exa Z h0 sb "java/lang/StringBuilder") (f5 : Fld Z h0 sb "java/lang/AbstractStringBuilder" "value" "[B" (.ref va)) (f6 : Fld Z h0 sb "java/lang/AbstractStringBuilder" "coder" "B" (.int 0)) (f7 : Fld Z h0 sb "java/lang/AbstractStringBuilder" "count" "I" (.int (Int32.ofNat acc.length))) (f8 : Fld Z h0 sb "java/lang/AbstractStringBuilder" "maybeLatin1" "Z" (.int ml)) (f9 : Arv Z h0 va kv .byte (240 : Int32) vsb (.int 0)) (f10 : Exa Z h0 va "[B") (hln : acc.length ≤ 240) (hvl : vsb.length = 240) (hlb : OwnLB acc vsb) (hrg : OwnRg acc) : OwnM l Z mN53 jdk_42_method_53_code 2 none (oR 4 1 240 65) #[(.ref a1), (.ref sb)] h0 (Q_siBA Z a1 sb va kv vsb ml acc h0 n0) := by
 refine own_in (plainFor_of_name pn_52039224) dl53 #[vR a1, vR sb] (oE rfl) ?_
 intro p e s m below meth c s₁ Bd hml hZ X0 e0 hx hlk Y0 hown
 obtain ⟨hw, cx, hEL⟩ := id Gl
 have wT := oww hw
 have N0 := Fr.nil n0
 have K0 : Keep h0 h0 ([a1] : List Addr) := Keep.refl _ _
 refine oaN Y0 0 rfl rfl rfl <| oaN Y0 1 rfl rfl rfl <| onl Y0 2 rfl ?_
 obtain ⟨_, _, ⟨T1, L1, k1, n1⟩, -, X1, ⟨Lc1, hQ1, l1, y1, z1⟩, st1⟩ := X0.specialBack hx (y := mN52) rfl hown (mvT hZ (wT 146 rfl)) (mvT hZ (wT 147 rfl)) (mvT hZ (wT 148 rfl)) (by decide) (backOf (W := 0) (rm_siAA Gl X00 a1 sb va kv vsb ml acc f0 f1 f2 f3 f4 f5 f6 f7 f8 f9 f10 hln hvl hlb hrg) hZ (wT 148 rfl) (wT 9 rfl) (by decide) (by decide)) (g := (mkF m 3 #[vR a1, vR sb] [.null, (.ref sb), (.ref a1)])) rfl (by rw [hml]; rfl) (Steps.refl _) (a := a1) (argsL := [(.ref sb), .null]) (rest := []) (lenOf pd_42496373 rfl) rfl (Nat.le_of_eq rfl) (Y0.d 3 rfl) (fun _ _ => ⟨rfl, e0, (by decide : 0 + 1 ≤ _), (by decide : 0 + 240 ≤ _)⟩)
 dsimp only [Pt.U, Pt.locs, Pt.cells, Pt.slots] at X1 l1 y1 z1 st1 hQ1
 subst l1 y1 z1
 obtain ⟨t_1, k_1, vs_1, rfl, Nq1, Kq1, zq1_0, fq1_0, fq1_1, fq1_2, fq1_3, pq1_0⟩ := hQ1
 refine OwnGoes.tr (T' := T1) (g' := (mkF m 6 #[vR a1, vR sb] [])) st1 ?_
 have N1 := Fr.app N0 Nq1
 have s_t_1 : h0.size ≤ t_1 := Nat.le_trans K0.1 zq1_0
 have K1 : Keep h0 T1.heap ([a1] : List Addr) := K0.trans Kq1 (allS (Or.inl (List.mem_of_getElem? (i := 0) rfl)) all0)
 have Y1 := Y0.nx X1
 exact orV X1 Y1 hlk Bd.returns 4 rfl (by decide) (by decide) rfl ⟨t_1, k_1, vs_1, rfl, N1, K1, s_t_1, fq1_0, fq1_1, fq1_2, fq1_3, pq1_0⟩
def Q_toSA (Z : State) (sb : Addr) (va : Addr) (kv : ClassId) (vsb : List Value) (ml : Int32) (acc : List Int32) : OwnP := fun h0 n0 v h L => ∃ (x : Addr), ∃ (t : Addr), ∃ (k : ClassId), ∃ (vs : List Value), v = some (.ref x) ∧ Fr n0 L ∧ Keep h0 h ([] : List Addr) ∧ h0.size ≤ x ∧ h0.size ≤ t ∧ Exa Z h x "java/lang/String" ∧ Fld Z h x "java/lang/String" "value" "[B" (.ref t) ∧ Fld Z h x "java/lang/String" "coder" "B" (.int 0) ∧ Arv Z h t k .byte (Int32.ofNat acc.length) vs (.int 0) ∧ (OwnStr acc (0 : Int32) (Int32.ofNat acc.length) vs)
def ll54 : List (Nat × Instr × Nat) := [(0, .new 18, 3), (3, .dup, 1), (4, .aload_n 0, 1), (5, .invokespecial 137, 3), (8, .areturn, 1)]
theorem dl54 : OwnDec jdk_67_method_42_code ll54 := by decide +kernel
theorem pd_6531027 : parseMethodDescriptor "(Ljava/lang/StringBuilder;)V" = some ⟨[(.object "java/lang/StringBuilder")], none⟩ := by decide +kernel
theorem rm_toSA (Gl : OwnGl Z a0 wG1 wG3) (X00 : Old Z n0 h0) (sb : Addr) (va : Addr) (kv : ClassId) (vsb : List Value) (ml : Int32) (acc : List Int32) (f0 : Exa Z h0 sb "java/lang/StringBuilder") (f1 : Fld Z h0 sb "java/lang/AbstractStringBuilder" "value" "[B" (.ref va)) (f2 : Fld Z h0 sb "java/lang/AbstractStringBuilder" "coder" "B" (.int 0)) (f3 : Fld Z h0 sb "java/lang/AbstractStringBuilder" "count" "I" (.int (Int32.ofNat acc.length))) (f4 : Fld Z h0 sb "java/lang/AbstractStringBuilder" "maybeLatin1" "Z" (.int ml)) (f5 : Arv Z h0 va kv .byte (240 : Int32) vsb (.int 0)) (f6 : Exa Z h0 va "[B") (hln : acc.length ≤ 240) (hvl : vsb.length = 240) (hlb : OwnLB acc vsb) (hrg : OwnRg acc) : OwnM l Z mN54 jdk_67_method_42_code 1 (some (.object "java/lang/String")) (oR 5 2 244 79) #[(.ref sb)] h0 (Q_toSA Z sb va kv vsb ml acc h0 n0) := by
 refine own_in (plainFor_of_name pn_27209738) dl54 #[vR sb] (oE rfl) ?_
 intro p e s m below meth c s₁ Bd hml hZ X0 e0 hx hlk Y0 hown
 obtain ⟨hw, cx, hEL⟩ := id Gl
 have wT := oww hw
 have N0 := Fr.nil n0
 have Z0 : n0 ≤ h0.size := X00.1 ▸ X00.2.1
 have K0 : Keep h0 h0 ([] : List Addr) := Keep.refl _ _
 obtain ⟨T1, h1, X1, e1, E1, A1, D1, U1, st1⟩ := newO X0 hx hZ hown (wT 142 rfl) (wT 8 rfl) (wT 9 rfl) e0 (g := (mkF m 0 #[vR sb] [])) rfl (Y0.d 0 rfl) (by decide) (by decide)
 obtain ⟨b1, g1⟩ : ∃ z, z = h0.size := ⟨_, rfl⟩
 rw [← g1] at A1 D1 U1 st1
 refine og T1 m 3 #[vR sb] [(.ref b1)] st1 ?_
 have g_b1 : n0 ≤ b1 := Nat.le_trans (Nat.le_trans Z0 K0.1) (Nat.le_of_eq g1.symm)
 have s_b1 : h0.size ≤ b1 := Nat.le_trans K0.1 (Nat.le_of_eq g1.symm)
 have F1_1 := f0.ext E1
 have F1_2 := f1.ext E1
 have F1_3 := f2.ext E1
 have F1_4 := f3.ext E1
 have F1_5 := f4.ext E1
 have F1_6 := f5.ext E1
 have F1_7 := f6.ext E1
 have Ol1 := X00.ext E1
 have K1 : Keep h0 h1 ([] : List Addr) := K0.ext E1
 have F1_8 : Fld Z h1 b1 "java/lang/String" "coder" "B" (.int 0) := D1 (Or.inr (wT 33 rfl)) (ty := .byte) (by decide)
 have F1_9 : Fld Z h1 b1 "java/lang/String" "value" "[B" .null := D1 (Or.inr (wT 35 rfl)) (ty := (.array .byte)) (by decide)
 have Y1 := Y0.nx X1
 refine odup Y1 1 rfl rfl <| oaN Y1 2 rfl rfl rfl ?_
 obtain ⟨_, _, ⟨T2, L2, k2, n2⟩, -, X2, ⟨Lc2, hQ2, l2, y2, z2⟩, st2⟩ := X1.specialBack hx (y := mN53) rfl hown (mvT hZ (wT 143 rfl)) (mvT hZ (wT 144 rfl)) (mvT hZ (wT 145 rfl)) (by decide) (backOf (W := 1) (rm_siBA Gl Ol1 b1 sb va kv vsb ml acc A1 F1_9 F1_8 g_b1 F1_1 F1_2 F1_3 F1_4 F1_5 F1_6 F1_7 hln hvl hlb hrg) hZ (wT 145 rfl) (wT 9 rfl) (by decide) (by decide)) (g := (mkF m 5 #[vR sb] [(.ref sb), (.ref b1), (.ref b1)])) rfl (by rw [hml]; rfl) (Steps.refl _) (a := b1) (argsL := [(.ref sb)]) (rest := [(.ref b1)]) (lenOf pd_6531027 rfl) rfl (Nat.le_of_eq rfl) (Y0.d 3 rfl) (fun _ _ => ⟨rfl, e1, (by decide : 1 + 1 ≤ _), (by decide : 4 + 240 ≤ _)⟩)
 dsimp only [Pt.U, Pt.locs, Pt.cells, Pt.slots] at X2 l2 y2 z2 st2 hQ2
 subst l2 y2 z2
 obtain ⟨t_2, k_2, vs_2, rfl, Nq2, Kq2, zq2_0, fq2_0, fq2_1, fq2_2, fq2_3, pq2_0⟩ := hQ2
 refine OwnGoes.tr (T' := T2) (g' := (mkF m 8 #[vR sb] [(.ref b1)])) st2 ?_
 have N2 := Fr.app N0 Nq2
 have s_t_2 : h0.size ≤ t_2 := Nat.le_trans K1.1 zq2_0
 have K2 : Keep h0 T2.heap ([] : List Addr) := K1.trans Kq2 (allS (Or.inr s_b1) all0)
 have Y2 := Y0.nx X2
 exact orA X2 Y2 hlk Bd.returns rfl rfl rfl 4 rfl (by decide) (by decide) rfl ⟨b1, t_2, k_2, vs_2, rfl, N2, K2, s_b1, s_t_2, fq2_0, fq2_1, fq2_2, fq2_3, pq2_0⟩
def Q_siAB (Z : State) (a1 : Addr) (sb : Addr) (va : Addr) (kv : ClassId) (vsb : List Value) (acc : List Int32) : OwnP := fun h0 n0 v h L => ∃ (t : Addr), ∃ (k : ClassId), ∃ (vs : List Value), v = none ∧ Fr n0 L ∧ Keep h0 h ([a1] : List Addr) ∧ h0.size ≤ t ∧ Exa Z h a1 "java/lang/String" ∧ Fld Z h a1 "java/lang/String" "value" "[B" (.ref t) ∧ Fld Z h a1 "java/lang/String" "coder" "B" (.int 1) ∧ Arv Z h t k .byte (Int32.ofNat (2 * acc.length)) vs (.int 0) ∧ (OwnStr acc (1 : Int32) (Int32.ofNat (2 * acc.length)) vs)
theorem rm_siAB (Gl : OwnGl Z a0 wG1 wG3) (X00 : Old Z n0 h0) (a1 : Addr) (sb : Addr) (va : Addr) (kv : ClassId) (vsb : List Value) (acc : List Int32) (f0 : Exa Z h0 a1 "java/lang/String") (f1 : Fld Z h0 a1 "java/lang/String" "value" "[B" .null) (f2 : Fld Z h0 a1 "java/lang/String" "coder" "B" (.int 0)) (f3 : n0 ≤ a1) (f4 : Exa Z h0 sb "java/lang/StringBuilder") (f5 : Fld Z h0 sb "java/lang/AbstractStringBuilder" "value" "[B" (.ref va)) (f6 : Fld Z h0 sb "java/lang/AbstractStringBuilder" "coder" "B" (.int 1)) (f7 : Fld Z h0 sb "java/lang/AbstractStringBuilder" "count" "I" (.int (Int32.ofNat acc.length))) (f8 : Fld Z h0 sb "java/lang/AbstractStringBuilder" "maybeLatin1" "Z" (.int 0)) (f9 : Arv Z h0 va kv .byte (480 : Int32) vsb (.int 0)) (f10 : Exa Z h0 va "[B") (hln : acc.length ≤ 240) (hvl : vsb.length = 480) (hub : OwnUB acc vsb) (hrg : OwnRg acc) (hexA : ∃ c ∈ acc, (255 : Int32) < c) : OwnM l Z mN52 jdk_42_method_150_code 5 none (oR 3 1 480 49) #[(.ref a1), (.ref sb), .null] h0 (Q_siAB Z a1 sb va kv vsb acc h0 n0) := by
 refine own_in (plainFor_of_name pn_52039224) dl52 #[vR a1, vR sb, .val .null, vU, vU] (oE rfl) ?_
 intro p e s m below meth c s₁ Bd hml hZ X0 e0 hx hlk Y0 hown
 obtain ⟨hw, cx, hEL⟩ := id Gl
 have wT := oww hw
 obtain ⟨wO2, wP5, wO4, wrG3, hstr, wUA, wUH, wUL⟩ := id cx
 have hnm := (name_of_methodNamed Bd.named Bd.method).1
 have N0 := Fr.nil n0
 have K0 : Keep h0 h0 ([a1] : List Addr) := Keep.refl _ _
 refine oaN Y0 0 rfl rfl rfl ?_
 obtain ⟨T1, X1, e1, st1⟩ := initO X0 hx hZ hown (wT 17 rfl) (wT 18 rfl) (wT 19 rfl) e0 (g := (mkF m 1 #[vR a1, vR sb, .val .null, vU, vU] [(.ref a1)])) rfl (by rw [hml]; rfl) rfl (Y0.d 1 rfl) (by decide) (W := 0) (Nat.le_of_eq rfl) (by decide)
 refine og T1 m 4 #[vR a1, vR sb, .val .null, vU, vU] [] st1 ?_
 have Y1 := Y0.nx X1
 refine oaN Y1 2 rfl rfl rfl ?_
 refine oCV X1 Y1 hZ hml hown (wT 149 rfl) (wT 150 rfl) (notFace_of_selects (args := #[]) (mvT hZ (wT 152 rfl))) (wT 152 rfl) (wT 151 rfl) (wT 153 rfl) (wT 57 rfl) (rm_getV Gl X00 sb va f4 f5) e1 f4 3 rfl 0 0 pd_99157121 rfl rfl rfl rfl rfl (by decide +kernel) (by decide +kernel) ?_
 intro v2 T2 L2 X2 Y2 hQ2
 obtain ⟨rfl, Nq2, eq2⟩ := hQ2
 show OwnH p e below _ T2 m _ _ [(.ref va)]
 have N2 := Fr.app N0 Nq2
 refine oaS Y2 4 rfl #[vR a1, vR sb, .val .null, vR va, vU] rfl rfl <| oaN Y2 5 rfl rfl rfl ?_
 refine oCV X2 Y2 hZ hml hown (wT 154 rfl) (wT 111 rfl) (own_notface (args := #[]) (mvT hZ (wT 127 rfl)) rfl) (wT 155 rfl) (wT 105 rfl) (wT 107 rfl) (wT 49 rfl) (rm_sln Gl X00 sb (Int32.ofNat acc.length) f4 f7) eq2 f4 6 rfl 0 0 pd_86913941 rfl rfl rfl rfl rfl (by decide +kernel) (by decide +kernel) ?_
 intro v3 T3 L3 X3 Y3 hQ3
 obtain ⟨rfl, Nq3, eq3⟩ := hQ3
 show OwnH p e below _ T3 m _ _ [(.int (Int32.ofNat acc.length))]
 have N3 := Fr.app N2 Nq3
 refine ois Y3 7 rfl #[vR a1, vR sb, .val .null, vR va, vI (Int32.ofNat acc.length)] rfl <| oaN Y3 8 rfl rfl rfl ?_
 refine oCV X3 Y3 hZ hml hown (wT 156 rfl) (wT 130 rfl) (notFace_of_selects (args := #[]) (mvT hZ (wT 132 rfl))) (wT 132 rfl) (wT 131 rfl) (wT 133 rfl) (wT 57 rfl) (rm_ail_1 Gl X00 sb f4 f6) eq3 f4 9 rfl 0 0 pd_15861835 rfl rfl rfl rfl rfl (by decide +kernel) (by decide +kernel) ?_
 intro v4 T4 L4 X4 Y4 hQ4
 obtain ⟨rfl, Nq4, eq4⟩ := hQ4
 show OwnH p e below _ T4 m _ _ [(.int 0)]
 have N4 := Fr.app N3 Nq4
 refine oify 41 Y4 10 rfl rfl ((if0 _ _).trans (teq (by decide : (0 : Int32) = (0 : Int32))).1) ?_
 refine oGS X4 Y4 hZ hown (wT 20 rfl) Via.refl eq4 (wO2.ext X00.2) 21 rfl ?_
 intro T5 X5 Y5 e5
 refine oifn Y5 22 rfl ((if0 _ _).trans (feq wP5).1) <| oaN Y5 23 rfl rfl rfl ?_
 refine oGF X5 Y5 hZ hown (wT 278 rfl) Via.refl e5 f8 24 rfl ?_
 intro T6 X6 Y6 e6
 refine oify 79 Y6 25 rfl rfl ((if0 _ _).trans (teq (by decide : (0 : Int32) = (0 : Int32))).1) <| oaN Y6 39 rfl rfl rfl <| oic 1 Y6 40 rfl rfl ?_
 obtain ⟨T7, h7, X7, e7, W7, st7⟩ := putFN X6 hx hZ hown (wT 32 rfl) Via.refl e6 f2 f0 (Or.inr ⟨(wT 33 rfl), rfl, hnm⟩) (wT 8 rfl) (ty := .byte) (v' := (.int (nar .byte (1 : Int32)))) (by decide) rfl (fits_nar_byte _) (g := (mkF m 81 #[vR a1, vR sb, .val .null, vR va, vI (Int32.ofNat acc.length)] [(.int 1), (.ref a1)])) rfl rfl (Y0.d 41 rfl)
 refine og T7 m 84 #[vR a1, vR sb, .val .null, vR va, vI (Int32.ofNat acc.length)] [] st7 ?_
 have Fw7 := f2.same W7
 rw [(by decide : nar .byte (1 : Int32) = (1 : Int32))] at Fw7
 have F7_1 := f0.wr W7
 have F7_2 := f1.other W7 (Or.inr (slot_ne (Or.inr (wT 35 rfl)) (Or.inr (wT 33 rfl)) (by decide) (t := (.array .byte)) (t' := .byte) (by decide) (by decide)))
 have F7_8 := f9.other W7 (Exa.ne f10 f0 (by decide))
 have F7_9 := f10.wr W7
 have Ol7 := X00.wr W7 f3
 have K7 : Keep h0 h7 ([a1] : List Addr) := K0.wr W7 (Or.inl (List.mem_of_getElem? (i := 0) rfl))
 have N7 := Fr.snoc X7 N4 f3
 have Y7 := Y0.nx X7
 refine oaN Y7 42 rfl rfl rfl <| oaN Y7 43 rfl rfl rfl <| oic 0 Y7 44 rfl rfl <| oil Y7 45 rfl rfl <| oic 1 Y7 46 rfl rfl <| oshl Y7 47 rfl ?_
 refine og T7 m 91 #[vR a1, vR sb, .val .null, vR va, vI (Int32.ofNat acc.length)] [(.int (Int32.ofNat (2 * acc.length))), (.int 0), (.ref va), (.ref a1)] (fun tgt kgo => castTop (by rw [(own_shlN (j := acc.length) (by omega))]) kgo) ?_
 refine oCS X7 Y7 hZ hml hown (wT 157 rfl) (wT 158 rfl) (wT 159 rfl) (wT 160 rfl) (rm_cr_480 Gl Ol7 va kv vsb (2 * acc.length) F7_8 F7_9 (by omega) hvl) e7 48 rfl 3 1 pd_62477155 rfl rfl rfl rfl (by decide +kernel) ?_
 intro v8 T8 L8 X8 Y8 hQ8
 obtain ⟨t_8, k_8, rfl, Nq8, Kq8, zq8_0, fq8_0⟩ := hQ8
 show OwnH p e below _ T8 m _ _ [(.ref t_8), (.ref a1)]
 have N8 := Fr.app N7 Nq8
 have ne_a1_t_8 : a1 ≠ t_8 := Nat.ne_of_lt (Nat.lt_of_lt_of_le F7_1.lt zq8_0)
 have s_t_8 : h0.size ≤ t_8 := Nat.le_trans K7.1 zq8_0
 have F8_10 := F7_1.keep Kq8
 have F8_11 := F7_2.keep Kq8 nin0
 have F8_12 := Fw7.keep Kq8 nin0
 have K8 : Keep h0 T8.heap ([a1] : List Addr) := K7.trans Kq8 all0
 obtain ⟨T9, h9, X9, e9, W9, st9⟩ := putF X8 hx hZ hown (host := "") (Or.inl (wT 34 rfl)) Via.refl rfl F8_11 F8_10 (Or.inr ⟨(wT 35 rfl), rfl, hnm⟩) (wT 8 rfl) (ty := (.array .byte)) (by decide) rfl rfl (g := (mkF m 94 #[vR a1, vR sb, .val .null, vR va, vI (Int32.ofNat acc.length)] [(.ref t_8), (.ref a1)])) rfl rfl (Y0.d 49 rfl)
 refine og T9 m 97 #[vR a1, vR sb, .val .null, vR va, vI (Int32.ofNat acc.length)] [] st9 ?_
 have Fw9 := F8_11.same W9
 have F9_20 := F8_10.wr W9
 have F9_21 := F8_12.other W9 (Or.inr (slot_ne (Or.inr (wT 33 rfl)) (Or.inr (wT 35 rfl)) (by decide) (t := .byte) (t' := (.array .byte)) (by decide) (by decide)))
 have F9_29 := fq8_0.other W9 (Ne.symm ne_a1_t_8)
 have K9 : Keep h0 h9 ([a1] : List Addr) := K8.wr W9 (Or.inl (List.mem_of_getElem? (i := 0) rfl))
 have N9 := Fr.snoc X9 N8 f3
 have Y9 := Y0.nx X9
 exact orV X9 Y9 hlk Bd.returns 50 rfl (by decide) (by decide) e9 ⟨t_8, k_8, (vsb.take (2 * acc.length)), rfl, N9, K9, s_t_8, F9_20, Fw9, F9_21, F9_29, (own_ub_str hrg hub hln hexA)⟩
def Q_siBB (Z : State) (a1 : Addr) (sb : Addr) (va : Addr) (kv : ClassId) (vsb : List Value) (acc : List Int32) : OwnP := fun h0 n0 v h L => ∃ (t : Addr), ∃ (k : ClassId), ∃ (vs : List Value), v = none ∧ Fr n0 L ∧ Keep h0 h ([a1] : List Addr) ∧ h0.size ≤ t ∧ Exa Z h a1 "java/lang/String" ∧ Fld Z h a1 "java/lang/String" "value" "[B" (.ref t) ∧ Fld Z h a1 "java/lang/String" "coder" "B" (.int 1) ∧ Arv Z h t k .byte (Int32.ofNat (2 * acc.length)) vs (.int 0) ∧ (OwnStr acc (1 : Int32) (Int32.ofNat (2 * acc.length)) vs)
theorem rm_siBB (Gl : OwnGl Z a0 wG1 wG3) (X00 : Old Z n0 h0) (a1 : Addr) (sb : Addr) (va : Addr) (kv : ClassId) (vsb : List Value) (acc : List Int32) (f0 : Exa Z h0 a1 "java/lang/String") (f1 : Fld Z h0 a1 "java/lang/String" "value" "[B" .null) (f2 : Fld Z h0 a1 "java/lang/String" "coder" "B" (.int 0)) (f3 : n0 ≤ a1) (f4 : Exa Z h0 sb "java/lang/StringBuilder") (f5 : Fld Z h0 sb "java/lang/AbstractStringBuilder" "value" "[B" (.ref va)) (f6 : Fld Z h0 sb "java/lang/AbstractStringBuilder" "coder" "B" (.int 1)) (f7 : Fld Z h0 sb "java/lang/AbstractStringBuilder" "count" "I" (.int (Int32.ofNat acc.length))) (f8 : Fld Z h0 sb "java/lang/AbstractStringBuilder" "maybeLatin1" "Z" (.int 0)) (f9 : Arv Z h0 va kv .byte (480 : Int32) vsb (.int 0)) (f10 : Exa Z h0 va "[B") (hln : acc.length ≤ 240) (hvl : vsb.length = 480) (hub : OwnUB acc vsb) (hrg : OwnRg acc) (hexA : ∃ c ∈ acc, (255 : Int32) < c) : OwnM l Z mN53 jdk_42_method_53_code 2 none (oR 4 1 480 65) #[(.ref a1), (.ref sb)] h0 (Q_siBB Z a1 sb va kv vsb acc h0 n0) := by
 refine own_in (plainFor_of_name pn_52039224) dl53 #[vR a1, vR sb] (oE rfl) ?_
 intro p e s m below meth c s₁ Bd hml hZ X0 e0 hx hlk Y0 hown
 obtain ⟨hw, cx, hEL⟩ := id Gl
 have wT := oww hw
 have N0 := Fr.nil n0
 have K0 : Keep h0 h0 ([a1] : List Addr) := Keep.refl _ _
 refine oaN Y0 0 rfl rfl rfl <| oaN Y0 1 rfl rfl rfl <| onl Y0 2 rfl ?_
 obtain ⟨_, _, ⟨T1, L1, k1, n1⟩, -, X1, ⟨Lc1, hQ1, l1, y1, z1⟩, st1⟩ := X0.specialBack hx (y := mN52) rfl hown (mvT hZ (wT 146 rfl)) (mvT hZ (wT 147 rfl)) (mvT hZ (wT 148 rfl)) (by decide) (backOf (W := 0) (rm_siAB Gl X00 a1 sb va kv vsb acc f0 f1 f2 f3 f4 f5 f6 f7 f8 f9 f10 hln hvl hub hrg hexA) hZ (wT 148 rfl) (wT 9 rfl) (by decide) (by decide)) (g := (mkF m 3 #[vR a1, vR sb] [.null, (.ref sb), (.ref a1)])) rfl (by rw [hml]; rfl) (Steps.refl _) (a := a1) (argsL := [(.ref sb), .null]) (rest := []) (lenOf pd_42496373 rfl) rfl (Nat.le_of_eq rfl) (Y0.d 3 rfl) (fun _ _ => ⟨rfl, e0, (by decide : 0 + 1 ≤ _), (by decide : 0 + 480 ≤ _)⟩)
 dsimp only [Pt.U, Pt.locs, Pt.cells, Pt.slots] at X1 l1 y1 z1 st1 hQ1
 subst l1 y1 z1
 obtain ⟨t_1, k_1, vs_1, rfl, Nq1, Kq1, zq1_0, fq1_0, fq1_1, fq1_2, fq1_3, pq1_0⟩ := hQ1
 refine OwnGoes.tr (T' := T1) (g' := (mkF m 6 #[vR a1, vR sb] [])) st1 ?_
 have N1 := Fr.app N0 Nq1
 have s_t_1 : h0.size ≤ t_1 := Nat.le_trans K0.1 zq1_0
 have K1 : Keep h0 T1.heap ([a1] : List Addr) := K0.trans Kq1 (allS (Or.inl (List.mem_of_getElem? (i := 0) rfl)) all0)
 have Y1 := Y0.nx X1
 exact orV X1 Y1 hlk Bd.returns 4 rfl (by decide) (by decide) rfl ⟨t_1, k_1, vs_1, rfl, N1, K1, s_t_1, fq1_0, fq1_1, fq1_2, fq1_3, pq1_0⟩
def Q_toSB (Z : State) (sb : Addr) (va : Addr) (kv : ClassId) (vsb : List Value) (acc : List Int32) : OwnP := fun h0 n0 v h L => ∃ (x : Addr), ∃ (t : Addr), ∃ (k : ClassId), ∃ (vs : List Value), v = some (.ref x) ∧ Fr n0 L ∧ Keep h0 h ([] : List Addr) ∧ h0.size ≤ x ∧ h0.size ≤ t ∧ Exa Z h x "java/lang/String" ∧ Fld Z h x "java/lang/String" "value" "[B" (.ref t) ∧ Fld Z h x "java/lang/String" "coder" "B" (.int 1) ∧ Arv Z h t k .byte (Int32.ofNat (2 * acc.length)) vs (.int 0) ∧ (OwnStr acc (1 : Int32) (Int32.ofNat (2 * acc.length)) vs)
theorem rm_toSB (Gl : OwnGl Z a0 wG1 wG3) (X00 : Old Z n0 h0) (sb : Addr) (va : Addr) (kv : ClassId) (vsb : List Value) (acc : List Int32) (f0 : Exa Z h0 sb "java/lang/StringBuilder") (f1 : Fld Z h0 sb "java/lang/AbstractStringBuilder" "value" "[B" (.ref va)) (f2 : Fld Z h0 sb "java/lang/AbstractStringBuilder" "coder" "B" (.int 1)) (f3 : Fld Z h0 sb "java/lang/AbstractStringBuilder" "count" "I" (.int (Int32.ofNat acc.length))) (f4 : Fld Z h0 sb "java/lang/AbstractStringBuilder" "maybeLatin1" "Z" (.int 0)) (f5 : Arv Z h0 va kv .byte (480 : Int32) vsb (.int 0)) (f6 : Exa Z h0 va "[B") (hln : acc.length ≤ 240) (hvl : vsb.length = 480) (hub : OwnUB acc vsb) (hrg : OwnRg acc) (hexA : ∃ c ∈ acc, (255 : Int32) < c) : OwnM l Z mN54 jdk_67_method_42_code 1 (some (.object "java/lang/String")) (oR 5 2 484 79) #[(.ref sb)] h0 (Q_toSB Z sb va kv vsb acc h0 n0) := by
 refine own_in (plainFor_of_name pn_27209738) dl54 #[vR sb] (oE rfl) ?_
 intro p e s m below meth c s₁ Bd hml hZ X0 e0 hx hlk Y0 hown
 obtain ⟨hw, cx, hEL⟩ := id Gl
 have wT := oww hw
 have N0 := Fr.nil n0
 have Z0 : n0 ≤ h0.size := X00.1 ▸ X00.2.1
 have K0 : Keep h0 h0 ([] : List Addr) := Keep.refl _ _
 obtain ⟨T1, h1, X1, e1, E1, A1, D1, U1, st1⟩ := newO X0 hx hZ hown (wT 142 rfl) (wT 8 rfl) (wT 9 rfl) e0 (g := (mkF m 0 #[vR sb] [])) rfl (Y0.d 0 rfl) (by decide) (by decide)
 obtain ⟨b1, g1⟩ : ∃ z, z = h0.size := ⟨_, rfl⟩
 rw [← g1] at A1 D1 U1 st1
 refine og T1 m 3 #[vR sb] [(.ref b1)] st1 ?_
 have g_b1 : n0 ≤ b1 := Nat.le_trans (Nat.le_trans Z0 K0.1) (Nat.le_of_eq g1.symm)
 have s_b1 : h0.size ≤ b1 := Nat.le_trans K0.1 (Nat.le_of_eq g1.symm)
 have F1_1 := f0.ext E1
 have F1_2 := f1.ext E1
 have F1_3 := f2.ext E1
 have F1_4 := f3.ext E1
 have F1_5 := f4.ext E1
 have F1_6 := f5.ext E1
 have F1_7 := f6.ext E1
 have Ol1 := X00.ext E1
 have K1 : Keep h0 h1 ([] : List Addr) := K0.ext E1
 have F1_8 : Fld Z h1 b1 "java/lang/String" "coder" "B" (.int 0) := D1 (Or.inr (wT 33 rfl)) (ty := .byte) (by decide)
 have F1_9 : Fld Z h1 b1 "java/lang/String" "value" "[B" .null := D1 (Or.inr (wT 35 rfl)) (ty := (.array .byte)) (by decide)
 have Y1 := Y0.nx X1
 refine odup Y1 1 rfl rfl <| oaN Y1 2 rfl rfl rfl ?_
 obtain ⟨_, _, ⟨T2, L2, k2, n2⟩, -, X2, ⟨Lc2, hQ2, l2, y2, z2⟩, st2⟩ := X1.specialBack hx (y := mN53) rfl hown (mvT hZ (wT 143 rfl)) (mvT hZ (wT 144 rfl)) (mvT hZ (wT 145 rfl)) (by decide) (backOf (W := 1) (rm_siBB Gl Ol1 b1 sb va kv vsb acc A1 F1_9 F1_8 g_b1 F1_1 F1_2 F1_3 F1_4 F1_5 F1_6 F1_7 hln hvl hub hrg hexA) hZ (wT 145 rfl) (wT 9 rfl) (by decide) (by decide)) (g := (mkF m 5 #[vR sb] [(.ref sb), (.ref b1), (.ref b1)])) rfl (by rw [hml]; rfl) (Steps.refl _) (a := b1) (argsL := [(.ref sb)]) (rest := [(.ref b1)]) (lenOf pd_6531027 rfl) rfl (Nat.le_of_eq rfl) (Y0.d 3 rfl) (fun _ _ => ⟨rfl, e1, (by decide : 1 + 1 ≤ _), (by decide : 4 + 480 ≤ _)⟩)
 dsimp only [Pt.U, Pt.locs, Pt.cells, Pt.slots] at X2 l2 y2 z2 st2 hQ2
 subst l2 y2 z2
 obtain ⟨t_2, k_2, vs_2, rfl, Nq2, Kq2, zq2_0, fq2_0, fq2_1, fq2_2, fq2_3, pq2_0⟩ := hQ2
 refine OwnGoes.tr (T' := T2) (g' := (mkF m 8 #[vR sb] [(.ref b1)])) st2 ?_
 have N2 := Fr.app N0 Nq2
 have s_t_2 : h0.size ≤ t_2 := Nat.le_trans K1.1 zq2_0
 have K2 : Keep h0 T2.heap ([] : List Addr) := K1.trans Kq2 (allS (Or.inr s_b1) all0)
 have Y2 := Y0.nx X2
 exact orA X2 Y2 hlk Bd.returns rfl rfl rfl 4 rfl (by decide) (by decide) rfl ⟨b1, t_2, k_2, vs_2, rfl, N2, K2, s_b1, s_t_2, fq2_0, fq2_1, fq2_2, fq2_3, pq2_0⟩
def Q_siAC (Z : State) (a1 : Addr) (sb : Addr) (va : Addr) (kv : ClassId) (vsb : List Value) (acc : List Int32) : OwnP := fun h0 n0 v h L => ∃ (t : Addr), ∃ (k : ClassId), ∃ (vs : List Value), v = none ∧ Fr n0 L ∧ Keep h0 h ([a1] : List Addr) ∧ h0.size ≤ t ∧ Exa Z h a1 "java/lang/String" ∧ Fld Z h a1 "java/lang/String" "value" "[B" (.ref t) ∧ Fld Z h a1 "java/lang/String" "coder" "B" (.int 1) ∧ Arv Z h t k .byte (Int32.ofNat (2 * acc.length)) vs (.int 0) ∧ (OwnStr acc (1 : Int32) (Int32.ofNat (2 * acc.length)) vs)
theorem rm_siAC (Gl : OwnGl Z a0 wG1 wG3) (X00 : Old Z n0 h0) (a1 : Addr) (sb : Addr) (va : Addr) (kv : ClassId) (vsb : List Value) (acc : List Int32) (f0 : Exa Z h0 a1 "java/lang/String") (f1 : Fld Z h0 a1 "java/lang/String" "value" "[B" .null) (f2 : Fld Z h0 a1 "java/lang/String" "coder" "B" (.int 0)) (f3 : n0 ≤ a1) (f4 : Exa Z h0 sb "java/lang/StringBuilder") (f5 : Fld Z h0 sb "java/lang/AbstractStringBuilder" "value" "[B" (.ref va)) (f6 : Fld Z h0 sb "java/lang/AbstractStringBuilder" "coder" "B" (.int 1)) (f7 : Fld Z h0 sb "java/lang/AbstractStringBuilder" "count" "I" (.int (Int32.ofNat acc.length))) (f8 : Fld Z h0 sb "java/lang/AbstractStringBuilder" "maybeLatin1" "Z" (.int 1)) (f9 : Arv Z h0 va kv .byte (480 : Int32) vsb (.int 0)) (f10 : Exa Z h0 va "[B") (hln : acc.length ≤ 240) (hvl : vsb.length = 480) (hub : OwnUB acc vsb) (hrg : OwnRg acc) (hexA : ∃ c ∈ acc, (255 : Int32) < c) (h0l : 0 < acc.length) : OwnM l Z mN52 jdk_42_method_150_code 5 none (oR 5 2 720 79) #[(.ref a1), (.ref sb), .null] h0 (Q_siAC Z a1 sb va kv vsb acc h0 n0) := by
 refine own_in (plainFor_of_name pn_52039224) dl52 #[vR a1, vR sb, .val .null, vU, vU] (oE rfl) ?_
 intro p e s m below meth c s₁ Bd hml hZ X0 e0 hx hlk Y0 hown
 obtain ⟨hw, cx, hEL⟩ := id Gl
 have wT := oww hw
 obtain ⟨wO2, wP5, wO4, wrG3, hstr, wUA, wUH, wUL⟩ := id cx
 have hnm := (name_of_methodNamed Bd.named Bd.method).1
 have N0 := Fr.nil n0
 have K0 : Keep h0 h0 ([a1] : List Addr) := Keep.refl _ _
 refine oaN Y0 0 rfl rfl rfl ?_
 obtain ⟨T1, X1, e1, st1⟩ := initO X0 hx hZ hown (wT 17 rfl) (wT 18 rfl) (wT 19 rfl) e0 (g := (mkF m 1 #[vR a1, vR sb, .val .null, vU, vU] [(.ref a1)])) rfl (by rw [hml]; rfl) rfl (Y0.d 1 rfl) (by decide) (W := 0) (Nat.le_of_eq rfl) (by decide)
 refine og T1 m 4 #[vR a1, vR sb, .val .null, vU, vU] [] st1 ?_
 have Y1 := Y0.nx X1
 refine oaN Y1 2 rfl rfl rfl ?_
 refine oCV X1 Y1 hZ hml hown (wT 149 rfl) (wT 150 rfl) (notFace_of_selects (args := #[]) (mvT hZ (wT 152 rfl))) (wT 152 rfl) (wT 151 rfl) (wT 153 rfl) (wT 57 rfl) (rm_getV Gl X00 sb va f4 f5) e1 f4 3 rfl 0 0 pd_99157121 rfl rfl rfl rfl rfl (by decide +kernel) (by decide +kernel) ?_
 intro v2 T2 L2 X2 Y2 hQ2
 obtain ⟨rfl, Nq2, eq2⟩ := hQ2
 show OwnH p e below _ T2 m _ _ [(.ref va)]
 have N2 := Fr.app N0 Nq2
 refine oaS Y2 4 rfl #[vR a1, vR sb, .val .null, vR va, vU] rfl rfl <| oaN Y2 5 rfl rfl rfl ?_
 refine oCV X2 Y2 hZ hml hown (wT 154 rfl) (wT 111 rfl) (own_notface (args := #[]) (mvT hZ (wT 127 rfl)) rfl) (wT 155 rfl) (wT 105 rfl) (wT 107 rfl) (wT 49 rfl) (rm_sln Gl X00 sb (Int32.ofNat acc.length) f4 f7) eq2 f4 6 rfl 0 0 pd_86913941 rfl rfl rfl rfl rfl (by decide +kernel) (by decide +kernel) ?_
 intro v3 T3 L3 X3 Y3 hQ3
 obtain ⟨rfl, Nq3, eq3⟩ := hQ3
 show OwnH p e below _ T3 m _ _ [(.int (Int32.ofNat acc.length))]
 have N3 := Fr.app N2 Nq3
 refine ois Y3 7 rfl #[vR a1, vR sb, .val .null, vR va, vI (Int32.ofNat acc.length)] rfl <| oaN Y3 8 rfl rfl rfl ?_
 refine oCV X3 Y3 hZ hml hown (wT 156 rfl) (wT 130 rfl) (notFace_of_selects (args := #[]) (mvT hZ (wT 132 rfl))) (wT 132 rfl) (wT 131 rfl) (wT 133 rfl) (wT 57 rfl) (rm_ail_1 Gl X00 sb f4 f6) eq3 f4 9 rfl 0 0 pd_15861835 rfl rfl rfl rfl rfl (by decide +kernel) (by decide +kernel) ?_
 intro v4 T4 L4 X4 Y4 hQ4
 obtain ⟨rfl, Nq4, eq4⟩ := hQ4
 show OwnH p e below _ T4 m _ _ [(.int 0)]
 have N4 := Fr.app N3 Nq4
 refine oify 41 Y4 10 rfl rfl ((if0 _ _).trans (teq (by decide : (0 : Int32) = (0 : Int32))).1) ?_
 refine oGS X4 Y4 hZ hown (wT 20 rfl) Via.refl eq4 (wO2.ext X00.2) 21 rfl ?_
 intro T5 X5 Y5 e5
 refine oifn Y5 22 rfl ((if0 _ _).trans (feq wP5).1) <| oaN Y5 23 rfl rfl rfl ?_
 refine oGF X5 Y5 hZ hown (wT 278 rfl) Via.refl e5 f8 24 rfl ?_
 intro T6 X6 Y6 e6
 refine oifn Y6 25 rfl ((if0 _ _).trans (feq (by decide : ¬ ((1 : Int32) = (0 : Int32)))).1) <| oaN Y6 26 rfl rfl rfl <| oaN Y6 27 rfl rfl rfl <| oic 0 Y6 28 rfl rfl <| oil Y6 29 rfl rfl ?_
 refine oCS X6 Y6 hZ hml hown (wT 279 rfl) (wT 280 rfl) (wT 23 rfl) (wT 281 rfl) (rm_cub3 Gl X00 va kv vsb acc f9 f10 hln hvl hub hrg hexA) e6 30 rfl 3 1 pd_62477155 rfl rfl rfl rfl (by decide +kernel) ?_
 intro v7 T7 L7 X7 Y7 hQ7
 obtain ⟨t_7, k_7, vs_7, rfl, Nq7, Kq7, zq7_0, fq7_0, pq7_0⟩ := hQ7
 show OwnH p e below _ T7 m _ _ [(.ref t_7), (.ref a1)]
 have N7 := Fr.app N4 Nq7
 have ne_a1_t_7 : a1 ≠ t_7 := Nat.ne_of_lt (Nat.lt_of_lt_of_le f0.lt zq7_0)
 have s_t_7 : h0.size ≤ t_7 := Nat.le_trans K0.1 zq7_0
 have F7_1 := f0.keep Kq7
 have F7_2 := f1.keep Kq7 nin0
 have F7_3 := f2.keep Kq7 nin0
 have Ol7 := X00.keep Kq7 all0
 have K7 : Keep h0 T7.heap ([a1] : List Addr) := K0.trans Kq7 all0
 obtain ⟨T8, h8, X8, e8, W8, st8⟩ := putF X7 hx hZ hown (host := "") (Or.inl (wT 34 rfl)) Via.refl rfl F7_2 F7_1 (Or.inr ⟨(wT 35 rfl), rfl, hnm⟩) (wT 8 rfl) (ty := (.array .byte)) (by decide) rfl rfl (g := (mkF m 62 #[vR a1, vR sb, .val .null, vR va, vI (Int32.ofNat acc.length)] [(.ref t_7), (.ref a1)])) rfl rfl (Y0.d 31 rfl)
 refine og T8 m 65 #[vR a1, vR sb, .val .null, vR va, vI (Int32.ofNat acc.length)] [] st8 ?_
 have Fw8 := F7_2.same W8
 have F8_11 := F7_1.wr W8
 have F8_12 := F7_3.other W8 (Or.inr (slot_ne (Or.inr (wT 33 rfl)) (Or.inr (wT 35 rfl)) (by decide) (t := .byte) (t' := (.array .byte)) (by decide) (by decide)))
 have F8_20 := fq7_0.other W8 (Ne.symm ne_a1_t_7)
 have Ol8 := Ol7.wr W8 f3
 have K8 : Keep h0 h8 ([a1] : List Addr) := K7.wr W8 (Or.inl (List.mem_of_getElem? (i := 0) rfl))
 have N8 := Fr.snoc X8 N7 f3
 have Y8 := Y0.nx X8
 refine oaN Y8 32 rfl rfl rfl <| oaN Y8 33 rfl rfl rfl ?_
 refine oGF X8 Y8 hZ hown (wT 34 rfl) Via.refl e8 Fw8 34 rfl ?_
 intro T9 X9 Y9 e9
 refine oil Y9 35 rfl rfl ?_
 refine oCS X9 Y9 hZ hml hown (wT 29 rfl) (wT 30 rfl) (wT 23 rfl) (wT 31 rfl) (rm_cflA Gl Ol8 t_7 k_7 vs_7 acc.length F8_20 h0l (by omega)) e9 36 rfl 2 1 pd_68873100 rfl rfl rfl rfl (by decide +kernel) ?_
 intro v10 T10 L10 X10 Y10 hQ10
 obtain ⟨rfl, Nq10, eq10⟩ := hQ10
 show OwnH p e below _ T10 m _ _ [(.int 1), (.ref a1)]
 have N10 := Fr.app N8 Nq10
 obtain ⟨T11, h11, X11, e11, W11, st11⟩ := putFN X10 hx hZ hown (wT 32 rfl) Via.refl eq10 F8_12 F8_11 (Or.inr ⟨(wT 33 rfl), rfl, hnm⟩) (wT 8 rfl) (ty := .byte) (v' := (.int (nar .byte (1 : Int32)))) (by decide) rfl (fits_nar_byte _) (g := (mkF m 75 #[vR a1, vR sb, .val .null, vR va, vI (Int32.ofNat acc.length)] [(.int 1), (.ref a1)])) rfl rfl (Y0.d 37 rfl)
 refine og T11 m 78 #[vR a1, vR sb, .val .null, vR va, vI (Int32.ofNat acc.length)] [] st11 ?_
 have Fw11 := F8_12.same W11
 rw [(by decide : nar .byte (1 : Int32) = (1 : Int32))] at Fw11
 have F11_21 := F8_11.wr W11
 have F11_22 := Fw8.other W11 (Or.inr (slot_ne (Or.inr (wT 35 rfl)) (Or.inr (wT 33 rfl)) (by decide) (t := (.array .byte)) (t' := .byte) (by decide) (by decide)))
 have F11_30 := F8_20.other W11 (Ne.symm ne_a1_t_7)
 have K11 : Keep h0 h11 ([a1] : List Addr) := K8.wr W11 (Or.inl (List.mem_of_getElem? (i := 0) rfl))
 have N11 := Fr.snoc X11 N10 f3
 have Y11 := Y0.nx X11
 exact orV X11 Y11 hlk Bd.returns 38 rfl (by decide) (by decide) e11 ⟨t_7, k_7, vs_7, rfl, N11, K11, s_t_7, F11_21, F11_22, Fw11, F11_30, pq7_0⟩
def Q_siBC (Z : State) (a1 : Addr) (sb : Addr) (va : Addr) (kv : ClassId) (vsb : List Value) (acc : List Int32) : OwnP := fun h0 n0 v h L => ∃ (t : Addr), ∃ (k : ClassId), ∃ (vs : List Value), v = none ∧ Fr n0 L ∧ Keep h0 h ([a1] : List Addr) ∧ h0.size ≤ t ∧ Exa Z h a1 "java/lang/String" ∧ Fld Z h a1 "java/lang/String" "value" "[B" (.ref t) ∧ Fld Z h a1 "java/lang/String" "coder" "B" (.int 1) ∧ Arv Z h t k .byte (Int32.ofNat (2 * acc.length)) vs (.int 0) ∧ (OwnStr acc (1 : Int32) (Int32.ofNat (2 * acc.length)) vs)
theorem rm_siBC (Gl : OwnGl Z a0 wG1 wG3) (X00 : Old Z n0 h0) (a1 : Addr) (sb : Addr) (va : Addr) (kv : ClassId) (vsb : List Value) (acc : List Int32) (f0 : Exa Z h0 a1 "java/lang/String") (f1 : Fld Z h0 a1 "java/lang/String" "value" "[B" .null) (f2 : Fld Z h0 a1 "java/lang/String" "coder" "B" (.int 0)) (f3 : n0 ≤ a1) (f4 : Exa Z h0 sb "java/lang/StringBuilder") (f5 : Fld Z h0 sb "java/lang/AbstractStringBuilder" "value" "[B" (.ref va)) (f6 : Fld Z h0 sb "java/lang/AbstractStringBuilder" "coder" "B" (.int 1)) (f7 : Fld Z h0 sb "java/lang/AbstractStringBuilder" "count" "I" (.int (Int32.ofNat acc.length))) (f8 : Fld Z h0 sb "java/lang/AbstractStringBuilder" "maybeLatin1" "Z" (.int 1)) (f9 : Arv Z h0 va kv .byte (480 : Int32) vsb (.int 0)) (f10 : Exa Z h0 va "[B") (hln : acc.length ≤ 240) (hvl : vsb.length = 480) (hub : OwnUB acc vsb) (hrg : OwnRg acc) (hexA : ∃ c ∈ acc, (255 : Int32) < c) (h0l : 0 < acc.length) : OwnM l Z mN53 jdk_42_method_53_code 2 none (oR 6 2 720 95) #[(.ref a1), (.ref sb)] h0 (Q_siBC Z a1 sb va kv vsb acc h0 n0) := by
 refine own_in (plainFor_of_name pn_52039224) dl53 #[vR a1, vR sb] (oE rfl) ?_
 intro p e s m below meth c s₁ Bd hml hZ X0 e0 hx hlk Y0 hown
 obtain ⟨hw, cx, hEL⟩ := id Gl
 have wT := oww hw
 have N0 := Fr.nil n0
 have K0 : Keep h0 h0 ([a1] : List Addr) := Keep.refl _ _
 refine oaN Y0 0 rfl rfl rfl <| oaN Y0 1 rfl rfl rfl <| onl Y0 2 rfl ?_
 obtain ⟨_, _, ⟨T1, L1, k1, n1⟩, -, X1, ⟨Lc1, hQ1, l1, y1, z1⟩, st1⟩ := X0.specialBack hx (y := mN52) rfl hown (mvT hZ (wT 146 rfl)) (mvT hZ (wT 147 rfl)) (mvT hZ (wT 148 rfl)) (by decide) (backOf (W := 0) (rm_siAC Gl X00 a1 sb va kv vsb acc f0 f1 f2 f3 f4 f5 f6 f7 f8 f9 f10 hln hvl hub hrg hexA h0l) hZ (wT 148 rfl) (wT 9 rfl) (by decide) (by decide)) (g := (mkF m 3 #[vR a1, vR sb] [.null, (.ref sb), (.ref a1)])) rfl (by rw [hml]; rfl) (Steps.refl _) (a := a1) (argsL := [(.ref sb), .null]) (rest := []) (lenOf pd_42496373 rfl) rfl (Nat.le_of_eq rfl) (Y0.d 3 rfl) (fun _ _ => ⟨rfl, e0, (by decide : 0 + 2 ≤ _), (by decide : 0 + 720 ≤ _)⟩)
 dsimp only [Pt.U, Pt.locs, Pt.cells, Pt.slots] at X1 l1 y1 z1 st1 hQ1
 subst l1 y1 z1
 obtain ⟨t_1, k_1, vs_1, rfl, Nq1, Kq1, zq1_0, fq1_0, fq1_1, fq1_2, fq1_3, pq1_0⟩ := hQ1
 refine OwnGoes.tr (T' := T1) (g' := (mkF m 6 #[vR a1, vR sb] [])) st1 ?_
 have N1 := Fr.app N0 Nq1
 have s_t_1 : h0.size ≤ t_1 := Nat.le_trans K0.1 zq1_0
 have K1 : Keep h0 T1.heap ([a1] : List Addr) := K0.trans Kq1 (allS (Or.inl (List.mem_of_getElem? (i := 0) rfl)) all0)
 have Y1 := Y0.nx X1
 exact orV X1 Y1 hlk Bd.returns 4 rfl (by decide) (by decide) rfl ⟨t_1, k_1, vs_1, rfl, N1, K1, s_t_1, fq1_0, fq1_1, fq1_2, fq1_3, pq1_0⟩
def Q_toSC (Z : State) (sb : Addr) (va : Addr) (kv : ClassId) (vsb : List Value) (acc : List Int32) : OwnP := fun h0 n0 v h L => ∃ (x : Addr), ∃ (t : Addr), ∃ (k : ClassId), ∃ (vs : List Value), v = some (.ref x) ∧ Fr n0 L ∧ Keep h0 h ([] : List Addr) ∧ h0.size ≤ x ∧ h0.size ≤ t ∧ Exa Z h x "java/lang/String" ∧ Fld Z h x "java/lang/String" "value" "[B" (.ref t) ∧ Fld Z h x "java/lang/String" "coder" "B" (.int 1) ∧ Arv Z h t k .byte (Int32.ofNat (2 * acc.length)) vs (.int 0) ∧ (OwnStr acc (1 : Int32) (Int32.ofNat (2 * acc.length)) vs)
theorem rm_toSC (Gl : OwnGl Z a0 wG1 wG3) (X00 : Old Z n0 h0) (sb : Addr) (va : Addr) (kv : ClassId) (vsb : List Value) (acc : List Int32) (f0 : Exa Z h0 sb "java/lang/StringBuilder") (f1 : Fld Z h0 sb "java/lang/AbstractStringBuilder" "value" "[B" (.ref va)) (f2 : Fld Z h0 sb "java/lang/AbstractStringBuilder" "coder" "B" (.int 1)) (f3 : Fld Z h0 sb "java/lang/AbstractStringBuilder" "count" "I" (.int (Int32.ofNat acc.length))) (f4 : Fld Z h0 sb "java/lang/AbstractStringBuilder" "maybeLatin1" "Z" (.int 1)) (f5 : Arv Z h0 va kv .byte (480 : Int32) vsb (.int 0)) (f6 : Exa Z h0 va "[B") (hln : acc.length ≤ 240) (hvl : vsb.length = 480) (hub : OwnUB acc vsb) (hrg : OwnRg acc) (hexA : ∃ c ∈ acc, (255 : Int32) < c) (h0l : 0 < acc.length) : OwnM l Z mN54 jdk_67_method_42_code 1 (some (.object "java/lang/String")) (oR 7 3 724 109) #[(.ref sb)] h0 (Q_toSC Z sb va kv vsb acc h0 n0) := by
 refine own_in (plainFor_of_name pn_27209738) dl54 #[vR sb] (oE rfl) ?_
 intro p e s m below meth c s₁ Bd hml hZ X0 e0 hx hlk Y0 hown
 obtain ⟨hw, cx, hEL⟩ := id Gl
 have wT := oww hw
 have N0 := Fr.nil n0
 have Z0 : n0 ≤ h0.size := X00.1 ▸ X00.2.1
 have K0 : Keep h0 h0 ([] : List Addr) := Keep.refl _ _
 obtain ⟨T1, h1, X1, e1, E1, A1, D1, U1, st1⟩ := newO X0 hx hZ hown (wT 142 rfl) (wT 8 rfl) (wT 9 rfl) e0 (g := (mkF m 0 #[vR sb] [])) rfl (Y0.d 0 rfl) (by decide) (by decide)
 obtain ⟨b1, g1⟩ : ∃ z, z = h0.size := ⟨_, rfl⟩
 rw [← g1] at A1 D1 U1 st1
 refine og T1 m 3 #[vR sb] [(.ref b1)] st1 ?_
 have g_b1 : n0 ≤ b1 := Nat.le_trans (Nat.le_trans Z0 K0.1) (Nat.le_of_eq g1.symm)
 have s_b1 : h0.size ≤ b1 := Nat.le_trans K0.1 (Nat.le_of_eq g1.symm)
 have F1_1 := f0.ext E1
 have F1_2 := f1.ext E1
 have F1_3 := f2.ext E1
 have F1_4 := f3.ext E1
 have F1_5 := f4.ext E1
 have F1_6 := f5.ext E1
 have F1_7 := f6.ext E1
 have Ol1 := X00.ext E1
 have K1 : Keep h0 h1 ([] : List Addr) := K0.ext E1
 have F1_8 : Fld Z h1 b1 "java/lang/String" "coder" "B" (.int 0) := D1 (Or.inr (wT 33 rfl)) (ty := .byte) (by decide)
 have F1_9 : Fld Z h1 b1 "java/lang/String" "value" "[B" .null := D1 (Or.inr (wT 35 rfl)) (ty := (.array .byte)) (by decide)
 have Y1 := Y0.nx X1
 refine odup Y1 1 rfl rfl <| oaN Y1 2 rfl rfl rfl ?_
 obtain ⟨_, _, ⟨T2, L2, k2, n2⟩, -, X2, ⟨Lc2, hQ2, l2, y2, z2⟩, st2⟩ := X1.specialBack hx (y := mN53) rfl hown (mvT hZ (wT 143 rfl)) (mvT hZ (wT 144 rfl)) (mvT hZ (wT 145 rfl)) (by decide) (backOf (W := 1) (rm_siBC Gl Ol1 b1 sb va kv vsb acc A1 F1_9 F1_8 g_b1 F1_1 F1_2 F1_3 F1_4 F1_5 F1_6 F1_7 hln hvl hub hrg hexA h0l) hZ (wT 145 rfl) (wT 9 rfl) (by decide) (by decide)) (g := (mkF m 5 #[vR sb] [(.ref sb), (.ref b1), (.ref b1)])) rfl (by rw [hml]; rfl) (Steps.refl _) (a := b1) (argsL := [(.ref sb)]) (rest := [(.ref b1)]) (lenOf pd_6531027 rfl) rfl (Nat.le_of_eq rfl) (Y0.d 3 rfl) (fun _ _ => ⟨rfl, e1, (by decide : 1 + 2 ≤ _), (by decide : 4 + 720 ≤ _)⟩)
 dsimp only [Pt.U, Pt.locs, Pt.cells, Pt.slots] at X2 l2 y2 z2 st2 hQ2
 subst l2 y2 z2
 obtain ⟨t_2, k_2, vs_2, rfl, Nq2, Kq2, zq2_0, fq2_0, fq2_1, fq2_2, fq2_3, pq2_0⟩ := hQ2
 refine OwnGoes.tr (T' := T2) (g' := (mkF m 8 #[vR sb] [(.ref b1)])) st2 ?_
 have N2 := Fr.app N0 Nq2
 have s_t_2 : h0.size ≤ t_2 := Nat.le_trans K1.1 zq2_0
 have K2 : Keep h0 T2.heap ([] : List Addr) := K1.trans Kq2 (allS (Or.inr s_b1) all0)
 have Y2 := Y0.nx X2
 exact orA X2 Y2 hlk Bd.returns rfl rfl rfl 4 rfl (by decide) (by decide) rfl ⟨b1, t_2, k_2, vs_2, rfl, N2, K2, s_b1, s_t_2, fq2_0, fq2_1, fq2_2, fq2_3, pq2_0⟩
def Q_isws (Z : State) (c1 : Int32) : OwnP := fun h0 n0 v h L => v = some (.int (ownI (ownWs c1))) ∧ Fr n0 L ∧ h = h0
theorem pn_39649199 : plainName "com/example/seekret/seekret/engine/index/Snippets" = true := by first | (simp [plainName, overriddenIn]; done) | decide +kernel
def ll55 : List (Nat × Instr × Nat) := [(0, .iload_n 0, 1), (1, .bipush 32, 2), (3, .if_icmp .eq 33, 3), (6, .iload_n 0, 1), (7, .bipush 9, 2), (9, .if_icmp .eq 27, 3), (12, .iload_n 0, 1), (13, .bipush 10, 2), (15, .if_icmp .eq 21, 3), (18, .iload_n 0, 1), (19, .bipush 11, 2), (21, .if_icmp .eq 15, 3), (24, .iload_n 0, 1), (25, .bipush 12, 2), (27, .if_icmp .eq 9, 3), (30, .iload_n 0, 1), (31, .bipush 13, 2), (33, .if_icmp .ne 7, 3), (36, .iconst 1, 1), (37, .goto 4, 3), (40, .iconst 0, 1), (41, .ireturn, 1)]
theorem dl55 : OwnDec prog_10_method_6_code ll55 := by decide +kernel
theorem rm_isws (Gl : OwnGl Z a0 wG1 wG3) (X00 : Old Z n0 h0) (c1 : Int32) : OwnM l Z mN55 prog_10_method_6_code 1 (some .boolean) (oR 0 0 0 0) #[(.int c1)] h0 (Q_isws Z c1 h0 n0) := by
 refine own_in (plainFor_of_name pn_39649199) dl55 #[vI c1] (oE rfl) ?_
 intro p e s m below meth c s₁ Bd hml hZ X0 e0 hx hlk Y0 hown
 have N0 := Fr.nil n0
 refine oiN Y0 0 rfl rfl <| obp 32 Y0 1 rfl rfl ?_
 by_cases cc1 : c1 = (32 : Int32)
 ·
  refine ocy 36 Y0 2 rfl rfl (teq cc1).1 <| oic 1 Y0 18 rfl rfl <| ogt 41 Y0 19 rfl rfl ?_
  refine og s₁ m 41 #[vI c1] [(.int (ownI (ownWs c1)))] (fun tgt kgo => castTop (by rw [(by rw [cc1]; decide : (1 : Int32) = (ownI (ownWs c1)))]) kgo) ?_
  exact orN X0 Y0 hlk Bd.returns (by simp) 21 rfl ((own_nar_i _)) (by decide) (by decide) e0 ⟨rfl, N0, rfl⟩
 refine ocn Y0 2 rfl (feq cc1).1 <| oiN Y0 3 rfl rfl <| obp 9 Y0 4 rfl rfl ?_
 by_cases cc3 : c1 = (9 : Int32)
 ·
  refine ocy 36 Y0 5 rfl rfl (teq cc3).1 <| oic 1 Y0 18 rfl rfl <| ogt 41 Y0 19 rfl rfl ?_
  refine og s₁ m 41 #[vI c1] [(.int (ownI (ownWs c1)))] (fun tgt kgo => castTop (by rw [(by rw [cc3]; decide : (1 : Int32) = (ownI (ownWs c1)))]) kgo) ?_
  exact orN X0 Y0 hlk Bd.returns (by simp) 21 rfl ((own_nar_i _)) (by decide) (by decide) e0 ⟨rfl, N0, rfl⟩
 refine ocn Y0 5 rfl (feq cc3).1 <| oiN Y0 6 rfl rfl <| obp 10 Y0 7 rfl rfl ?_
 by_cases cc5 : c1 = (10 : Int32)
 ·
  refine ocy 36 Y0 8 rfl rfl (teq cc5).1 <| oic 1 Y0 18 rfl rfl <| ogt 41 Y0 19 rfl rfl ?_
  refine og s₁ m 41 #[vI c1] [(.int (ownI (ownWs c1)))] (fun tgt kgo => castTop (by rw [(by rw [cc5]; decide : (1 : Int32) = (ownI (ownWs c1)))]) kgo) ?_
  exact orN X0 Y0 hlk Bd.returns (by simp) 21 rfl ((own_nar_i _)) (by decide) (by decide) e0 ⟨rfl, N0, rfl⟩
 refine ocn Y0 8 rfl (feq cc5).1 <| oiN Y0 9 rfl rfl <| obp 11 Y0 10 rfl rfl ?_
 by_cases cc7 : c1 = (11 : Int32)
 ·
  refine ocy 36 Y0 11 rfl rfl (teq cc7).1 <| oic 1 Y0 18 rfl rfl <| ogt 41 Y0 19 rfl rfl ?_
  refine og s₁ m 41 #[vI c1] [(.int (ownI (ownWs c1)))] (fun tgt kgo => castTop (by rw [(by rw [cc7]; decide : (1 : Int32) = (ownI (ownWs c1)))]) kgo) ?_
  exact orN X0 Y0 hlk Bd.returns (by simp) 21 rfl ((own_nar_i _)) (by decide) (by decide) e0 ⟨rfl, N0, rfl⟩
 refine ocn Y0 11 rfl (feq cc7).1 <| oiN Y0 12 rfl rfl <| obp 12 Y0 13 rfl rfl ?_
 by_cases cc9 : c1 = (12 : Int32)
 ·
  refine ocy 36 Y0 14 rfl rfl (teq cc9).1 <| oic 1 Y0 18 rfl rfl <| ogt 41 Y0 19 rfl rfl ?_
  refine og s₁ m 41 #[vI c1] [(.int (ownI (ownWs c1)))] (fun tgt kgo => castTop (by rw [(by rw [cc9]; decide : (1 : Int32) = (ownI (ownWs c1)))]) kgo) ?_
  exact orN X0 Y0 hlk Bd.returns (by simp) 21 rfl ((own_nar_i _)) (by decide) (by decide) e0 ⟨rfl, N0, rfl⟩
 refine ocn Y0 14 rfl (feq cc9).1 <| oiN Y0 15 rfl rfl <| obp 13 Y0 16 rfl rfl ?_
 by_cases cc11 : c1 = (13 : Int32)
 ·
  refine ocn Y0 17 rfl (teq cc11).2 <| oic 1 Y0 18 rfl rfl <| ogt 41 Y0 19 rfl rfl ?_
  refine og s₁ m 41 #[vI c1] [(.int (ownI (ownWs c1)))] (fun tgt kgo => castTop (by rw [(by rw [cc11]; decide : (1 : Int32) = (ownI (ownWs c1)))]) kgo) ?_
  exact orN X0 Y0 hlk Bd.returns (by simp) 21 rfl ((own_nar_i _)) (by decide) (by decide) e0 ⟨rfl, N0, rfl⟩
 refine ocy 40 Y0 17 rfl rfl (feq cc11).2 <| oic 0 Y0 20 rfl rfl ?_
 refine og s₁ m 41 #[vI c1] [(.int (ownI (ownWs c1)))] (fun tgt kgo => castTop (by rw [(own_ws0 cc1 cc3 cc5 cc7 cc9 cc11)]) kgo) ?_
 exact orN X0 Y0 hlk Bd.returns (by simp) 21 rfl ((own_nar_i _)) (by decide) (by decide) e0 ⟨rfl, N0, rfl⟩
def Q_islow (Z : State) (c1 : Int32) : OwnP := fun h0 n0 v h L => v = some (.int (ownI (ownLow c1))) ∧ Fr n0 L ∧ h = h0
theorem pn_71823598 : plainName "java/lang/Character" = true := by first | (simp [plainName, overriddenIn]; done) | decide +kernel
def ll56 : List (Nat × Instr × Nat) := [(0, .iload_n 0, 1), (1, .ldc 76, 2), (3, .if_icmp .lt 13, 3), (6, .iload_n 0, 1), (7, .ldc 77, 2), (9, .if_icmp .ge 7, 3), (12, .iconst 1, 1), (13, .goto 4, 3), (16, .iconst 0, 1), (17, .ireturn, 1)]
theorem dl56 : OwnDec jdk_89_method_15_code ll56 := by decide +kernel
theorem rm_islow (Gl : OwnGl Z a0 wG1 wG3) (X00 : Old Z n0 h0) (c1 : Int32) : OwnM l Z mN56 jdk_89_method_15_code 1 (some .boolean) (oR 0 0 0 0) #[(.int c1)] h0 (Q_islow Z c1 h0 n0) := by
 refine own_in (plainFor_of_name pn_71823598) dl56 #[vI c1] (oE rfl) ?_
 intro p e s m below meth c s₁ Bd hml hZ X0 e0 hx hlk Y0 hown
 obtain ⟨hw, cx, hEL⟩ := id Gl
 have wT := oww hw
 have N0 := Fr.nil n0
 refine oiN Y0 0 rfl rfl ?_
 refine og s₁ m 3 #[vI c1] [(.int 56320), (.int c1)] (fun tgt kgo => ?_) ?_
 ·
  refine X0.ldcInt hx hown (mvT hZ (wT 306 rfl)) (g := (mkF m 1 #[vI c1] [(.int c1)])) rfl (Y0.d 1 rfl) _ ?_
  exact kgo
 by_cases cc1 : c1 < (56320 : Int32)
 ·
  refine ocy 16 Y0 2 rfl rfl (tlt cc1).1 <| oic 0 Y0 8 rfl rfl ?_
  refine og s₁ m 17 #[vI c1] [(.int (ownI (ownLow c1)))] (fun tgt kgo => castTop (by rw [(own_low0a cc1)]) kgo) ?_
  exact orN X0 Y0 hlk Bd.returns (by simp) 9 rfl ((own_nar_i _)) (by decide) (by decide) e0 ⟨rfl, N0, rfl⟩
 refine ocn Y0 2 rfl (flt cc1).1 <| oiN Y0 3 rfl rfl ?_
 refine og s₁ m 9 #[vI c1] [(.int 57344), (.int c1)] (fun tgt kgo => ?_) ?_
 ·
  refine X0.ldcInt hx hown (mvT hZ (wT 333 rfl)) (g := (mkF m 7 #[vI c1] [(.int c1)])) rfl (Y0.d 4 rfl) _ ?_
  exact kgo
 by_cases cc3 : c1 < (57344 : Int32)
 ·
  refine ocn Y0 5 rfl (tlt cc3).2.1 <| oic 1 Y0 6 rfl rfl <| ogt 17 Y0 7 rfl rfl ?_
  refine og s₁ m 17 #[vI c1] [(.int (ownI (ownLow c1)))] (fun tgt kgo => castTop (by rw [(own_low1 cc1 cc3)]) kgo) ?_
  exact orN X0 Y0 hlk Bd.returns (by simp) 9 rfl ((own_nar_i _)) (by decide) (by decide) e0 ⟨rfl, N0, rfl⟩
 refine ocy 16 Y0 5 rfl rfl (flt cc3).2.1 <| oic 0 Y0 8 rfl rfl ?_
 refine og s₁ m 17 #[vI c1] [(.int (ownI (ownLow c1)))] (fun tgt kgo => castTop (by rw [(own_low0b cc3)]) kgo) ?_
 exact orN X0 Y0 hlk Bd.returns (by simp) 9 rfl ((own_nar_i _)) (by decide) (by decide) e0 ⟨rfl, N0, rfl⟩
def Q_ishigh (Z : State) (c1 : Int32) : OwnP := fun h0 n0 v h L => v = some (.int (ownI (ownHigh c1))) ∧ Fr n0 L ∧ h = h0
def ll57 : List (Nat × Instr × Nat) := [(0, .iload_n 0, 1), (1, .ldc 75, 2), (3, .if_icmp .lt 13, 3), (6, .iload_n 0, 1), (7, .ldc 76, 2), (9, .if_icmp .ge 7, 3), (12, .iconst 1, 1), (13, .goto 4, 3), (16, .iconst 0, 1), (17, .ireturn, 1)]
theorem dl57 : OwnDec jdk_89_method_14_code ll57 := by decide +kernel
theorem rm_ishigh (Gl : OwnGl Z a0 wG1 wG3) (X00 : Old Z n0 h0) (c1 : Int32) : OwnM l Z mN57 jdk_89_method_14_code 1 (some .boolean) (oR 0 0 0 0) #[(.int c1)] h0 (Q_ishigh Z c1 h0 n0) := by
 refine own_in (plainFor_of_name pn_71823598) dl57 #[vI c1] (oE rfl) ?_
 intro p e s m below meth c s₁ Bd hml hZ X0 e0 hx hlk Y0 hown
 obtain ⟨hw, cx, hEL⟩ := id Gl
 have wT := oww hw
 have N0 := Fr.nil n0
 refine oiN Y0 0 rfl rfl ?_
 refine og s₁ m 3 #[vI c1] [(.int 55296), (.int c1)] (fun tgt kgo => ?_) ?_
 ·
  refine X0.ldcInt hx hown (mvT hZ (wT 223 rfl)) (g := (mkF m 1 #[vI c1] [(.int c1)])) rfl (Y0.d 1 rfl) _ ?_
  exact kgo
 by_cases cc1 : c1 < (55296 : Int32)
 ·
  refine ocy 16 Y0 2 rfl rfl (tlt cc1).1 <| oic 0 Y0 8 rfl rfl ?_
  refine og s₁ m 17 #[vI c1] [(.int (ownI (ownHigh c1)))] (fun tgt kgo => castTop (by rw [(own_high0a cc1)]) kgo) ?_
  exact orN X0 Y0 hlk Bd.returns (by simp) 9 rfl ((own_nar_i _)) (by decide) (by decide) e0 ⟨rfl, N0, rfl⟩
 refine ocn Y0 2 rfl (flt cc1).1 <| oiN Y0 3 rfl rfl ?_
 refine og s₁ m 9 #[vI c1] [(.int 56320), (.int c1)] (fun tgt kgo => ?_) ?_
 ·
  refine X0.ldcInt hx hown (mvT hZ (wT 306 rfl)) (g := (mkF m 7 #[vI c1] [(.int c1)])) rfl (Y0.d 4 rfl) _ ?_
  exact kgo
 by_cases cc3 : c1 < (56320 : Int32)
 ·
  refine ocn Y0 5 rfl (tlt cc3).2.1 <| oic 1 Y0 6 rfl rfl <| ogt 17 Y0 7 rfl rfl ?_
  refine og s₁ m 17 #[vI c1] [(.int (ownI (ownHigh c1)))] (fun tgt kgo => castTop (by rw [(own_high1 cc1 cc3)]) kgo) ?_
  exact orN X0 Y0 hlk Bd.returns (by simp) 9 rfl ((own_nar_i _)) (by decide) (by decide) e0 ⟨rfl, N0, rfl⟩
 refine ocy 16 Y0 5 rfl rfl (flt cc3).2.1 <| oic 0 Y0 8 rfl rfl ?_
 refine og s₁ m 17 #[vI c1] [(.int (ownI (ownHigh c1)))] (fun tgt kgo => castTop (by rw [(own_high0b cc3)]) kgo) ?_
 exact orN X0 Y0 hlk Bd.returns (by simp) 9 rfl ((own_nar_i _)) (by decide) (by decide) e0 ⟨rfl, N0, rfl⟩
def Q_coder (Z : State) (a1 : Addr) (cd1 : Int32) : OwnP := fun h0 n0 v h L => v = some (.int cd1) ∧ Fr n0 L ∧ h = h0
theorem rm_coder (Gl : OwnGl Z a0 wG1 wG3) (X00 : Old Z n0 h0) (a1 : Addr) (cd1 : Int32) (f0 : Exa Z h0 a1 "java/lang/String") (f1 : Fld Z h0 a1 "java/lang/String" "coder" "B" (.int cd1)) (hnb : nar .byte cd1 = cd1) : OwnM l Z mN42 jdk_42_method_152_code 1 (some .byte) (oR 0 0 0 0) #[(.ref a1)] h0 (Q_coder Z a1 cd1 h0 n0) := by
 refine own_in (plainFor_of_name pn_52039224) dl42 #[vR a1] (oE rfl) ?_
 intro p e s m below meth c s₁ Bd hml hZ X0 e0 hx hlk Y0 hown
 obtain ⟨hw, cx, hEL⟩ := id Gl
 have wT := oww hw
 obtain ⟨wO2, wP5, wO4, wrG3, hstr, wUA, wUH, wUL⟩ := id cx
 have N0 := Fr.nil n0
 refine oGS X0 Y0 hZ hown (wT 20 rfl) Via.refl e0 (wO2.ext X00.2) 0 rfl ?_
 intro T1 X1 Y1 e1
 refine oifn Y1 1 rfl ((if0 _ _).trans (feq wP5).1) <| oaN Y1 2 rfl rfl rfl ?_
 refine oGF X1 Y1 hZ hown (wT 32 rfl) Via.refl e1 f1 3 rfl ?_
 intro T2 X2 Y2 e2
 refine ogt 14 Y2 4 rfl rfl ?_
 exact orN X2 Y2 hlk Bd.returns (by simp) 5 rfl (hnb) (by decide) (by decide) e2 ⟨rfl, N0, rfl⟩
def Q_lenA (Z : State) (a1 : Addr) (cd1 : Int32) (ln1 : Int32) (tb1 : Addr) (kb1 : ClassId) (nB1 : Int32) (vs1 : List Value) : OwnP := fun h0 n0 v h L => v = some (.int ln1) ∧ Fr n0 L ∧ h = h0
theorem rm_lenA (Gl : OwnGl Z a0 wG1 wG3) (X00 : Old Z n0 h0) (a1 : Addr) (cd1 : Int32) (ln1 : Int32) (tb1 : Addr) (kb1 : ClassId) (nB1 : Int32) (vs1 : List Value) (f0 : Exa Z h0 a1 "java/lang/String") (f1 : Fld Z h0 a1 "java/lang/String" "value" "[B" (.ref tb1)) (f2 : Fld Z h0 a1 "java/lang/String" "coder" "B" (.int cd1)) (f3 : Arv Z h0 tb1 kb1 .byte nB1 vs1 (.int 0)) (hln : OwnLen cd1 nB1 ln1) : OwnM l Z mN43 jdk_42_method_54_code 1 (some .int) (oR 1 0 0 13) #[(.ref a1)] h0 (Q_lenA Z a1 cd1 ln1 tb1 kb1 nB1 vs1 h0 n0) := by
 refine own_in (plainFor_of_name pn_52039224) dl43 #[vR a1] (oE rfl) ?_
 intro p e s m below meth c s₁ Bd hml hZ X0 e0 hx hlk Y0 hown
 obtain ⟨hw, cx, hEL⟩ := id Gl
 have wT := oww hw
 have N0 := Fr.nil n0
 refine oaN Y0 0 rfl rfl rfl ?_
 refine oGF X0 Y0 hZ hown (wT 34 rfl) Via.refl e0 f1 1 rfl ?_
 intro T1 X1 Y1 e1
 refine olen X1 Y1 hZ e1 f3 2 rfl <| oaN Y1 3 rfl rfl rfl ?_
 refine oCV X1 Y1 hZ hml hown (wT 73 rfl) (wT 74 rfl) (notFace_of_selects (args := #[]) (mvT hZ (wT 76 rfl))) (wT 76 rfl) (wT 75 rfl) (wT 77 rfl) (wT 9 rfl) (rm_coder Gl X00 a1 cd1 f0 f2 hln.2) e1 f0 4 rfl 0 1 pd_61459997 rfl rfl rfl rfl rfl (by decide +kernel) (by decide +kernel) ?_
 intro v3 T3 L3 X3 Y3 hQ3
 obtain ⟨rfl, Nq3, eq3⟩ := hQ3
 show OwnH p e below _ T3 m _ _ [(.int cd1), (.int nB1)]
 have N3 := Fr.app N0 Nq3
 refine oshr Y3 5 rfl ?_
 refine og T3 m 10 #[vR a1] [(.int ln1)] (fun tgt kgo => castTop (by rw [hln.1]) kgo) ?_
 exact orI X3 Y3 hlk Bd.returns 6 rfl (by decide) (by decide) eq3 ⟨rfl, N3, rfl⟩
def Q_skip (Z : State) (a1 : Addr) (cd1 : Int32) (tb1 : Addr) (kb1 : ClassId) (nB1 : Int32) (vs1 : List Value) (cs1 : List Int32) (fr1 : Nat) : OwnP := fun h0 n0 v h L => ∃ (r : Nat), v = some (.int (Int32.ofNat r)) ∧ Fr n0 L ∧ h = h0 ∧ (OwnSkip cs1 fr1 r)
def ll58 : List (Nat × Instr × Nat) := [(0, .iload_n 1, 1), (1, .istore_n 2, 1), (2, .iload_n 2, 1), (3, .aload_n 0, 1), (4, .invokevirtual 31, 3), (7, .if_icmp .ge 20, 3), (10, .aload_n 0, 1), (11, .iload_n 2, 1), (12, .invokevirtual 38, 3), (15, .invokestatic 42, 3), (18, .ifCond .eq 9, 3), (21, .iinc 2 1, 3), (24, .goto (-22), 3), (27, .iload_n 2, 1), (28, .ireturn, 1)]
theorem dl58 : OwnDec prog_10_method_5_code ll58 := by decide +kernel
theorem rm_skip (Gl : OwnGl Z a0 wG1 wG3) (X00 : Old Z n0 h0) (a1 : Addr) (cd1 : Int32) (tb1 : Addr) (kb1 : ClassId) (nB1 : Int32) (vs1 : List Value) (cs1 : List Int32) (fr1 : Nat) (f0 : Exa Z h0 a1 "java/lang/String") (f1 : Fld Z h0 a1 "java/lang/String" "value" "[B" (.ref tb1)) (f2 : Fld Z h0 a1 "java/lang/String" "coder" "B" (.int cd1)) (f3 : Arv Z h0 tb1 kb1 .byte nB1 vs1 (.int 0)) (hos : OwnStr cs1 cd1 nB1 vs1) (hn3 : cs1.length ≤ 300) (hf : fr1 ≤ cs1.length) : OwnM l Z mN58 prog_10_method_5_code 3 (some .int) (oR 5 0 0 66) #[(.ref a1), (.int (Int32.ofNat fr1))] h0 (Q_skip Z a1 cd1 tb1 kb1 nB1 vs1 cs1 fr1 h0 n0) := by
 refine own_in (plainFor_of_name pn_39649199) dl58 #[vR a1, vI (Int32.ofNat fr1), vU] (oE rfl) ?_
 intro p e s m below meth c s₁ Bd hml hZ X0 e0 hx hlk Y0 hown
 obtain ⟨hw, cx, hEL⟩ := id Gl
 have wT := oww hw
 have N0 := Fr.nil n0
 refine oiN Y0 0 rfl rfl <| oiS Y0 1 rfl #[vR a1, vI (Int32.ofNat fr1), vI (Int32.ofNat fr1)] rfl ?_
 have lps : ∀ (fu1 : Nat) (it : Nat) (T1 : State) (L1 : List Loc) (X1 : Stand p l e (oR 5 0 0 66) s m #[(.ref a1), (.int (Int32.ofNat fr1))] below meth c T1 L1 0 0) (e1 : T1.heap = h0) (N1 : Fr n0 L1) (hlo : fr1 ≤ it) (hhi : it ≤ cs1.length) (hrun : ∀ t, fr1 ≤ t → t < it → ownW cs1 t = true) (hfu1 : cs1.length - it < fu1), OwnGoes p e below (oG (Q_skip Z a1 cd1 tb1 kb1 nB1 vs1 cs1 fr1 h0 n0) s (oR 5 0 0 66)) T1 (mkF m 2 #[vR a1, vI (Int32.ofNat fr1), vI (Int32.ofNat it)] []) := by
  intro fu1
  induction fu1 with
  | zero =>
   intro it T1 L1 X1 e1 N1 hlo hhi hrun hfu1
   exact absurd hfu1 (Nat.not_lt_zero _)
  | succ fu1 ih1 =>
   intro it T1 L1 X1 e1 N1 hlo hhi hrun hfu1
   have Y1 := Y0.nx X1
   refine oiN Y1 2 rfl rfl <| oaN Y1 3 rfl rfl rfl ?_
   refine oCV X1 Y1 hZ hml hown (wT 68 rfl) (wT 69 rfl) (notFace_of_selects (args := #[]) (mvT hZ (wT 71 rfl))) (wT 71 rfl) (wT 70 rfl) (wT 72 rfl) (wT 9 rfl) (rm_lenA Gl X00 a1 cd1 (Int32.ofNat cs1.length) tb1 kb1 nB1 vs1 f0 f1 f2 f3 (own_len hos rfl)) e1 f0 4 rfl 0 1 pd_86913941 rfl rfl rfl rfl rfl (by decide +kernel) (by decide +kernel) ?_
   intro v2 T2 L2 X2 Y2 hQ2
   obtain ⟨rfl, Nq2, eq2⟩ := hQ2
   show OwnH p e below _ T2 m _ _ [(.int (Int32.ofNat cs1.length)), (.int (Int32.ofNat it))]
   have N2 := Fr.app N1 Nq2
   by_cases cc3 : (Int32.ofNat it) < (Int32.ofNat cs1.length)
   ·
    have hlt : it < cs1.length := (own_ltN (by omega) (by omega)).mp cc3
    refine ocn Y2 5 rfl (tlt cc3).2.1 <| oaN Y2 6 rfl rfl rfl <| oiN Y2 7 rfl rfl ?_
    refine oCV X2 Y2 hZ hml hown (wT 78 rfl) (wT 79 rfl) (notFace_of_selects (args := #[]) (mvT hZ (wT 81 rfl))) (wT 81 rfl) (wT 80 rfl) (wT 82 rfl) (wT 9 rfl) (rm_chA Gl X00 a1 cd1 tb1 kb1 nB1 vs1 (Int32.ofNat it) (ownAt cs1 it) f0 f1 f2 f3 (own_ch hos (j := it) hlt rfl)) eq2 f0 8 rfl 1 0 pd_17647939 rfl rfl rfl rfl rfl (by decide +kernel) (by decide +kernel) ?_
    intro v4 T4 L4 X4 Y4 hQ4
    obtain ⟨rfl, Nq4, eq4⟩ := hQ4
    show OwnH p e below _ T4 m _ _ [(.int (ownAt cs1 it))]
    have N4 := Fr.app N2 Nq4
    refine oCS X4 Y4 hZ hml hown (wT 100 rfl) (wT 101 rfl) (wT 38 rfl) (wT 102 rfl) (rm_isws Gl X00 (ownAt cs1 it)) eq4 9 rfl 1 0 pd_92619605 rfl rfl rfl rfl (by decide +kernel) ?_
    intro v5 T5 L5 X5 Y5 hQ5
    obtain ⟨rfl, Nq5, eq5⟩ := hQ5
    show OwnH p e below _ T5 m _ _ [(.int (ownI (ownWs (ownAt cs1 it))))]
    have N5 := Fr.app N4 Nq5
    by_cases cc6 : (ownI (ownWs (ownAt cs1 it))) = (0 : Int32)
    ·
     have hw0 : ownWs (ownAt cs1 it) = false := (own_i0 _).mp cc6
     refine oify 27 Y5 10 rfl rfl ((if0 _ _).trans (teq cc6).1) <| oiN Y5 13 rfl rfl ?_
     exact orI X5 Y5 hlk Bd.returns 14 rfl (by decide) (by decide) eq5 ⟨it, rfl, N5, rfl, (own_skip_no hlo hlt hrun hw0)⟩
    have hw1 : ownWs (ownAt cs1 it) = true := (own_i1 _).mp cc6
    refine oifn Y5 10 rfl ((if0 _ _).trans (feq cc6).1) <| oinc Y5 11 rfl #[vR a1, vI (Int32.ofNat fr1), vI ((Int32.ofNat it) + (1 : Int32))] rfl rfl <| ogt 2 Y5 12 rfl rfl ?_
    refine og T5 m 2 #[vR a1, vI (Int32.ofNat fr1), vI (Int32.ofNat (it + 1))] [] (fun tgt kgo => castTop (by rw [(own_add1 it)]) kgo) ?_
    exact ih1 (it + 1) T5 _ X5 eq5 N5 (by omega) (by omega) (own_run_next hrun hw1) (by omega)
   have hge : ¬ it < cs1.length := fun q => cc3 ((own_ltN (by omega) (by omega)).mpr q)
   refine ocy 27 Y2 5 rfl rfl (flt cc3).2.1 <| oiN Y2 13 rfl rfl ?_
   exact orI X2 Y2 hlk Bd.returns 14 rfl (by decide) (by decide) eq2 ⟨it, rfl, N2, rfl, (own_skip_end hlo (by omega) hrun)⟩
 exact lps (cs1.length - fr1 + 1) fr1 s₁ _ X0 e0 N0 (Nat.le_refl _) hf (fun t h1 h2 => absurd h2 (by omega)) (Nat.lt_succ_self _)
def Q_start (Z : State) (a1 : Addr) (cd1 : Int32) (tb1 : Addr) (kb1 : ClassId) (nB1 : Int32) (vs1 : List Value) (cs1 : List Int32) (pl : Nat) : OwnP := fun h0 n0 v h L => ∃ (r : Nat), v = some (.int (Int32.ofNat r)) ∧ Fr n0 L ∧ h = h0 ∧ (OwnStart cs1 pl r)
def ll59 : List (Nat × Instr × Nat) := [(0, .iload_n 1, 1), (1, .bipush 60, 2), (3, .if_icmp .gt 5, 3), (6, .iconst 0, 1), (7, .ireturn, 1), (8, .iload_n 1, 1), (9, .bipush 60, 2), (11, .isub, 1), (12, .istore_n 2, 1), (13, .iload_n 2, 1), (14, .iconst 1, 1), (15, .isub, 1), (16, .istore_n 3, 1), (17, .iload_n 3, 1), (18, .iload_n 1, 1), (19, .if_icmp .ge 24, 3), (22, .aload_n 0, 1), (23, .iload_n 3, 1), (24, .invokevirtual 38, 3), (27, .invokestatic 42, 3), (30, .ifCond .eq 7, 3), (33, .iload_n 3, 1), (34, .iconst 1, 1), (35, .iadd, 1), (36, .ireturn, 1), (37, .iinc 3 1, 3), (40, .goto (-23), 3), (43, .aload_n 0, 1), (44, .iload_n 2, 1), (45, .invokevirtual 38, 3), (48, .invokestatic 54, 3), (51, .ifCond .eq 6, 3), (54, .iinc 2 1, 3), (57, .iload_n 2, 1), (58, .ireturn, 1)]
theorem dl59 : OwnDec prog_10_method_3_code ll59 := by decide +kernel
theorem rm_start (Gl : OwnGl Z a0 wG1 wG3) (X00 : Old Z n0 h0) (a1 : Addr) (cd1 : Int32) (tb1 : Addr) (kb1 : ClassId) (nB1 : Int32) (vs1 : List Value) (cs1 : List Int32) (pl : Nat) (f0 : Exa Z h0 a1 "java/lang/String") (f1 : Fld Z h0 a1 "java/lang/String" "value" "[B" (.ref tb1)) (f2 : Fld Z h0 a1 "java/lang/String" "coder" "B" (.int cd1)) (f3 : Arv Z h0 tb1 kb1 .byte nB1 vs1 (.int 0)) (hos : OwnStr cs1 cd1 nB1 vs1) (hn3 : cs1.length ≤ 300) (hp : pl ≤ cs1.length) : OwnM l Z mN59 prog_10_method_3_code 4 (some .int) (oR 5 0 0 66) #[(.ref a1), (.int (Int32.ofNat pl))] h0 (Q_start Z a1 cd1 tb1 kb1 nB1 vs1 cs1 pl h0 n0) := by
 refine own_in (plainFor_of_name pn_39649199) dl59 #[vR a1, vI (Int32.ofNat pl), vU, vU] (oE rfl) ?_
 intro p e s m below meth c s₁ Bd hml hZ X0 e0 hx hlk Y0 hown
 obtain ⟨hw, cx, hEL⟩ := id Gl
 have wT := oww hw
 have N0 := Fr.nil n0
 refine oiN Y0 0 rfl rfl <| obp 60 Y0 1 rfl rfl ?_
 by_cases cc1 : (60 : Int32) < (Int32.ofNat pl)
 ·
  have hp60 : 60 < pl := (own_ltN (a := 60) (by omega) (by omega)).mp cc1
  refine ocy 8 Y0 2 rfl rfl (tlt cc1).2.2.1 <| oiN Y0 5 rfl rfl <| obp 60 Y0 6 rfl rfl <| osub Y0 7 rfl ?_
  refine og s₁ m 12 #[vR a1, vI (Int32.ofNat pl), vU, vU] [(.int (Int32.ofNat (pl - 60)))] (fun tgt kgo => castTop (by rw [(show (Int32.ofNat pl) - (60 : Int32) = (Int32.ofNat (pl - 60)) from own_subN (b := 60) (by omega))]) kgo) ?_
  refine oiS Y0 8 rfl #[vR a1, vI (Int32.ofNat pl), vI (Int32.ofNat (pl - 60)), vU] rfl <| oiN Y0 9 rfl rfl <| oic 1 Y0 10 rfl rfl <| osub Y0 11 rfl ?_
  refine og s₁ m 16 #[vR a1, vI (Int32.ofNat pl), vI (Int32.ofNat (pl - 60)), vU] [(.int (Int32.ofNat (pl - 61)))] (fun tgt kgo => castTop (by rw [(show (Int32.ofNat (pl - 60)) - (1 : Int32) = (Int32.ofNat (pl - 61)) from (own_subN (b := 1) (by omega)).trans (by rw [Nat.sub_sub]))]) kgo) ?_
  refine oiS Y0 12 rfl #[vR a1, vI (Int32.ofNat pl), vI (Int32.ofNat (pl - 60)), vI (Int32.ofNat (pl - 61))] rfl ?_
  have lpt : ∀ (fu2 : Nat) (it : Nat) (T2 : State) (L2 : List Loc) (X2 : Stand p l e (oR 5 0 0 66) s m #[(.ref a1), (.int (Int32.ofNat pl))] below meth c T2 L2 0 0) (e2 : T2.heap = h0) (N2 : Fr n0 L2) (hlo : pl - 61 ≤ it) (hhi : it ≤ pl) (hrun : ∀ t, pl - 61 ≤ t → t < it → ownW cs1 t = false) (hfu2 : pl - it < fu2), OwnGoes p e below (oG (Q_start Z a1 cd1 tb1 kb1 nB1 vs1 cs1 pl h0 n0) s (oR 5 0 0 66)) T2 (mkF m 17 #[vR a1, vI (Int32.ofNat pl), vI (Int32.ofNat (pl - 60)), vI (Int32.ofNat it)] []) := by
   intro fu2
   induction fu2 with
   | zero =>
    intro it T2 L2 X2 e2 N2 hlo hhi hrun hfu2
    exact absurd hfu2 (Nat.not_lt_zero _)
   | succ fu2 ih2 =>
    intro it T2 L2 X2 e2 N2 hlo hhi hrun hfu2
    have Y2 := Y0.nx X2
    refine oiN Y2 13 rfl rfl <| oiN Y2 14 rfl rfl ?_
    by_cases cc3 : (Int32.ofNat it) < (Int32.ofNat pl)
    ·
     have hlt : it < pl := (own_ltN (by omega) (by omega)).mp cc3
     refine ocn Y2 15 rfl (tlt cc3).2.1 <| oaN Y2 16 rfl rfl rfl <| oiN Y2 17 rfl rfl ?_
     refine oCV X2 Y2 hZ hml hown (wT 78 rfl) (wT 79 rfl) (notFace_of_selects (args := #[]) (mvT hZ (wT 81 rfl))) (wT 81 rfl) (wT 80 rfl) (wT 82 rfl) (wT 9 rfl) (rm_chA Gl X00 a1 cd1 tb1 kb1 nB1 vs1 (Int32.ofNat it) (ownAt cs1 it) f0 f1 f2 f3 (own_ch hos (j := it) (by omega) rfl)) e2 f0 18 rfl 1 0 pd_17647939 rfl rfl rfl rfl rfl (by decide +kernel) (by decide +kernel) ?_
     intro v4 T4 L4 X4 Y4 hQ4
     obtain ⟨rfl, Nq4, eq4⟩ := hQ4
     show OwnH p e below _ T4 m _ _ [(.int (ownAt cs1 it))]
     have N4 := Fr.app N2 Nq4
     refine oCS X4 Y4 hZ hml hown (wT 100 rfl) (wT 101 rfl) (wT 38 rfl) (wT 102 rfl) (rm_isws Gl X00 (ownAt cs1 it)) eq4 19 rfl 1 0 pd_92619605 rfl rfl rfl rfl (by decide +kernel) ?_
     intro v5 T5 L5 X5 Y5 hQ5
     obtain ⟨rfl, Nq5, eq5⟩ := hQ5
     show OwnH p e below _ T5 m _ _ [(.int (ownI (ownWs (ownAt cs1 it))))]
     have N5 := Fr.app N4 Nq5
     by_cases cc6 : (ownI (ownWs (ownAt cs1 it))) = (0 : Int32)
     ·
      have hw0 : ownWs (ownAt cs1 it) = false := (own_i0 _).mp cc6
      refine oify 37 Y5 20 rfl rfl ((if0 _ _).trans (teq cc6).1) <| oinc Y5 25 rfl #[vR a1, vI (Int32.ofNat pl), vI (Int32.ofNat (pl - 60)), vI ((Int32.ofNat it) + (1 : Int32))] rfl rfl <| ogt 17 Y5 26 rfl rfl ?_
      refine og T5 m 17 #[vR a1, vI (Int32.ofNat pl), vI (Int32.ofNat (pl - 60)), vI (Int32.ofNat (it + 1))] [] (fun tgt kgo => castTop (by rw [(own_add1 it)]) kgo) ?_
      exact ih2 (it + 1) T5 _ X5 eq5 N5 (by omega) (by omega) (own_run_next hrun hw0) (by omega)
     have hw1 : ownWs (ownAt cs1 it) = true := (own_i1 _).mp cc6
     refine oifn Y5 20 rfl ((if0 _ _).trans (feq cc6).1) <| oiN Y5 21 rfl rfl <| oic 1 Y5 22 rfl rfl <| oadd Y5 23 rfl ?_
     refine og T5 m 36 #[vR a1, vI (Int32.ofNat pl), vI (Int32.ofNat (pl - 60)), vI (Int32.ofNat it)] [(.int (Int32.ofNat (it + 1)))] (fun tgt kgo => castTop (by rw [(own_add1 it)]) kgo) ?_
     exact orI X5 Y5 hlk Bd.returns 24 rfl (by decide) (by decide) eq5 ⟨(it + 1), rfl, N5, rfl, (own_start_hit hp60 hlo hlt hrun hw1)⟩
    have hge : ¬ it < pl := fun q => cc3 ((own_ltN (by omega) (by omega)).mpr q)
    refine ocy 43 Y2 15 rfl rfl (flt cc3).2.1 <| oaN Y2 27 rfl rfl rfl <| oiN Y2 28 rfl rfl ?_
    refine oCV X2 Y2 hZ hml hown (wT 78 rfl) (wT 79 rfl) (notFace_of_selects (args := #[]) (mvT hZ (wT 81 rfl))) (wT 81 rfl) (wT 80 rfl) (wT 82 rfl) (wT 9 rfl) (rm_chA Gl X00 a1 cd1 tb1 kb1 nB1 vs1 (Int32.ofNat (pl - 60)) (ownAt cs1 (pl - 60)) f0 f1 f2 f3 (own_ch hos (j := (pl - 60)) (by omega) rfl)) e2 f0 29 rfl 1 0 pd_17647939 rfl rfl rfl rfl rfl (by decide +kernel) (by decide +kernel) ?_
    intro v8 T8 L8 X8 Y8 hQ8
    obtain ⟨rfl, Nq8, eq8⟩ := hQ8
    show OwnH p e below _ T8 m _ _ [(.int (ownAt cs1 (pl - 60)))]
    have N8 := Fr.app N2 Nq8
    refine oCS X8 Y8 hZ hml hown (wT 303 rfl) (wT 304 rfl) (wT 221 rfl) (wT 305 rfl) (rm_islow Gl X00 (ownAt cs1 (pl - 60))) eq8 30 rfl 1 0 pd_92619605 rfl rfl rfl rfl (by decide +kernel) ?_
    intro v9 T9 L9 X9 Y9 hQ9
    obtain ⟨rfl, Nq9, eq9⟩ := hQ9
    show OwnH p e below _ T9 m _ _ [(.int (ownI (ownLow (ownAt cs1 (pl - 60)))))]
    have N9 := Fr.app N8 Nq9
    by_cases cc10 : (ownI (ownLow (ownAt cs1 (pl - 60)))) = (0 : Int32)
    ·
     have hl0 : ownLow (ownAt cs1 (pl - 60)) = false := (own_i0 _).mp cc10
     refine oify 57 Y9 31 rfl rfl ((if0 _ _).trans (teq cc10).1) <| oiN Y9 33 rfl rfl ?_
     exact orI X9 Y9 hlk Bd.returns 34 rfl (by decide) (by decide) eq9 ⟨(pl - 60), rfl, N9, rfl, (own_start_nlow hp60 (by omega) hrun hl0)⟩
    have hl1 : ownLow (ownAt cs1 (pl - 60)) = true := (own_i1 _).mp cc10
    refine oifn Y9 31 rfl ((if0 _ _).trans (feq cc10).1) <| oinc Y9 32 rfl #[vR a1, vI (Int32.ofNat pl), vI ((Int32.ofNat (pl - 60)) + (1 : Int32)), vI (Int32.ofNat it)] rfl rfl ?_
    refine og T9 m 57 #[vR a1, vI (Int32.ofNat pl), vI (Int32.ofNat (pl - 60 + 1)), vI (Int32.ofNat it)] [] (fun tgt kgo => castTop (by rw [(own_add1 (pl - 60))]) kgo) ?_
    refine oiN Y9 33 rfl rfl ?_
    exact orI X9 Y9 hlk Bd.returns 34 rfl (by decide) (by decide) eq9 ⟨(pl - 60 + 1), rfl, N9, rfl, (own_start_low hp60 (by omega) hrun hl1)⟩
  exact lpt (pl - (pl - 61) + 1) (pl - 61) s₁ _ X0 e0 N0 (Nat.le_refl _) (by omega) (fun t h1 h2 => absurd h2 (by omega)) (Nat.lt_succ_self _)
 have hp60 : ¬ 60 < pl := fun q => cc1 ((own_ltN (a := 60) (by omega) (by omega)).mpr q)
 refine ocn Y0 2 rfl (flt cc1).2.2.1 <| oic 0 Y0 3 rfl rfl ?_
 refine og s₁ m 7 #[vR a1, vI (Int32.ofNat pl), vU, vU] [(.int (Int32.ofNat 0))] (fun tgt kgo => castTop (by rw [(show (0 : Int32) = Int32.ofNat 0 from rfl)]) kgo) ?_
 exact orI X0 Y0 hlk Bd.returns 4 rfl (by decide) (by decide) e0 ⟨0, rfl, N0, rfl, (Or.inl ⟨by omega, rfl⟩)⟩
def Q_max (Z : State) (pa : Int32) (pl : Nat) : OwnP := fun h0 n0 v h L => v = some (.int (Int32.ofNat pl)) ∧ Fr n0 L ∧ h = h0
def ll60 : List (Nat × Instr × Nat) := [(0, .iload_n 0, 1), (1, .iload_n 1, 1), (2, .if_icmp .lt 7, 3), (5, .iload_n 0, 1), (6, .goto 4, 3), (9, .iload_n 1, 1), (10, .ireturn, 1)]
theorem dl60 : OwnDec jdk_29_method_65_code ll60 := by decide +kernel
theorem rm_max (Gl : OwnGl Z a0 wG1 wG3) (X00 : Old Z n0 h0) (pa : Int32) (pl : Nat) (hpa : (pa = (-1 : Int32) ∧ pl = 0) ∨ pa = Int32.ofNat pl) (hp4 : pl ≤ 300) : OwnM l Z mN60 jdk_29_method_65_code 2 (some .int) (oR 0 0 0 0) #[(.int pa), (.int 0)] h0 (Q_max Z pa pl h0 n0) := by
 refine own_in (Jvm.Free.JP.mathPlain rfl (by decide +kernel)) dl60 #[vI pa, vI 0] (oE rfl) ?_
 intro p e s m below meth c s₁ Bd hml hZ X0 e0 hx hlk Y0 hown
 have N0 := Fr.nil n0
 refine oiN Y0 0 rfl rfl <| oiN Y0 1 rfl rfl ?_
 by_cases cc1 : pa < (0 : Int32)
 ·
  refine ocy 9 Y0 2 rfl rfl (tlt cc1).1 <| oiN Y0 5 rfl rfl ?_
  refine og s₁ m 10 #[vI pa, vI 0] [(.int (Int32.ofNat pl))] (fun tgt kgo => castTop (by rw [show (0 : Int32) = (Int32.ofNat pl) from (own_max_neg (by omega) hpa cc1)]) kgo) ?_
  exact orI X0 Y0 hlk Bd.returns 6 rfl (by decide) (by decide) e0 ⟨rfl, N0, rfl⟩
 refine ocn Y0 2 rfl (flt cc1).1 <| oiN Y0 3 rfl rfl <| ogt 10 Y0 4 rfl rfl ?_
 refine og s₁ m 10 #[vI pa, vI 0] [(.int (Int32.ofNat pl))] (fun tgt kgo => castTop (by rw [show pa = (Int32.ofNat pl) from (own_max_pos hpa cc1)]) kgo) ?_
 exact orI X0 Y0 hlk Bd.returns 6 rfl (by decide) (by decide) e0 ⟨rfl, N0, rfl⟩
theorem own_hf {mk : Nat} (h : mk ≤ 1) : Int32.ofNat mk + ((239 : Int32) - Int32.ofNat mk) / (2 : Int32) = Int32.ofNat (mk + (239 - mk) / 2) := by
 have e : mk = 0 ∨ mk = 1 := by omega
 rcases e with rfl | rfl <;> decide
theorem ef_cut_0 (m : MethodId) (x0 : Addr) (x1 : Int32) : entryFrame m #[(.ref x0), (.int x1)] 4 = mkF m 0 #[vR x0, vI x1, vU, vU] [] := by
 first | (simp [entryFrame, mkF, argsToLocals, Value.category]; done) | rfl
def Q_cut_0 (Z : State) (sb : Addr) (va : Addr) (kv : ClassId) (vsb : List Value) (acc : List Int32) (mk : Nat) : OwnP := fun h0 n0 v h L => ∃ (t : Addr), ∃ (k : ClassId), ∃ (vs : List Value), ∃ (lm : Nat), v = none ∧ Fr n0 L ∧ Keep h0 h ([sb] : List Addr) ∧ h0.size ≤ t ∧ Exa Z h sb "java/lang/StringBuilder" ∧ Fld Z h sb "java/lang/AbstractStringBuilder" "value" "[B" (.ref t) ∧ Fld Z h sb "java/lang/AbstractStringBuilder" "coder" "B" (.int 1) ∧ Fld Z h sb "java/lang/AbstractStringBuilder" "count" "I" (.int (Int32.ofNat ((acc.take lm) ++ [(8230 : Int32)]).length)) ∧ Fld Z h sb "java/lang/AbstractStringBuilder" "maybeLatin1" "Z" (.int 1) ∧ Arv Z h t k .byte (480 : Int32) vs (.int 0) ∧ Exa Z h t "[B" ∧ (OwnUB ((acc.take lm) ++ [(8230 : Int32)]) vs) ∧ (vs.length = 480) ∧ (OwnCut mk acc lm) ∧ (lm < 240)
def ll61 : List (Nat × Instr × Nat) := [(0, .sipush 239, 3), (3, .istore_n 2, 1), (4, .aload_n 0, 1), (5, .ldc 59, 2), (7, .iload_n 2, 1), (8, .invokevirtual 61, 3), (11, .istore_n 3, 1), (12, .iload_n 3, 1), (13, .iload_n 1, 1), (14, .iload_n 2, 1), (15, .iload_n 1, 1), (16, .isub, 1), (17, .iconst 2, 1), (18, .idiv, 1), (19, .iadd, 1), (20, .if_icmp .le 8, 3), (23, .iload_n 3, 1), (24, .istore_n 2, 1), (25, .goto 19, 3), (28, .aload_n 0, 1), (29, .iload_n 2, 1), (30, .iconst 1, 1), (31, .isub, 1), (32, .invokevirtual 64, 3), (35, .invokestatic 65, 3), (38, .ifCond .eq 6, 3), (41, .iinc 2 (-1), 3), (44, .aload_n 0, 1), (45, .iload_n 2, 1), (46, .invokevirtual 68, 3), (49, .aload_n 0, 1), (50, .sipush 8230, 3), (53, .invokevirtual 24, 3), (56, .pop, 1), (57, .return_, 1)]
theorem dl61 : OwnDec prog_10_method_4_code ll61 := by decide +kernel
theorem pd_83287968 : parseMethodDescriptor "(C)Ljava/lang/StringBuilder;" = some ⟨[.char], some (.object "java/lang/StringBuilder")⟩ := by decide +kernel
theorem rm_cut_0 (l : Launch) (Z : State) (a0 : Array Value) (hw : ∀ d ∈ tables_1, d.before a0 Z = true) (ws : List Jvm.Cond) (wG1 : Int32) (wG3 : Value) (cx : OwnCx Z a0 wG1 wG3) (hEL : EW Z a0 consts_1) (h0 : Heap) (n0 : Nat) (X00 : Old Z n0 h0) (sb : Addr) (va : Addr) (kv : ClassId) (vsb : List Value) (acc : List Int32) (mk : Nat) (f0 : Exa Z h0 sb "java/lang/StringBuilder") (f1 : Fld Z h0 sb "java/lang/AbstractStringBuilder" "value" "[B" (.ref va)) (f2 : Fld Z h0 sb "java/lang/AbstractStringBuilder" "coder" "B" (.int 0)) (f3 : Fld Z h0 sb "java/lang/AbstractStringBuilder" "count" "I" (.int (Int32.ofNat acc.length))) (f4 : Fld Z h0 sb "java/lang/AbstractStringBuilder" "maybeLatin1" "Z" (.int 0)) (f5 : Arv Z h0 va kv .byte (240 : Int32) vsb (.int 0)) (f6 : Exa Z h0 va "[B") (f7 : n0 ≤ sb) (f8 : n0 ≤ va) (hq : acc.length = 240) (hvl : vsb.length = 240) (hlb : OwnLB acc vsb) (hrg : OwnRg acc) (hmk : mk ≤ 1) :
  MetFree l mN61 (head1 (Jvm.Cond.code mN61 prog_10_method_4_code 4 none :: ws) (oR 8 3 608 115)) (fun a U => a = #[(.ref sb), (.int (Int32.ofNat mk))] ∧ Z.Warmed39 U.vm ∧ U.heap = h0 ∧ CHv Z consts_1 U.vm h0) (fun _ _ _ _ _ => True) (fun _ U o U' => ∃ v L, o = .returned v ∧ Q_cut_0 Z sb va kv vsb acc mk h0 n0 v U'.heap L ∧ CHr Z consts_1 U.vm U.heap U'.vm U'.heap ∧ ReturnedEndW U o U' L (oR 8 3 608 115).cells (oR 8 3 608 115).slots) := by
 refine MetFree.of_bodySF (plainFor_of_name pn_39649199) hisR ?_
 intro p e s m args below meth c s₁ Bd hml0 hP hK
 obtain ⟨rfl, hZ, hh, hH⟩ := hP
 obtain ⟨wO2, wP5, wO4, wrG3, hstr, wUA, wUH, wUL⟩ := id cx
 have hx := Bd.exec
 have hby := Bd.bytes
 have hlk := Bd.notSynchronized
 have hml : c.maxLocals = 4 := hml0
 have hown : s.vm.findClass "com/example/seekret/seekret/engine/index/Snippets" = some m.cls := findClass_of_methodNamed Bd.named
 have X0 : Stand p l e (oR 8 3 608 115) (s.setVm s.vm) m #[(.ref sb), (.int (Int32.ofNat mk))] below meth c s₁ [] 0 0 := Stand.of_body Bd
 have e0 : s₁.heap = h0 := by rw [← hh, Bd.state]; rfl
 have N0 := Fr.nil n0
 have K0 : Keep h0 h0 ([sb] : List Addr) := Keep.refl _ _
 have Y0 := oY0 hx hby dl61 X0
 have R0 : CHr Z consts_1 s.vm h0 s.vm h0 := CHr.refl hH
 have hS0 : s.Since s.vm h0.size := State.WarmedH.since (State.WarmedH.refl s) _
 have hk0 : h0.size ≤ h0.size := Nat.le_refl _
 have Gl : OwnGl Z a0 wG1 wG3 := ⟨hw, cx, hEL⟩
 have wT := oww hw
 show OwnGoes p e below _ s₁ (entryFrame m _ _)
 refine og s₁ m 0 #[vR sb, vI (Int32.ofNat mk), vU, vU] [] (fun tgt kgo => castTop (ef_cut_0 m sb (Int32.ofNat mk)) kgo) ?_
 refine osp 239 Y0 0 rfl rfl <| oiS Y0 1 rfl #[vR sb, vI (Int32.ofNat mk), vI 239, vU] rfl <| oaN Y0 2 rfl rfl rfl ?_
 obtain ⟨b1, T1, h1, kk1, t1, k1, X1, e1, E1, hS1, hk1, hZ1, ho1, A1, Fc1, Fv1, V1, lt1, lu1, Rc1, Lt1, ns1, st1⟩ := ldcCH X0 hx hZ hown (wT 187 rfl) hstr e0 hS0 hk0 hEL (by decide) R0.1 (vs := ((([32] : List Int32).map (fun c => c.toInt8.toInt32)).map Value.int)) (z := (1 : Int32)) (by decide +kernel) (by decide) (by decide +kernel) (g := (mkF m 5 #[vR sb, vI (Int32.ofNat mk), vI 239, vU] [(.ref sb)])) rfl (Y0.d 3 rfl) (n := 4) (by decide) (by decide) (by decide) (by decide)
 refine og T1 m 7 #[vR sb, vI (Int32.ofNat mk), vI 239, vU] [(.ref b1), (.ref sb)] st1 ?_
 have F1_1 := f0.ext E1
 have F1_2 := f1.ext E1
 have F1_3 := f2.ext E1
 have F1_4 := f3.ext E1
 have F1_5 := f4.ext E1
 have F1_6 := f5.ext E1
 have F1_7 := f6.ext E1
 have Ol1 := X00.ext E1
 have K1 : Keep h0 h1 ([sb] : List Addr) := K0.ext E1
 have R1 := R0.trans Rc1
 have Y1 := Y0.nx X1
 refine oiN Y1 4 rfl rfl ?_
 refine oCV X1 Y1 hZ1 hml ho1 (wT 190 rfl) (wT 191 rfl) (notFace_of_selects (args := #[]) (mvT hZ1 (wT 193 rfl))) (wT 193 rfl) (wT 192 rfl) (wT 194 rfl) (wT 49 rfl) (rm_blio_0 Gl Ol1 sb va kv vsb (0 : Int32) acc b1 t1 k1 F1_1 F1_2 F1_3 F1_4 F1_5 F1_6 F1_7 A1 Fv1 Fc1 V1 hq hvl hlb hrg) e1 F1_1 5 rfl 2 0 pd_96034481 rfl rfl rfl rfl rfl (by decide +kernel) (by decide +kernel) ?_
 intro v2 T2 L2 X2 Y2 hQ2
 obtain ⟨r_2, rfl, Nq2, eq2, pq2_0⟩ := hQ2
 show OwnH p e below _ T2 m _ _ [(.int r_2)]
 have N2 := Fr.app N0 Nq2
 refine oiS Y2 6 rfl #[vR sb, vI (Int32.ofNat mk), vI 239, vI r_2] rfl <| oiN Y2 7 rfl rfl <| oiN Y2 8 rfl rfl <| oiN Y2 9 rfl rfl <| oiN Y2 10 rfl rfl <| osub Y2 11 rfl <| oic 2 Y2 12 rfl rfl <| odiv Y2 13 rfl (by decide) <| oadd Y2 14 rfl ?_
 refine og T2 m 20 #[vR sb, vI (Int32.ofNat mk), vI 239, vI r_2] [(.int (Int32.ofNat (mk + (239 - mk) / 2))), (.int r_2)] (fun tgt kgo => castTop (by rw [(own_hf hmk)]) kgo) ?_
 by_cases cc3 : (Int32.ofNat (mk + (239 - mk) / 2)) < r_2
 ·
  obtain ⟨q, hq1, hq2, hq3, hq4⟩ := own_lst_pos (own_nat (by omega)).2.1 pq2_0 cc3
  refine ocn Y2 15 rfl (tlt cc3).2.2.2 <| oiN Y2 16 rfl rfl <| oiS Y2 17 rfl #[vR sb, vI (Int32.ofNat mk), vI r_2, vI r_2] rfl <| ogt 44 Y2 18 rfl rfl ?_
  refine og T2 m 44 #[vR sb, vI (Int32.ofNat mk), vI (Int32.ofNat q), vI (Int32.ofNat q)] [] (fun tgt kgo => castTop (by rw [hq1]) kgo) ?_
  refine oaN Y2 27 rfl rfl rfl <| oiN Y2 28 rfl rfl ?_
  refine oCV X2 Y2 hZ1 hml ho1 (wT 224 rfl) (wT 225 rfl) (notFace_of_selects (args := #[]) (mvT hZ1 (wT 227 rfl))) (wT 227 rfl) (wT 226 rfl) (wT 228 rfl) (wT 49 rfl) (rm_ssl_0 Gl Ol1 sb va kv vsb (0 : Int32) acc q F1_1 F1_2 F1_3 F1_4 F1_5 F1_6 F1_7 f7 hq hq2) eq2 F1_1 29 rfl 1 0 pd_57711528 rfl rfl rfl rfl rfl (by decide +kernel) (by decide +kernel) ?_
  intro v4 T4 L4 X4 Y4 hQ4
  obtain ⟨rfl, Nq4, Kq4, fq4_0, fq4_1, fq4_2, fq4_3, fq4_4, fq4_5, fq4_6⟩ := hQ4
  show OwnH p e below _ T4 m _ _ []
  have N4 := Fr.app N2 Nq4
  have Ol4 := Ol1.keep Kq4 (allS f7 all0)
  have K4 : Keep h0 T4.heap ([sb] : List Addr) := K1.trans Kq4 (allS (Or.inl (List.mem_of_getElem? (i := 0) rfl)) all0)
  have R4 := R1.trans (CHr.keep Kq4 (sfS (Safe.exa (vm := T1.vm) hZ1.alike F1_1 (by decide) (by decide)) sf0) R1.1)
  have hk4 := Nat.le_trans hk1 Kq4.1
  have Fl5 : Fld Z T4.heap sb "java/lang/AbstractStringBuilder" "count" "I" (.int (Int32.ofNat (acc.take q).length)) := by rw [own_take_len240 hq hq2]; exact fq4_3
  refine oaN Y4 30 rfl rfl rfl <| osp 8230 Y4 31 rfl rfl ?_
  refine oCV X4 Y4 hZ1 hml ho1 (wT 115 rfl) (wT 116 rfl) (notFace_of_selects (args := #[]) (mvT hZ1 (wT 118 rfl))) (wT 118 rfl) (wT 117 rfl) (wT 119 rfl) (wT 49 rfl) (rm_sappB Gl Ol4 sb va kv vsb (1 : Int32) (acc.take q) (8230 : Int32) fq4_0 fq4_1 fq4_2 Fl5 fq4_4 fq4_5 fq4_6 f7 (by rw [own_take_len240 hq hq2]; exact hq2) hvl (own_lb_take hlb) (by decide) (own_rg_take hrg)) rfl fq4_0 32 rfl 1 0 pd_83287968 rfl rfl rfl rfl rfl (by decide +kernel) (by decide +kernel) ?_
  intro v6 T6 L6 X6 Y6 hQ6
  obtain ⟨t_6, k_6, vs_6, rfl, Nq6, Kq6, zq6_0, fq6_0, fq6_1, fq6_2, fq6_3, fq6_4, fq6_5, fq6_6, pq6_0, pq6_1⟩ := hQ6
  show OwnH p e below _ T6 m _ _ [(.ref sb)]
  have N6 := Fr.app N4 Nq6
  have s_t_6 : h0.size ≤ t_6 := Nat.le_trans K4.1 zq6_0
  have K6 : Keep h0 T6.heap ([sb] : List Addr) := K4.trans Kq6 (allS (Or.inl (List.mem_of_getElem? (i := 0) rfl)) all0)
  have R6 := R4.trans (CHr.keep Kq6 (sfS (Safe.exa (vm := T1.vm) hZ1.alike fq4_0 (by decide) (by decide)) sf0) R4.1)
  have hk6 := Nat.le_trans hk4 Kq6.1
  refine opop Y6 33 rfl rfl ?_
  refine own_leaveW (Z := Z) (EL := consts_1) X6 hS1 hk6 hlk (v := none) (fun _ => rfl) (fun fs hr => X6.returnOut hx Bd.returns (Y0.d 34 rfl) hr) (by decide) (by decide) ?_ ?_
  ·
   rw [hh]
   exact R6.trans (CHv.at X6 hZ1 hEL R6.1)
  show Q_cut_0 Z sb va kv vsb acc mk h0 n0 _ T6.heap _
  exact ⟨t_6, k_6, vs_6, q, rfl, N6, K6, s_t_6, fq6_0, fq6_1, fq6_2, fq6_3, fq6_4, fq6_5, fq6_6, pq6_0, pq6_1, (own_cut_sp (own_half (by omega) (by omega) (hq1 ▸ cc3)) hq2 hq3 hq4), hq2⟩
 refine ocy 28 Y2 15 rfl rfl (flt cc3).2.2.2 <| oaN Y2 19 rfl rfl rfl <| oiN Y2 20 rfl rfl <| oic 1 Y2 21 rfl rfl <| osub Y2 22 rfl <| oti (238 : Int32) (by decide) ?_
 refine oCV X2 Y2 hZ1 hml ho1 (wT 206 rfl) (wT 207 rfl) (notFace_of_selects (args := #[]) (mvT hZ1 (wT 209 rfl))) (wT 209 rfl) (wT 208 rfl) (wT 210 rfl) (wT 49 rfl) (rm_sch_0 Gl Ol1 sb va kv vsb (0 : Int32) acc F1_1 F1_2 F1_3 F1_4 F1_5 F1_6 F1_7 hq hvl hlb hrg) eq2 F1_1 23 rfl 1 0 pd_17647939 rfl rfl rfl rfl rfl (by decide +kernel) (by decide +kernel) ?_
 intro v8 T8 L8 X8 Y8 hQ8
 obtain ⟨rfl, Nq8, eq8⟩ := hQ8
 show OwnH p e below _ T8 m _ _ [(.int (acc.getD 238 0))]
 have N8 := Fr.app N2 Nq8
 refine oCS X8 Y8 hZ1 hml ho1 (wT 219 rfl) (wT 220 rfl) (wT 221 rfl) (wT 222 rfl) (rm_ishigh Gl Ol1 (acc.getD 238 0)) eq8 24 rfl 1 0 pd_92619605 rfl rfl rfl rfl (by decide +kernel) ?_
 intro v9 T9 L9 X9 Y9 hQ9
 obtain ⟨rfl, Nq9, eq9⟩ := hQ9
 show OwnH p e below _ T9 m _ _ [(.int (ownI (ownHigh (acc.getD 238 0))))]
 have N9 := Fr.app N8 Nq9
 by_cases cc10 : (ownI (ownHigh (acc.getD 238 0))) = (0 : Int32)
 ·
  have hh0 : ownHigh (acc.getD 238 0) = false := (own_i0 _).mp cc10
  refine oify 44 Y9 25 rfl rfl ((if0 _ _).trans (teq cc10).1) <| oaN Y9 27 rfl rfl rfl <| oiN Y9 28 rfl rfl ?_
  refine oCV X9 Y9 hZ1 hml ho1 (wT 224 rfl) (wT 225 rfl) (notFace_of_selects (args := #[]) (mvT hZ1 (wT 227 rfl))) (wT 227 rfl) (wT 226 rfl) (wT 228 rfl) (wT 49 rfl) (rm_ssl_0 Gl Ol1 sb va kv vsb (0 : Int32) acc 239 F1_1 F1_2 F1_3 F1_4 F1_5 F1_6 F1_7 f7 hq (by decide)) eq9 F1_1 29 rfl 1 0 pd_57711528 rfl rfl rfl rfl rfl (by decide +kernel) (by decide +kernel) ?_
  intro v11 T11 L11 X11 Y11 hQ11
  obtain ⟨rfl, Nq11, Kq11, fq11_0, fq11_1, fq11_2, fq11_3, fq11_4, fq11_5, fq11_6⟩ := hQ11
  show OwnH p e below _ T11 m _ _ []
  have N11 := Fr.app N9 Nq11
  have Ol11 := Ol1.keep Kq11 (allS f7 all0)
  have K11 : Keep h0 T11.heap ([sb] : List Addr) := K1.trans Kq11 (allS (Or.inl (List.mem_of_getElem? (i := 0) rfl)) all0)
  have R11 := R1.trans (CHr.keep Kq11 (sfS (Safe.exa (vm := T1.vm) hZ1.alike F1_1 (by decide) (by decide)) sf0) R1.1)
  have hk11 := Nat.le_trans hk1 Kq11.1
  have Fl12 : Fld Z T11.heap sb "java/lang/AbstractStringBuilder" "count" "I" (.int (Int32.ofNat (acc.take 239).length)) := by rw [own_take_len240 hq (by decide)]; exact fq11_3
  refine oaN Y11 30 rfl rfl rfl <| osp 8230 Y11 31 rfl rfl ?_
  refine oCV X11 Y11 hZ1 hml ho1 (wT 115 rfl) (wT 116 rfl) (notFace_of_selects (args := #[]) (mvT hZ1 (wT 118 rfl))) (wT 118 rfl) (wT 117 rfl) (wT 119 rfl) (wT 49 rfl) (rm_sappB Gl Ol11 sb va kv vsb (1 : Int32) (acc.take 239) (8230 : Int32) fq11_0 fq11_1 fq11_2 Fl12 fq11_4 fq11_5 fq11_6 f7 (by rw [own_take_len240 hq (by decide)]; decide) hvl (own_lb_take hlb) (by decide) (own_rg_take hrg)) rfl fq11_0 32 rfl 1 0 pd_83287968 rfl rfl rfl rfl rfl (by decide +kernel) (by decide +kernel) ?_
  intro v13 T13 L13 X13 Y13 hQ13
  obtain ⟨t_13, k_13, vs_13, rfl, Nq13, Kq13, zq13_0, fq13_0, fq13_1, fq13_2, fq13_3, fq13_4, fq13_5, fq13_6, pq13_0, pq13_1⟩ := hQ13
  show OwnH p e below _ T13 m _ _ [(.ref sb)]
  have N13 := Fr.app N11 Nq13
  have s_t_13 : h0.size ≤ t_13 := Nat.le_trans K11.1 zq13_0
  have K13 : Keep h0 T13.heap ([sb] : List Addr) := K11.trans Kq13 (allS (Or.inl (List.mem_of_getElem? (i := 0) rfl)) all0)
  have R13 := R11.trans (CHr.keep Kq13 (sfS (Safe.exa (vm := T1.vm) hZ1.alike fq11_0 (by decide) (by decide)) sf0) R11.1)
  have hk13 := Nat.le_trans hk11 Kq13.1
  refine opop Y13 33 rfl rfl ?_
  refine own_leaveW (Z := Z) (EL := consts_1) X13 hS1 hk13 hlk (v := none) (fun _ => rfl) (fun fs hr => X13.returnOut hx Bd.returns (Y0.d 34 rfl) hr) (by decide) (by decide) ?_ ?_
  ·
   rw [hh]
   exact R13.trans (CHv.at X13 hZ1 hEL R13.1)
  show Q_cut_0 Z sb va kv vsb acc mk h0 n0 _ T13.heap _
  exact ⟨t_13, k_13, vs_13, 239, rfl, N13, K13, s_t_13, fq13_0, fq13_1, fq13_2, fq13_3, fq13_4, fq13_5, fq13_6, pq13_0, pq13_1, (own_cut_lo (own_cut_no rfl (by omega) pq2_0 cc3) hh0), (by decide)⟩
 have hh1 : ownHigh (acc.getD 238 0) = true := (own_i1 _).mp cc10
 refine oifn Y9 25 rfl ((if0 _ _).trans (feq cc10).1) <| oinc Y9 26 rfl #[vR sb, vI (Int32.ofNat mk), vI 238, vI r_2] rfl rfl <| oaN Y9 27 rfl rfl rfl <| oiN Y9 28 rfl rfl ?_
 refine oCV X9 Y9 hZ1 hml ho1 (wT 224 rfl) (wT 225 rfl) (notFace_of_selects (args := #[]) (mvT hZ1 (wT 227 rfl))) (wT 227 rfl) (wT 226 rfl) (wT 228 rfl) (wT 49 rfl) (rm_ssl_0 Gl Ol1 sb va kv vsb (0 : Int32) acc 238 F1_1 F1_2 F1_3 F1_4 F1_5 F1_6 F1_7 f7 hq (by decide)) eq9 F1_1 29 rfl 1 0 pd_57711528 rfl rfl rfl rfl rfl (by decide +kernel) (by decide +kernel) ?_
 intro v15 T15 L15 X15 Y15 hQ15
 obtain ⟨rfl, Nq15, Kq15, fq15_0, fq15_1, fq15_2, fq15_3, fq15_4, fq15_5, fq15_6⟩ := hQ15
 show OwnH p e below _ T15 m _ _ []
 have N15 := Fr.app N9 Nq15
 have Ol15 := Ol1.keep Kq15 (allS f7 all0)
 have K15 : Keep h0 T15.heap ([sb] : List Addr) := K1.trans Kq15 (allS (Or.inl (List.mem_of_getElem? (i := 0) rfl)) all0)
 have R15 := R1.trans (CHr.keep Kq15 (sfS (Safe.exa (vm := T1.vm) hZ1.alike F1_1 (by decide) (by decide)) sf0) R1.1)
 have hk15 := Nat.le_trans hk1 Kq15.1
 have Fl16 : Fld Z T15.heap sb "java/lang/AbstractStringBuilder" "count" "I" (.int (Int32.ofNat (acc.take 238).length)) := by rw [own_take_len240 hq (by decide)]; exact fq15_3
 refine oaN Y15 30 rfl rfl rfl <| osp 8230 Y15 31 rfl rfl ?_
 refine oCV X15 Y15 hZ1 hml ho1 (wT 115 rfl) (wT 116 rfl) (notFace_of_selects (args := #[]) (mvT hZ1 (wT 118 rfl))) (wT 118 rfl) (wT 117 rfl) (wT 119 rfl) (wT 49 rfl) (rm_sappB Gl Ol15 sb va kv vsb (1 : Int32) (acc.take 238) (8230 : Int32) fq15_0 fq15_1 fq15_2 Fl16 fq15_4 fq15_5 fq15_6 f7 (by rw [own_take_len240 hq (by decide)]; decide) hvl (own_lb_take hlb) (by decide) (own_rg_take hrg)) rfl fq15_0 32 rfl 1 0 pd_83287968 rfl rfl rfl rfl rfl (by decide +kernel) (by decide +kernel) ?_
 intro v17 T17 L17 X17 Y17 hQ17
 obtain ⟨t_17, k_17, vs_17, rfl, Nq17, Kq17, zq17_0, fq17_0, fq17_1, fq17_2, fq17_3, fq17_4, fq17_5, fq17_6, pq17_0, pq17_1⟩ := hQ17
 show OwnH p e below _ T17 m _ _ [(.ref sb)]
 have N17 := Fr.app N15 Nq17
 have s_t_17 : h0.size ≤ t_17 := Nat.le_trans K15.1 zq17_0
 have K17 : Keep h0 T17.heap ([sb] : List Addr) := K15.trans Kq17 (allS (Or.inl (List.mem_of_getElem? (i := 0) rfl)) all0)
 have R17 := R15.trans (CHr.keep Kq17 (sfS (Safe.exa (vm := T1.vm) hZ1.alike fq15_0 (by decide) (by decide)) sf0) R15.1)
 have hk17 := Nat.le_trans hk15 Kq17.1
 refine opop Y17 33 rfl rfl ?_
 refine own_leaveW (Z := Z) (EL := consts_1) X17 hS1 hk17 hlk (v := none) (fun _ => rfl) (fun fs hr => X17.returnOut hx Bd.returns (Y0.d 34 rfl) hr) (by decide) (by decide) ?_ ?_
 ·
  rw [hh]
  exact R17.trans (CHv.at X17 hZ1 hEL R17.1)
 show Q_cut_0 Z sb va kv vsb acc mk h0 n0 _ T17.heap _
 exact ⟨t_17, k_17, vs_17, 238, rfl, N17, K17, s_t_17, fq17_0, fq17_1, fq17_2, fq17_3, fq17_4, fq17_5, fq17_6, pq17_0, pq17_1, (own_cut_hi (own_cut_no rfl (by omega) pq2_0 cc3) hh1), (by decide)⟩
theorem ef_cut_1 (m : MethodId) (x0 : Addr) (x1 : Int32) : entryFrame m #[(.ref x0), (.int x1)] 4 = mkF m 0 #[vR x0, vI x1, vU, vU] [] := by
 first | (simp [entryFrame, mkF, argsToLocals, Value.category]; done) | rfl
def Q_cut_1 (Z : State) (sb : Addr) (va : Addr) (kv : ClassId) (vsb : List Value) (acc : List Int32) (mk : Nat) : OwnP := fun h0 n0 v h L => ∃ (vs : List Value), ∃ (lm : Nat), v = none ∧ Fr n0 L ∧ Keep h0 h ([sb, va] : List Addr) ∧ Exa Z h sb "java/lang/StringBuilder" ∧ Fld Z h sb "java/lang/AbstractStringBuilder" "value" "[B" (.ref va) ∧ Fld Z h sb "java/lang/AbstractStringBuilder" "coder" "B" (.int 1) ∧ Fld Z h sb "java/lang/AbstractStringBuilder" "count" "I" (.int (Int32.ofNat ((acc.take lm) ++ [(8230 : Int32)]).length)) ∧ Fld Z h sb "java/lang/AbstractStringBuilder" "maybeLatin1" "Z" (.int 1) ∧ Arv Z h va kv .byte (480 : Int32) vs (.int 0) ∧ Exa Z h va "[B" ∧ (OwnUB ((acc.take lm) ++ [(8230 : Int32)]) vs) ∧ (vs.length = 480) ∧ (OwnCut mk acc lm) ∧ (lm < 240)
theorem rm_cut_1 (l : Launch) (Z : State) (a0 : Array Value) (hw : ∀ d ∈ tables_1, d.before a0 Z = true) (ws : List Jvm.Cond) (wG1 : Int32) (wG3 : Value) (cx : OwnCx Z a0 wG1 wG3) (hEL : EW Z a0 consts_1) (h0 : Heap) (n0 : Nat) (X00 : Old Z n0 h0) (sb : Addr) (va : Addr) (kv : ClassId) (vsb : List Value) (acc : List Int32) (mk : Nat) (f0 : Exa Z h0 sb "java/lang/StringBuilder") (f1 : Fld Z h0 sb "java/lang/AbstractStringBuilder" "value" "[B" (.ref va)) (f2 : Fld Z h0 sb "java/lang/AbstractStringBuilder" "coder" "B" (.int 1)) (f3 : Fld Z h0 sb "java/lang/AbstractStringBuilder" "count" "I" (.int (Int32.ofNat acc.length))) (f4 : Fld Z h0 sb "java/lang/AbstractStringBuilder" "maybeLatin1" "Z" (.int 0)) (f5 : Arv Z h0 va kv .byte (480 : Int32) vsb (.int 0)) (f6 : Exa Z h0 va "[B") (f7 : n0 ≤ sb) (f8 : n0 ≤ va) (hq : acc.length = 240) (hvl : vsb.length = 480) (hub : OwnUB acc vsb) (hrg : OwnRg acc) (hmk : mk ≤ 1) :
  MetFree l mN61 (head1 (Jvm.Cond.code mN61 prog_10_method_4_code 4 none :: ws) (oR 7 2 8 111)) (fun a U => a = #[(.ref sb), (.int (Int32.ofNat mk))] ∧ Z.Warmed39 U.vm ∧ U.heap = h0 ∧ CHv Z consts_1 U.vm h0) (fun _ _ _ _ _ => True) (fun _ U o U' => ∃ v L, o = .returned v ∧ Q_cut_1 Z sb va kv vsb acc mk h0 n0 v U'.heap L ∧ CHr Z consts_1 U.vm U.heap U'.vm U'.heap ∧ ReturnedEndW U o U' L (oR 7 2 8 111).cells (oR 7 2 8 111).slots) := by
 refine MetFree.of_bodySF (plainFor_of_name pn_39649199) hisR ?_
 intro p e s m args below meth c s₁ Bd hml0 hP hK
 obtain ⟨rfl, hZ, hh, hH⟩ := hP
 obtain ⟨wO2, wP5, wO4, wrG3, hstr, wUA, wUH, wUL⟩ := id cx
 have hx := Bd.exec
 have hby := Bd.bytes
 have hlk := Bd.notSynchronized
 have hml : c.maxLocals = 4 := hml0
 have hown : s.vm.findClass "com/example/seekret/seekret/engine/index/Snippets" = some m.cls := findClass_of_methodNamed Bd.named
 have X0 : Stand p l e (oR 7 2 8 111) (s.setVm s.vm) m #[(.ref sb), (.int (Int32.ofNat mk))] below meth c s₁ [] 0 0 := Stand.of_body Bd
 have e0 : s₁.heap = h0 := by rw [← hh, Bd.state]; rfl
 have N0 := Fr.nil n0
 have K0 : Keep h0 h0 ([sb, va] : List Addr) := Keep.refl _ _
 have Y0 := oY0 hx hby dl61 X0
 have R0 : CHr Z consts_1 s.vm h0 s.vm h0 := CHr.refl hH
 have hS0 : s.Since s.vm h0.size := State.WarmedH.since (State.WarmedH.refl s) _
 have hk0 : h0.size ≤ h0.size := Nat.le_refl _
 have Gl : OwnGl Z a0 wG1 wG3 := ⟨hw, cx, hEL⟩
 have wT := oww hw
 show OwnGoes p e below _ s₁ (entryFrame m _ _)
 refine og s₁ m 0 #[vR sb, vI (Int32.ofNat mk), vU, vU] [] (fun tgt kgo => castTop (ef_cut_1 m sb (Int32.ofNat mk)) kgo) ?_
 refine osp 239 Y0 0 rfl rfl <| oiS Y0 1 rfl #[vR sb, vI (Int32.ofNat mk), vI 239, vU] rfl <| oaN Y0 2 rfl rfl rfl ?_
 obtain ⟨b1, T1, h1, kk1, t1, k1, X1, e1, E1, hS1, hk1, hZ1, ho1, A1, Fc1, Fv1, V1, lt1, lu1, Rc1, Lt1, ns1, st1⟩ := ldcCH X0 hx hZ hown (wT 187 rfl) hstr e0 hS0 hk0 hEL (by decide) R0.1 (vs := ((([32] : List Int32).map (fun c => c.toInt8.toInt32)).map Value.int)) (z := (1 : Int32)) (by decide +kernel) (by decide) (by decide +kernel) (g := (mkF m 5 #[vR sb, vI (Int32.ofNat mk), vI 239, vU] [(.ref sb)])) rfl (Y0.d 3 rfl) (n := 4) (by decide) (by decide) (by decide) (by decide)
 refine og T1 m 7 #[vR sb, vI (Int32.ofNat mk), vI 239, vU] [(.ref b1), (.ref sb)] st1 ?_
 have F1_1 := f0.ext E1
 have F1_2 := f1.ext E1
 have F1_3 := f2.ext E1
 have F1_4 := f3.ext E1
 have F1_5 := f4.ext E1
 have F1_6 := f5.ext E1
 have F1_7 := f6.ext E1
 have Ol1 := X00.ext E1
 have K1 : Keep h0 h1 ([sb, va] : List Addr) := K0.ext E1
 have R1 := R0.trans Rc1
 have Y1 := Y0.nx X1
 refine oiN Y1 4 rfl rfl ?_
 refine oCV X1 Y1 hZ1 hml ho1 (wT 190 rfl) (wT 191 rfl) (notFace_of_selects (args := #[]) (mvT hZ1 (wT 193 rfl))) (wT 193 rfl) (wT 192 rfl) (wT 194 rfl) (wT 49 rfl) (rm_blio_1 Gl Ol1 sb va kv vsb (0 : Int32) acc b1 t1 k1 F1_1 F1_2 F1_3 F1_4 F1_5 F1_6 F1_7 A1 Fv1 Fc1 V1 hq hvl hub hrg) e1 F1_1 5 rfl 2 0 pd_96034481 rfl rfl rfl rfl rfl (by decide +kernel) (by decide +kernel) ?_
 intro v2 T2 L2 X2 Y2 hQ2
 obtain ⟨r_2, rfl, Nq2, eq2, pq2_0⟩ := hQ2
 show OwnH p e below _ T2 m _ _ [(.int r_2)]
 have N2 := Fr.app N0 Nq2
 refine oiS Y2 6 rfl #[vR sb, vI (Int32.ofNat mk), vI 239, vI r_2] rfl <| oiN Y2 7 rfl rfl <| oiN Y2 8 rfl rfl <| oiN Y2 9 rfl rfl <| oiN Y2 10 rfl rfl <| osub Y2 11 rfl <| oic 2 Y2 12 rfl rfl <| odiv Y2 13 rfl (by decide) <| oadd Y2 14 rfl ?_
 refine og T2 m 20 #[vR sb, vI (Int32.ofNat mk), vI 239, vI r_2] [(.int (Int32.ofNat (mk + (239 - mk) / 2))), (.int r_2)] (fun tgt kgo => castTop (by rw [(own_hf hmk)]) kgo) ?_
 by_cases cc3 : (Int32.ofNat (mk + (239 - mk) / 2)) < r_2
 ·
  obtain ⟨q, hq1, hq2, hq3, hq4⟩ := own_lst_pos (own_nat (by omega)).2.1 pq2_0 cc3
  refine ocn Y2 15 rfl (tlt cc3).2.2.2 <| oiN Y2 16 rfl rfl <| oiS Y2 17 rfl #[vR sb, vI (Int32.ofNat mk), vI r_2, vI r_2] rfl <| ogt 44 Y2 18 rfl rfl ?_
  refine og T2 m 44 #[vR sb, vI (Int32.ofNat mk), vI (Int32.ofNat q), vI (Int32.ofNat q)] [] (fun tgt kgo => castTop (by rw [hq1]) kgo) ?_
  refine oaN Y2 27 rfl rfl rfl <| oiN Y2 28 rfl rfl ?_
  refine oCV X2 Y2 hZ1 hml ho1 (wT 224 rfl) (wT 225 rfl) (notFace_of_selects (args := #[]) (mvT hZ1 (wT 227 rfl))) (wT 227 rfl) (wT 226 rfl) (wT 228 rfl) (wT 49 rfl) (rm_ssl_1 Gl Ol1 sb va kv vsb (0 : Int32) acc q F1_1 F1_2 F1_3 F1_4 F1_5 F1_6 F1_7 f7 hq hq2) eq2 F1_1 29 rfl 1 0 pd_57711528 rfl rfl rfl rfl rfl (by decide +kernel) (by decide +kernel) ?_
  intro v4 T4 L4 X4 Y4 hQ4
  obtain ⟨rfl, Nq4, Kq4, fq4_0, fq4_1, fq4_2, fq4_3, fq4_4, fq4_5, fq4_6⟩ := hQ4
  show OwnH p e below _ T4 m _ _ []
  have N4 := Fr.app N2 Nq4
  have Ol4 := Ol1.keep Kq4 (allS f7 all0)
  have K4 : Keep h0 T4.heap ([sb, va] : List Addr) := K1.trans Kq4 (allS (Or.inl (List.mem_of_getElem? (i := 0) rfl)) all0)
  have R4 := R1.trans (CHr.keep Kq4 (sfS (Safe.exa (vm := T1.vm) hZ1.alike F1_1 (by decide) (by decide)) sf0) R1.1)
  have hk4 := Nat.le_trans hk1 Kq4.1
  have Fl5 : Fld Z T4.heap sb "java/lang/AbstractStringBuilder" "count" "I" (.int (Int32.ofNat (acc.take q).length)) := by rw [own_take_len240 hq hq2]; exact fq4_3
  refine oaN Y4 30 rfl rfl rfl <| osp 8230 Y4 31 rfl rfl ?_
  refine oCV X4 Y4 hZ1 hml ho1 (wT 115 rfl) (wT 116 rfl) (notFace_of_selects (args := #[]) (mvT hZ1 (wT 118 rfl))) (wT 118 rfl) (wT 117 rfl) (wT 119 rfl) (wT 49 rfl) (rm_sappC Gl Ol4 sb va kv vsb (1 : Int32) (acc.take q) (8230 : Int32) fq4_0 fq4_1 fq4_2 Fl5 fq4_4 fq4_5 fq4_6 f7 f8 (by rw [own_take_len240 hq hq2]; exact hq2) hvl (own_ub_take hub)) rfl fq4_0 32 rfl 1 0 pd_83287968 rfl rfl rfl rfl rfl (by decide +kernel) (by decide +kernel) ?_
  intro v6 T6 L6 X6 Y6 hQ6
  obtain ⟨vs_6, rfl, Nq6, Kq6, fq6_0, fq6_1, fq6_2, fq6_3, fq6_4, fq6_5, fq6_6, pq6_0, pq6_1⟩ := hQ6
  show OwnH p e below _ T6 m _ _ [(.ref sb)]
  have N6 := Fr.app N4 Nq6
  have K6 : Keep h0 T6.heap ([sb, va] : List Addr) := K4.trans Kq6 (allS (Or.inl (List.mem_of_getElem? (i := 0) rfl)) (allS (Or.inl (List.mem_of_getElem? (i := 1) rfl)) all0))
  have R6 := R4.trans (CHr.keep Kq6 (sfS (Safe.exa (vm := T1.vm) hZ1.alike fq4_0 (by decide) (by decide)) (sfS (own_safe_len hZ1 (wT 187 rfl) fq4_5 (by decide)) sf0)) R4.1)
  have hk6 := Nat.le_trans hk4 Kq6.1
  refine opop Y6 33 rfl rfl ?_
  refine own_leaveW (Z := Z) (EL := consts_1) X6 hS1 hk6 hlk (v := none) (fun _ => rfl) (fun fs hr => X6.returnOut hx Bd.returns (Y0.d 34 rfl) hr) (by decide) (by decide) ?_ ?_
  ·
   rw [hh]
   exact R6.trans (CHv.at X6 hZ1 hEL R6.1)
  show Q_cut_1 Z sb va kv vsb acc mk h0 n0 _ T6.heap _
  exact ⟨vs_6, q, rfl, N6, K6, fq6_0, fq6_1, fq6_2, fq6_3, fq6_4, fq6_5, fq6_6, pq6_0, pq6_1, (own_cut_sp (own_half (by omega) (by omega) (hq1 ▸ cc3)) hq2 hq3 hq4), hq2⟩
 refine ocy 28 Y2 15 rfl rfl (flt cc3).2.2.2 <| oaN Y2 19 rfl rfl rfl <| oiN Y2 20 rfl rfl <| oic 1 Y2 21 rfl rfl <| osub Y2 22 rfl <| oti (238 : Int32) (by decide) ?_
 refine oCV X2 Y2 hZ1 hml ho1 (wT 206 rfl) (wT 207 rfl) (notFace_of_selects (args := #[]) (mvT hZ1 (wT 209 rfl))) (wT 209 rfl) (wT 208 rfl) (wT 210 rfl) (wT 49 rfl) (rm_sch_1 Gl Ol1 sb va kv vsb (0 : Int32) acc F1_1 F1_2 F1_3 F1_4 F1_5 F1_6 F1_7 hq hvl hub hrg) eq2 F1_1 23 rfl 1 0 pd_17647939 rfl rfl rfl rfl rfl (by decide +kernel) (by decide +kernel) ?_
 intro v8 T8 L8 X8 Y8 hQ8
 obtain ⟨rfl, Nq8, eq8⟩ := hQ8
 show OwnH p e below _ T8 m _ _ [(.int (acc.getD 238 0))]
 have N8 := Fr.app N2 Nq8
 refine oCS X8 Y8 hZ1 hml ho1 (wT 219 rfl) (wT 220 rfl) (wT 221 rfl) (wT 222 rfl) (rm_ishigh Gl Ol1 (acc.getD 238 0)) eq8 24 rfl 1 0 pd_92619605 rfl rfl rfl rfl (by decide +kernel) ?_
 intro v9 T9 L9 X9 Y9 hQ9
 obtain ⟨rfl, Nq9, eq9⟩ := hQ9
 show OwnH p e below _ T9 m _ _ [(.int (ownI (ownHigh (acc.getD 238 0))))]
 have N9 := Fr.app N8 Nq9
 by_cases cc10 : (ownI (ownHigh (acc.getD 238 0))) = (0 : Int32)
 ·
  have hh0 : ownHigh (acc.getD 238 0) = false := (own_i0 _).mp cc10
  refine oify 44 Y9 25 rfl rfl ((if0 _ _).trans (teq cc10).1) <| oaN Y9 27 rfl rfl rfl <| oiN Y9 28 rfl rfl ?_
  refine oCV X9 Y9 hZ1 hml ho1 (wT 224 rfl) (wT 225 rfl) (notFace_of_selects (args := #[]) (mvT hZ1 (wT 227 rfl))) (wT 227 rfl) (wT 226 rfl) (wT 228 rfl) (wT 49 rfl) (rm_ssl_1 Gl Ol1 sb va kv vsb (0 : Int32) acc 239 F1_1 F1_2 F1_3 F1_4 F1_5 F1_6 F1_7 f7 hq (by decide)) eq9 F1_1 29 rfl 1 0 pd_57711528 rfl rfl rfl rfl rfl (by decide +kernel) (by decide +kernel) ?_
  intro v11 T11 L11 X11 Y11 hQ11
  obtain ⟨rfl, Nq11, Kq11, fq11_0, fq11_1, fq11_2, fq11_3, fq11_4, fq11_5, fq11_6⟩ := hQ11
  show OwnH p e below _ T11 m _ _ []
  have N11 := Fr.app N9 Nq11
  have Ol11 := Ol1.keep Kq11 (allS f7 all0)
  have K11 : Keep h0 T11.heap ([sb, va] : List Addr) := K1.trans Kq11 (allS (Or.inl (List.mem_of_getElem? (i := 0) rfl)) all0)
  have R11 := R1.trans (CHr.keep Kq11 (sfS (Safe.exa (vm := T1.vm) hZ1.alike F1_1 (by decide) (by decide)) sf0) R1.1)
  have hk11 := Nat.le_trans hk1 Kq11.1
  have Fl12 : Fld Z T11.heap sb "java/lang/AbstractStringBuilder" "count" "I" (.int (Int32.ofNat (acc.take 239).length)) := by rw [own_take_len240 hq (by decide)]; exact fq11_3
  refine oaN Y11 30 rfl rfl rfl <| osp 8230 Y11 31 rfl rfl ?_
  refine oCV X11 Y11 hZ1 hml ho1 (wT 115 rfl) (wT 116 rfl) (notFace_of_selects (args := #[]) (mvT hZ1 (wT 118 rfl))) (wT 118 rfl) (wT 117 rfl) (wT 119 rfl) (wT 49 rfl) (rm_sappC Gl Ol11 sb va kv vsb (1 : Int32) (acc.take 239) (8230 : Int32) fq11_0 fq11_1 fq11_2 Fl12 fq11_4 fq11_5 fq11_6 f7 f8 (by rw [own_take_len240 hq (by decide)]; decide) hvl (own_ub_take hub)) rfl fq11_0 32 rfl 1 0 pd_83287968 rfl rfl rfl rfl rfl (by decide +kernel) (by decide +kernel) ?_
  intro v13 T13 L13 X13 Y13 hQ13
  obtain ⟨vs_13, rfl, Nq13, Kq13, fq13_0, fq13_1, fq13_2, fq13_3, fq13_4, fq13_5, fq13_6, pq13_0, pq13_1⟩ := hQ13
  show OwnH p e below _ T13 m _ _ [(.ref sb)]
  have N13 := Fr.app N11 Nq13
  have K13 : Keep h0 T13.heap ([sb, va] : List Addr) := K11.trans Kq13 (allS (Or.inl (List.mem_of_getElem? (i := 0) rfl)) (allS (Or.inl (List.mem_of_getElem? (i := 1) rfl)) all0))
  have R13 := R11.trans (CHr.keep Kq13 (sfS (Safe.exa (vm := T1.vm) hZ1.alike fq11_0 (by decide) (by decide)) (sfS (own_safe_len hZ1 (wT 187 rfl) fq11_5 (by decide)) sf0)) R11.1)
  have hk13 := Nat.le_trans hk11 Kq13.1
  refine opop Y13 33 rfl rfl ?_
  refine own_leaveW (Z := Z) (EL := consts_1) X13 hS1 hk13 hlk (v := none) (fun _ => rfl) (fun fs hr => X13.returnOut hx Bd.returns (Y0.d 34 rfl) hr) (by decide) (by decide) ?_ ?_
  ·
   rw [hh]
   exact R13.trans (CHv.at X13 hZ1 hEL R13.1)
  show Q_cut_1 Z sb va kv vsb acc mk h0 n0 _ T13.heap _
  exact ⟨vs_13, 239, rfl, N13, K13, fq13_0, fq13_1, fq13_2, fq13_3, fq13_4, fq13_5, fq13_6, pq13_0, pq13_1, (own_cut_lo (own_cut_no rfl (by omega) pq2_0 cc3) hh0), (by decide)⟩
 have hh1 : ownHigh (acc.getD 238 0) = true := (own_i1 _).mp cc10
 refine oifn Y9 25 rfl ((if0 _ _).trans (feq cc10).1) <| oinc Y9 26 rfl #[vR sb, vI (Int32.ofNat mk), vI 238, vI r_2] rfl rfl <| oaN Y9 27 rfl rfl rfl <| oiN Y9 28 rfl rfl ?_
 refine oCV X9 Y9 hZ1 hml ho1 (wT 224 rfl) (wT 225 rfl) (notFace_of_selects (args := #[]) (mvT hZ1 (wT 227 rfl))) (wT 227 rfl) (wT 226 rfl) (wT 228 rfl) (wT 49 rfl) (rm_ssl_1 Gl Ol1 sb va kv vsb (0 : Int32) acc 238 F1_1 F1_2 F1_3 F1_4 F1_5 F1_6 F1_7 f7 hq (by decide)) eq9 F1_1 29 rfl 1 0 pd_57711528 rfl rfl rfl rfl rfl (by decide +kernel) (by decide +kernel) ?_
 intro v15 T15 L15 X15 Y15 hQ15
 obtain ⟨rfl, Nq15, Kq15, fq15_0, fq15_1, fq15_2, fq15_3, fq15_4, fq15_5, fq15_6⟩ := hQ15
 show OwnH p e below _ T15 m _ _ []
 have N15 := Fr.app N9 Nq15
 have Ol15 := Ol1.keep Kq15 (allS f7 all0)
 have K15 : Keep h0 T15.heap ([sb, va] : List Addr) := K1.trans Kq15 (allS (Or.inl (List.mem_of_getElem? (i := 0) rfl)) all0)
 have R15 := R1.trans (CHr.keep Kq15 (sfS (Safe.exa (vm := T1.vm) hZ1.alike F1_1 (by decide) (by decide)) sf0) R1.1)
 have hk15 := Nat.le_trans hk1 Kq15.1
 have Fl16 : Fld Z T15.heap sb "java/lang/AbstractStringBuilder" "count" "I" (.int (Int32.ofNat (acc.take 238).length)) := by rw [own_take_len240 hq (by decide)]; exact fq15_3
 refine oaN Y15 30 rfl rfl rfl <| osp 8230 Y15 31 rfl rfl ?_
 refine oCV X15 Y15 hZ1 hml ho1 (wT 115 rfl) (wT 116 rfl) (notFace_of_selects (args := #[]) (mvT hZ1 (wT 118 rfl))) (wT 118 rfl) (wT 117 rfl) (wT 119 rfl) (wT 49 rfl) (rm_sappC Gl Ol15 sb va kv vsb (1 : Int32) (acc.take 238) (8230 : Int32) fq15_0 fq15_1 fq15_2 Fl16 fq15_4 fq15_5 fq15_6 f7 f8 (by rw [own_take_len240 hq (by decide)]; decide) hvl (own_ub_take hub)) rfl fq15_0 32 rfl 1 0 pd_83287968 rfl rfl rfl rfl rfl (by decide +kernel) (by decide +kernel) ?_
 intro v17 T17 L17 X17 Y17 hQ17
 obtain ⟨vs_17, rfl, Nq17, Kq17, fq17_0, fq17_1, fq17_2, fq17_3, fq17_4, fq17_5, fq17_6, pq17_0, pq17_1⟩ := hQ17
 show OwnH p e below _ T17 m _ _ [(.ref sb)]
 have N17 := Fr.app N15 Nq17
 have K17 : Keep h0 T17.heap ([sb, va] : List Addr) := K15.trans Kq17 (allS (Or.inl (List.mem_of_getElem? (i := 0) rfl)) (allS (Or.inl (List.mem_of_getElem? (i := 1) rfl)) all0))
 have R17 := R15.trans (CHr.keep Kq17 (sfS (Safe.exa (vm := T1.vm) hZ1.alike fq15_0 (by decide) (by decide)) (sfS (own_safe_len hZ1 (wT 187 rfl) fq15_5 (by decide)) sf0)) R15.1)
 have hk17 := Nat.le_trans hk15 Kq17.1
 refine opop Y17 33 rfl rfl ?_
 refine own_leaveW (Z := Z) (EL := consts_1) X17 hS1 hk17 hlk (v := none) (fun _ => rfl) (fun fs hr => X17.returnOut hx Bd.returns (Y0.d 34 rfl) hr) (by decide) (by decide) ?_ ?_
 ·
  rw [hh]
  exact R17.trans (CHv.at X17 hZ1 hEL R17.1)
 show Q_cut_1 Z sb va kv vsb acc mk h0 n0 _ T17.heap _
 exact ⟨vs_17, 238, rfl, N17, K17, fq17_0, fq17_1, fq17_2, fq17_3, fq17_4, fq17_5, fq17_6, pq17_0, pq17_1, (own_cut_hi (own_cut_no rfl (by omega) pq2_0 cc3) hh1), (by decide)⟩
theorem ef_around (m : MethodId) (x0 : Addr) (x1 : Int32) : entryFrame m #[(.ref x0), (.int x1)] 5 = mkF m 0 #[vR x0, vI x1, vU, vU, vU] [] := by
 first | (simp [entryFrame, mkF, argsToLocals, Value.category]; done) | rfl
def Q_around (Z : State) (a1 : Addr) (cd1 : Int32) (tb1 : Addr) (kb1 : ClassId) (nB1 : Int32) (vs1 : List Value) (cs1 : List Int32) (pa : Int32) (pl : Nat) : OwnP := fun h0 n0 v h L => ∃ (x : Addr), ∃ (t : Addr), ∃ (k : ClassId), ∃ (N : Int32), ∃ (vs : List Value), ∃ (cd : Int32), ∃ (R : List Int32), v = some (.ref x) ∧ Fr n0 L ∧ Keep h0 h ([] : List Addr) ∧ Exa Z h x "java/lang/String" ∧ Fld Z h x "java/lang/String" "value" "[B" (.ref t) ∧ Fld Z h x "java/lang/String" "coder" "B" (.int cd) ∧ Arv Z h t k .byte N vs (.int 0) ∧ (OwnStr R cd N vs) ∧ (OwnRes cs1 pl R)
def ll62 : List (Nat × Instr × Nat) := [(0, .aload_n 0, 1), (1, .iload_n 1, 1), (2, .iconst 0, 1), (3, .invokestatic 7, 3), (6, .invokestatic 13, 3), (9, .istore_n 2, 1), (10, .new 19, 3), (13, .dup, 1), (14, .sipush 240, 3), (17, .invokespecial 21, 3), (20, .astore_n 3, 1), (21, .iload_n 2, 1), (22, .ifCond .le 11, 3), (25, .aload_n 3, 1), (26, .sipush 8230, 3), (29, .invokevirtual 24, 3), (32, .pop, 1), (33, .aload_n 0, 1), (34, .iload_n 2, 1), (35, .invokestatic 28, 3), (38, .istore 4, 2), (40, .iload 4, 2), (42, .aload_n 0, 1), (43, .invokevirtual 31, 3), (46, .if_icmp .ge 69, 3), (49, .aload_n 3, 1), (50, .invokevirtual 37, 3), (53, .sipush 240, 3), (56, .if_icmp .ge 59, 3), (59, .aload_n 0, 1), (60, .iload 4, 2), (62, .invokevirtual 38, 3), (65, .invokestatic 42, 3), (68, .ifCond .eq 30, 3), (71, .aload_n 0, 1), (72, .iload 4, 2), (74, .invokestatic 28, 3), (77, .istore 4, 2), (79, .iload 4, 2), (81, .aload_n 0, 1), (82, .invokevirtual 31, 3), (85, .if_icmp .ge (-45), 3), (88, .aload_n 3, 1), (89, .bipush 32, 2), (91, .invokevirtual 24, 3), (94, .pop, 1), (95, .goto (-55), 3), (98, .aload_n 3, 1), (99, .aload_n 0, 1), (100, .iload 4, 2), (102, .invokevirtual 38, 3), (105, .invokevirtual 24, 3), (108, .pop, 1), (109, .iinc 4 1, 3), (112, .goto (-72), 3), (115, .iload 4, 2), (117, .aload_n 0, 1), (118, .invokevirtual 31, 3), (121, .if_icmp .ge 16, 3), (124, .aload_n 3, 1), (125, .iload_n 2, 1), (126, .ifCond .le 7, 3), (129, .iconst 1, 1), (130, .goto 4, 3), (133, .iconst 0, 1), (134, .invokestatic 46, 3), (137, .aload_n 3, 1), (138, .invokevirtual 50, 3), (141, .areturn, 1)]
theorem dl62 : OwnDec prog_10_method_2_code ll62 := by decide +kernel
theorem pd_43795568 : parseMethodDescriptor "(Ljava/lang/StringBuilder;I)V" = some ⟨[(.object "java/lang/StringBuilder"), .int], none⟩ := by decide +kernel
theorem pd_24953479 : parseMethodDescriptor "()Ljava/lang/String;" = some ⟨[], some (.object "java/lang/String")⟩ := by decide +kernel
theorem rm_around (l : Launch) (Z : State) (a0 : Array Value) (hw : ∀ d ∈ tables_1, d.before a0 Z = true) (ws : List Jvm.Cond) (wG1 : Int32) (wG3 : Value) (cx : OwnCx Z a0 wG1 wG3) (hEL : EW Z a0 consts_1) (h0 : Heap) (n0 : Nat) (X00 : Old Z n0 h0) (a1 : Addr) (cd1 : Int32) (tb1 : Addr) (kb1 : ClassId) (nB1 : Int32) (vs1 : List Value) (cs1 : List Int32) (pa : Int32) (pl : Nat) (f0 : Exa Z h0 a1 "java/lang/String") (f1 : Fld Z h0 a1 "java/lang/String" "value" "[B" (.ref tb1)) (f2 : Fld Z h0 a1 "java/lang/String" "coder" "B" (.int cd1)) (f3 : Arv Z h0 tb1 kb1 .byte nB1 vs1 (.int 0)) (hos : OwnStr cs1 cd1 nB1 vs1) (hn3 : cs1.length ≤ 300) (hp : pl ≤ cs1.length) (hpa : (pa = (-1 : Int32) ∧ pl = 0) ∨ pa = Int32.ofNat pl) :
  MetFree l mN62 (head1 (Jvm.Cond.code mN62 prog_10_method_2_code 5 (some (.object "java/lang/String")) :: ws) (oR 9 8 1576 130)) (fun a U => a = #[(.ref a1), (.int pa)] ∧ Z.Warmed39 U.vm ∧ U.heap = h0 ∧ CHv Z consts_1 U.vm h0) (fun _ _ _ _ _ => True) (fun _ U o U' => ∃ v L, o = .returned v ∧ Q_around Z a1 cd1 tb1 kb1 nB1 vs1 cs1 pa pl h0 n0 v U'.heap L ∧ CHr Z consts_1 U.vm U.heap U'.vm U'.heap ∧ ReturnedEndW U o U' L (oR 9 8 1576 130).cells (oR 9 8 1576 130).slots) := by
 refine MetFree.of_bodySF (plainFor_of_name pn_39649199) hisR ?_
 intro p e s m args below meth c s₁ Bd hml0 hP hK
 obtain ⟨rfl, hZ, hh, hH⟩ := hP
 have hx := Bd.exec
 have hby := Bd.bytes
 have hlk := Bd.notSynchronized
 have hml : c.maxLocals = 5 := hml0
 have hown : s.vm.findClass "com/example/seekret/seekret/engine/index/Snippets" = some m.cls := findClass_of_methodNamed Bd.named
 have X0 : Stand p l e (oR 9 8 1576 130) (s.setVm s.vm) m #[(.ref a1), (.int pa)] below meth c s₁ [] 0 0 := Stand.of_body Bd
 have e0 : s₁.heap = h0 := by rw [← hh, Bd.state]; rfl
 have N0 := Fr.nil n0
 have Z0 : n0 ≤ h0.size := X00.1 ▸ X00.2.1
 have K0 : Keep h0 h0 ([] : List Addr) := Keep.refl _ _
 have Y0 := oY0 hx hby dl62 X0
 have R0 : CHr Z consts_1 s.vm h0 s.vm h0 := CHr.refl hH
 have hS0 : s.Since s.vm h0.size := State.WarmedH.since (State.WarmedH.refl s) _
 have hk0 : h0.size ≤ h0.size := Nat.le_refl _
 have Gl : OwnGl Z a0 wG1 wG3 := ⟨hw, cx, hEL⟩
 have wT := oww hw
 show OwnGoes p e below _ s₁ (entryFrame m _ _)
 refine og s₁ m 0 #[vR a1, vI pa, vU, vU, vU] [] (fun tgt kgo => castTop (ef_around m a1 pa) kgo) ?_
 refine oaN Y0 0 rfl rfl rfl <| oiN Y0 1 rfl rfl <| oic 0 Y0 2 rfl rfl ?_
 refine oCS X0 Y0 hZ hml hown (wT 40 rfl) (wT 41 rfl) (wT 42 rfl) (wT 43 rfl) (rm_max Gl X00 pa pl hpa (by omega)) e0 3 rfl 2 1 pd_50523903 rfl rfl rfl rfl (by decide +kernel) ?_
 intro v1 T1 L1 X1 Y1 hQ1
 obtain ⟨rfl, Nq1, eq1⟩ := hQ1
 show OwnH p e below _ T1 m _ _ [(.int (Int32.ofNat pl)), (.ref a1)]
 have N1 := Fr.app N0 Nq1
 refine oCS X1 Y1 hZ hml hown (wT 44 rfl) (wT 45 rfl) (wT 38 rfl) (wT 46 rfl) (rm_start Gl X00 a1 cd1 tb1 kb1 nB1 vs1 cs1 pl f0 f1 f2 f3 hos hn3 hp) eq1 4 rfl 2 0 pd_96034481 rfl rfl rfl rfl (by decide +kernel) ?_
 intro v2 T2 L2 X2 Y2 hQ2
 obtain ⟨r_2, rfl, Nq2, eq2, pq2_0⟩ := hQ2
 show OwnH p e below _ T2 m _ _ [(.int (Int32.ofNat r_2))]
 have N2 := Fr.app N1 Nq2
 refine oiS Y2 5 rfl #[vR a1, vI pa, vI (Int32.ofNat r_2), vU, vU] rfl ?_
 obtain ⟨T3, h3, X3, e3, E3, A3, D3, U3, st3⟩ := newO X2 hx hZ hown (wT 47 rfl) (wT 48 rfl) (wT 49 rfl) eq2 (g := (mkF m 10 #[vR a1, vI pa, vI (Int32.ofNat r_2), vU, vU] [])) rfl (Y0.d 6 rfl) (by decide) (by decide)
 obtain ⟨b3, g3⟩ : ∃ z, z = h0.size := ⟨_, rfl⟩
 rw [← g3] at A3 D3 U3 st3
 refine og T3 m 13 #[vR a1, vI pa, vI (Int32.ofNat r_2), vU, vU] [(.ref b3)] st3 ?_
 have ne_a1_b3 : a1 ≠ b3 := Nat.ne_of_lt (Nat.lt_of_lt_of_le f0.lt (Nat.le_of_eq g3.symm))
 have ne_tb1_b3 : tb1 ≠ b3 := Nat.ne_of_lt (Nat.lt_of_lt_of_le f3.lt (Nat.le_of_eq g3.symm))
 have g_b3 : n0 ≤ b3 := Nat.le_trans (Nat.le_trans Z0 K0.1) (Nat.le_of_eq g3.symm)
 have s_b3 : h0.size ≤ b3 := Nat.le_trans K0.1 (Nat.le_of_eq g3.symm)
 have Sf3 : Safe Z consts_1 s.vm h3 b3 := Safe.ext E3 R0.1 (Safe.new (Nat.le_of_eq g3.symm))
 have F3_1 := f0.ext E3
 have F3_2 := f1.ext E3
 have F3_3 := f2.ext E3
 have F3_4 := f3.ext E3
 have Ol3 := X00.ext E3
 have K3 : Keep h0 h3 ([] : List Addr) := K0.ext E3
 have R3 := R0.trans (CHr.ext E3 R0.1)
 have hk3 := Nat.le_trans hk0 E3.1
 have F3_5 : Fld Z h3 b3 "java/lang/AbstractStringBuilder" "value" "[B" .null := D3 (Or.inl (wT 62 rfl)) (ty := (.array .byte)) (by decide)
 have F3_6 : Fld Z h3 b3 "java/lang/AbstractStringBuilder" "coder" "B" (.int 0) := D3 (Or.inl (wT 64 rfl)) (ty := .byte) (by decide)
 have F3_7 : Fld Z h3 b3 "java/lang/AbstractStringBuilder" "count" "I" (.int 0) := D3 (Or.inl (wT 114 rfl)) (ty := .int) (by decide)
 have F3_8 : Fld Z h3 b3 "java/lang/AbstractStringBuilder" "maybeLatin1" "Z" (.int 0) := D3 (Or.inl (wT 234 rfl)) (ty := .boolean) (by decide)
 have Y3 := Y0.nx X3
 refine odup Y3 7 rfl rfl <| osp 240 Y3 8 rfl rfl ?_
 obtain ⟨_, _, ⟨T4, L4, k4, n4⟩, -, X4, ⟨Lc4, hQ4, l4, y4, z4⟩, st4⟩ := X3.specialBack hx (y := mN19) rfl hown (mvT hZ (wT 50 rfl)) (mvT hZ (wT 51 rfl)) (mvT hZ (wT 52 rfl)) (by decide) (backOf (W := 1) (rm_sbi Gl Ol3 b3 A3 F3_5 F3_6 g_b3 F3_7 F3_8) hZ (wT 52 rfl) (wT 49 rfl) (by decide) (by decide)) (g := (mkF m 17 #[vR a1, vI pa, vI (Int32.ofNat r_2), vU, vU] [(.int 240), (.ref b3), (.ref b3)])) rfl (by rw [hml]; rfl) (Steps.refl _) (a := b3) (argsL := [(.int 240)]) (rest := [(.ref b3)]) (lenOf pd_57711528 rfl) rfl (Nat.le_of_eq rfl) (Y0.d 9 rfl) (fun _ _ => ⟨rfl, e3, (by decide : 1 + 1 ≤ _), (by decide : 4 + 240 ≤ _)⟩)
 dsimp only [Pt.U, Pt.locs, Pt.cells, Pt.slots] at X4 l4 y4 z4 st4 hQ4
 subst l4 y4 z4
 obtain ⟨vv_4, k_4, rfl, Nq4, Kq4, zq4_0, fq4_0, fq4_1, fq4_2, fq4_3, fq4_4, fq4_5, fq4_6⟩ := hQ4
 refine OwnGoes.tr (T' := T4) (g' := (mkF m 20 #[vR a1, vI pa, vI (Int32.ofNat r_2), vU, vU] [(.ref b3)])) st4 ?_
 have N4 := Fr.app N2 Nq4
 have ne_tb1_vv_4 : tb1 ≠ vv_4 := Nat.ne_of_lt (Nat.lt_of_lt_of_le F3_4.lt zq4_0)
 have g_vv_4 : n0 ≤ vv_4 := Nat.le_trans (Nat.le_trans Z0 K3.1) zq4_0
 have s_vv_4 : h0.size ≤ vv_4 := Nat.le_trans K3.1 zq4_0
 have F4_9 := F3_1.keep Kq4
 have F4_10 := F3_2.keep Kq4 (ninS ne_a1_b3 nin0)
 have F4_11 := F3_3.keep Kq4 (ninS ne_a1_b3 nin0)
 have F4_12 := F3_4.keep Kq4 (ninS ne_tb1_b3 nin0)
 have F4_13 := Safe.keep Kq4 (sfS Sf3 sf0) R3.1 Sf3
 have Ol4 := Ol3.keep Kq4 (allS g_b3 all0)
 have K4 : Keep h0 T4.heap ([] : List Addr) := K3.trans Kq4 (allS (Or.inr s_b3) all0)
 have R4 := R3.trans (CHr.keep Kq4 (sfS Sf3 sf0) R3.1)
 have hk4 := Nat.le_trans hk3 Kq4.1
 have Fz5 : Fld Z T4.heap b3 "java/lang/AbstractStringBuilder" "count" "I" (.int (Int32.ofNat ([] : List Int32).length)) := fq4_3
 have Y4 := Y0.nx X4
 refine oaS Y4 10 rfl #[vR a1, vI pa, vI (Int32.ofNat r_2), vR b3, vU] rfl rfl ?_
 obtain ⟨en, hen⟩ := own_end_ex cs1
 have hsl : r_2 ≤ cs1.length := own_start_le hp pq2_0
 have ex1 : ∀ (it : Nat) (acc : List Int32) (va : Addr) (kv : ClassId) (vsb : List Value) (T6 : State) (h6 : Heap) (L6 : List Loc) (X6 : Stand p l e (oR 9 8 1576 130) (s.setVm s.vm) m #[(.ref a1), (.int pa)] below meth c T6 L6 3 844) (e6 : T6.heap = h6) (Ol6 : Old Z n0 h6) (K6 : Keep h0 h6 ([] : List Addr)) (N6 : Fr n0 L6) (R6 : CHr Z consts_1 s.vm h0 s.vm h6) (hk6 : h0.size ≤ h6.size) (F6_15 : Exa Z h6 b3 "java/lang/StringBuilder") (F6_16 : Fld Z h6 b3 "java/lang/AbstractStringBuilder" "value" "[B" (.ref va)) (F6_17 : Fld Z h6 b3 "java/lang/AbstractStringBuilder" "coder" "B" (.int 1)) (F6_18 : Fld Z h6 b3 "java/lang/AbstractStringBuilder" "count" "I" (.int (Int32.ofNat acc.length))) (F6_19 : Fld Z h6 b3 "java/lang/AbstractStringBuilder" "maybeLatin1" "Z" (.int 0)) (F6_20 : Arv Z h6 va kv .byte (480 : Int32) vsb (.int 0)) (F6_21 : Exa Z h6 va "[B") (F6_22 : n0 ≤ va) (F6_23 : h0.size ≤ va) (F6_24 : tb1 ≠ va) (F6_25 : Exa Z h6 a1 "java/lang/String") (F6_26 : Fld Z h6 a1 "java/lang/String" "value" "[B" (.ref tb1)) (F6_27 : Fld Z h6 a1 "java/lang/String" "coder" "B" (.int cd1)) (F6_28 : Arv Z h6 tb1 kb1 .byte nB1 vs1 (.int 0)) (hI : OwnInv cs1 r_2 en (ownMark r_2) it acc) (hvl : vsb.length = 480) (hub : OwnUB acc vsb) (hrg : OwnRg acc) (hexA : ∃ c ∈ acc, (255 : Int32) < c) (hxe : it = cs1.length ∨ acc.length = 240), OwnGoes p e below (fun o U' => ∃ v L, o = .returned v ∧ Q_around Z a1 cd1 tb1 kb1 nB1 vs1 cs1 pa pl h0 n0 v U'.heap L ∧ CHr Z consts_1 s.vm s.heap U'.vm U'.heap ∧ ReturnedEndW s o U' L (oR 9 8 1576 130).cells (oR 9 8 1576 130).slots) T6 (mkF m 115 #[vR a1, vI pa, vI (Int32.ofNat r_2), vR b3, vI (Int32.ofNat it)] []) := by
  intro it acc va kv vsb T6 h6 L6 X6 e6 Ol6 K6 N6 R6 hk6 F6_15 F6_16 F6_17 F6_18 F6_19 F6_20 F6_21 F6_22 F6_23 F6_24 F6_25 F6_26 F6_27 F6_28 hI hvl hub hrg hexA hxe
  have hcap := hI.cap
  have hln := hI.ln
  have Y6 := Y0.nx X6
  refine oil Y6 55 rfl rfl <| oaN Y6 56 rfl rfl rfl ?_
  refine oCV X6 Y6 hZ hml hown (wT 68 rfl) (wT 69 rfl) (notFace_of_selects (args := #[]) (mvT hZ (wT 71 rfl))) (wT 71 rfl) (wT 70 rfl) (wT 72 rfl) (wT 9 rfl) (rm_lenA Gl Ol6 a1 cd1 (Int32.ofNat cs1.length) tb1 kb1 nB1 vs1 F6_25 F6_26 F6_27 F6_28 (own_len hos rfl)) e6 F6_25 57 rfl 0 1 pd_86913941 rfl rfl rfl rfl rfl (by decide +kernel) (by decide +kernel) ?_
  intro v7 T7 L7 X7 Y7 hQ7
  obtain ⟨rfl, Nq7, eq7⟩ := hQ7
  show OwnH p e below _ T7 m _ _ [(.int (Int32.ofNat cs1.length)), (.int (Int32.ofNat it))]
  have N7 := Fr.app N6 Nq7
  by_cases cc8 : (Int32.ofNat it) < (Int32.ofNat cs1.length)
  ·
   have hlt : it < cs1.length := (own_ltN (by omega) (by omega)).mp cc8
   refine ocn Y7 58 rfl (tlt cc8).2.1 <| oaN Y7 59 rfl rfl rfl <| oiN Y7 60 rfl rfl ?_
   by_cases cc9 : (0 : Int32) < (Int32.ofNat r_2)
   ·
    refine oifn Y7 61 rfl ((if0 _ _).trans (tlt cc9).2.2.2) <| oic 1 Y7 62 rfl rfl <| ogt 134 Y7 63 rfl rfl ?_
    obtain ⟨_, _, ⟨T10, L10, k10, n10⟩, -, X10, Si10, Gr10, ⟨Lc10, hQ10, l10, y10, z10, Rc10⟩, st10⟩ := callSS X7 hx (y := mN61) hown (mvT hZ (wT 184 rfl)) (mvT hZ (wT 185 rfl)) (mvT hZ (wT 38 rfl)) (mvT hZ (wT 186 rfl)) (by decide) (backOfSH (W := 0) (rm_cut_1 l Z a0 hw [] wG1 wG3 cx hEL h6 n0 Ol6 b3 va kv vsb acc 1 F6_15 F6_16 F6_17 F6_18 F6_19 F6_20 F6_21 g_b3 F6_22 (hxe.resolve_left (by omega)) hvl hub hrg (by decide)) hZ (wT 186 rfl) (wT 38 rfl) (by decide) (by decide) hEL R6.1) (g := (mkF m 134 #[vR a1, vI pa, vI (Int32.ofNat r_2), vR b3, vI (Int32.ofNat it)] [(.int 1), (.ref b3)])) rfl (by rw [hml]; rfl) (argsL := [(.ref b3), (.int 1)]) (rest := []) (lenOf pd_43795568 rfl) rfl (Nat.le_of_eq rfl) (Y0.d 65 rfl) (fun _ _ => ⟨rfl, eq7, (by decide : 3 + 2 ≤ _), (by decide : 844 + 8 ≤ _)⟩)
    dsimp only [Pt.U, Pt.locs, Pt.cells, Pt.slots] at X10 l10 y10 z10 st10 hQ10 Si10 Gr10 Rc10
    subst l10 y10 z10
    obtain ⟨vs_10, lm_10, rfl, Nq10, Kq10, fq10_0, fq10_1, fq10_2, fq10_3, fq10_4, fq10_5, fq10_6, pq10_0, pq10_1, pq10_2, pq10_3⟩ := hQ10
    refine OwnGoes.tr (T' := T10) (g' := (mkF m 137 #[vR a1, vI pa, vI (Int32.ofNat r_2), vR b3, vI (Int32.ofNat it)] [])) st10 ?_
    have N10 := Fr.app N7 Nq10
    have gz10 : h6.size ≤ T10.heap.size := Rc10.2.1
    obtain ⟨X10, hS10, hZ10, ho10⟩ := rebS hS0 hk6 X10 Si10 gz10 hZ hown
    have Ol10 := Ol6.keep Kq10 (allS g_b3 (allS F6_22 all0))
    have K10 : Keep h0 T10.heap ([] : List Addr) := K6.trans Kq10 (allS (Or.inr s_b3) (allS (Or.inr F6_23) all0))
    have R10 := R6.trans Rc10
    have Y10 := Y0.nx X10
    refine oaN Y10 66 rfl rfl rfl ?_
    refine oCV X10 Y10 hZ10 hml ho10 (wT 137 rfl) (wT 138 rfl) (notFace_of_selects (args := #[]) (mvT hZ10 (wT 140 rfl))) (wT 140 rfl) (wT 139 rfl) (wT 141 rfl) (wT 49 rfl) (rm_toSC Gl Ol10 b3 va kv vs_10 ((acc.take lm_10) ++ [(8230 : Int32)]) fq10_0 fq10_1 fq10_2 fq10_3 fq10_4 fq10_5 fq10_6 (by rw [List.length_append, List.length_take]; simp only [List.length_cons, List.length_nil]; have := pq10_3; omega) pq10_1 pq10_0 (own_rg_app (own_rg_take hrg) (by decide)) (own_ex_app (by decide)) (by rw [List.length_append, List.length_take]; simp only [List.length_cons, List.length_nil]; have := pq10_3; omega)) rfl fq10_0 67 rfl 0 0 pd_24953479 rfl rfl rfl rfl rfl (by decide +kernel) (by decide +kernel) ?_
    intro v11 T11 L11 X11 Y11 hQ11
    obtain ⟨x_11, t_11, k_11, vs_11, rfl, Nq11, Kq11, zq11_0, zq11_1, fq11_0, fq11_1, fq11_2, fq11_3, pq11_0⟩ := hQ11
    show OwnH p e below _ T11 m _ _ [(.ref x_11)]
    have N11 := Fr.app N10 Nq11
    have K11 : Keep h0 T11.heap ([] : List Addr) := K10.trans Kq11 all0
    have R11 := R10.trans (CHr.keep Kq11 sf0 R10.1)
    have hk11 := Nat.le_trans (Nat.le_refl _) Kq11.1
    have hret : ∀ fs, (∀ (f : JFrame) (acts : List Action), f.method = m → f.locked = none → f.entered = [] → (doReturn e (T11.setTop f) acts (some (.ref x_11))).1 = T11.setFrames fs) → Steps p.tables e below (T11.setTop (mkF m 141 #[vR a1, vI pa, vI (Int32.ofNat r_2), vR b3, vI (Int32.ofNat it)] [(.ref x_11)])) (T11.setFrames fs) := by
     intro fs hr
     jvm_step X11.here [X11.here.top, hx, (Y0.d 68 rfl), X11.method', Bd.returns, Value.isRef, FieldType.isReference]
     first | (intro acts; rw [hr _ acts rfl rfl rfl]) | rw [hr _ _ rfl rfl rfl]
     exact Steps.refl _
    refine own_leaveW (Z := Z) (EL := consts_1) X11 hS10 hk11 hlk (v := some (.ref x_11)) (fun h => by rw [Bd.returns] at h; cases h) hret (by decide) (by decide) ?_ ?_
    ·
     rw [hh]
     exact R11.trans (CHv.at X11 hZ10 hEL R11.1)
    show Q_around Z a1 cd1 tb1 kb1 nB1 vs1 cs1 pa pl h0 n0 _ T11.heap _
    exact ⟨x_11, t_11, k_11, (Int32.ofNat (2 * ((acc.take lm_10) ++ [(8230 : Int32)]).length)), vs_11, (1 : Int32), ((acc.take lm_10) ++ [(8230 : Int32)]), rfl, N11, K11, fq11_0, fq11_1, fq11_2, fq11_3, pq11_0, ⟨r_2, en, it, acc, pq2_0, hen, hI, Or.inr ⟨hlt, hxe.resolve_left (by omega), lm_10, by rw [(own_mark1 (by omega) cc9)]; exact pq10_2, rfl⟩⟩⟩
   refine oify 133 Y7 61 rfl rfl ((if0 _ _).trans (flt cc9).2.2.2) <| oic 0 Y7 64 rfl rfl ?_
   obtain ⟨_, _, ⟨T13, L13, k13, n13⟩, -, X13, Si13, Gr13, ⟨Lc13, hQ13, l13, y13, z13, Rc13⟩, st13⟩ := callSS X7 hx (y := mN61) hown (mvT hZ (wT 184 rfl)) (mvT hZ (wT 185 rfl)) (mvT hZ (wT 38 rfl)) (mvT hZ (wT 186 rfl)) (by decide) (backOfSH (W := 0) (rm_cut_1 l Z a0 hw [] wG1 wG3 cx hEL h6 n0 Ol6 b3 va kv vsb acc 0 F6_15 F6_16 F6_17 F6_18 F6_19 F6_20 F6_21 g_b3 F6_22 (hxe.resolve_left (by omega)) hvl hub hrg (by decide)) hZ (wT 186 rfl) (wT 38 rfl) (by decide) (by decide) hEL R6.1) (g := (mkF m 134 #[vR a1, vI pa, vI (Int32.ofNat r_2), vR b3, vI (Int32.ofNat it)] [(.int 0), (.ref b3)])) rfl (by rw [hml]; rfl) (argsL := [(.ref b3), (.int 0)]) (rest := []) (lenOf pd_43795568 rfl) rfl (Nat.le_of_eq rfl) (Y0.d 65 rfl) (fun _ _ => ⟨rfl, eq7, (by decide : 3 + 2 ≤ _), (by decide : 844 + 8 ≤ _)⟩)
   dsimp only [Pt.U, Pt.locs, Pt.cells, Pt.slots] at X13 l13 y13 z13 st13 hQ13 Si13 Gr13 Rc13
   subst l13 y13 z13
   obtain ⟨vs_13, lm_13, rfl, Nq13, Kq13, fq13_0, fq13_1, fq13_2, fq13_3, fq13_4, fq13_5, fq13_6, pq13_0, pq13_1, pq13_2, pq13_3⟩ := hQ13
   refine OwnGoes.tr (T' := T13) (g' := (mkF m 137 #[vR a1, vI pa, vI (Int32.ofNat r_2), vR b3, vI (Int32.ofNat it)] [])) st13 ?_
   have N13 := Fr.app N7 Nq13
   have gz13 : h6.size ≤ T13.heap.size := Rc13.2.1
   obtain ⟨X13, hS13, hZ13, ho13⟩ := rebS hS0 hk6 X13 Si13 gz13 hZ hown
   have Ol13 := Ol6.keep Kq13 (allS g_b3 (allS F6_22 all0))
   have K13 : Keep h0 T13.heap ([] : List Addr) := K6.trans Kq13 (allS (Or.inr s_b3) (allS (Or.inr F6_23) all0))
   have R13 := R6.trans Rc13
   have Y13 := Y0.nx X13
   refine oaN Y13 66 rfl rfl rfl ?_
   refine oCV X13 Y13 hZ13 hml ho13 (wT 137 rfl) (wT 138 rfl) (notFace_of_selects (args := #[]) (mvT hZ13 (wT 140 rfl))) (wT 140 rfl) (wT 139 rfl) (wT 141 rfl) (wT 49 rfl) (rm_toSC Gl Ol13 b3 va kv vs_13 ((acc.take lm_13) ++ [(8230 : Int32)]) fq13_0 fq13_1 fq13_2 fq13_3 fq13_4 fq13_5 fq13_6 (by rw [List.length_append, List.length_take]; simp only [List.length_cons, List.length_nil]; have := pq13_3; omega) pq13_1 pq13_0 (own_rg_app (own_rg_take hrg) (by decide)) (own_ex_app (by decide)) (by rw [List.length_append, List.length_take]; simp only [List.length_cons, List.length_nil]; have := pq13_3; omega)) rfl fq13_0 67 rfl 0 0 pd_24953479 rfl rfl rfl rfl rfl (by decide +kernel) (by decide +kernel) ?_
   intro v14 T14 L14 X14 Y14 hQ14
   obtain ⟨x_14, t_14, k_14, vs_14, rfl, Nq14, Kq14, zq14_0, zq14_1, fq14_0, fq14_1, fq14_2, fq14_3, pq14_0⟩ := hQ14
   show OwnH p e below _ T14 m _ _ [(.ref x_14)]
   have N14 := Fr.app N13 Nq14
   have K14 : Keep h0 T14.heap ([] : List Addr) := K13.trans Kq14 all0
   have R14 := R13.trans (CHr.keep Kq14 sf0 R13.1)
   have hk14 := Nat.le_trans (Nat.le_refl _) Kq14.1
   have hret : ∀ fs, (∀ (f : JFrame) (acts : List Action), f.method = m → f.locked = none → f.entered = [] → (doReturn e (T14.setTop f) acts (some (.ref x_14))).1 = T14.setFrames fs) → Steps p.tables e below (T14.setTop (mkF m 141 #[vR a1, vI pa, vI (Int32.ofNat r_2), vR b3, vI (Int32.ofNat it)] [(.ref x_14)])) (T14.setFrames fs) := by
    intro fs hr
    jvm_step X14.here [X14.here.top, hx, (Y0.d 68 rfl), X14.method', Bd.returns, Value.isRef, FieldType.isReference]
    first | (intro acts; rw [hr _ acts rfl rfl rfl]) | rw [hr _ _ rfl rfl rfl]
    exact Steps.refl _
   refine own_leaveW (Z := Z) (EL := consts_1) X14 hS13 hk14 hlk (v := some (.ref x_14)) (fun h => by rw [Bd.returns] at h; cases h) hret (by decide) (by decide) ?_ ?_
   ·
    rw [hh]
    exact R14.trans (CHv.at X14 hZ13 hEL R14.1)
   show Q_around Z a1 cd1 tb1 kb1 nB1 vs1 cs1 pa pl h0 n0 _ T14.heap _
   exact ⟨x_14, t_14, k_14, (Int32.ofNat (2 * ((acc.take lm_13) ++ [(8230 : Int32)]).length)), vs_14, (1 : Int32), ((acc.take lm_13) ++ [(8230 : Int32)]), rfl, N14, K14, fq14_0, fq14_1, fq14_2, fq14_3, pq14_0, ⟨r_2, en, it, acc, pq2_0, hen, hI, Or.inr ⟨hlt, hxe.resolve_left (by omega), lm_13, by rw [(own_mark0 (by omega) cc9)]; exact pq13_2, rfl⟩⟩⟩
  have hge : ¬ it < cs1.length := fun q => cc8 ((own_ltN (by omega) (by omega)).mpr q)
  refine ocy 137 Y7 58 rfl rfl (flt cc8).2.1 <| oaN Y7 66 rfl rfl rfl ?_
  refine oCV X7 Y7 hZ hml hown (wT 137 rfl) (wT 138 rfl) (notFace_of_selects (args := #[]) (mvT hZ (wT 140 rfl))) (wT 140 rfl) (wT 139 rfl) (wT 141 rfl) (wT 49 rfl) (rm_toSB Gl Ol6 b3 va kv vsb acc F6_15 F6_16 F6_17 F6_18 F6_19 F6_20 F6_21 hI.cap hvl hub hrg hexA) eq7 F6_15 67 rfl 0 0 pd_24953479 rfl rfl rfl rfl rfl (by decide +kernel) (by decide +kernel) ?_
  intro v16 T16 L16 X16 Y16 hQ16
  obtain ⟨x_16, t_16, k_16, vs_16, rfl, Nq16, Kq16, zq16_0, zq16_1, fq16_0, fq16_1, fq16_2, fq16_3, pq16_0⟩ := hQ16
  show OwnH p e below _ T16 m _ _ [(.ref x_16)]
  have N16 := Fr.app N7 Nq16
  have K16 : Keep h0 T16.heap ([] : List Addr) := K6.trans Kq16 all0
  have R16 := R6.trans (CHr.keep Kq16 sf0 R6.1)
  have hk16 := Nat.le_trans hk6 Kq16.1
  have hret : ∀ fs, (∀ (f : JFrame) (acts : List Action), f.method = m → f.locked = none → f.entered = [] → (doReturn e (T16.setTop f) acts (some (.ref x_16))).1 = T16.setFrames fs) → Steps p.tables e below (T16.setTop (mkF m 141 #[vR a1, vI pa, vI (Int32.ofNat r_2), vR b3, vI (Int32.ofNat it)] [(.ref x_16)])) (T16.setFrames fs) := by
   intro fs hr
   jvm_step X16.here [X16.here.top, hx, (Y0.d 68 rfl), X16.method', Bd.returns, Value.isRef, FieldType.isReference]
   first | (intro acts; rw [hr _ acts rfl rfl rfl]) | rw [hr _ _ rfl rfl rfl]
   exact Steps.refl _
  refine own_leaveW (Z := Z) (EL := consts_1) X16 hS0 hk16 hlk (v := some (.ref x_16)) (fun h => by rw [Bd.returns] at h; cases h) hret (by decide) (by decide) ?_ ?_
  ·
   rw [hh]
   exact R16.trans (CHv.at X16 hZ hEL R16.1)
  show Q_around Z a1 cd1 tb1 kb1 nB1 vs1 cs1 pa pl h0 n0 _ T16.heap _
  exact ⟨x_16, t_16, k_16, (Int32.ofNat (2 * acc.length)), vs_16, (1 : Int32), acc, rfl, N16, K16, fq16_0, fq16_1, fq16_2, fq16_3, pq16_0, ⟨r_2, en, it, acc, pq2_0, hen, hI, Or.inl ⟨by omega, rfl⟩⟩⟩
 have ex0 : ∀ (it : Nat) (acc : List Int32) (va : Addr) (kv : ClassId) (vsb : List Value) (T18 : State) (h18 : Heap) (L18 : List Loc) (X18 : Stand p l e (oR 9 8 1576 130) (s.setVm s.vm) m #[(.ref a1), (.int pa)] below meth c T18 L18 2 244) (e18 : T18.heap = h18) (Ol18 : Old Z n0 h18) (K18 : Keep h0 h18 ([] : List Addr)) (N18 : Fr n0 L18) (R18 : CHr Z consts_1 s.vm h0 s.vm h18) (hk18 : h0.size ≤ h18.size) (F18_74 : Exa Z h18 b3 "java/lang/StringBuilder") (F18_75 : Fld Z h18 b3 "java/lang/AbstractStringBuilder" "value" "[B" (.ref va)) (F18_76 : Fld Z h18 b3 "java/lang/AbstractStringBuilder" "coder" "B" (.int 0)) (F18_77 : Fld Z h18 b3 "java/lang/AbstractStringBuilder" "count" "I" (.int (Int32.ofNat acc.length))) (F18_78 : Fld Z h18 b3 "java/lang/AbstractStringBuilder" "maybeLatin1" "Z" (.int 0)) (F18_79 : Arv Z h18 va kv .byte (240 : Int32) vsb (.int 0)) (F18_80 : Exa Z h18 va "[B") (F18_81 : n0 ≤ va) (F18_82 : h0.size ≤ va) (F18_83 : tb1 ≠ va) (F18_84 : Exa Z h18 a1 "java/lang/String") (F18_85 : Fld Z h18 a1 "java/lang/String" "value" "[B" (.ref tb1)) (F18_86 : Fld Z h18 a1 "java/lang/String" "coder" "B" (.int cd1)) (F18_87 : Arv Z h18 tb1 kb1 .byte nB1 vs1 (.int 0)) (hI : OwnInv cs1 r_2 en (ownMark r_2) it acc) (hvl : vsb.length = 240) (hlb : OwnLB acc vsb) (hrg : OwnRg acc) (hxe : it = cs1.length ∨ acc.length = 240), OwnGoes p e below (fun o U' => ∃ v L, o = .returned v ∧ Q_around Z a1 cd1 tb1 kb1 nB1 vs1 cs1 pa pl h0 n0 v U'.heap L ∧ CHr Z consts_1 s.vm s.heap U'.vm U'.heap ∧ ReturnedEndW s o U' L (oR 9 8 1576 130).cells (oR 9 8 1576 130).slots) T18 (mkF m 115 #[vR a1, vI pa, vI (Int32.ofNat r_2), vR b3, vI (Int32.ofNat it)] []) := by
  intro it acc va kv vsb T18 h18 L18 X18 e18 Ol18 K18 N18 R18 hk18 F18_74 F18_75 F18_76 F18_77 F18_78 F18_79 F18_80 F18_81 F18_82 F18_83 F18_84 F18_85 F18_86 F18_87 hI hvl hlb hrg hxe
  have hcap := hI.cap
  have hln := hI.ln
  have Y18 := Y0.nx X18
  refine oil Y18 55 rfl rfl <| oaN Y18 56 rfl rfl rfl ?_
  refine oCV X18 Y18 hZ hml hown (wT 68 rfl) (wT 69 rfl) (notFace_of_selects (args := #[]) (mvT hZ (wT 71 rfl))) (wT 71 rfl) (wT 70 rfl) (wT 72 rfl) (wT 9 rfl) (rm_lenA Gl Ol18 a1 cd1 (Int32.ofNat cs1.length) tb1 kb1 nB1 vs1 F18_84 F18_85 F18_86 F18_87 (own_len hos rfl)) e18 F18_84 57 rfl 0 1 pd_86913941 rfl rfl rfl rfl rfl (by decide +kernel) (by decide +kernel) ?_
  intro v19 T19 L19 X19 Y19 hQ19
  obtain ⟨rfl, Nq19, eq19⟩ := hQ19
  show OwnH p e below _ T19 m _ _ [(.int (Int32.ofNat cs1.length)), (.int (Int32.ofNat it))]
  have N19 := Fr.app N18 Nq19
  by_cases cc20 : (Int32.ofNat it) < (Int32.ofNat cs1.length)
  ·
   have hlt : it < cs1.length := (own_ltN (by omega) (by omega)).mp cc20
   refine ocn Y19 58 rfl (tlt cc20).2.1 <| oaN Y19 59 rfl rfl rfl <| oiN Y19 60 rfl rfl ?_
   by_cases cc21 : (0 : Int32) < (Int32.ofNat r_2)
   ·
    refine oifn Y19 61 rfl ((if0 _ _).trans (tlt cc21).2.2.2) <| oic 1 Y19 62 rfl rfl <| ogt 134 Y19 63 rfl rfl ?_
    obtain ⟨_, _, ⟨T22, L22, k22, n22⟩, -, X22, Si22, Gr22, ⟨Lc22, hQ22, l22, y22, z22, Rc22⟩, st22⟩ := callSS X19 hx (y := mN61) hown (mvT hZ (wT 184 rfl)) (mvT hZ (wT 185 rfl)) (mvT hZ (wT 38 rfl)) (mvT hZ (wT 186 rfl)) (by decide) (backOfSH (W := 0) (rm_cut_0 l Z a0 hw [] wG1 wG3 cx hEL h18 n0 Ol18 b3 va kv vsb acc 1 F18_74 F18_75 F18_76 F18_77 F18_78 F18_79 F18_80 g_b3 F18_81 (hxe.resolve_left (by omega)) hvl hlb hrg (by decide)) hZ (wT 186 rfl) (wT 38 rfl) (by decide) (by decide) hEL R18.1) (g := (mkF m 134 #[vR a1, vI pa, vI (Int32.ofNat r_2), vR b3, vI (Int32.ofNat it)] [(.int 1), (.ref b3)])) rfl (by rw [hml]; rfl) (argsL := [(.ref b3), (.int 1)]) (rest := []) (lenOf pd_43795568 rfl) rfl (Nat.le_of_eq rfl) (Y0.d 65 rfl) (fun _ _ => ⟨rfl, eq19, (by decide : 2 + 3 ≤ _), (by decide : 244 + 608 ≤ _)⟩)
    dsimp only [Pt.U, Pt.locs, Pt.cells, Pt.slots] at X22 l22 y22 z22 st22 hQ22 Si22 Gr22 Rc22
    subst l22 y22 z22
    obtain ⟨t_22, k_22, vs_22, lm_22, rfl, Nq22, Kq22, zq22_0, fq22_0, fq22_1, fq22_2, fq22_3, fq22_4, fq22_5, fq22_6, pq22_0, pq22_1, pq22_2, pq22_3⟩ := hQ22
    refine OwnGoes.tr (T' := T22) (g' := (mkF m 137 #[vR a1, vI pa, vI (Int32.ofNat r_2), vR b3, vI (Int32.ofNat it)] [])) st22 ?_
    have N22 := Fr.app N19 Nq22
    have gz22 : h18.size ≤ T22.heap.size := Rc22.2.1
    obtain ⟨X22, hS22, hZ22, ho22⟩ := rebS hS0 hk18 X22 Si22 gz22 hZ hown
    have Ol22 := Ol18.keep Kq22 (allS g_b3 all0)
    have K22 : Keep h0 T22.heap ([] : List Addr) := K18.trans Kq22 (allS (Or.inr s_b3) all0)
    have R22 := R18.trans Rc22
    have Y22 := Y0.nx X22
    refine oaN Y22 66 rfl rfl rfl ?_
    refine oCV X22 Y22 hZ22 hml ho22 (wT 137 rfl) (wT 138 rfl) (notFace_of_selects (args := #[]) (mvT hZ22 (wT 140 rfl))) (wT 140 rfl) (wT 139 rfl) (wT 141 rfl) (wT 49 rfl) (rm_toSC Gl Ol22 b3 t_22 k_22 vs_22 ((acc.take lm_22) ++ [(8230 : Int32)]) fq22_0 fq22_1 fq22_2 fq22_3 fq22_4 fq22_5 fq22_6 (by rw [List.length_append, List.length_take]; simp only [List.length_cons, List.length_nil]; have := pq22_3; omega) pq22_1 pq22_0 (own_rg_app (own_rg_take hrg) (by decide)) (own_ex_app (by decide)) (by rw [List.length_append, List.length_take]; simp only [List.length_cons, List.length_nil]; have := pq22_3; omega)) rfl fq22_0 67 rfl 0 0 pd_24953479 rfl rfl rfl rfl rfl (by decide +kernel) (by decide +kernel) ?_
    intro v23 T23 L23 X23 Y23 hQ23
    obtain ⟨x_23, t_23, k_23, vs_23, rfl, Nq23, Kq23, zq23_0, zq23_1, fq23_0, fq23_1, fq23_2, fq23_3, pq23_0⟩ := hQ23
    show OwnH p e below _ T23 m _ _ [(.ref x_23)]
    have N23 := Fr.app N22 Nq23
    have K23 : Keep h0 T23.heap ([] : List Addr) := K22.trans Kq23 all0
    have R23 := R22.trans (CHr.keep Kq23 sf0 R22.1)
    have hk23 := Nat.le_trans (Nat.le_refl _) Kq23.1
    have hret : ∀ fs, (∀ (f : JFrame) (acts : List Action), f.method = m → f.locked = none → f.entered = [] → (doReturn e (T23.setTop f) acts (some (.ref x_23))).1 = T23.setFrames fs) → Steps p.tables e below (T23.setTop (mkF m 141 #[vR a1, vI pa, vI (Int32.ofNat r_2), vR b3, vI (Int32.ofNat it)] [(.ref x_23)])) (T23.setFrames fs) := by
     intro fs hr
     jvm_step X23.here [X23.here.top, hx, (Y0.d 68 rfl), X23.method', Bd.returns, Value.isRef, FieldType.isReference]
     first | (intro acts; rw [hr _ acts rfl rfl rfl]) | rw [hr _ _ rfl rfl rfl]
     exact Steps.refl _
    refine own_leaveW (Z := Z) (EL := consts_1) X23 hS22 hk23 hlk (v := some (.ref x_23)) (fun h => by rw [Bd.returns] at h; cases h) hret (by decide) (by decide) ?_ ?_
    ·
     rw [hh]
     exact R23.trans (CHv.at X23 hZ22 hEL R23.1)
    show Q_around Z a1 cd1 tb1 kb1 nB1 vs1 cs1 pa pl h0 n0 _ T23.heap _
    exact ⟨x_23, t_23, k_23, (Int32.ofNat (2 * ((acc.take lm_22) ++ [(8230 : Int32)]).length)), vs_23, (1 : Int32), ((acc.take lm_22) ++ [(8230 : Int32)]), rfl, N23, K23, fq23_0, fq23_1, fq23_2, fq23_3, pq23_0, ⟨r_2, en, it, acc, pq2_0, hen, hI, Or.inr ⟨hlt, hxe.resolve_left (by omega), lm_22, by rw [(own_mark1 (by omega) cc21)]; exact pq22_2, rfl⟩⟩⟩
   refine oify 133 Y19 61 rfl rfl ((if0 _ _).trans (flt cc21).2.2.2) <| oic 0 Y19 64 rfl rfl ?_
   obtain ⟨_, _, ⟨T25, L25, k25, n25⟩, -, X25, Si25, Gr25, ⟨Lc25, hQ25, l25, y25, z25, Rc25⟩, st25⟩ := callSS X19 hx (y := mN61) hown (mvT hZ (wT 184 rfl)) (mvT hZ (wT 185 rfl)) (mvT hZ (wT 38 rfl)) (mvT hZ (wT 186 rfl)) (by decide) (backOfSH (W := 0) (rm_cut_0 l Z a0 hw [] wG1 wG3 cx hEL h18 n0 Ol18 b3 va kv vsb acc 0 F18_74 F18_75 F18_76 F18_77 F18_78 F18_79 F18_80 g_b3 F18_81 (hxe.resolve_left (by omega)) hvl hlb hrg (by decide)) hZ (wT 186 rfl) (wT 38 rfl) (by decide) (by decide) hEL R18.1) (g := (mkF m 134 #[vR a1, vI pa, vI (Int32.ofNat r_2), vR b3, vI (Int32.ofNat it)] [(.int 0), (.ref b3)])) rfl (by rw [hml]; rfl) (argsL := [(.ref b3), (.int 0)]) (rest := []) (lenOf pd_43795568 rfl) rfl (Nat.le_of_eq rfl) (Y0.d 65 rfl) (fun _ _ => ⟨rfl, eq19, (by decide : 2 + 3 ≤ _), (by decide : 244 + 608 ≤ _)⟩)
   dsimp only [Pt.U, Pt.locs, Pt.cells, Pt.slots] at X25 l25 y25 z25 st25 hQ25 Si25 Gr25 Rc25
   subst l25 y25 z25
   obtain ⟨t_25, k_25, vs_25, lm_25, rfl, Nq25, Kq25, zq25_0, fq25_0, fq25_1, fq25_2, fq25_3, fq25_4, fq25_5, fq25_6, pq25_0, pq25_1, pq25_2, pq25_3⟩ := hQ25
   refine OwnGoes.tr (T' := T25) (g' := (mkF m 137 #[vR a1, vI pa, vI (Int32.ofNat r_2), vR b3, vI (Int32.ofNat it)] [])) st25 ?_
   have N25 := Fr.app N19 Nq25
   have gz25 : h18.size ≤ T25.heap.size := Rc25.2.1
   obtain ⟨X25, hS25, hZ25, ho25⟩ := rebS hS0 hk18 X25 Si25 gz25 hZ hown
   have Ol25 := Ol18.keep Kq25 (allS g_b3 all0)
   have K25 : Keep h0 T25.heap ([] : List Addr) := K18.trans Kq25 (allS (Or.inr s_b3) all0)
   have R25 := R18.trans Rc25
   have Y25 := Y0.nx X25
   refine oaN Y25 66 rfl rfl rfl ?_
   refine oCV X25 Y25 hZ25 hml ho25 (wT 137 rfl) (wT 138 rfl) (notFace_of_selects (args := #[]) (mvT hZ25 (wT 140 rfl))) (wT 140 rfl) (wT 139 rfl) (wT 141 rfl) (wT 49 rfl) (rm_toSC Gl Ol25 b3 t_25 k_25 vs_25 ((acc.take lm_25) ++ [(8230 : Int32)]) fq25_0 fq25_1 fq25_2 fq25_3 fq25_4 fq25_5 fq25_6 (by rw [List.length_append, List.length_take]; simp only [List.length_cons, List.length_nil]; have := pq25_3; omega) pq25_1 pq25_0 (own_rg_app (own_rg_take hrg) (by decide)) (own_ex_app (by decide)) (by rw [List.length_append, List.length_take]; simp only [List.length_cons, List.length_nil]; have := pq25_3; omega)) rfl fq25_0 67 rfl 0 0 pd_24953479 rfl rfl rfl rfl rfl (by decide +kernel) (by decide +kernel) ?_
   intro v26 T26 L26 X26 Y26 hQ26
   obtain ⟨x_26, t_26, k_26, vs_26, rfl, Nq26, Kq26, zq26_0, zq26_1, fq26_0, fq26_1, fq26_2, fq26_3, pq26_0⟩ := hQ26
   show OwnH p e below _ T26 m _ _ [(.ref x_26)]
   have N26 := Fr.app N25 Nq26
   have K26 : Keep h0 T26.heap ([] : List Addr) := K25.trans Kq26 all0
   have R26 := R25.trans (CHr.keep Kq26 sf0 R25.1)
   have hk26 := Nat.le_trans (Nat.le_refl _) Kq26.1
   have hret : ∀ fs, (∀ (f : JFrame) (acts : List Action), f.method = m → f.locked = none → f.entered = [] → (doReturn e (T26.setTop f) acts (some (.ref x_26))).1 = T26.setFrames fs) → Steps p.tables e below (T26.setTop (mkF m 141 #[vR a1, vI pa, vI (Int32.ofNat r_2), vR b3, vI (Int32.ofNat it)] [(.ref x_26)])) (T26.setFrames fs) := by
    intro fs hr
    jvm_step X26.here [X26.here.top, hx, (Y0.d 68 rfl), X26.method', Bd.returns, Value.isRef, FieldType.isReference]
    first | (intro acts; rw [hr _ acts rfl rfl rfl]) | rw [hr _ _ rfl rfl rfl]
    exact Steps.refl _
   refine own_leaveW (Z := Z) (EL := consts_1) X26 hS25 hk26 hlk (v := some (.ref x_26)) (fun h => by rw [Bd.returns] at h; cases h) hret (by decide) (by decide) ?_ ?_
   ·
    rw [hh]
    exact R26.trans (CHv.at X26 hZ25 hEL R26.1)
   show Q_around Z a1 cd1 tb1 kb1 nB1 vs1 cs1 pa pl h0 n0 _ T26.heap _
   exact ⟨x_26, t_26, k_26, (Int32.ofNat (2 * ((acc.take lm_25) ++ [(8230 : Int32)]).length)), vs_26, (1 : Int32), ((acc.take lm_25) ++ [(8230 : Int32)]), rfl, N26, K26, fq26_0, fq26_1, fq26_2, fq26_3, pq26_0, ⟨r_2, en, it, acc, pq2_0, hen, hI, Or.inr ⟨hlt, hxe.resolve_left (by omega), lm_25, by rw [(own_mark0 (by omega) cc21)]; exact pq25_2, rfl⟩⟩⟩
  have hge : ¬ it < cs1.length := fun q => cc20 ((own_ltN (by omega) (by omega)).mpr q)
  refine ocy 137 Y19 58 rfl rfl (flt cc20).2.1 <| oaN Y19 66 rfl rfl rfl ?_
  refine oCV X19 Y19 hZ hml hown (wT 137 rfl) (wT 138 rfl) (notFace_of_selects (args := #[]) (mvT hZ (wT 140 rfl))) (wT 140 rfl) (wT 139 rfl) (wT 141 rfl) (wT 49 rfl) (rm_toSA Gl Ol18 b3 va kv vsb (0 : Int32) acc F18_74 F18_75 F18_76 F18_77 F18_78 F18_79 F18_80 hI.cap hvl hlb hrg) eq19 F18_74 67 rfl 0 0 pd_24953479 rfl rfl rfl rfl rfl (by decide +kernel) (by decide +kernel) ?_
  intro v28 T28 L28 X28 Y28 hQ28
  obtain ⟨x_28, t_28, k_28, vs_28, rfl, Nq28, Kq28, zq28_0, zq28_1, fq28_0, fq28_1, fq28_2, fq28_3, pq28_0⟩ := hQ28
  show OwnH p e below _ T28 m _ _ [(.ref x_28)]
  have N28 := Fr.app N19 Nq28
  have K28 : Keep h0 T28.heap ([] : List Addr) := K18.trans Kq28 all0
  have R28 := R18.trans (CHr.keep Kq28 sf0 R18.1)
  have hk28 := Nat.le_trans hk18 Kq28.1
  have hret : ∀ fs, (∀ (f : JFrame) (acts : List Action), f.method = m → f.locked = none → f.entered = [] → (doReturn e (T28.setTop f) acts (some (.ref x_28))).1 = T28.setFrames fs) → Steps p.tables e below (T28.setTop (mkF m 141 #[vR a1, vI pa, vI (Int32.ofNat r_2), vR b3, vI (Int32.ofNat it)] [(.ref x_28)])) (T28.setFrames fs) := by
   intro fs hr
   jvm_step X28.here [X28.here.top, hx, (Y0.d 68 rfl), X28.method', Bd.returns, Value.isRef, FieldType.isReference]
   first | (intro acts; rw [hr _ acts rfl rfl rfl]) | rw [hr _ _ rfl rfl rfl]
   exact Steps.refl _
  refine own_leaveW (Z := Z) (EL := consts_1) X28 hS0 hk28 hlk (v := some (.ref x_28)) (fun h => by rw [Bd.returns] at h; cases h) hret (by decide) (by decide) ?_ ?_
  ·
   rw [hh]
   exact R28.trans (CHv.at X28 hZ hEL R28.1)
  show Q_around Z a1 cd1 tb1 kb1 nB1 vs1 cs1 pa pl h0 n0 _ T28.heap _
  exact ⟨x_28, t_28, k_28, (Int32.ofNat acc.length), vs_28, (0 : Int32), acc, rfl, N28, K28, fq28_0, fq28_1, fq28_2, fq28_3, pq28_0, ⟨r_2, en, it, acc, pq2_0, hen, hI, Or.inl ⟨by omega, rfl⟩⟩⟩
 have lp1 : ∀ (fu30 : Nat) (it : Nat) (acc : List Int32) (va : Addr) (kv : ClassId) (vsb : List Value) (T30 : State) (h30 : Heap) (L30 : List Loc) (X30 : Stand p l e (oR 9 8 1576 130) (s.setVm s.vm) m #[(.ref a1), (.int pa)] below meth c T30 L30 3 844) (e30 : T30.heap = h30) (Ol30 : Old Z n0 h30) (K30 : Keep h0 h30 ([] : List Addr)) (N30 : Fr n0 L30) (R30 : CHr Z consts_1 s.vm h0 s.vm h30) (hk30 : h0.size ≤ h30.size) (F30_139 : Exa Z h30 b3 "java/lang/StringBuilder") (F30_140 : Fld Z h30 b3 "java/lang/AbstractStringBuilder" "value" "[B" (.ref va)) (F30_141 : Fld Z h30 b3 "java/lang/AbstractStringBuilder" "coder" "B" (.int 1)) (F30_142 : Fld Z h30 b3 "java/lang/AbstractStringBuilder" "count" "I" (.int (Int32.ofNat acc.length))) (F30_143 : Fld Z h30 b3 "java/lang/AbstractStringBuilder" "maybeLatin1" "Z" (.int 0)) (F30_144 : Arv Z h30 va kv .byte (480 : Int32) vsb (.int 0)) (F30_145 : Exa Z h30 va "[B") (F30_146 : n0 ≤ va) (F30_147 : h0.size ≤ va) (F30_148 : tb1 ≠ va) (F30_149 : Exa Z h30 a1 "java/lang/String") (F30_150 : Fld Z h30 a1 "java/lang/String" "value" "[B" (.ref tb1)) (F30_151 : Fld Z h30 a1 "java/lang/String" "coder" "B" (.int cd1)) (F30_152 : Arv Z h30 tb1 kb1 .byte nB1 vs1 (.int 0)) (hI : OwnInv cs1 r_2 en (ownMark r_2) it acc) (hvl : vsb.length = 480) (hub : OwnUB acc vsb) (hrg : OwnRg acc) (hexA : ∃ c ∈ acc, (255 : Int32) < c) (hfu30 : cs1.length - it < fu30), OwnGoes p e below (fun o U' => ∃ v L, o = .returned v ∧ Q_around Z a1 cd1 tb1 kb1 nB1 vs1 cs1 pa pl h0 n0 v U'.heap L ∧ CHr Z consts_1 s.vm s.heap U'.vm U'.heap ∧ ReturnedEndW s o U' L (oR 9 8 1576 130).cells (oR 9 8 1576 130).slots) T30 (mkF m 40 #[vR a1, vI pa, vI (Int32.ofNat r_2), vR b3, vI (Int32.ofNat it)] []) := by
  intro fu30
  induction fu30 with
  | zero =>
   intro it acc va kv vsb T30 h30 L30 X30 e30 Ol30 K30 N30 R30 hk30 F30_139 F30_140 F30_141 F30_142 F30_143 F30_144 F30_145 F30_146 F30_147 F30_148 F30_149 F30_150 F30_151 F30_152 hI hvl hub hrg hexA hfu30
   exact absurd hfu30 (Nat.not_lt_zero _)
  | succ fu30 ih30 =>
   intro it acc va kv vsb T30 h30 L30 X30 e30 Ol30 K30 N30 R30 hk30 F30_139 F30_140 F30_141 F30_142 F30_143 F30_144 F30_145 F30_146 F30_147 F30_148 F30_149 F30_150 F30_151 F30_152 hI hvl hub hrg hexA hfu30
   have hcap := hI.cap
   have hln := hI.ln
   have hil := hI.le
   have Y30 := Y0.nx X30
   refine oil Y30 21 rfl rfl <| oaN Y30 22 rfl rfl rfl ?_
   refine oCV X30 Y30 hZ hml hown (wT 68 rfl) (wT 69 rfl) (notFace_of_selects (args := #[]) (mvT hZ (wT 71 rfl))) (wT 71 rfl) (wT 70 rfl) (wT 72 rfl) (wT 9 rfl) (rm_lenA Gl Ol30 a1 cd1 (Int32.ofNat cs1.length) tb1 kb1 nB1 vs1 F30_149 F30_150 F30_151 F30_152 (own_len hos rfl)) e30 F30_149 23 rfl 0 1 pd_86913941 rfl rfl rfl rfl rfl (by decide +kernel) (by decide +kernel) ?_
   intro v31 T31 L31 X31 Y31 hQ31
   obtain ⟨rfl, Nq31, eq31⟩ := hQ31
   show OwnH p e below _ T31 m _ _ [(.int (Int32.ofNat cs1.length)), (.int (Int32.ofNat it))]
   have N31 := Fr.app N30 Nq31
   by_cases cc32 : (Int32.ofNat it) < (Int32.ofNat cs1.length)
   ·
    have hlt : it < cs1.length := (own_ltN (by omega) (by omega)).mp cc32
    refine ocn Y31 24 rfl (tlt cc32).2.1 <| oaN Y31 25 rfl rfl rfl ?_
    refine oCV X31 Y31 hZ hml hown (wT 103 rfl) (wT 104 rfl) (notFace_of_selects (args := #[]) (mvT hZ (wT 106 rfl))) (wT 106 rfl) (wT 105 rfl) (wT 107 rfl) (wT 49 rfl) (rm_sln Gl Ol30 b3 (Int32.ofNat acc.length) F30_139 F30_142) eq31 F30_139 26 rfl 0 0 pd_86913941 rfl rfl rfl rfl rfl (by decide +kernel) (by decide +kernel) ?_
    intro v33 T33 L33 X33 Y33 hQ33
    obtain ⟨rfl, Nq33, eq33⟩ := hQ33
    show OwnH p e below _ T33 m _ _ [(.int (Int32.ofNat acc.length))]
    have N33 := Fr.app N31 Nq33
    refine osp 240 Y33 27 rfl rfl ?_
    by_cases cc34 : (Int32.ofNat acc.length) < (240 : Int32)
    ·
     have hl240 : acc.length < 240 := (own_ltN (b := 240) (by omega) (by decide)).mp cc34
     refine ocn Y33 28 rfl (tlt cc34).2.1 <| oaN Y33 29 rfl rfl rfl <| oil Y33 30 rfl rfl ?_
     refine oCV X33 Y33 hZ hml hown (wT 78 rfl) (wT 79 rfl) (notFace_of_selects (args := #[]) (mvT hZ (wT 81 rfl))) (wT 81 rfl) (wT 80 rfl) (wT 82 rfl) (wT 9 rfl) (rm_chA Gl Ol30 a1 cd1 tb1 kb1 nB1 vs1 (Int32.ofNat it) (ownAt cs1 it) F30_149 F30_150 F30_151 F30_152 (own_ch hos (j := it) hlt rfl)) eq33 F30_149 31 rfl 1 0 pd_17647939 rfl rfl rfl rfl rfl (by decide +kernel) (by decide +kernel) ?_
     intro v35 T35 L35 X35 Y35 hQ35
     obtain ⟨rfl, Nq35, eq35⟩ := hQ35
     show OwnH p e below _ T35 m _ _ [(.int (ownAt cs1 it))]
     have N35 := Fr.app N33 Nq35
     refine oCS X35 Y35 hZ hml hown (wT 100 rfl) (wT 101 rfl) (wT 38 rfl) (wT 102 rfl) (rm_isws Gl Ol30 (ownAt cs1 it)) eq35 32 rfl 1 0 pd_92619605 rfl rfl rfl rfl (by decide +kernel) ?_
     intro v36 T36 L36 X36 Y36 hQ36
     obtain ⟨rfl, Nq36, eq36⟩ := hQ36
     show OwnH p e below _ T36 m _ _ [(.int (ownI (ownWs (ownAt cs1 it))))]
     have N36 := Fr.app N35 Nq36
     by_cases cc37 : (ownI (ownWs (ownAt cs1 it))) = (0 : Int32)
     ·
      have hw0 : ownWs (ownAt cs1 it) = false := (own_i0 _).mp cc37
      refine oify 98 Y36 33 rfl rfl ((if0 _ _).trans (teq cc37).1) <| oaN Y36 47 rfl rfl rfl <| oaN Y36 48 rfl rfl rfl <| oil Y36 49 rfl rfl ?_
      refine oCV X36 Y36 hZ hml hown (wT 78 rfl) (wT 79 rfl) (notFace_of_selects (args := #[]) (mvT hZ (wT 81 rfl))) (wT 81 rfl) (wT 80 rfl) (wT 82 rfl) (wT 9 rfl) (rm_chA Gl Ol30 a1 cd1 tb1 kb1 nB1 vs1 (Int32.ofNat it) (ownAt cs1 it) F30_149 F30_150 F30_151 F30_152 (own_ch hos (j := it) hlt rfl)) eq36 F30_149 50 rfl 1 1 pd_17647939 rfl rfl rfl rfl rfl (by decide +kernel) (by decide +kernel) ?_
      intro v38 T38 L38 X38 Y38 hQ38
      obtain ⟨rfl, Nq38, eq38⟩ := hQ38
      show OwnH p e below _ T38 m _ _ [(.int (ownAt cs1 it)), (.ref b3)]
      have N38 := Fr.app N36 Nq38
      refine oCV X38 Y38 hZ hml hown (wT 115 rfl) (wT 116 rfl) (notFace_of_selects (args := #[]) (mvT hZ (wT 118 rfl))) (wT 118 rfl) (wT 117 rfl) (wT 119 rfl) (wT 49 rfl) (rm_sappC Gl Ol30 b3 va kv vsb (0 : Int32) acc (ownAt cs1 it) F30_139 F30_140 F30_141 F30_142 F30_143 F30_144 F30_145 g_b3 F30_146 hl240 hvl hub) eq38 F30_139 51 rfl 1 0 pd_83287968 rfl rfl rfl rfl rfl (by decide +kernel) (by decide +kernel) ?_
      intro v39 T39 L39 X39 Y39 hQ39
      obtain ⟨vs_39, rfl, Nq39, Kq39, fq39_0, fq39_1, fq39_2, fq39_3, fq39_4, fq39_5, fq39_6, pq39_0, pq39_1⟩ := hQ39
      show OwnH p e below _ T39 m _ _ [(.ref b3)]
      have N39 := Fr.app N38 Nq39
      have F39_155 := F30_149.keep Kq39
      have F39_156 := F30_150.keep Kq39 (ninS ne_a1_b3 (ninS (Exa.ne F30_149 F30_145 (by decide)) nin0))
      have F39_157 := F30_151.keep Kq39 (ninS ne_a1_b3 (ninS (Exa.ne F30_149 F30_145 (by decide)) nin0))
      have F39_158 := F30_152.keep Kq39 (ninS ne_tb1_b3 (ninS F30_148 nin0))
      have Ol39 := Ol30.keep Kq39 (allS g_b3 (allS F30_146 all0))
      have K39 : Keep h0 T39.heap ([] : List Addr) := K30.trans Kq39 (allS (Or.inr s_b3) (allS (Or.inr F30_147) all0))
      have R39 := R30.trans (CHr.keep Kq39 (sfS (Safe.exa (vm := s.vm) hZ.alike F30_139 (by decide) (by decide)) (sfS (own_safe_len hZ (wT 187 rfl) F30_144 (by decide)) sf0)) R30.1)
      have hk39 := Nat.le_trans hk30 Kq39.1
      refine opop Y39 52 rfl rfl <| oinc Y39 53 rfl #[vR a1, vI pa, vI (Int32.ofNat r_2), vR b3, vI ((Int32.ofNat it) + (1 : Int32))] rfl rfl <| ogt 40 Y39 54 rfl rfl ?_
      refine og T39 m 40 #[vR a1, vI pa, vI (Int32.ofNat r_2), vR b3, vI (Int32.ofNat (it + 1))] [] (fun tgt kgo => castTop (by rw [(own_add1 it)]) kgo) ?_
      exact ih30 (it + 1) (acc ++ [(ownAt cs1 it)]) va kv vs_39 T39 T39.heap _ X39 rfl Ol39 K39 N39 R39 hk39 fq39_0 fq39_1 fq39_2 fq39_3 fq39_4 fq39_5 fq39_6 F30_146 F30_147 F30_148 F39_155 F39_156 F39_157 F39_158 (own_inv_char hen hI hlt hw0 hl240) pq39_1 pq39_0 (own_rg_app hrg (own_rg_at hos.2.1 it)) (own_ex_more hexA) (by omega)
     have hw1 : ownWs (ownAt cs1 it) = true := (own_i1 _).mp cc37
     refine oifn Y36 33 rfl ((if0 _ _).trans (feq cc37).1) <| oaN Y36 34 rfl rfl rfl <| oil Y36 35 rfl rfl ?_
     refine oCS X36 Y36 hZ hml hown (wT 65 rfl) (wT 66 rfl) (wT 38 rfl) (wT 67 rfl) (rm_skip Gl Ol30 a1 cd1 tb1 kb1 nB1 vs1 cs1 it F30_149 F30_150 F30_151 F30_152 hos hn3 hI.ln) eq36 36 rfl 2 0 pd_96034481 rfl rfl rfl rfl (by decide +kernel) ?_
     intro v40 T40 L40 X40 Y40 hQ40
     obtain ⟨r_40, rfl, Nq40, eq40, pq40_0⟩ := hQ40
     show OwnH p e below _ T40 m _ _ [(.int (Int32.ofNat r_40))]
     have N40 := Fr.app N36 Nq40
     refine ois Y40 37 rfl #[vR a1, vI pa, vI (Int32.ofNat r_2), vR b3, vI (Int32.ofNat r_40)] rfl <| oil Y40 38 rfl rfl <| oaN Y40 39 rfl rfl rfl ?_
     refine oCV X40 Y40 hZ hml hown (wT 68 rfl) (wT 69 rfl) (notFace_of_selects (args := #[]) (mvT hZ (wT 71 rfl))) (wT 71 rfl) (wT 70 rfl) (wT 72 rfl) (wT 9 rfl) (rm_lenA Gl Ol30 a1 cd1 (Int32.ofNat cs1.length) tb1 kb1 nB1 vs1 F30_149 F30_150 F30_151 F30_152 (own_len hos rfl)) eq40 F30_149 40 rfl 0 1 pd_86913941 rfl rfl rfl rfl rfl (by decide +kernel) (by decide +kernel) ?_
     intro v41 T41 L41 X41 Y41 hQ41
     obtain ⟨rfl, Nq41, eq41⟩ := hQ41
     show OwnH p e below _ T41 m _ _ [(.int (Int32.ofNat cs1.length)), (.int (Int32.ofNat r_40))]
     have N41 := Fr.app N40 Nq41
     by_cases cc42 : (Int32.ofNat r_40) < (Int32.ofNat cs1.length)
     ·
      have hlt2 : r_40 < cs1.length := (own_ltN (by have := pq40_0.2.1; omega) (by omega)).mp cc42
      refine ocn Y41 41 rfl (tlt cc42).2.1 <| oaN Y41 42 rfl rfl rfl <| obp 32 Y41 43 rfl rfl ?_
      refine oCV X41 Y41 hZ hml hown (wT 115 rfl) (wT 116 rfl) (notFace_of_selects (args := #[]) (mvT hZ (wT 118 rfl))) (wT 118 rfl) (wT 117 rfl) (wT 119 rfl) (wT 49 rfl) (rm_sappC Gl Ol30 b3 va kv vsb (0 : Int32) acc (32 : Int32) F30_139 F30_140 F30_141 F30_142 F30_143 F30_144 F30_145 g_b3 F30_146 hl240 hvl hub) eq41 F30_139 44 rfl 1 0 pd_83287968 rfl rfl rfl rfl rfl (by decide +kernel) (by decide +kernel) ?_
      intro v43 T43 L43 X43 Y43 hQ43
      obtain ⟨vs_43, rfl, Nq43, Kq43, fq43_0, fq43_1, fq43_2, fq43_3, fq43_4, fq43_5, fq43_6, pq43_0, pq43_1⟩ := hQ43
      show OwnH p e below _ T43 m _ _ [(.ref b3)]
      have N43 := Fr.app N41 Nq43
      have F43_161 := F30_149.keep Kq43
      have F43_162 := F30_150.keep Kq43 (ninS ne_a1_b3 (ninS (Exa.ne F30_149 F30_145 (by decide)) nin0))
      have F43_163 := F30_151.keep Kq43 (ninS ne_a1_b3 (ninS (Exa.ne F30_149 F30_145 (by decide)) nin0))
      have F43_164 := F30_152.keep Kq43 (ninS ne_tb1_b3 (ninS F30_148 nin0))
      have Ol43 := Ol30.keep Kq43 (allS g_b3 (allS F30_146 all0))
      have K43 : Keep h0 T43.heap ([] : List Addr) := K30.trans Kq43 (allS (Or.inr s_b3) (allS (Or.inr F30_147) all0))
      have R43 := R30.trans (CHr.keep Kq43 (sfS (Safe.exa (vm := s.vm) hZ.alike F30_139 (by decide) (by decide)) (sfS (own_safe_len hZ (wT 187 rfl) F30_144 (by decide)) sf0)) R30.1)
      have hk43 := Nat.le_trans hk30 Kq43.1
      refine opop Y43 45 rfl rfl <| ogt 40 Y43 46 rfl rfl ?_
      exact ih30 r_40 (acc ++ [(32 : Int32)]) va kv vs_43 T43 T43.heap _ X43 rfl Ol43 K43 N43 R43 hk43 fq43_0 fq43_1 fq43_2 fq43_3 fq43_4 fq43_5 fq43_6 F30_146 F30_147 F30_148 F43_161 F43_162 F43_163 F43_164 (own_inv_space hen hI (own_skip_lt pq40_0 hw1) hlt2 pq40_0.2.2.1 (pq40_0.2.2.2 hlt2) hl240) pq43_1 pq43_0 (own_rg_app hrg (by decide)) (own_ex_more hexA) (by have := own_skip_lt pq40_0 hw1; omega)
     have hge2 : ¬ r_40 < cs1.length := fun q => cc42 ((own_ltN (by have := pq40_0.2.1; omega) (by omega)).mpr q)
     refine ocy 40 Y41 41 rfl rfl (flt cc42).2.1 ?_
     have hrn : r_40 = cs1.length := Nat.le_antisymm pq40_0.2.1 (Nat.le_of_not_lt hge2)
     exact ih30 r_40 acc va kv vsb T41 h30 _ X41 eq41 Ol30 K30 N41 R30 hk30 F30_139 F30_140 F30_141 F30_142 F30_143 F30_144 F30_145 F30_146 F30_147 F30_148 F30_149 F30_150 F30_151 F30_152 (hrn ▸ own_inv_end hen hI (fun t h1 h2 => pq40_0.2.2.1 t h1 (by omega)) hl240) hvl hub hrg hexA (by have := pq40_0.1; omega)
    have hf240 : ¬ acc.length < 240 := fun q => cc34 ((own_ltN (b := 240) (by omega) (by decide)).mpr q)
    refine ocy 115 Y33 28 rfl rfl (flt cc34).2.1 ?_
    exact ex1 it acc va kv vsb T33 h30 _ X33 eq33 Ol30 K30 N33 R30 hk30 F30_139 F30_140 F30_141 F30_142 F30_143 F30_144 F30_145 F30_146 F30_147 F30_148 F30_149 F30_150 F30_151 F30_152 hI hvl hub hrg hexA (Or.inr (by have := hI.cap; omega))
   have hge : ¬ it < cs1.length := fun q => cc32 ((own_ltN (by omega) (by omega)).mpr q)
   refine ocy 115 Y31 24 rfl rfl (flt cc32).2.1 ?_
   exact ex1 it acc va kv vsb T31 h30 _ X31 eq31 Ol30 K30 N31 R30 hk30 F30_139 F30_140 F30_141 F30_142 F30_143 F30_144 F30_145 F30_146 F30_147 F30_148 F30_149 F30_150 F30_151 F30_152 hI hvl hub hrg hexA (Or.inl (by omega))
 have lp0 : ∀ (fu44 : Nat) (it : Nat) (acc : List Int32) (va : Addr) (kv : ClassId) (vsb : List Value) (T44 : State) (h44 : Heap) (L44 : List Loc) (X44 : Stand p l e (oR 9 8 1576 130) (s.setVm s.vm) m #[(.ref a1), (.int pa)] below meth c T44 L44 2 244) (e44 : T44.heap = h44) (Ol44 : Old Z n0 h44) (K44 : Keep h0 h44 ([] : List Addr)) (N44 : Fr n0 L44) (R44 : CHr Z consts_1 s.vm h0 s.vm h44) (hk44 : h0.size ≤ h44.size) (F44_165 : Exa Z h44 b3 "java/lang/StringBuilder") (F44_166 : Fld Z h44 b3 "java/lang/AbstractStringBuilder" "value" "[B" (.ref va)) (F44_167 : Fld Z h44 b3 "java/lang/AbstractStringBuilder" "coder" "B" (.int 0)) (F44_168 : Fld Z h44 b3 "java/lang/AbstractStringBuilder" "count" "I" (.int (Int32.ofNat acc.length))) (F44_169 : Fld Z h44 b3 "java/lang/AbstractStringBuilder" "maybeLatin1" "Z" (.int 0)) (F44_170 : Arv Z h44 va kv .byte (240 : Int32) vsb (.int 0)) (F44_171 : Exa Z h44 va "[B") (F44_172 : n0 ≤ va) (F44_173 : h0.size ≤ va) (F44_174 : tb1 ≠ va) (F44_175 : Exa Z h44 a1 "java/lang/String") (F44_176 : Fld Z h44 a1 "java/lang/String" "value" "[B" (.ref tb1)) (F44_177 : Fld Z h44 a1 "java/lang/String" "coder" "B" (.int cd1)) (F44_178 : Arv Z h44 tb1 kb1 .byte nB1 vs1 (.int 0)) (hI : OwnInv cs1 r_2 en (ownMark r_2) it acc) (hvl : vsb.length = 240) (hlb : OwnLB acc vsb) (hrg : OwnRg acc) (hfu44 : cs1.length - it < fu44), OwnGoes p e below (fun o U' => ∃ v L, o = .returned v ∧ Q_around Z a1 cd1 tb1 kb1 nB1 vs1 cs1 pa pl h0 n0 v U'.heap L ∧ CHr Z consts_1 s.vm s.heap U'.vm U'.heap ∧ ReturnedEndW s o U' L (oR 9 8 1576 130).cells (oR 9 8 1576 130).slots) T44 (mkF m 40 #[vR a1, vI pa, vI (Int32.ofNat r_2), vR b3, vI (Int32.ofNat it)] []) := by
  intro fu44
  induction fu44 with
  | zero =>
   intro it acc va kv vsb T44 h44 L44 X44 e44 Ol44 K44 N44 R44 hk44 F44_165 F44_166 F44_167 F44_168 F44_169 F44_170 F44_171 F44_172 F44_173 F44_174 F44_175 F44_176 F44_177 F44_178 hI hvl hlb hrg hfu44
   exact absurd hfu44 (Nat.not_lt_zero _)
  | succ fu44 ih44 =>
   intro it acc va kv vsb T44 h44 L44 X44 e44 Ol44 K44 N44 R44 hk44 F44_165 F44_166 F44_167 F44_168 F44_169 F44_170 F44_171 F44_172 F44_173 F44_174 F44_175 F44_176 F44_177 F44_178 hI hvl hlb hrg hfu44
   have hcap := hI.cap
   have hln := hI.ln
   have hil := hI.le
   have Y44 := Y0.nx X44
   refine oil Y44 21 rfl rfl <| oaN Y44 22 rfl rfl rfl ?_
   refine oCV X44 Y44 hZ hml hown (wT 68 rfl) (wT 69 rfl) (notFace_of_selects (args := #[]) (mvT hZ (wT 71 rfl))) (wT 71 rfl) (wT 70 rfl) (wT 72 rfl) (wT 9 rfl) (rm_lenA Gl Ol44 a1 cd1 (Int32.ofNat cs1.length) tb1 kb1 nB1 vs1 F44_175 F44_176 F44_177 F44_178 (own_len hos rfl)) e44 F44_175 23 rfl 0 1 pd_86913941 rfl rfl rfl rfl rfl (by decide +kernel) (by decide +kernel) ?_
   intro v45 T45 L45 X45 Y45 hQ45
   obtain ⟨rfl, Nq45, eq45⟩ := hQ45
   show OwnH p e below _ T45 m _ _ [(.int (Int32.ofNat cs1.length)), (.int (Int32.ofNat it))]
   have N45 := Fr.app N44 Nq45
   by_cases cc46 : (Int32.ofNat it) < (Int32.ofNat cs1.length)
   ·
    have hlt : it < cs1.length := (own_ltN (by omega) (by omega)).mp cc46
    refine ocn Y45 24 rfl (tlt cc46).2.1 <| oaN Y45 25 rfl rfl rfl ?_
    refine oCV X45 Y45 hZ hml hown (wT 103 rfl) (wT 104 rfl) (notFace_of_selects (args := #[]) (mvT hZ (wT 106 rfl))) (wT 106 rfl) (wT 105 rfl) (wT 107 rfl) (wT 49 rfl) (rm_sln Gl Ol44 b3 (Int32.ofNat acc.length) F44_165 F44_168) eq45 F44_165 26 rfl 0 0 pd_86913941 rfl rfl rfl rfl rfl (by decide +kernel) (by decide +kernel) ?_
    intro v47 T47 L47 X47 Y47 hQ47
    obtain ⟨rfl, Nq47, eq47⟩ := hQ47
    show OwnH p e below _ T47 m _ _ [(.int (Int32.ofNat acc.length))]
    have N47 := Fr.app N45 Nq47
    refine osp 240 Y47 27 rfl rfl ?_
    by_cases cc48 : (Int32.ofNat acc.length) < (240 : Int32)
    ·
     have hl240 : acc.length < 240 := (own_ltN (b := 240) (by omega) (by decide)).mp cc48
     refine ocn Y47 28 rfl (tlt cc48).2.1 <| oaN Y47 29 rfl rfl rfl <| oil Y47 30 rfl rfl ?_
     refine oCV X47 Y47 hZ hml hown (wT 78 rfl) (wT 79 rfl) (notFace_of_selects (args := #[]) (mvT hZ (wT 81 rfl))) (wT 81 rfl) (wT 80 rfl) (wT 82 rfl) (wT 9 rfl) (rm_chA Gl Ol44 a1 cd1 tb1 kb1 nB1 vs1 (Int32.ofNat it) (ownAt cs1 it) F44_175 F44_176 F44_177 F44_178 (own_ch hos (j := it) hlt rfl)) eq47 F44_175 31 rfl 1 0 pd_17647939 rfl rfl rfl rfl rfl (by decide +kernel) (by decide +kernel) ?_
     intro v49 T49 L49 X49 Y49 hQ49
     obtain ⟨rfl, Nq49, eq49⟩ := hQ49
     show OwnH p e below _ T49 m _ _ [(.int (ownAt cs1 it))]
     have N49 := Fr.app N47 Nq49
     refine oCS X49 Y49 hZ hml hown (wT 100 rfl) (wT 101 rfl) (wT 38 rfl) (wT 102 rfl) (rm_isws Gl Ol44 (ownAt cs1 it)) eq49 32 rfl 1 0 pd_92619605 rfl rfl rfl rfl (by decide +kernel) ?_
     intro v50 T50 L50 X50 Y50 hQ50
     obtain ⟨rfl, Nq50, eq50⟩ := hQ50
     show OwnH p e below _ T50 m _ _ [(.int (ownI (ownWs (ownAt cs1 it))))]
     have N50 := Fr.app N49 Nq50
     by_cases cc51 : (ownI (ownWs (ownAt cs1 it))) = (0 : Int32)
     ·
      have hw0 : ownWs (ownAt cs1 it) = false := (own_i0 _).mp cc51
      refine oify 98 Y50 33 rfl rfl ((if0 _ _).trans (teq cc51).1) ?_
      by_cases cb52 : (255 : Int32) < (ownAt cs1 it)
      ·
       refine oaN Y50 47 rfl rfl rfl <| oaN Y50 48 rfl rfl rfl <| oil Y50 49 rfl rfl ?_
       refine oCV X50 Y50 hZ hml hown (wT 78 rfl) (wT 79 rfl) (notFace_of_selects (args := #[]) (mvT hZ (wT 81 rfl))) (wT 81 rfl) (wT 80 rfl) (wT 82 rfl) (wT 9 rfl) (rm_chA Gl Ol44 a1 cd1 tb1 kb1 nB1 vs1 (Int32.ofNat it) (ownAt cs1 it) F44_175 F44_176 F44_177 F44_178 (own_ch hos (j := it) hlt rfl)) eq50 F44_175 50 rfl 1 1 pd_17647939 rfl rfl rfl rfl rfl (by decide +kernel) (by decide +kernel) ?_
       intro v53 T53 L53 X53 Y53 hQ53
       obtain ⟨rfl, Nq53, eq53⟩ := hQ53
       show OwnH p e below _ T53 m _ _ [(.int (ownAt cs1 it)), (.ref b3)]
       have N53 := Fr.app N50 Nq53
       refine oCV X53 Y53 hZ hml hown (wT 115 rfl) (wT 116 rfl) (notFace_of_selects (args := #[]) (mvT hZ (wT 118 rfl))) (wT 118 rfl) (wT 117 rfl) (wT 119 rfl) (wT 49 rfl) (rm_sappB Gl Ol44 b3 va kv vsb (0 : Int32) acc (ownAt cs1 it) F44_165 F44_166 F44_167 F44_168 F44_169 F44_170 F44_171 g_b3 hl240 hvl hlb cb52 hrg) eq53 F44_165 51 rfl 1 0 pd_83287968 rfl rfl rfl rfl rfl (by decide +kernel) (by decide +kernel) ?_
       intro v54 T54 L54 X54 Y54 hQ54
       obtain ⟨t_54, k_54, vs_54, rfl, Nq54, Kq54, zq54_0, fq54_0, fq54_1, fq54_2, fq54_3, fq54_4, fq54_5, fq54_6, pq54_0, pq54_1⟩ := hQ54
       show OwnH p e below _ T54 m _ _ [(.ref b3)]
       have N54 := Fr.app N53 Nq54
       have ne_tb1_t_54 : tb1 ≠ t_54 := Nat.ne_of_lt (Nat.lt_of_lt_of_le F44_178.lt zq54_0)
       have g_t_54 : n0 ≤ t_54 := Nat.le_trans (Nat.le_trans Z0 K44.1) zq54_0
       have s_t_54 : h0.size ≤ t_54 := Nat.le_trans K44.1 zq54_0
       have F54_182 := F44_175.keep Kq54
       have F54_183 := F44_176.keep Kq54 (ninS ne_a1_b3 nin0)
       have F54_184 := F44_177.keep Kq54 (ninS ne_a1_b3 nin0)
       have F54_185 := F44_178.keep Kq54 (ninS ne_tb1_b3 nin0)
       have Ol54 := Ol44.keep Kq54 (allS g_b3 all0)
       have K54 : Keep h0 T54.heap ([] : List Addr) := K44.trans Kq54 (allS (Or.inr s_b3) all0)
       have R54 := R44.trans (CHr.keep Kq54 (sfS (Safe.exa (vm := s.vm) hZ.alike F44_165 (by decide) (by decide)) sf0) R44.1)
       have hk54 := Nat.le_trans hk44 Kq54.1
       refine opop Y54 52 rfl rfl <| oinc Y54 53 rfl #[vR a1, vI pa, vI (Int32.ofNat r_2), vR b3, vI ((Int32.ofNat it) + (1 : Int32))] rfl rfl <| ogt 40 Y54 54 rfl rfl ?_
       refine og T54 m 40 #[vR a1, vI pa, vI (Int32.ofNat r_2), vR b3, vI (Int32.ofNat (it + 1))] [] (fun tgt kgo => castTop (by rw [(own_add1 it)]) kgo) ?_
       exact lp1 (cs1.length - (it + 1) + 1) (it + 1) (acc ++ [(ownAt cs1 it)]) t_54 k_54 vs_54 T54 T54.heap _ X54 rfl Ol54 K54 N54 R54 hk54 fq54_0 fq54_1 fq54_2 fq54_3 fq54_4 fq54_5 fq54_6 g_t_54 s_t_54 ne_tb1_t_54 F54_182 F54_183 F54_184 F54_185 (own_inv_char hen hI hlt hw0 hl240) pq54_1 pq54_0 (own_rg_app hrg (own_rg_at hos.2.1 it)) (own_ex_app cb52) (Nat.lt_succ_self _)
      refine oaN Y50 47 rfl rfl rfl <| oaN Y50 48 rfl rfl rfl <| oil Y50 49 rfl rfl ?_
      refine oCV X50 Y50 hZ hml hown (wT 78 rfl) (wT 79 rfl) (notFace_of_selects (args := #[]) (mvT hZ (wT 81 rfl))) (wT 81 rfl) (wT 80 rfl) (wT 82 rfl) (wT 9 rfl) (rm_chA Gl Ol44 a1 cd1 tb1 kb1 nB1 vs1 (Int32.ofNat it) (ownAt cs1 it) F44_175 F44_176 F44_177 F44_178 (own_ch hos (j := it) hlt rfl)) eq50 F44_175 50 rfl 1 1 pd_17647939 rfl rfl rfl rfl rfl (by decide +kernel) (by decide +kernel) ?_
      intro v55 T55 L55 X55 Y55 hQ55
      obtain ⟨rfl, Nq55, eq55⟩ := hQ55
      show OwnH p e below _ T55 m _ _ [(.int (ownAt cs1 it)), (.ref b3)]
      have N55 := Fr.app N50 Nq55
      refine oCV X55 Y55 hZ hml hown (wT 115 rfl) (wT 116 rfl) (notFace_of_selects (args := #[]) (mvT hZ (wT 118 rfl))) (wT 118 rfl) (wT 117 rfl) (wT 119 rfl) (wT 49 rfl) (rm_sappA Gl Ol44 b3 va kv vsb (0 : Int32) acc (ownAt cs1 it) F44_165 F44_166 F44_167 F44_168 F44_169 F44_170 F44_171 g_b3 F44_172 hl240 hvl hlb cb52) eq55 F44_165 51 rfl 1 0 pd_83287968 rfl rfl rfl rfl rfl (by decide +kernel) (by decide +kernel) ?_
      intro v56 T56 L56 X56 Y56 hQ56
      obtain ⟨vs_56, rfl, Nq56, Kq56, fq56_0, fq56_1, fq56_2, fq56_3, fq56_4, fq56_5, fq56_6, pq56_0, pq56_1⟩ := hQ56
      show OwnH p e below _ T56 m _ _ [(.ref b3)]
      have N56 := Fr.app N55 Nq56
      have F56_188 := F44_175.keep Kq56
      have F56_189 := F44_176.keep Kq56 (ninS ne_a1_b3 (ninS (Exa.ne F44_175 F44_171 (by decide)) nin0))
      have F56_190 := F44_177.keep Kq56 (ninS ne_a1_b3 (ninS (Exa.ne F44_175 F44_171 (by decide)) nin0))
      have F56_191 := F44_178.keep Kq56 (ninS ne_tb1_b3 (ninS F44_174 nin0))
      have Ol56 := Ol44.keep Kq56 (allS g_b3 (allS F44_172 all0))
      have K56 : Keep h0 T56.heap ([] : List Addr) := K44.trans Kq56 (allS (Or.inr s_b3) (allS (Or.inr F44_173) all0))
      have R56 := R44.trans (CHr.keep Kq56 (sfS (Safe.exa (vm := s.vm) hZ.alike F44_165 (by decide) (by decide)) (sfS (own_safe_len hZ (wT 187 rfl) F44_170 (by decide)) sf0)) R44.1)
      have hk56 := Nat.le_trans hk44 Kq56.1
      refine opop Y56 52 rfl rfl <| oinc Y56 53 rfl #[vR a1, vI pa, vI (Int32.ofNat r_2), vR b3, vI ((Int32.ofNat it) + (1 : Int32))] rfl rfl <| ogt 40 Y56 54 rfl rfl ?_
      refine og T56 m 40 #[vR a1, vI pa, vI (Int32.ofNat r_2), vR b3, vI (Int32.ofNat (it + 1))] [] (fun tgt kgo => castTop (by rw [(own_add1 it)]) kgo) ?_
      exact ih44 (it + 1) (acc ++ [(ownAt cs1 it)]) va kv vs_56 T56 T56.heap _ X56 rfl Ol56 K56 N56 R56 hk56 fq56_0 fq56_1 fq56_2 fq56_3 fq56_4 fq56_5 fq56_6 F44_172 F44_173 F44_174 F56_188 F56_189 F56_190 F56_191 (own_inv_char hen hI hlt hw0 hl240) pq56_1 pq56_0 (own_rg_app hrg (own_rg_at hos.2.1 it)) (by omega)
     have hw1 : ownWs (ownAt cs1 it) = true := (own_i1 _).mp cc51
     refine oifn Y50 33 rfl ((if0 _ _).trans (feq cc51).1) <| oaN Y50 34 rfl rfl rfl <| oil Y50 35 rfl rfl ?_
     refine oCS X50 Y50 hZ hml hown (wT 65 rfl) (wT 66 rfl) (wT 38 rfl) (wT 67 rfl) (rm_skip Gl Ol44 a1 cd1 tb1 kb1 nB1 vs1 cs1 it F44_175 F44_176 F44_177 F44_178 hos hn3 hI.ln) eq50 36 rfl 2 0 pd_96034481 rfl rfl rfl rfl (by decide +kernel) ?_
     intro v57 T57 L57 X57 Y57 hQ57
     obtain ⟨r_57, rfl, Nq57, eq57, pq57_0⟩ := hQ57
     show OwnH p e below _ T57 m _ _ [(.int (Int32.ofNat r_57))]
     have N57 := Fr.app N50 Nq57
     refine ois Y57 37 rfl #[vR a1, vI pa, vI (Int32.ofNat r_2), vR b3, vI (Int32.ofNat r_57)] rfl <| oil Y57 38 rfl rfl <| oaN Y57 39 rfl rfl rfl ?_
     refine oCV X57 Y57 hZ hml hown (wT 68 rfl) (wT 69 rfl) (notFace_of_selects (args := #[]) (mvT hZ (wT 71 rfl))) (wT 71 rfl) (wT 70 rfl) (wT 72 rfl) (wT 9 rfl) (rm_lenA Gl Ol44 a1 cd1 (Int32.ofNat cs1.length) tb1 kb1 nB1 vs1 F44_175 F44_176 F44_177 F44_178 (own_len hos rfl)) eq57 F44_175 40 rfl 0 1 pd_86913941 rfl rfl rfl rfl rfl (by decide +kernel) (by decide +kernel) ?_
     intro v58 T58 L58 X58 Y58 hQ58
     obtain ⟨rfl, Nq58, eq58⟩ := hQ58
     show OwnH p e below _ T58 m _ _ [(.int (Int32.ofNat cs1.length)), (.int (Int32.ofNat r_57))]
     have N58 := Fr.app N57 Nq58
     by_cases cc59 : (Int32.ofNat r_57) < (Int32.ofNat cs1.length)
     ·
      have hlt2 : r_57 < cs1.length := (own_ltN (by have := pq57_0.2.1; omega) (by omega)).mp cc59
      refine ocn Y58 41 rfl (tlt cc59).2.1 <| oaN Y58 42 rfl rfl rfl <| obp 32 Y58 43 rfl rfl ?_
      refine oCV X58 Y58 hZ hml hown (wT 115 rfl) (wT 116 rfl) (notFace_of_selects (args := #[]) (mvT hZ (wT 118 rfl))) (wT 118 rfl) (wT 117 rfl) (wT 119 rfl) (wT 49 rfl) (rm_sappA Gl Ol44 b3 va kv vsb (0 : Int32) acc (32 : Int32) F44_165 F44_166 F44_167 F44_168 F44_169 F44_170 F44_171 g_b3 F44_172 hl240 hvl hlb (by decide)) eq58 F44_165 44 rfl 1 0 pd_83287968 rfl rfl rfl rfl rfl (by decide +kernel) (by decide +kernel) ?_
      intro v60 T60 L60 X60 Y60 hQ60
      obtain ⟨vs_60, rfl, Nq60, Kq60, fq60_0, fq60_1, fq60_2, fq60_3, fq60_4, fq60_5, fq60_6, pq60_0, pq60_1⟩ := hQ60
      show OwnH p e below _ T60 m _ _ [(.ref b3)]
      have N60 := Fr.app N58 Nq60
      have F60_194 := F44_175.keep Kq60
      have F60_195 := F44_176.keep Kq60 (ninS ne_a1_b3 (ninS (Exa.ne F44_175 F44_171 (by decide)) nin0))
      have F60_196 := F44_177.keep Kq60 (ninS ne_a1_b3 (ninS (Exa.ne F44_175 F44_171 (by decide)) nin0))
      have F60_197 := F44_178.keep Kq60 (ninS ne_tb1_b3 (ninS F44_174 nin0))
      have Ol60 := Ol44.keep Kq60 (allS g_b3 (allS F44_172 all0))
      have K60 : Keep h0 T60.heap ([] : List Addr) := K44.trans Kq60 (allS (Or.inr s_b3) (allS (Or.inr F44_173) all0))
      have R60 := R44.trans (CHr.keep Kq60 (sfS (Safe.exa (vm := s.vm) hZ.alike F44_165 (by decide) (by decide)) (sfS (own_safe_len hZ (wT 187 rfl) F44_170 (by decide)) sf0)) R44.1)
      have hk60 := Nat.le_trans hk44 Kq60.1
      refine opop Y60 45 rfl rfl <| ogt 40 Y60 46 rfl rfl ?_
      exact ih44 r_57 (acc ++ [(32 : Int32)]) va kv vs_60 T60 T60.heap _ X60 rfl Ol60 K60 N60 R60 hk60 fq60_0 fq60_1 fq60_2 fq60_3 fq60_4 fq60_5 fq60_6 F44_172 F44_173 F44_174 F60_194 F60_195 F60_196 F60_197 (own_inv_space hen hI (own_skip_lt pq57_0 hw1) hlt2 pq57_0.2.2.1 (pq57_0.2.2.2 hlt2) hl240) pq60_1 pq60_0 (own_rg_app hrg (by decide)) (by have := own_skip_lt pq57_0 hw1; omega)
     have hge2 : ¬ r_57 < cs1.length := fun q => cc59 ((own_ltN (by have := pq57_0.2.1; omega) (by omega)).mpr q)
     refine ocy 40 Y58 41 rfl rfl (flt cc59).2.1 ?_
     have hrn : r_57 = cs1.length := Nat.le_antisymm pq57_0.2.1 (Nat.le_of_not_lt hge2)
     exact ih44 r_57 acc va kv vsb T58 h44 _ X58 eq58 Ol44 K44 N58 R44 hk44 F44_165 F44_166 F44_167 F44_168 F44_169 F44_170 F44_171 F44_172 F44_173 F44_174 F44_175 F44_176 F44_177 F44_178 (hrn ▸ own_inv_end hen hI (fun t h1 h2 => pq57_0.2.2.1 t h1 (by omega)) hl240) hvl hlb hrg (by have := pq57_0.1; omega)
    have hf240 : ¬ acc.length < 240 := fun q => cc48 ((own_ltN (b := 240) (by omega) (by decide)).mpr q)
    refine ocy 115 Y47 28 rfl rfl (flt cc48).2.1 ?_
    exact ex0 it acc va kv vsb T47 h44 _ X47 eq47 Ol44 K44 N47 R44 hk44 F44_165 F44_166 F44_167 F44_168 F44_169 F44_170 F44_171 F44_172 F44_173 F44_174 F44_175 F44_176 F44_177 F44_178 hI hvl hlb hrg (Or.inr (by have := hI.cap; omega))
   have hge : ¬ it < cs1.length := fun q => cc46 ((own_ltN (by omega) (by omega)).mpr q)
   refine ocy 115 Y45 24 rfl rfl (flt cc46).2.1 ?_
   exact ex0 it acc va kv vsb T45 h44 _ X45 eq45 Ol44 K44 N45 R44 hk44 F44_165 F44_166 F44_167 F44_168 F44_169 F44_170 F44_171 F44_172 F44_173 F44_174 F44_175 F44_176 F44_177 F44_178 hI hvl hlb hrg (Or.inl (by omega))
 refine oiN Y4 11 rfl rfl ?_
 by_cases cc61 : (0 : Int32) < (Int32.ofNat r_2)
 ·
  refine oifn Y4 12 rfl ((if0 _ _).trans (tlt cc61).2.2.2) <| oaN Y4 13 rfl rfl rfl <| osp 8230 Y4 14 rfl rfl ?_
  refine oCV X4 Y4 hZ hml hown (wT 115 rfl) (wT 116 rfl) (notFace_of_selects (args := #[]) (mvT hZ (wT 118 rfl))) (wT 118 rfl) (wT 117 rfl) (wT 119 rfl) (wT 49 rfl) (rm_sappB Gl Ol4 b3 vv_4 k_4 (List.replicate 240 (Value.int (0 : Int32))) (0 : Int32) ([] : List Int32) (8230 : Int32) fq4_0 fq4_1 fq4_2 Fz5 fq4_4 fq4_5 fq4_6 g_b3 (by decide) (List.length_replicate ..) (own_lb0 240) (by decide) (fun _ h => nomatch h)) rfl fq4_0 15 rfl 1 0 pd_83287968 rfl rfl rfl rfl rfl (by decide +kernel) (by decide +kernel) ?_
  intro v62 T62 L62 X62 Y62 hQ62
  obtain ⟨t_62, k_62, vs_62, rfl, Nq62, Kq62, zq62_0, fq62_0, fq62_1, fq62_2, fq62_3, fq62_4, fq62_5, fq62_6, pq62_0, pq62_1⟩ := hQ62
  show OwnH p e below _ T62 m _ _ [(.ref b3)]
  have N62 := Fr.app N4 Nq62
  have ne_tb1_t_62 : tb1 ≠ t_62 := Nat.ne_of_lt (Nat.lt_of_lt_of_le F4_12.lt zq62_0)
  have g_t_62 : n0 ≤ t_62 := Nat.le_trans (Nat.le_trans Z0 K4.1) zq62_0
  have s_t_62 : h0.size ≤ t_62 := Nat.le_trans K4.1 zq62_0
  have F62_198 := F4_9.keep Kq62
  have F62_199 := F4_10.keep Kq62 (ninS ne_a1_b3 nin0)
  have F62_200 := F4_11.keep Kq62 (ninS ne_a1_b3 nin0)
  have F62_201 := F4_12.keep Kq62 (ninS ne_tb1_b3 nin0)
  have Ol62 := Ol4.keep Kq62 (allS g_b3 all0)
  have K62 : Keep h0 T62.heap ([] : List Addr) := K4.trans Kq62 (allS (Or.inr s_b3) all0)
  have R62 := R4.trans (CHr.keep Kq62 (sfS F4_13 sf0) R4.1)
  have hk62 := Nat.le_trans hk4 Kq62.1
  refine opop Y62 16 rfl rfl <| oaN Y62 17 rfl rfl rfl <| oiN Y62 18 rfl rfl ?_
  refine oCS X62 Y62 hZ hml hown (wT 65 rfl) (wT 66 rfl) (wT 38 rfl) (wT 67 rfl) (rm_skip Gl Ol62 a1 cd1 tb1 kb1 nB1 vs1 cs1 r_2 F62_198 F62_199 F62_200 F62_201 hos hn3 hsl) rfl 19 rfl 2 0 pd_96034481 rfl rfl rfl rfl (by decide +kernel) ?_
  intro v63 T63 L63 X63 Y63 hQ63
  obtain ⟨r_63, rfl, Nq63, eq63, pq63_0⟩ := hQ63
  show OwnH p e below _ T63 m _ _ [(.int (Int32.ofNat r_63))]
  have N63 := Fr.app N62 Nq63
  refine ois Y63 20 rfl #[vR a1, vI pa, vI (Int32.ofNat r_2), vR b3, vI (Int32.ofNat r_63)] rfl ?_
  exact lp1 (cs1.length - r_63 + 1) r_63 (([] : List Int32) ++ [(8230 : Int32)]) t_62 k_62 vs_62 T63 T62.heap _ X63 eq63 Ol62 K62 N63 R62 hk62 fq62_0 fq62_1 fq62_2 fq62_3 fq62_4 fq62_5 fq62_6 g_t_62 s_t_62 ne_tb1_t_62 F62_198 F62_199 F62_200 F62_201 (own_inv_init pq63_0.1 pq63_0.2.1 pq63_0.2.2.1 pq63_0.2.2.2 (Or.inr ⟨own_mark1 (by omega) cc61, rfl⟩)) pq62_1 pq62_0 (own_rg_app (fun _ h => nomatch h) (by decide)) (own_ex_app (by decide)) (Nat.lt_succ_self _)
 refine oify 33 Y4 12 rfl rfl ((if0 _ _).trans (flt cc61).2.2.2) <| oaN Y4 17 rfl rfl rfl <| oiN Y4 18 rfl rfl ?_
 refine oCS X4 Y4 hZ hml hown (wT 65 rfl) (wT 66 rfl) (wT 38 rfl) (wT 67 rfl) (rm_skip Gl Ol4 a1 cd1 tb1 kb1 nB1 vs1 cs1 r_2 F4_9 F4_10 F4_11 F4_12 hos hn3 hsl) rfl 19 rfl 2 0 pd_96034481 rfl rfl rfl rfl (by decide +kernel) ?_
 intro v64 T64 L64 X64 Y64 hQ64
 obtain ⟨r_64, rfl, Nq64, eq64, pq64_0⟩ := hQ64
 show OwnH p e below _ T64 m _ _ [(.int (Int32.ofNat r_64))]
 have N64 := Fr.app N4 Nq64
 refine ois Y64 20 rfl #[vR a1, vI pa, vI (Int32.ofNat r_2), vR b3, vI (Int32.ofNat r_64)] rfl ?_
 exact lp0 (cs1.length - r_64 + 1) r_64 ([] : List Int32) vv_4 k_4 (List.replicate 240 (Value.int (0 : Int32))) T64 T4.heap _ X64 eq64 Ol4 K4 N64 R4 hk4 fq4_0 fq4_1 fq4_2 Fz5 fq4_4 fq4_5 fq4_6 g_vv_4 s_vv_4 ne_tb1_vv_4 F4_9 F4_10 F4_11 F4_12 (own_inv_init pq64_0.1 pq64_0.2.1 pq64_0.2.2.1 pq64_0.2.2.2 (Or.inl ⟨own_mark0 (by omega) cc61, rfl⟩)) (List.length_replicate ..) (own_lb0 240) (fun _ h => nomatch h) (Nat.lt_succ_self _)
def Q_wsL (Z : State) (c1 : Int32) : OwnP := fun h0 n0 v h L => v = some (.int (ownI (ownWs c1))) ∧ Fr n0 L ∧ h = h0
theorem pn_28696215 : plainName "com/example/seekret/seekret/engine/index/SnippetsAroundPinLaw" = true := by first | (simp [plainName, overriddenIn]; done) | decide +kernel
def ll63 : List (Nat × Instr × Nat) := [(0, .iload_n 0, 1), (1, .bipush 32, 2), (3, .if_icmp .eq 33, 3), (6, .iload_n 0, 1), (7, .bipush 9, 2), (9, .if_icmp .eq 27, 3), (12, .iload_n 0, 1), (13, .bipush 10, 2), (15, .if_icmp .eq 21, 3), (18, .iload_n 0, 1), (19, .bipush 11, 2), (21, .if_icmp .eq 15, 3), (24, .iload_n 0, 1), (25, .bipush 12, 2), (27, .if_icmp .eq 9, 3), (30, .iload_n 0, 1), (31, .bipush 13, 2), (33, .if_icmp .ne 7, 3), (36, .iconst 1, 1), (37, .goto 4, 3), (40, .iconst 0, 1), (41, .ireturn, 1)]
theorem dl63 : OwnDec method_4_code ll63 := by decide +kernel
theorem rm_wsL (Gl : OwnGl Z a0 wG1 wG3) (X00 : Old Z n0 h0) (c1 : Int32) : OwnM l Z mN63 method_4_code 1 (some .boolean) (oR 0 0 0 0) #[(.int c1)] h0 (Q_wsL Z c1 h0 n0) := by
 refine own_in (plainFor_of_name pn_28696215) dl63 #[vI c1] (oE rfl) ?_
 intro p e s m below meth c s₁ Bd hml hZ X0 e0 hx hlk Y0 hown
 have N0 := Fr.nil n0
 refine oiN Y0 0 rfl rfl <| obp 32 Y0 1 rfl rfl ?_
 by_cases cc1 : c1 = (32 : Int32)
 ·
  refine ocy 36 Y0 2 rfl rfl (teq cc1).1 <| oic 1 Y0 18 rfl rfl <| ogt 41 Y0 19 rfl rfl ?_
  refine og s₁ m 41 #[vI c1] [(.int (ownI (ownWs c1)))] (fun tgt kgo => castTop (by rw [(by rw [cc1]; decide : (1 : Int32) = (ownI (ownWs c1)))]) kgo) ?_
  exact orN X0 Y0 hlk Bd.returns (by simp) 21 rfl ((own_nar_i _)) (by decide) (by decide) e0 ⟨rfl, N0, rfl⟩
 refine ocn Y0 2 rfl (feq cc1).1 <| oiN Y0 3 rfl rfl <| obp 9 Y0 4 rfl rfl ?_
 by_cases cc3 : c1 = (9 : Int32)
 ·
  refine ocy 36 Y0 5 rfl rfl (teq cc3).1 <| oic 1 Y0 18 rfl rfl <| ogt 41 Y0 19 rfl rfl ?_
  refine og s₁ m 41 #[vI c1] [(.int (ownI (ownWs c1)))] (fun tgt kgo => castTop (by rw [(by rw [cc3]; decide : (1 : Int32) = (ownI (ownWs c1)))]) kgo) ?_
  exact orN X0 Y0 hlk Bd.returns (by simp) 21 rfl ((own_nar_i _)) (by decide) (by decide) e0 ⟨rfl, N0, rfl⟩
 refine ocn Y0 5 rfl (feq cc3).1 <| oiN Y0 6 rfl rfl <| obp 10 Y0 7 rfl rfl ?_
 by_cases cc5 : c1 = (10 : Int32)
 ·
  refine ocy 36 Y0 8 rfl rfl (teq cc5).1 <| oic 1 Y0 18 rfl rfl <| ogt 41 Y0 19 rfl rfl ?_
  refine og s₁ m 41 #[vI c1] [(.int (ownI (ownWs c1)))] (fun tgt kgo => castTop (by rw [(by rw [cc5]; decide : (1 : Int32) = (ownI (ownWs c1)))]) kgo) ?_
  exact orN X0 Y0 hlk Bd.returns (by simp) 21 rfl ((own_nar_i _)) (by decide) (by decide) e0 ⟨rfl, N0, rfl⟩
 refine ocn Y0 8 rfl (feq cc5).1 <| oiN Y0 9 rfl rfl <| obp 11 Y0 10 rfl rfl ?_
 by_cases cc7 : c1 = (11 : Int32)
 ·
  refine ocy 36 Y0 11 rfl rfl (teq cc7).1 <| oic 1 Y0 18 rfl rfl <| ogt 41 Y0 19 rfl rfl ?_
  refine og s₁ m 41 #[vI c1] [(.int (ownI (ownWs c1)))] (fun tgt kgo => castTop (by rw [(by rw [cc7]; decide : (1 : Int32) = (ownI (ownWs c1)))]) kgo) ?_
  exact orN X0 Y0 hlk Bd.returns (by simp) 21 rfl ((own_nar_i _)) (by decide) (by decide) e0 ⟨rfl, N0, rfl⟩
 refine ocn Y0 11 rfl (feq cc7).1 <| oiN Y0 12 rfl rfl <| obp 12 Y0 13 rfl rfl ?_
 by_cases cc9 : c1 = (12 : Int32)
 ·
  refine ocy 36 Y0 14 rfl rfl (teq cc9).1 <| oic 1 Y0 18 rfl rfl <| ogt 41 Y0 19 rfl rfl ?_
  refine og s₁ m 41 #[vI c1] [(.int (ownI (ownWs c1)))] (fun tgt kgo => castTop (by rw [(by rw [cc9]; decide : (1 : Int32) = (ownI (ownWs c1)))]) kgo) ?_
  exact orN X0 Y0 hlk Bd.returns (by simp) 21 rfl ((own_nar_i _)) (by decide) (by decide) e0 ⟨rfl, N0, rfl⟩
 refine ocn Y0 14 rfl (feq cc9).1 <| oiN Y0 15 rfl rfl <| obp 13 Y0 16 rfl rfl ?_
 by_cases cc11 : c1 = (13 : Int32)
 ·
  refine ocn Y0 17 rfl (teq cc11).2 <| oic 1 Y0 18 rfl rfl <| ogt 41 Y0 19 rfl rfl ?_
  refine og s₁ m 41 #[vI c1] [(.int (ownI (ownWs c1)))] (fun tgt kgo => castTop (by rw [(by rw [cc11]; decide : (1 : Int32) = (ownI (ownWs c1)))]) kgo) ?_
  exact orN X0 Y0 hlk Bd.returns (by simp) 21 rfl ((own_nar_i _)) (by decide) (by decide) e0 ⟨rfl, N0, rfl⟩
 refine ocy 40 Y0 17 rfl rfl (feq cc11).2 <| oic 0 Y0 20 rfl rfl ?_
 refine og s₁ m 41 #[vI c1] [(.int (ownI (ownWs c1)))] (fun tgt kgo => castTop (by rw [(own_ws0 cc1 cc3 cc5 cc7 cc9 cc11)]) kgo) ?_
 exact orN X0 Y0 hlk Bd.returns (by simp) 21 rfl ((own_nar_i _)) (by decide) (by decide) e0 ⟨rfl, N0, rfl⟩
def Q_wsAt (Z : State) (pp : Addr) (kp : ClassId) (P0 : Nat) (P1 : Nat) (P2 : Nat) (ww : Addr) (kw : ClassId) (w0 : Bool) (w1 : Bool) (w2 : Bool) (i : Nat) : OwnP := fun h0 n0 v h L => v = some (.int (ownI (ownWsAt P0 P1 P2 w0 w1 w2 i))) ∧ Fr n0 L ∧ h = h0
def ll64 : List (Nat × Instr × Nat) := [(0, .aload_n 2, 1), (1, .iconst 0, 1), (2, .baload, 1), (3, .ifCond .eq 10, 3), (6, .iload_n 0, 1), (7, .aload_n 1, 1), (8, .iconst 0, 1), (9, .iaload, 1), (10, .if_icmp .eq 29, 3), (13, .aload_n 2, 1), (14, .iconst 1, 1), (15, .baload, 1), (16, .ifCond .eq 10, 3), (19, .iload_n 0, 1), (20, .aload_n 1, 1), (21, .iconst 1, 1), (22, .iaload, 1), (23, .if_icmp .eq 16, 3), (26, .aload_n 2, 1), (27, .iconst 2, 1), (28, .baload, 1), (29, .ifCond .eq 14, 3), (32, .iload_n 0, 1), (33, .aload_n 1, 1), (34, .iconst 2, 1), (35, .iaload, 1), (36, .if_icmp .ne 7, 3), (39, .iconst 1, 1), (40, .goto 4, 3), (43, .iconst 0, 1), (44, .ireturn, 1)]
theorem dl64 : OwnDec method_6_code ll64 := by decide +kernel
theorem rm_wsAt (Gl : OwnGl Z a0 wG1 wG3) (X00 : Old Z n0 h0) (pp : Addr) (kp : ClassId) (P0 : Nat) (P1 : Nat) (P2 : Nat) (ww : Addr) (kw : ClassId) (w0 : Bool) (w1 : Bool) (w2 : Bool) (i : Nat) (f0 : Arv Z h0 pp kp .int (3 : Int32) [(.int (Int32.ofNat P0)), (.int (Int32.ofNat P1)), (.int (Int32.ofNat P2))] (.int 0)) (f1 : Arv Z h0 ww kw .boolean (3 : Int32) [(.int (ownI w0)), (.int (ownI w1)), (.int (ownI w2))] (.int 0)) (hB3 : P0 ≤ 300 ∧ P1 ≤ 300 ∧ P2 ≤ 300) (hi3 : i ≤ 300) : OwnM l Z mN64 method_6_code 3 (some .boolean) (oR 0 0 0 0) #[(.int (Int32.ofNat i)), (.ref pp), (.ref ww)] h0 (Q_wsAt Z pp kp P0 P1 P2 ww kw w0 w1 w2 i h0 n0) := by
 refine own_in (plainFor_of_name pn_28696215) dl64 #[vI (Int32.ofNat i), vR pp, vR ww] (oE rfl) ?_
 intro p e s m below meth c s₁ Bd hml hZ X0 e0 hx hlk Y0 hown
 have N0 := Fr.nil n0
 obtain ⟨hb0, hb1, hb2⟩ := id hB3
 have sw0 : ∀ (T1 : State) (L1 : List Loc) (X1 : Stand p l e (oR 0 0 0 0) s m #[(.int (Int32.ofNat i)), (.ref pp), (.ref ww)] below meth c T1 L1 0 0) (e1 : T1.heap = h0) (N1 : Fr n0 L1) (ha0 : (w0 && decide (i = P0)) = false), OwnGoes p e below (oG (Q_wsAt Z pp kp P0 P1 P2 ww kw w0 w1 w2 i h0 n0) s (oR 0 0 0 0)) T1 (mkF m 13 #[vI (Int32.ofNat i), vR pp, vR ww] []) := by
  intro T1 L1 X1 e1 N1 ha0
  have sw1 : ∀ (T2 : State) (L2 : List Loc) (X2 : Stand p l e (oR 0 0 0 0) s m #[(.int (Int32.ofNat i)), (.ref pp), (.ref ww)] below meth c T2 L2 0 0) (e2 : T2.heap = h0) (N2 : Fr n0 L2) (ha1 : (w1 && decide (i = P1)) = false), OwnGoes p e below (oG (Q_wsAt Z pp kp P0 P1 P2 ww kw w0 w1 w2 i h0 n0) s (oR 0 0 0 0)) T2 (mkF m 26 #[vI (Int32.ofNat i), vR pp, vR ww] []) := by
   intro T2 L2 X2 e2 N2 ha1
   have Y2 := Y0.nx X2
   refine oaN Y2 18 rfl rfl rfl <| oic 2 Y2 19 rfl rfl <| ozal X2 Y2 hZ e2 f1 20 rfl (by decide) rfl ?_
   by_cases cc4 : (ownI w2) = (0 : Int32)
   ·
    have hy5 : w2 = false := (own_i0 _).mp cc4
    refine oify 43 Y2 21 rfl rfl ((if0 _ _).trans (teq cc4).1) <| oic 0 Y2 29 rfl rfl <| oti (ownI (ownWsAt P0 P1 P2 w0 w1 w2 i)) ((by unfold ownWsAt; rw [hy5, ha0, ha1] <;> rfl)) ?_
    exact orN X2 Y2 hlk Bd.returns (by simp) 30 rfl ((own_nar_i _)) (by decide) (by decide) e2 ⟨rfl, N2, rfl⟩
   have hy7 : w2 = true := (own_i1 _).mp cc4
   refine oifn Y2 21 rfl ((if0 _ _).trans (feq cc4).1) <| oiN Y2 22 rfl rfl <| oaN Y2 23 rfl rfl rfl <| oic 2 Y2 24 rfl rfl <| oial X2 Y2 hZ e2 f0 25 rfl (by decide) rfl ?_
   by_cases cc9 : (Int32.ofNat i) = (Int32.ofNat P2)
   ·
    have hz10 : i = P2 := own_ofN (a := i) (b := P2) (by omega) (by omega) cc9
    have hy10 : decide (i = P2) = true := decide_eq_true hz10
    refine ocn Y2 26 rfl (teq cc9).2 <| oic 1 Y2 27 rfl rfl <| ogt 44 Y2 28 rfl rfl <| oti (ownI (ownWsAt P0 P1 P2 w0 w1 w2 i)) ((by unfold ownWsAt; rw [hy10, hy7, ha0, ha1] <;> rfl)) ?_
    exact orN X2 Y2 hlk Bd.returns (by simp) 30 rfl ((own_nar_i _)) (by decide) (by decide) e2 ⟨rfl, N2, rfl⟩
   have hz12 : ¬ i = P2 := fun q => cc9 (congrArg Int32.ofNat q)
   have hy12 : decide (i = P2) = false := decide_eq_false hz12
   refine ocy 43 Y2 26 rfl rfl (feq cc9).2 <| oic 0 Y2 29 rfl rfl <| oti (ownI (ownWsAt P0 P1 P2 w0 w1 w2 i)) ((by unfold ownWsAt; rw [hy12, hy7, ha0, ha1] <;> rfl)) ?_
   exact orN X2 Y2 hlk Bd.returns (by simp) 30 rfl ((own_nar_i _)) (by decide) (by decide) e2 ⟨rfl, N2, rfl⟩
  have Y1 := Y0.nx X1
  refine oaN Y1 9 rfl rfl rfl <| oic 1 Y1 10 rfl rfl <| ozal X1 Y1 hZ e1 f1 11 rfl (by decide) rfl ?_
  by_cases cc15 : (ownI w1) = (0 : Int32)
  ·
   have hy16 : w1 = false := (own_i0 _).mp cc15
   refine oify 26 Y1 12 rfl rfl ((if0 _ _).trans (teq cc15).1) ?_
   exact sw1 T1 _ X1 e1 N1 (by rw [hy16] <;> rfl)
  have hy18 : w1 = true := (own_i1 _).mp cc15
  refine oifn Y1 12 rfl ((if0 _ _).trans (feq cc15).1) <| oiN Y1 13 rfl rfl <| oaN Y1 14 rfl rfl rfl <| oic 1 Y1 15 rfl rfl <| oial X1 Y1 hZ e1 f0 16 rfl (by decide) rfl ?_
  by_cases cc20 : (Int32.ofNat i) = (Int32.ofNat P1)
  ·
   have hz21 : i = P1 := own_ofN (a := i) (b := P1) (by omega) (by omega) cc20
   have hy21 : decide (i = P1) = true := decide_eq_true hz21
   refine ocy 39 Y1 17 rfl rfl (teq cc20).1 <| oic 1 Y1 27 rfl rfl <| ogt 44 Y1 28 rfl rfl <| oti (ownI (ownWsAt P0 P1 P2 w0 w1 w2 i)) ((by unfold ownWsAt; rw [hy21, hy18, ha0] <;> rfl)) ?_
   exact orN X1 Y1 hlk Bd.returns (by simp) 30 rfl ((own_nar_i _)) (by decide) (by decide) e1 ⟨rfl, N1, rfl⟩
  have hz23 : ¬ i = P1 := fun q => cc20 (congrArg Int32.ofNat q)
  have hy23 : decide (i = P1) = false := decide_eq_false hz23
  refine ocn Y1 17 rfl (feq cc20).1 ?_
  exact sw1 T1 _ X1 e1 N1 (by rw [hy23, hy18] <;> rfl)
 refine oaN Y0 0 rfl rfl rfl <| oic 0 Y0 1 rfl rfl <| ozal X0 Y0 hZ e0 f1 2 rfl (by decide) rfl ?_
 by_cases cc26 : (ownI w0) = (0 : Int32)
 ·
  have hy27 : w0 = false := (own_i0 _).mp cc26
  refine oify 13 Y0 3 rfl rfl ((if0 _ _).trans (teq cc26).1) ?_
  exact sw0 s₁ _ X0 e0 N0 (by rw [hy27] <;> rfl)
 have hy29 : w0 = true := (own_i1 _).mp cc26
 refine oifn Y0 3 rfl ((if0 _ _).trans (feq cc26).1) <| oiN Y0 4 rfl rfl <| oaN Y0 5 rfl rfl rfl <| oic 0 Y0 6 rfl rfl <| oial X0 Y0 hZ e0 f0 7 rfl (by decide) rfl ?_
 by_cases cc31 : (Int32.ofNat i) = (Int32.ofNat P0)
 ·
  have hz32 : i = P0 := own_ofN (a := i) (b := P0) (by omega) (by omega) cc31
  have hy32 : decide (i = P0) = true := decide_eq_true hz32
  refine ocy 39 Y0 8 rfl rfl (teq cc31).1 <| oic 1 Y0 27 rfl rfl <| ogt 44 Y0 28 rfl rfl <| oti (ownI (ownWsAt P0 P1 P2 w0 w1 w2 i)) ((by unfold ownWsAt; rw [hy32, hy29] <;> rfl)) ?_
  exact orN X0 Y0 hlk Bd.returns (by simp) 30 rfl ((own_nar_i _)) (by decide) (by decide) e0 ⟨rfl, N0, rfl⟩
 have hz34 : ¬ i = P0 := fun q => cc31 (congrArg Int32.ofNat q)
 have hy34 : decide (i = P0) = false := decide_eq_false hz34
 refine ocn Y0 8 rfl (feq cc31).1 ?_
 exact sw0 s₁ _ X0 e0 N0 (by rw [hy34, hy29] <;> rfl)
def Q_removed (Z : State) (pp : Addr) (kp : ClassId) (P0 : Nat) (P1 : Nat) (P2 : Nat) (ww : Addr) (kw : ClassId) (w0 : Bool) (w1 : Bool) (w2 : Bool) (j : Nat) (sx : Nat) (nn : Nat) : OwnP := fun h0 n0 v h L => v = some (.int (ownI (ownRem (ownWsAt P0 P1 P2 w0 w1 w2) nn sx j))) ∧ Fr n0 L ∧ h = h0
def ll65 : List (Nat × Instr × Nat) := [(0, .iload_n 0, 1), (1, .iload_n 1, 1), (2, .if_icmp .ne 5, 3), (5, .iconst 1, 1), (6, .ireturn, 1), (7, .iload_n 0, 1), (8, .iconst 1, 1), (9, .isub, 1), (10, .iload_n 1, 1), (11, .if_icmp .lt 17, 3), (14, .iload_n 0, 1), (15, .iconst 1, 1), (16, .isub, 1), (17, .aload_n 3, 1), (18, .aload 4, 2), (20, .invokestatic 46, 3), (23, .ifCond .eq 5, 3), (26, .iconst 1, 1), (27, .ireturn, 1), (28, .iload_n 0, 1), (29, .iload_n 2, 1), (30, .iconst 1, 1), (31, .isub, 1), (32, .if_icmp .ne 5, 3), (35, .iconst 1, 1), (36, .ireturn, 1), (37, .iload_n 0, 1), (38, .iload_n 2, 1), (39, .iconst 2, 1), (40, .isub, 1), (41, .if_icmp .ne 17, 3), (44, .iload_n 2, 1), (45, .iconst 1, 1), (46, .isub, 1), (47, .aload_n 3, 1), (48, .aload 4, 2), (50, .invokestatic 46, 3), (53, .ifCond .eq 5, 3), (56, .iconst 1, 1), (57, .ireturn, 1), (58, .iload_n 0, 1), (59, .iload_n 2, 1), (60, .iconst 3, 1), (61, .isub, 1), (62, .if_icmp .ne 31, 3), (65, .iload_n 2, 1), (66, .iconst 2, 1), (67, .isub, 1), (68, .aload_n 3, 1), (69, .aload 4, 2), (71, .invokestatic 46, 3), (74, .ifCond .eq 19, 3), (77, .iload_n 2, 1), (78, .iconst 1, 1), (79, .isub, 1), (80, .aload_n 3, 1), (81, .aload 4, 2), (83, .invokestatic 46, 3), (86, .ifCond .eq 7, 3), (89, .iconst 1, 1), (90, .goto 4, 3), (93, .iconst 0, 1), (94, .ireturn, 1)]
theorem dl65 : OwnDec method_9_code ll65 := by decide +kernel
theorem pd_25816040 : parseMethodDescriptor "(I[I[Z)Z" = some ⟨[.int, (.array .int), (.array .boolean)], some .boolean⟩ := by decide +kernel
theorem rm_removed (Gl : OwnGl Z a0 wG1 wG3) (X00 : Old Z n0 h0) (pp : Addr) (kp : ClassId) (P0 : Nat) (P1 : Nat) (P2 : Nat) (ww : Addr) (kw : ClassId) (w0 : Bool) (w1 : Bool) (w2 : Bool) (j : Nat) (sx : Nat) (nn : Nat) (f0 : Arv Z h0 pp kp .int (3 : Int32) [(.int (Int32.ofNat P0)), (.int (Int32.ofNat P1)), (.int (Int32.ofNat P2))] (.int 0)) (f1 : Arv Z h0 ww kw .boolean (3 : Int32) [(.int (ownI w0)), (.int (ownI w1)), (.int (ownI w2))] (.int 0)) (hB3 : P0 ≤ 300 ∧ P1 ≤ 300 ∧ P2 ≤ 300) (hsj : sx ≤ j) (hjn : j < nn) (hn4 : 4 ≤ nn) (hn3 : nn ≤ 300) : OwnM l Z mN65 method_9_code 5 (some .boolean) (oR 1 0 0 14) #[(.int (Int32.ofNat j)), (.int (Int32.ofNat sx)), (.int (Int32.ofNat nn)), (.ref pp), (.ref ww)] h0 (Q_removed Z pp kp P0 P1 P2 ww kw w0 w1 w2 j sx nn h0 n0) := by
 refine own_in (plainFor_of_name pn_28696215) dl65 #[vI (Int32.ofNat j), vI (Int32.ofNat sx), vI (Int32.ofNat nn), vR pp, vR ww] (oE rfl) ?_
 intro p e s m below meth c s₁ Bd hml hZ X0 e0 hx hlk Y0 hown
 obtain ⟨hw, cx, hEL⟩ := id Gl
 have wT := oww hw
 have N0 := Fr.nil n0
 obtain ⟨hb0, hb1, hb2⟩ := id hB3
 refine oiN Y0 0 rfl rfl <| oiN Y0 1 rfl rfl ?_
 by_cases cc1 : (Int32.ofNat j) = (Int32.ofNat sx)
 ·
  have hz2 : j = sx := own_ofN (a := j) (b := sx) (by omega) (by omega) cc1
  have hy2 : decide (j = sx) = true := decide_eq_true hz2
  refine ocn Y0 2 rfl (teq cc1).2 <| oic 1 Y0 3 rfl rfl <| oti (ownI (ownRem (ownWsAt P0 P1 P2 w0 w1 w2) nn sx j)) ((by unfold ownRem; rw [hy2] <;> rfl)) ?_
  exact orN X0 Y0 hlk Bd.returns (by simp) 4 rfl ((own_nar_i _)) (by decide) (by decide) e0 ⟨rfl, N0, rfl⟩
 have hz4 : ¬ j = sx := fun q => cc1 (congrArg Int32.ofNat q)
 have hy4 : decide (j = sx) = false := decide_eq_false hz4
 refine ocy 7 Y0 2 rfl rfl (feq cc1).2 <| oiN Y0 5 rfl rfl <| oic 1 Y0 6 rfl rfl <| osub Y0 7 rfl ?_
 refine og s₁ m 10 #[vI (Int32.ofNat j), vI (Int32.ofNat sx), vI (Int32.ofNat nn), vR pp, vR ww] [(.int (Int32.ofNat (j - 1)))] (fun tgt kgo => castTop (by rw [(show (Int32.ofNat j) - (1 : Int32) = (Int32.ofNat (j - 1)) from own_subN (b := 1) (by omega))]) kgo) ?_
 have hy5 : decide (sx + 1 ≤ j) = true := decide_eq_true (by omega)
 refine oiN Y0 8 rfl rfl <| ocn Y0 9 rfl (flt (fun q => absurd ((own_ltN (by omega) (by omega)).mp q) (by omega))).1 <| oiN Y0 10 rfl rfl <| oic 1 Y0 11 rfl rfl <| osub Y0 12 rfl ?_
 refine og s₁ m 17 #[vI (Int32.ofNat j), vI (Int32.ofNat sx), vI (Int32.ofNat nn), vR pp, vR ww] [(.int (Int32.ofNat (j - 1)))] (fun tgt kgo => castTop (by rw [(show (Int32.ofNat j) - (1 : Int32) = (Int32.ofNat (j - 1)) from own_subN (b := 1) (by omega))]) kgo) ?_
 refine oaN Y0 13 rfl rfl rfl <| oal Y0 14 rfl rfl rfl ?_
 refine oCS X0 Y0 hZ hml hown (wT 180 rfl) (wT 181 rfl) (wT 4 rfl) (wT 182 rfl) (rm_wsAt Gl X00 pp kp P0 P1 P2 ww kw w0 w1 w2 (j - 1) f0 f1 hB3 (by omega)) e0 15 rfl 3 0 pd_25816040 rfl rfl rfl rfl (by decide +kernel) ?_
 intro v6 T6 L6 X6 Y6 hQ6
 obtain ⟨rfl, Nq6, eq6⟩ := hQ6
 show OwnH p e below _ T6 m _ _ [(.int (ownI (ownWsAt P0 P1 P2 w0 w1 w2 (j - 1))))]
 have N6 := Fr.app N0 Nq6
 by_cases cc7 : (ownI (ownWsAt P0 P1 P2 w0 w1 w2 (j - 1))) = (0 : Int32)
 ·
  have hy8 : (ownWsAt P0 P1 P2 w0 w1 w2 (j - 1)) = false := (own_i0 _).mp cc7
  refine oify 28 Y6 16 rfl rfl ((if0 _ _).trans (teq cc7).1) <| oiN Y6 19 rfl rfl <| oiN Y6 20 rfl rfl <| oic 1 Y6 21 rfl rfl <| osub Y6 22 rfl ?_
  refine og T6 m 32 #[vI (Int32.ofNat j), vI (Int32.ofNat sx), vI (Int32.ofNat nn), vR pp, vR ww] [(.int (Int32.ofNat (nn - 1))), (.int (Int32.ofNat j))] (fun tgt kgo => castTop (by rw [(show (Int32.ofNat nn) - (1 : Int32) = (Int32.ofNat (nn - 1)) from own_subN (b := 1) (by omega))]) kgo) ?_
  by_cases cc9 : (Int32.ofNat j) = (Int32.ofNat (nn - 1))
  ·
   have hz10 : j = (nn - 1) := own_ofN (a := j) (b := (nn - 1)) (by omega) (by omega) cc9
   have hy10 : decide (j = (nn - 1)) = true := decide_eq_true hz10
   refine ocn Y6 23 rfl (teq cc9).2 <| oic 1 Y6 24 rfl rfl <| oti (ownI (ownRem (ownWsAt P0 P1 P2 w0 w1 w2) nn sx j)) ((by unfold ownRem; rw [hy10, hy8, hy5, hy4] <;> rfl)) ?_
   exact orN X6 Y6 hlk Bd.returns (by simp) 25 rfl ((own_nar_i _)) (by decide) (by decide) eq6 ⟨rfl, N6, rfl⟩
  have hz12 : ¬ j = (nn - 1) := fun q => cc9 (congrArg Int32.ofNat q)
  have hy12 : decide (j = (nn - 1)) = false := decide_eq_false hz12
  refine ocy 37 Y6 23 rfl rfl (feq cc9).2 ?_
  have s58 : ∀ (T13 : State) (L13 : List Loc) (X13 : Stand p l e (oR 1 0 0 14) s m #[(.int (Int32.ofNat j)), (.int (Int32.ofNat sx)), (.int (Int32.ofNat nn)), (.ref pp), (.ref ww)] below meth c T13 L13 0 0) (e13 : T13.heap = h0) (N13 : Fr n0 L13) (h58 : (decide (j = nn - 2) && ownWsAt P0 P1 P2 w0 w1 w2 (nn - 1)) = false), OwnGoes p e below (oG (Q_removed Z pp kp P0 P1 P2 ww kw w0 w1 w2 j sx nn h0 n0) s (oR 1 0 0 14)) T13 (mkF m 58 #[vI (Int32.ofNat j), vI (Int32.ofNat sx), vI (Int32.ofNat nn), vR pp, vR ww] []) := by
   intro T13 L13 X13 e13 N13 h58
   have Y13 := Y0.nx X13
   refine oiN Y13 40 rfl rfl <| oiN Y13 41 rfl rfl <| oic 3 Y13 42 rfl rfl <| osub Y13 43 rfl ?_
   refine og T13 m 62 #[vI (Int32.ofNat j), vI (Int32.ofNat sx), vI (Int32.ofNat nn), vR pp, vR ww] [(.int (Int32.ofNat (nn - 3))), (.int (Int32.ofNat j))] (fun tgt kgo => castTop (by rw [(show (Int32.ofNat nn) - (3 : Int32) = (Int32.ofNat (nn - 3)) from own_subN (b := 3) (by omega))]) kgo) ?_
   by_cases cc14 : (Int32.ofNat j) = (Int32.ofNat (nn - 3))
   ·
    have hz15 : j = (nn - 3) := own_ofN (a := j) (b := (nn - 3)) (by omega) (by omega) cc14
    have hy15 : decide (j = (nn - 3)) = true := decide_eq_true hz15
    refine ocn Y13 44 rfl (teq cc14).2 <| oiN Y13 45 rfl rfl <| oic 2 Y13 46 rfl rfl <| osub Y13 47 rfl ?_
    refine og T13 m 68 #[vI (Int32.ofNat j), vI (Int32.ofNat sx), vI (Int32.ofNat nn), vR pp, vR ww] [(.int (Int32.ofNat (nn - 2)))] (fun tgt kgo => castTop (by rw [(show (Int32.ofNat nn) - (2 : Int32) = (Int32.ofNat (nn - 2)) from own_subN (b := 2) (by omega))]) kgo) ?_
    refine oaN Y13 48 rfl rfl rfl <| oal Y13 49 rfl rfl rfl ?_
    refine oCS X13 Y13 hZ hml hown (wT 180 rfl) (wT 181 rfl) (wT 4 rfl) (wT 182 rfl) (rm_wsAt Gl X00 pp kp P0 P1 P2 ww kw w0 w1 w2 (nn - 2) f0 f1 hB3 (by omega)) e13 50 rfl 3 0 pd_25816040 rfl rfl rfl rfl (by decide +kernel) ?_
    intro v16 T16 L16 X16 Y16 hQ16
    obtain ⟨rfl, Nq16, eq16⟩ := hQ16
    show OwnH p e below _ T16 m _ _ [(.int (ownI (ownWsAt P0 P1 P2 w0 w1 w2 (nn - 2))))]
    have N16 := Fr.app N13 Nq16
    by_cases cc17 : (ownI (ownWsAt P0 P1 P2 w0 w1 w2 (nn - 2))) = (0 : Int32)
    ·
     have hy18 : (ownWsAt P0 P1 P2 w0 w1 w2 (nn - 2)) = false := (own_i0 _).mp cc17
     refine oify 93 Y16 51 rfl rfl ((if0 _ _).trans (teq cc17).1) <| oic 0 Y16 61 rfl rfl <| oti (ownI (ownRem (ownWsAt P0 P1 P2 w0 w1 w2) nn sx j)) ((by unfold ownRem; rw [h58, hy18, hy15, hy12, hy8, hy5, hy4] <;> rfl)) ?_
     exact orN X16 Y16 hlk Bd.returns (by simp) 62 rfl ((own_nar_i _)) (by decide) (by decide) eq16 ⟨rfl, N16, rfl⟩
    have hy20 : (ownWsAt P0 P1 P2 w0 w1 w2 (nn - 2)) = true := (own_i1 _).mp cc17
    refine oifn Y16 51 rfl ((if0 _ _).trans (feq cc17).1) <| oiN Y16 52 rfl rfl <| oic 1 Y16 53 rfl rfl <| osub Y16 54 rfl ?_
    refine og T16 m 80 #[vI (Int32.ofNat j), vI (Int32.ofNat sx), vI (Int32.ofNat nn), vR pp, vR ww] [(.int (Int32.ofNat (nn - 1)))] (fun tgt kgo => castTop (by rw [(show (Int32.ofNat nn) - (1 : Int32) = (Int32.ofNat (nn - 1)) from own_subN (b := 1) (by omega))]) kgo) ?_
    refine oaN Y16 55 rfl rfl rfl <| oal Y16 56 rfl rfl rfl ?_
    refine oCS X16 Y16 hZ hml hown (wT 180 rfl) (wT 181 rfl) (wT 4 rfl) (wT 182 rfl) (rm_wsAt Gl X00 pp kp P0 P1 P2 ww kw w0 w1 w2 (nn - 1) f0 f1 hB3 (by omega)) eq16 57 rfl 3 0 pd_25816040 rfl rfl rfl rfl (by decide +kernel) ?_
    intro v21 T21 L21 X21 Y21 hQ21
    obtain ⟨rfl, Nq21, eq21⟩ := hQ21
    show OwnH p e below _ T21 m _ _ [(.int (ownI (ownWsAt P0 P1 P2 w0 w1 w2 (nn - 1))))]
    have N21 := Fr.app N16 Nq21
    by_cases cc22 : (ownI (ownWsAt P0 P1 P2 w0 w1 w2 (nn - 1))) = (0 : Int32)
    ·
     have hy23 : (ownWsAt P0 P1 P2 w0 w1 w2 (nn - 1)) = false := (own_i0 _).mp cc22
     refine oify 93 Y21 58 rfl rfl ((if0 _ _).trans (teq cc22).1) <| oic 0 Y21 61 rfl rfl <| oti (ownI (ownRem (ownWsAt P0 P1 P2 w0 w1 w2) nn sx j)) ((by unfold ownRem; rw [h58, hy23, hy20, hy15, hy12, hy8, hy5, hy4] <;> rfl)) ?_
     exact orN X21 Y21 hlk Bd.returns (by simp) 62 rfl ((own_nar_i _)) (by decide) (by decide) eq21 ⟨rfl, N21, rfl⟩
    have hy25 : (ownWsAt P0 P1 P2 w0 w1 w2 (nn - 1)) = true := (own_i1 _).mp cc22
    refine oifn Y21 58 rfl ((if0 _ _).trans (feq cc22).1) <| oic 1 Y21 59 rfl rfl <| ogt 94 Y21 60 rfl rfl <| oti (ownI (ownRem (ownWsAt P0 P1 P2 w0 w1 w2) nn sx j)) ((by unfold ownRem; rw [h58, hy25, hy20, hy15, hy12, hy8, hy5, hy4] <;> rfl)) ?_
    exact orN X21 Y21 hlk Bd.returns (by simp) 62 rfl ((own_nar_i _)) (by decide) (by decide) eq21 ⟨rfl, N21, rfl⟩
   have hz27 : ¬ j = (nn - 3) := fun q => cc14 (congrArg Int32.ofNat q)
   have hy27 : decide (j = (nn - 3)) = false := decide_eq_false hz27
   refine ocy 93 Y13 44 rfl rfl (feq cc14).2 <| oic 0 Y13 61 rfl rfl <| oti (ownI (ownRem (ownWsAt P0 P1 P2 w0 w1 w2) nn sx j)) ((by unfold ownRem; rw [h58, hy27, hy12, hy8, hy5, hy4] <;> rfl)) ?_
   exact orN X13 Y13 hlk Bd.returns (by simp) 62 rfl ((own_nar_i _)) (by decide) (by decide) e13 ⟨rfl, N13, rfl⟩
  refine oiN Y6 26 rfl rfl <| oiN Y6 27 rfl rfl <| oic 2 Y6 28 rfl rfl <| osub Y6 29 rfl ?_
  refine og T6 m 41 #[vI (Int32.ofNat j), vI (Int32.ofNat sx), vI (Int32.ofNat nn), vR pp, vR ww] [(.int (Int32.ofNat (nn - 2))), (.int (Int32.ofNat j))] (fun tgt kgo => castTop (by rw [(show (Int32.ofNat nn) - (2 : Int32) = (Int32.ofNat (nn - 2)) from own_subN (b := 2) (by omega))]) kgo) ?_
  by_cases cc29 : (Int32.ofNat j) = (Int32.ofNat (nn - 2))
  ·
   have hz30 : j = (nn - 2) := own_ofN (a := j) (b := (nn - 2)) (by omega) (by omega) cc29
   have hy30 : decide (j = (nn - 2)) = true := decide_eq_true hz30
   refine ocn Y6 30 rfl (teq cc29).2 <| oiN Y6 31 rfl rfl <| oic 1 Y6 32 rfl rfl <| osub Y6 33 rfl ?_
   refine og T6 m 47 #[vI (Int32.ofNat j), vI (Int32.ofNat sx), vI (Int32.ofNat nn), vR pp, vR ww] [(.int (Int32.ofNat (nn - 1)))] (fun tgt kgo => castTop (by rw [(show (Int32.ofNat nn) - (1 : Int32) = (Int32.ofNat (nn - 1)) from own_subN (b := 1) (by omega))]) kgo) ?_
   refine oaN Y6 34 rfl rfl rfl <| oal Y6 35 rfl rfl rfl ?_
   refine oCS X6 Y6 hZ hml hown (wT 180 rfl) (wT 181 rfl) (wT 4 rfl) (wT 182 rfl) (rm_wsAt Gl X00 pp kp P0 P1 P2 ww kw w0 w1 w2 (nn - 1) f0 f1 hB3 (by omega)) eq6 36 rfl 3 0 pd_25816040 rfl rfl rfl rfl (by decide +kernel) ?_
   intro v31 T31 L31 X31 Y31 hQ31
   obtain ⟨rfl, Nq31, eq31⟩ := hQ31
   show OwnH p e below _ T31 m _ _ [(.int (ownI (ownWsAt P0 P1 P2 w0 w1 w2 (nn - 1))))]
   have N31 := Fr.app N6 Nq31
   by_cases cc32 : (ownI (ownWsAt P0 P1 P2 w0 w1 w2 (nn - 1))) = (0 : Int32)
   ·
    have hy33 : (ownWsAt P0 P1 P2 w0 w1 w2 (nn - 1)) = false := (own_i0 _).mp cc32
    refine oify 58 Y31 37 rfl rfl ((if0 _ _).trans (teq cc32).1) ?_
    exact s58 T31 _ X31 eq31 N31 (by rw [hy33, hy30] <;> rfl)
   have hy34 : (ownWsAt P0 P1 P2 w0 w1 w2 (nn - 1)) = true := (own_i1 _).mp cc32
   refine oifn Y31 37 rfl ((if0 _ _).trans (feq cc32).1) <| oic 1 Y31 38 rfl rfl <| oti (ownI (ownRem (ownWsAt P0 P1 P2 w0 w1 w2) nn sx j)) ((by unfold ownRem; rw [hy34, hy30, hy12, hy8, hy5, hy4] <;> rfl)) ?_
   exact orN X31 Y31 hlk Bd.returns (by simp) 39 rfl ((own_nar_i _)) (by decide) (by decide) eq31 ⟨rfl, N31, rfl⟩
  have hz36 : ¬ j = (nn - 2) := fun q => cc29 (congrArg Int32.ofNat q)
  have hy36 : decide (j = (nn - 2)) = false := decide_eq_false hz36
  refine ocy 58 Y6 30 rfl rfl (feq cc29).2 ?_
  exact s58 T6 _ X6 eq6 N6 (by rw [hy36] <;> rfl)
 have hy37 : (ownWsAt P0 P1 P2 w0 w1 w2 (j - 1)) = true := (own_i1 _).mp cc7
 refine oifn Y6 16 rfl ((if0 _ _).trans (feq cc7).1) <| oic 1 Y6 17 rfl rfl <| oti (ownI (ownRem (ownWsAt P0 P1 P2 w0 w1 w2) nn sx j)) ((by unfold ownRem; rw [hy37, hy5, hy4] <;> rfl)) ?_
 exact orN X6 Y6 hlk Bd.returns (by simp) 18 rfl ((own_nar_i _)) (by decide) (by decide) eq6 ⟨rfl, N6, rfl⟩
def Q_f (Z : State) (pp : Addr) (kp : ClassId) (P0 : Nat) (P1 : Nat) (P2 : Nat) (rr : Addr) (kr : ClassId) (r0 : Bool) (r1 : Bool) (r2 : Bool) (i : Nat) (sx : Nat) (F : Nat) : OwnP := fun h0 n0 v h L => v = some (.int (Int32.ofNat F)) ∧ Fr n0 L ∧ h = h0
def ll66 : List (Nat × Instr × Nat) := [(0, .iload_n 0, 1), (1, .iload_n 1, 1), (2, .isub, 1), (3, .istore 4, 2), (5, .aload_n 3, 1), (6, .iconst 0, 1), (7, .baload, 1), (8, .ifCond .eq 13, 3), (11, .aload_n 2, 1), (12, .iconst 0, 1), (13, .iaload, 1), (14, .iload_n 0, 1), (15, .if_icmp .ge 6, 3), (18, .iinc 4 (-1), 3), (21, .aload_n 3, 1), (22, .iconst 1, 1), (23, .baload, 1), (24, .ifCond .eq 13, 3), (27, .aload_n 2, 1), (28, .iconst 1, 1), (29, .iaload, 1), (30, .iload_n 0, 1), (31, .if_icmp .ge 6, 3), (34, .iinc 4 (-1), 3), (37, .aload_n 3, 1), (38, .iconst 2, 1), (39, .baload, 1), (40, .ifCond .eq 13, 3), (43, .aload_n 2, 1), (44, .iconst 2, 1), (45, .iaload, 1), (46, .iload_n 0, 1), (47, .if_icmp .ge 6, 3), (50, .iinc 4 (-1), 3), (53, .iload 4, 2), (55, .ireturn, 1)]
theorem dl66 : OwnDec method_10_code ll66 := by decide +kernel
theorem rm_f (Gl : OwnGl Z a0 wG1 wG3) (X00 : Old Z n0 h0) (pp : Addr) (kp : ClassId) (P0 : Nat) (P1 : Nat) (P2 : Nat) (rr : Addr) (kr : ClassId) (r0 : Bool) (r1 : Bool) (r2 : Bool) (i : Nat) (sx : Nat) (F : Nat) (f0 : Arv Z h0 pp kp .int (3 : Int32) [(.int (Int32.ofNat P0)), (.int (Int32.ofNat P1)), (.int (Int32.ofNat P2))] (.int 0)) (f1 : Arv Z h0 rr kr .boolean (3 : Int32) [(.int (ownI r0)), (.int (ownI r1)), (.int (ownI r2))] (.int 0)) (hB3 : P0 ≤ 300 ∧ P1 ≤ 300 ∧ P2 ≤ 300) (hsi : sx ≤ i) (hi3 : i ≤ 300) (hF : F + ownN (r0 && decide (P0 < i)) + ownN (r1 && decide (P1 < i)) + ownN (r2 && decide (P2 < i)) = i - sx) : OwnM l Z mN66 method_10_code 5 (some .int) (oR 0 0 0 0) #[(.int (Int32.ofNat i)), (.int (Int32.ofNat sx)), (.ref pp), (.ref rr)] h0 (Q_f Z pp kp P0 P1 P2 rr kr r0 r1 r2 i sx F h0 n0) := by
 refine own_in (plainFor_of_name pn_28696215) dl66 #[vI (Int32.ofNat i), vI (Int32.ofNat sx), vR pp, vR rr, vU] (oE rfl) ?_
 intro p e s m below meth c s₁ Bd hml hZ X0 e0 hx hlk Y0 hown
 have N0 := Fr.nil n0
 obtain ⟨hb0, hb1, hb2⟩ := id hB3
 refine oiN Y0 0 rfl rfl <| oiN Y0 1 rfl rfl <| osub Y0 2 rfl ?_
 refine og s₁ m 3 #[vI (Int32.ofNat i), vI (Int32.ofNat sx), vR pp, vR rr, vU] [(.int (Int32.ofNat (i - sx)))] (fun tgt kgo => castTop (by rw [(own_subN (by omega))]) kgo) ?_
 refine ois Y0 3 rfl #[vI (Int32.ofNat i), vI (Int32.ofNat sx), vR pp, vR rr, vI (Int32.ofNat (i - sx))] rfl ?_
 have sf0 : ∀ (kk0 : Nat) (T1 : State) (L1 : List Loc) (X1 : Stand p l e (oR 0 0 0 0) s m #[(.int (Int32.ofNat i)), (.int (Int32.ofNat sx)), (.ref pp), (.ref rr)] below meth c T1 L1 0 0) (e1 : T1.heap = h0) (N1 : Fr n0 L1) (hs0 : kk0 + ownN (r0 && decide (P0 < i)) = i - sx), OwnGoes p e below (oG (Q_f Z pp kp P0 P1 P2 rr kr r0 r1 r2 i sx F h0 n0) s (oR 0 0 0 0)) T1 (mkF m 21 #[vI (Int32.ofNat i), vI (Int32.ofNat sx), vR pp, vR rr, vI (Int32.ofNat kk0)] []) := by
  intro kk0 T1 L1 X1 e1 N1 hs0
  have sf1 : ∀ (kk1 : Nat) (T2 : State) (L2 : List Loc) (X2 : Stand p l e (oR 0 0 0 0) s m #[(.int (Int32.ofNat i)), (.int (Int32.ofNat sx)), (.ref pp), (.ref rr)] below meth c T2 L2 0 0) (e2 : T2.heap = h0) (N2 : Fr n0 L2) (hs1 : kk1 + ownN (r0 && decide (P0 < i)) + ownN (r1 && decide (P1 < i)) = i - sx), OwnGoes p e below (oG (Q_f Z pp kp P0 P1 P2 rr kr r0 r1 r2 i sx F h0 n0) s (oR 0 0 0 0)) T2 (mkF m 37 #[vI (Int32.ofNat i), vI (Int32.ofNat sx), vR pp, vR rr, vI (Int32.ofNat kk1)] []) := by
   intro kk1 T2 L2 X2 e2 N2 hs1
   have sf2 : ∀ (kk2 : Nat) (T3 : State) (L3 : List Loc) (X3 : Stand p l e (oR 0 0 0 0) s m #[(.int (Int32.ofNat i)), (.int (Int32.ofNat sx)), (.ref pp), (.ref rr)] below meth c T3 L3 0 0) (e3 : T3.heap = h0) (N3 : Fr n0 L3) (hs2 : kk2 + ownN (r0 && decide (P0 < i)) + ownN (r1 && decide (P1 < i)) + ownN (r2 && decide (P2 < i)) = i - sx), OwnGoes p e below (oG (Q_f Z pp kp P0 P1 P2 rr kr r0 r1 r2 i sx F h0 n0) s (oR 0 0 0 0)) T3 (mkF m 53 #[vI (Int32.ofNat i), vI (Int32.ofNat sx), vR pp, vR rr, vI (Int32.ofNat kk2)] []) := by
    intro kk2 T3 L3 X3 e3 N3 hs2
    have Y3 := Y0.nx X3
    refine oil Y3 34 rfl rfl <| oti (Int32.ofNat F) ((congrArg Int32.ofNat (by omega))) ?_
    exact orI X3 Y3 hlk Bd.returns 35 rfl (by decide) (by decide) e3 ⟨rfl, N3, rfl⟩
   have Y2 := Y0.nx X2
   refine oaN Y2 24 rfl rfl rfl <| oic 2 Y2 25 rfl rfl <| ozal X2 Y2 hZ e2 f1 26 rfl (by decide) rfl ?_
   by_cases cc6 : (ownI r2) = (0 : Int32)
   ·
    have hy7 : r2 = false := (own_i0 _).mp cc6
    refine oify 53 Y2 27 rfl rfl ((if0 _ _).trans (teq cc6).1) ?_
    have hN8 : ownN (r2 && decide (P2 < i)) = 0 := by rw [hy7] <;> rfl
    exact sf2 kk1 T2 _ X2 e2 N2 (by omega)
   have hy9 : r2 = true := (own_i1 _).mp cc6
   refine oifn Y2 27 rfl ((if0 _ _).trans (feq cc6).1) <| oaN Y2 28 rfl rfl rfl <| oic 2 Y2 29 rfl rfl <| oial X2 Y2 hZ e2 f0 30 rfl (by decide) rfl <| oiN Y2 31 rfl rfl ?_
   by_cases cc11 : (Int32.ofNat P2) < (Int32.ofNat i)
   ·
    have hz12 : P2 < i := (own_ltN (a := P2) (b := i) (by omega) (by omega)).mp cc11
    have hy12 : decide (P2 < i) = true := decide_eq_true hz12
    refine ocn Y2 32 rfl (tlt cc11).2.1 <| oinc Y2 33 rfl #[vI (Int32.ofNat i), vI (Int32.ofNat sx), vR pp, vR rr, vI ((Int32.ofNat kk1) + (-1 : Int32))] rfl rfl ?_
    have hN13 : ownN (r2 && decide (P2 < i)) = 1 := by rw [hy12, hy9] <;> rfl
    refine og T2 m 53 #[vI (Int32.ofNat i), vI (Int32.ofNat sx), vR pp, vR rr, vI (Int32.ofNat (kk1 - 1))] [] (fun tgt kgo => castTop (by rw [(own_d1 (F := kk1 - 1) (by omega))]) kgo) ?_
    exact sf2 (kk1 - 1) T2 _ X2 e2 N2 (by omega)
   have hz14 : ¬ P2 < i := fun q => cc11 ((own_ltN (a := P2) (b := i) (by omega) (by omega)).mpr q)
   have hy14 : decide (P2 < i) = false := decide_eq_false hz14
   refine ocy 53 Y2 32 rfl rfl (flt cc11).2.1 ?_
   have hN15 : ownN (r2 && decide (P2 < i)) = 0 := by rw [hy14, hy9] <;> rfl
   exact sf2 kk1 T2 _ X2 e2 N2 (by omega)
  have Y1 := Y0.nx X1
  refine oaN Y1 14 rfl rfl rfl <| oic 1 Y1 15 rfl rfl <| ozal X1 Y1 hZ e1 f1 16 rfl (by decide) rfl ?_
  by_cases cc17 : (ownI r1) = (0 : Int32)
  ·
   have hy18 : r1 = false := (own_i0 _).mp cc17
   refine oify 37 Y1 17 rfl rfl ((if0 _ _).trans (teq cc17).1) ?_
   have hN19 : ownN (r1 && decide (P1 < i)) = 0 := by rw [hy18] <;> rfl
   exact sf1 kk0 T1 _ X1 e1 N1 (by omega)
  have hy20 : r1 = true := (own_i1 _).mp cc17
  refine oifn Y1 17 rfl ((if0 _ _).trans (feq cc17).1) <| oaN Y1 18 rfl rfl rfl <| oic 1 Y1 19 rfl rfl <| oial X1 Y1 hZ e1 f0 20 rfl (by decide) rfl <| oiN Y1 21 rfl rfl ?_
  by_cases cc22 : (Int32.ofNat P1) < (Int32.ofNat i)
  ·
   have hz23 : P1 < i := (own_ltN (a := P1) (b := i) (by omega) (by omega)).mp cc22
   have hy23 : decide (P1 < i) = true := decide_eq_true hz23
   refine ocn Y1 22 rfl (tlt cc22).2.1 <| oinc Y1 23 rfl #[vI (Int32.ofNat i), vI (Int32.ofNat sx), vR pp, vR rr, vI ((Int32.ofNat kk0) + (-1 : Int32))] rfl rfl ?_
   have hN24 : ownN (r1 && decide (P1 < i)) = 1 := by rw [hy23, hy20] <;> rfl
   refine og T1 m 37 #[vI (Int32.ofNat i), vI (Int32.ofNat sx), vR pp, vR rr, vI (Int32.ofNat (kk0 - 1))] [] (fun tgt kgo => castTop (by rw [(own_d1 (F := kk0 - 1) (by omega))]) kgo) ?_
   exact sf1 (kk0 - 1) T1 _ X1 e1 N1 (by omega)
  have hz25 : ¬ P1 < i := fun q => cc22 ((own_ltN (a := P1) (b := i) (by omega) (by omega)).mpr q)
  have hy25 : decide (P1 < i) = false := decide_eq_false hz25
  refine ocy 37 Y1 22 rfl rfl (flt cc22).2.1 ?_
  have hN26 : ownN (r1 && decide (P1 < i)) = 0 := by rw [hy25, hy20] <;> rfl
  exact sf1 kk0 T1 _ X1 e1 N1 (by omega)
 refine oaN Y0 4 rfl rfl rfl <| oic 0 Y0 5 rfl rfl <| ozal X0 Y0 hZ e0 f1 6 rfl (by decide) rfl ?_
 by_cases cc28 : (ownI r0) = (0 : Int32)
 ·
  have hy29 : r0 = false := (own_i0 _).mp cc28
  refine oify 21 Y0 7 rfl rfl ((if0 _ _).trans (teq cc28).1) ?_
  have hN30 : ownN (r0 && decide (P0 < i)) = 0 := by rw [hy29] <;> rfl
  exact sf0 (i - sx) s₁ _ X0 e0 N0 (by omega)
 have hy31 : r0 = true := (own_i1 _).mp cc28
 refine oifn Y0 7 rfl ((if0 _ _).trans (feq cc28).1) <| oaN Y0 8 rfl rfl rfl <| oic 0 Y0 9 rfl rfl <| oial X0 Y0 hZ e0 f0 10 rfl (by decide) rfl <| oiN Y0 11 rfl rfl ?_
 by_cases cc33 : (Int32.ofNat P0) < (Int32.ofNat i)
 ·
  have hz34 : P0 < i := (own_ltN (a := P0) (b := i) (by omega) (by omega)).mp cc33
  have hy34 : decide (P0 < i) = true := decide_eq_true hz34
  refine ocn Y0 12 rfl (tlt cc33).2.1 <| oinc Y0 13 rfl #[vI (Int32.ofNat i), vI (Int32.ofNat sx), vR pp, vR rr, vI ((Int32.ofNat (i - sx)) + (-1 : Int32))] rfl rfl ?_
  have hN35 : ownN (r0 && decide (P0 < i)) = 1 := by rw [hy34, hy31] <;> rfl
  refine og s₁ m 21 #[vI (Int32.ofNat i), vI (Int32.ofNat sx), vR pp, vR rr, vI (Int32.ofNat ((i - sx) - 1))] [] (fun tgt kgo => castTop (by rw [(own_d1 (F := (i - sx) - 1) (by omega))]) kgo) ?_
  exact sf0 ((i - sx) - 1) s₁ _ X0 e0 N0 (by omega)
 have hz36 : ¬ P0 < i := fun q => cc33 ((own_ltN (a := P0) (b := i) (by omega) (by omega)).mpr q)
 have hy36 : decide (P0 < i) = false := decide_eq_false hz36
 refine ocy 21 Y0 12 rfl rfl (flt cc33).2.1 ?_
 have hN37 : ownN (r0 && decide (P0 < i)) = 0 := by rw [hy36, hy31] <;> rfl
 exact sf0 (i - sx) s₁ _ X0 e0 N0 (by omega)
def Q_ksj (Z : State) (j1 : Int32) (Pj : Nat) (wj : Bool) (rj : Bool) (pp : Addr) (kp : ClassId) (P0 : Nat) (P1 : Nat) (P2 : Nat) (ww : Addr) (kw : ClassId) (w0 : Bool) (w1 : Bool) (w2 : Bool) (rr : Addr) (kr : ClassId) (r0 : Bool) (r1 : Bool) (r2 : Bool) (sx : Nat) (mk : Nat) (F : Nat) : OwnP := fun h0 n0 v h L => v = some (.int (ownPred (ownKs wj rj sx (mk + F) Pj))) ∧ Fr n0 L ∧ h = h0
def ll67 : List (Nat × Instr × Nat) := [(0, .aload 4, 2), (2, .iload_n 0, 1), (3, .baload, 1), (4, .ifCond .eq 17, 3), (7, .aload_n 3, 1), (8, .iload_n 0, 1), (9, .iaload, 1), (10, .iload_n 1, 1), (11, .if_icmp .lt 10, 3), (14, .aload 5, 2), (16, .iload_n 0, 1), (17, .baload, 1), (18, .ifCond .eq 5, 3), (21, .iconst (-1), 1), (22, .ireturn, 1), (23, .iload_n 2, 1), (24, .aload_n 3, 1), (25, .iload_n 0, 1), (26, .iaload, 1), (27, .iload_n 1, 1), (28, .aload_n 3, 1), (29, .aload 5, 2), (31, .invokestatic 43, 3), (34, .iadd, 1), (35, .istore 6, 2), (37, .iload 6, 2), (39, .sipush 239, 3), (42, .if_icmp .gt 8, 3), (45, .iload 6, 2), (47, .goto 4, 3), (50, .iconst (-1), 1), (51, .ireturn, 1)]
theorem dl67 : OwnDec method_11_code ll67 := by decide +kernel
theorem pd_34574447 : parseMethodDescriptor "(II[I[Z)I" = some ⟨[.int, .int, (.array .int), (.array .boolean)], some .int⟩ := by decide +kernel
theorem rm_ksj (Gl : OwnGl Z a0 wG1 wG3) (X00 : Old Z n0 h0) (j1 : Int32) (Pj : Nat) (wj : Bool) (rj : Bool) (pp : Addr) (kp : ClassId) (P0 : Nat) (P1 : Nat) (P2 : Nat) (ww : Addr) (kw : ClassId) (w0 : Bool) (w1 : Bool) (w2 : Bool) (rr : Addr) (kr : ClassId) (r0 : Bool) (r1 : Bool) (r2 : Bool) (sx : Nat) (mk : Nat) (F : Nat) (f0 : Arv Z h0 pp kp .int (3 : Int32) [(.int (Int32.ofNat P0)), (.int (Int32.ofNat P1)), (.int (Int32.ofNat P2))] (.int 0)) (f1 : Arv Z h0 ww kw .boolean (3 : Int32) [(.int (ownI w0)), (.int (ownI w1)), (.int (ownI w2))] (.int 0)) (f2 : Arv Z h0 rr kr .boolean (3 : Int32) [(.int (ownI r0)), (.int (ownI r1)), (.int (ownI r2))] (.int 0)) (hj : ¬ (j1 < 0) ∧ j1 < (3 : Int32)) (hgP : ([(.int (Int32.ofNat P0)), (.int (Int32.ofNat P1)), (.int (Int32.ofNat P2))] : List Value).getD j1.toNatClampNeg (.int 0) = .int (Int32.ofNat Pj)) (hgW : ([(.int (ownI w0)), (.int (ownI w1)), (.int (ownI w2))] : List Value).getD j1.toNatClampNeg (.int 0) = .int (ownI wj)) (hgR : ([(.int (ownI r0)), (.int (ownI r1)), (.int (ownI r2))] : List Value).getD j1.toNatClampNeg (.int 0) = .int (ownI rj)) (hP3 : Pj ≤ 300) (hB3 : P0 ≤ 300 ∧ P1 ≤ 300 ∧ P2 ≤ 300) (hs3 : sx ≤ 300) (hmk : mk ≤ 1) (hFj : sx ≤ Pj → F + ownN (r0 && decide (P0 < Pj)) + ownN (r1 && decide (P1 < Pj)) + ownN (r2 && decide (P2 < Pj)) = Pj - sx) (hF3 : F ≤ 300) : OwnM l Z mN67 method_11_code 7 (some .int) (oR 1 0 0 17) #[(.int j1), (.int (Int32.ofNat sx)), (.int (Int32.ofNat mk)), (.ref pp), (.ref ww), (.ref rr)] h0 (Q_ksj Z j1 Pj wj rj pp kp P0 P1 P2 ww kw w0 w1 w2 rr kr r0 r1 r2 sx mk F h0 n0) := by
 refine own_in (plainFor_of_name pn_28696215) dl67 #[vI j1, vI (Int32.ofNat sx), vI (Int32.ofNat mk), vR pp, vR ww, vR rr, vU] (oE rfl) ?_
 intro p e s m below meth c s₁ Bd hml hZ X0 e0 hx hlk Y0 hown
 obtain ⟨hw, cx, hEL⟩ := id Gl
 have wT := oww hw
 have N0 := Fr.nil n0
 obtain ⟨hb0, hb1, hb2⟩ := id hB3
 refine oal Y0 0 rfl rfl rfl <| oiN Y0 1 rfl rfl <| ozal X0 Y0 hZ e0 f1 2 rfl hj hgW ?_
 by_cases cc2 : (ownI wj) = (0 : Int32)
 ·
  have hy3 : wj = false := (own_i0 _).mp cc2
  refine oify 21 Y0 3 rfl rfl ((if0 _ _).trans (teq cc2).1) <| oic (-1) Y0 13 rfl rfl <| oti (ownPred (ownKs wj rj sx (mk + F) Pj)) (own_ks0 (fun z => absurd z.1 (by rw [hy3]; decide))) ?_
  exact orI X0 Y0 hlk Bd.returns 14 rfl (by decide) (by decide) e0 ⟨rfl, N0, rfl⟩
 have hy5 : wj = true := (own_i1 _).mp cc2
 refine oifn Y0 3 rfl ((if0 _ _).trans (feq cc2).1) <| oaN Y0 4 rfl rfl rfl <| oiN Y0 5 rfl rfl <| oial X0 Y0 hZ e0 f0 6 rfl hj hgP <| oiN Y0 7 rfl rfl ?_
 by_cases cc7 : (Int32.ofNat Pj) < (Int32.ofNat sx)
 ·
  have hz8 : Pj < sx := (own_ltN (a := Pj) (b := sx) (by omega) (by omega)).mp cc7
  have hy8 : decide (Pj < sx) = true := decide_eq_true hz8
  refine ocy 21 Y0 8 rfl rfl (tlt cc7).1 <| oic (-1) Y0 13 rfl rfl <| oti (ownPred (ownKs wj rj sx (mk + F) Pj)) (own_ks0 (fun z => absurd z.2.1 (by omega))) ?_
  exact orI X0 Y0 hlk Bd.returns 14 rfl (by decide) (by decide) e0 ⟨rfl, N0, rfl⟩
 have hz10 : ¬ Pj < sx := fun q => cc7 ((own_ltN (a := Pj) (b := sx) (by omega) (by omega)).mpr q)
 have hy10 : decide (Pj < sx) = false := decide_eq_false hz10
 refine ocn Y0 8 rfl (flt cc7).1 <| oal Y0 9 rfl rfl rfl <| oiN Y0 10 rfl rfl <| ozal X0 Y0 hZ e0 f2 11 rfl hj hgR ?_
 by_cases cc12 : (ownI rj) = (0 : Int32)
 ·
  have hy13 : rj = false := (own_i0 _).mp cc12
  refine oify 23 Y0 12 rfl rfl ((if0 _ _).trans (teq cc12).1) <| oiN Y0 15 rfl rfl <| oaN Y0 16 rfl rfl rfl <| oiN Y0 17 rfl rfl <| oial X0 Y0 hZ e0 f0 18 rfl hj hgP <| oiN Y0 19 rfl rfl <| oaN Y0 20 rfl rfl rfl <| oal Y0 21 rfl rfl rfl ?_
  refine oCS X0 Y0 hZ hml hown (wT 177 rfl) (wT 178 rfl) (wT 4 rfl) (wT 179 rfl) (rm_f Gl X00 pp kp P0 P1 P2 rr kr r0 r1 r2 Pj sx F f0 f2 hB3 (by omega) hP3 (hFj (by omega))) e0 22 rfl 4 1 pd_34574447 rfl rfl rfl rfl (by decide +kernel) ?_
  intro v15 T15 L15 X15 Y15 hQ15
  obtain ⟨rfl, Nq15, eq15⟩ := hQ15
  show OwnH p e below _ T15 m _ _ [(.int (Int32.ofNat F)), (.int (Int32.ofNat mk))]
  have N15 := Fr.app N0 Nq15
  refine oadd Y15 23 rfl ?_
  refine og T15 m 35 #[vI j1, vI (Int32.ofNat sx), vI (Int32.ofNat mk), vR pp, vR ww, vR rr, vU] [(.int (Int32.ofNat (mk + F)))] (fun tgt kgo => castTop (by rw [(own_addN mk F)]) kgo) ?_
  refine ois Y15 24 rfl #[vI j1, vI (Int32.ofNat sx), vI (Int32.ofNat mk), vR pp, vR ww, vR rr, vI (Int32.ofNat (mk + F))] rfl <| oil Y15 25 rfl rfl <| osp 239 Y15 26 rfl rfl ?_
  by_cases cc16 : (239 : Int32) < (Int32.ofNat (mk + F))
  ·
   have hz17 : 239 < (mk + F) := (own_ltN (a := 239) (b := (mk + F)) (by omega) (by omega)).mp cc16
   have hy17 : decide (239 < (mk + F)) = true := decide_eq_true hz17
   refine ocy 50 Y15 27 rfl rfl (tlt cc16).2.2.1 <| oic (-1) Y15 30 rfl rfl <| oti (ownPred (ownKs wj rj sx (mk + F) Pj)) (own_ks0 (fun z => absurd z.2.2.2 (by omega))) ?_
   exact orI X15 Y15 hlk Bd.returns 31 rfl (by decide) (by decide) eq15 ⟨rfl, N15, rfl⟩
  have hz19 : ¬ 239 < (mk + F) := fun q => cc16 ((own_ltN (a := 239) (b := (mk + F)) (by omega) (by omega)).mpr q)
  have hy19 : decide (239 < (mk + F)) = false := decide_eq_false hz19
  refine ocn Y15 27 rfl (flt cc16).2.2.1 <| oil Y15 28 rfl rfl <| ogt 51 Y15 29 rfl rfl <| oti (ownPred (ownKs wj rj sx (mk + F) Pj)) (own_ks1 hy5 (by omega) hy13 (by omega)) ?_
  exact orI X15 Y15 hlk Bd.returns 31 rfl (by decide) (by decide) eq15 ⟨rfl, N15, rfl⟩
 have hy21 : rj = true := (own_i1 _).mp cc12
 refine oifn Y0 12 rfl ((if0 _ _).trans (feq cc12).1) <| oic (-1) Y0 13 rfl rfl <| oti (ownPred (ownKs wj rj sx (mk + F) Pj)) (own_ks0 (fun z => absurd z.2.2.1 (by rw [hy21]; decide))) ?_
 exact orI X0 Y0 hlk Bd.returns 14 rfl (by decide) (by decide) e0 ⟨rfl, N0, rfl⟩
def Q_hij (Z : State) (j1 : Int32) (Pj : Nat) (vj : Bool) (cj : Int32) (pp : Addr) (kp : ClassId) (P0 : Nat) (P1 : Nat) (P2 : Nat) (vv : Addr) (kv2 : ClassId) (v0 : Bool) (v1 : Bool) (v2 : Bool) (cc : Addr) (kc2 : ClassId) (c0 : Int32) (c1 : Int32) (c2 : Int32) (rr : Addr) (kr : ClassId) (r0 : Bool) (r1 : Bool) (r2 : Bool) (sx : Nat) (mk : Nat) (F : Nat) : OwnP := fun h0 n0 v h L => v = some (.int (ownI (vj && decide (sx ≤ Pj) && decide ((mk + F) = 238) && ownHigh cj))) ∧ Fr n0 L ∧ h = h0
def ll68 : List (Nat × Instr × Nat) := [(0, .aload 4, 2), (2, .iload_n 0, 1), (3, .baload, 1), (4, .ifCond .eq 50, 3), (7, .aload_n 3, 1), (8, .iload_n 0, 1), (9, .iaload, 1), (10, .iload_n 1, 1), (11, .if_icmp .lt 43, 3), (14, .iload_n 2, 1), (15, .aload_n 3, 1), (16, .iload_n 0, 1), (17, .iaload, 1), (18, .iload_n 1, 1), (19, .aload_n 3, 1), (20, .aload 6, 2), (22, .invokestatic 43, 3), (25, .iadd, 1), (26, .sipush 238, 3), (29, .if_icmp .ne 25, 3), (32, .aload 5, 2), (34, .iload_n 0, 1), (35, .caload, 1), (36, .ldc 75, 2), (38, .if_icmp .lt 16, 3), (41, .aload 5, 2), (43, .iload_n 0, 1), (44, .caload, 1), (45, .ldc 76, 2), (47, .if_icmp .gt 7, 3), (50, .iconst 1, 1), (51, .goto 4, 3), (54, .iconst 0, 1), (55, .ireturn, 1)]
theorem dl68 : OwnDec method_12_code ll68 := by decide +kernel
theorem rm_hij (Gl : OwnGl Z a0 wG1 wG3) (X00 : Old Z n0 h0) (j1 : Int32) (Pj : Nat) (vj : Bool) (cj : Int32) (pp : Addr) (kp : ClassId) (P0 : Nat) (P1 : Nat) (P2 : Nat) (vv : Addr) (kv2 : ClassId) (v0 : Bool) (v1 : Bool) (v2 : Bool) (cc : Addr) (kc2 : ClassId) (c0 : Int32) (c1 : Int32) (c2 : Int32) (rr : Addr) (kr : ClassId) (r0 : Bool) (r1 : Bool) (r2 : Bool) (sx : Nat) (mk : Nat) (F : Nat) (f0 : Arv Z h0 pp kp .int (3 : Int32) [(.int (Int32.ofNat P0)), (.int (Int32.ofNat P1)), (.int (Int32.ofNat P2))] (.int 0)) (f1 : Arv Z h0 vv kv2 .boolean (3 : Int32) [(.int (ownI v0)), (.int (ownI v1)), (.int (ownI v2))] (.int 0)) (f2 : Arv Z h0 cc kc2 .char (3 : Int32) [(.int c0), (.int c1), (.int c2)] (.int 0)) (f3 : Arv Z h0 rr kr .boolean (3 : Int32) [(.int (ownI r0)), (.int (ownI r1)), (.int (ownI r2))] (.int 0)) (hj : ¬ (j1 < 0) ∧ j1 < (3 : Int32)) (hgP : ([(.int (Int32.ofNat P0)), (.int (Int32.ofNat P1)), (.int (Int32.ofNat P2))] : List Value).getD j1.toNatClampNeg (.int 0) = .int (Int32.ofNat Pj)) (hgV : ([(.int (ownI v0)), (.int (ownI v1)), (.int (ownI v2))] : List Value).getD j1.toNatClampNeg (.int 0) = .int (ownI vj)) (hgC : ([(.int c0), (.int c1), (.int c2)] : List Value).getD j1.toNatClampNeg (.int 0) = .int cj) (hP3 : Pj ≤ 300) (hB3 : P0 ≤ 300 ∧ P1 ≤ 300 ∧ P2 ≤ 300) (hs3 : sx ≤ 300) (hmk : mk ≤ 1) (hFj : sx ≤ Pj → F + ownN (r0 && decide (P0 < Pj)) + ownN (r1 && decide (P1 < Pj)) + ownN (r2 && decide (P2 < Pj)) = Pj - sx) (hF3 : F ≤ 300) : OwnM l Z mN68 method_12_code 7 (some .boolean) (oR 1 0 0 17) #[(.int j1), (.int (Int32.ofNat sx)), (.int (Int32.ofNat mk)), (.ref pp), (.ref vv), (.ref cc), (.ref rr)] h0 (Q_hij Z j1 Pj vj cj pp kp P0 P1 P2 vv kv2 v0 v1 v2 cc kc2 c0 c1 c2 rr kr r0 r1 r2 sx mk F h0 n0) := by
 refine own_in (plainFor_of_name pn_28696215) dl68 #[vI j1, vI (Int32.ofNat sx), vI (Int32.ofNat mk), vR pp, vR vv, vR cc, vR rr] (oE rfl) ?_
 intro p e s m below meth c s₁ Bd hml hZ X0 e0 hx hlk Y0 hown
 obtain ⟨hw, cx, hEL⟩ := id Gl
 have wT := oww hw
 have N0 := Fr.nil n0
 obtain ⟨hb0, hb1, hb2⟩ := id hB3
 refine oal Y0 0 rfl rfl rfl <| oiN Y0 1 rfl rfl <| ozal X0 Y0 hZ e0 f1 2 rfl hj hgV ?_
 by_cases cc2 : (ownI vj) = (0 : Int32)
 ·
  have hy3 : vj = false := (own_i0 _).mp cc2
  refine oify 54 Y0 3 rfl rfl ((if0 _ _).trans (teq cc2).1) <| oic 0 Y0 32 rfl rfl <| oti (ownI (vj && decide (sx ≤ Pj) && decide ((mk + F) = 238) && ownHigh cj)) (by simp only [hy3, Bool.or_true, Bool.true_or, Bool.or_false, Bool.false_or, Bool.and_true, Bool.true_and, Bool.and_false, Bool.false_and]; rfl) ?_
  exact orN X0 Y0 hlk Bd.returns (by simp) 33 rfl ((own_nar_i _)) (by decide) (by decide) e0 ⟨rfl, N0, rfl⟩
 have hy5 : vj = true := (own_i1 _).mp cc2
 refine oifn Y0 3 rfl ((if0 _ _).trans (feq cc2).1) <| oaN Y0 4 rfl rfl rfl <| oiN Y0 5 rfl rfl <| oial X0 Y0 hZ e0 f0 6 rfl hj hgP <| oiN Y0 7 rfl rfl ?_
 by_cases cc7 : (Int32.ofNat Pj) < (Int32.ofNat sx)
 ·
  have hz8 : Pj < sx := (own_ltN (a := Pj) (b := sx) (by omega) (by omega)).mp cc7
  have hy8 : decide (Pj < sx) = true := decide_eq_true hz8
  have hy9 : decide (sx ≤ Pj) = false := decide_eq_false (by omega)
  refine ocy 54 Y0 8 rfl rfl (tlt cc7).1 <| oic 0 Y0 32 rfl rfl <| oti (ownI (vj && decide (sx ≤ Pj) && decide ((mk + F) = 238) && ownHigh cj)) (by simp only [hy5, hy8, hy9, Bool.or_true, Bool.true_or, Bool.or_false, Bool.false_or, Bool.and_true, Bool.true_and, Bool.and_false, Bool.false_and]; rfl) ?_
  exact orN X0 Y0 hlk Bd.returns (by simp) 33 rfl ((own_nar_i _)) (by decide) (by decide) e0 ⟨rfl, N0, rfl⟩
 have hz11 : ¬ Pj < sx := fun q => cc7 ((own_ltN (a := Pj) (b := sx) (by omega) (by omega)).mpr q)
 have hy11 : decide (Pj < sx) = false := decide_eq_false hz11
 have hy12 : decide (sx ≤ Pj) = true := decide_eq_true (by omega)
 refine ocn Y0 8 rfl (flt cc7).1 <| oiN Y0 9 rfl rfl <| oaN Y0 10 rfl rfl rfl <| oiN Y0 11 rfl rfl <| oial X0 Y0 hZ e0 f0 12 rfl hj hgP <| oiN Y0 13 rfl rfl <| oaN Y0 14 rfl rfl rfl <| oal Y0 15 rfl rfl rfl ?_
 refine oCS X0 Y0 hZ hml hown (wT 177 rfl) (wT 178 rfl) (wT 4 rfl) (wT 179 rfl) (rm_f Gl X00 pp kp P0 P1 P2 rr kr r0 r1 r2 Pj sx F f0 f3 hB3 (by omega) hP3 (hFj (by omega))) e0 16 rfl 4 1 pd_34574447 rfl rfl rfl rfl (by decide +kernel) ?_
 intro v14 T14 L14 X14 Y14 hQ14
 obtain ⟨rfl, Nq14, eq14⟩ := hQ14
 show OwnH p e below _ T14 m _ _ [(.int (Int32.ofNat F)), (.int (Int32.ofNat mk))]
 have N14 := Fr.app N0 Nq14
 refine oadd Y14 17 rfl ?_
 refine og T14 m 26 #[vI j1, vI (Int32.ofNat sx), vI (Int32.ofNat mk), vR pp, vR vv, vR cc, vR rr] [(.int (Int32.ofNat (mk + F)))] (fun tgt kgo => castTop (by rw [(own_addN mk F)]) kgo) ?_
 refine osp 238 Y14 18 rfl rfl ?_
 by_cases cc15 : (Int32.ofNat (mk + F)) = (238 : Int32)
 ·
  have hz16 : (mk + F) = 238 := own_ofN (a := (mk + F)) (b := 238) (by omega) (by omega) cc15
  have hy16 : decide ((mk + F) = 238) = true := decide_eq_true hz16
  refine ocn Y14 19 rfl (teq cc15).2 <| oal Y14 20 rfl rfl rfl <| oiN Y14 21 rfl rfl <| ocal X14 Y14 hZ eq14 f2 22 rfl hj hgC ?_
  refine og T14 m 38 #[vI j1, vI (Int32.ofNat sx), vI (Int32.ofNat mk), vR pp, vR vv, vR cc, vR rr] [(.int 55296), (.int cj)] (fun tgt kgo => ?_) ?_
  ·
   refine X14.ldcInt hx hown (mvT hZ (wT 335 rfl)) (g := (mkF m 36 #[vI j1, vI (Int32.ofNat sx), vI (Int32.ofNat mk), vR pp, vR vv, vR cc, vR rr] [(.int cj)])) rfl (Y0.d 23 rfl) _ ?_
   exact kgo
  by_cases cc18 : cj < (55296 : Int32)
  ·
   have hy19 : ownHigh cj = false := own_hi_f1 cc18
   refine ocy 54 Y14 24 rfl rfl (tlt cc18).1 <| oic 0 Y14 32 rfl rfl <| oti (ownI (vj && decide (sx ≤ Pj) && decide ((mk + F) = 238) && ownHigh cj)) (by simp only [hy5, hy11, hy12, hy16, hy19, Bool.or_true, Bool.true_or, Bool.or_false, Bool.false_or, Bool.and_true, Bool.true_and, Bool.and_false, Bool.false_and]; rfl) ?_
   exact orN X14 Y14 hlk Bd.returns (by simp) 33 rfl ((own_nar_i _)) (by decide) (by decide) eq14 ⟨rfl, N14, rfl⟩
  refine ocn Y14 24 rfl (flt cc18).1 <| oal Y14 25 rfl rfl rfl <| oiN Y14 26 rfl rfl <| ocal X14 Y14 hZ eq14 f2 27 rfl hj hgC ?_
  refine og T14 m 47 #[vI j1, vI (Int32.ofNat sx), vI (Int32.ofNat mk), vR pp, vR vv, vR cc, vR rr] [(.int 56319), (.int cj)] (fun tgt kgo => ?_) ?_
  ·
   refine X14.ldcInt hx hown (mvT hZ (wT 336 rfl)) (g := (mkF m 45 #[vI j1, vI (Int32.ofNat sx), vI (Int32.ofNat mk), vR pp, vR vv, vR cc, vR rr] [(.int cj)])) rfl (Y0.d 28 rfl) _ ?_
   exact kgo
  by_cases cc22 : (56319 : Int32) < cj
  ·
   have hy23 : ownHigh cj = false := own_hi_f2 cc22
   refine ocy 54 Y14 29 rfl rfl (tlt cc22).2.2.1 <| oic 0 Y14 32 rfl rfl <| oti (ownI (vj && decide (sx ≤ Pj) && decide ((mk + F) = 238) && ownHigh cj)) (by simp only [hy5, hy11, hy12, hy16, hy23, Bool.or_true, Bool.true_or, Bool.or_false, Bool.false_or, Bool.and_true, Bool.true_and, Bool.and_false, Bool.false_and]; rfl) ?_
   exact orN X14 Y14 hlk Bd.returns (by simp) 33 rfl ((own_nar_i _)) (by decide) (by decide) eq14 ⟨rfl, N14, rfl⟩
  have hy25 : ownHigh cj = true := own_hi_t cc18 cc22
  refine ocn Y14 29 rfl (flt cc22).2.2.1 <| oic 1 Y14 30 rfl rfl <| ogt 55 Y14 31 rfl rfl <| oti (ownI (vj && decide (sx ≤ Pj) && decide ((mk + F) = 238) && ownHigh cj)) (by simp only [hy5, hy11, hy12, hy16, hy25, Bool.or_true, Bool.true_or, Bool.or_false, Bool.false_or, Bool.and_true, Bool.true_and, Bool.and_false, Bool.false_and]; rfl) ?_
  exact orN X14 Y14 hlk Bd.returns (by simp) 33 rfl ((own_nar_i _)) (by decide) (by decide) eq14 ⟨rfl, N14, rfl⟩
 have hz27 : ¬ (mk + F) = 238 := fun q => cc15 (congrArg Int32.ofNat q)
 have hy27 : decide ((mk + F) = 238) = false := decide_eq_false hz27
 refine ocy 54 Y14 19 rfl rfl (feq cc15).2 <| oic 0 Y14 32 rfl rfl <| oti (ownI (vj && decide (sx ≤ Pj) && decide ((mk + F) = 238) && ownHigh cj)) (by simp only [hy5, hy11, hy12, hy27, Bool.or_true, Bool.true_or, Bool.or_false, Bool.false_or, Bool.and_true, Bool.true_and, Bool.and_false, Bool.false_and]; rfl) ?_
 exact orN X14 Y14 hlk Bd.returns (by simp) 33 rfl ((own_nar_i _)) (by decide) (by decide) eq14 ⟨rfl, N14, rfl⟩
def Q_earj (Z : State) (j1 : Int32) (Pj : Nat) (wj : Bool) (pp : Addr) (kp : ClassId) (P0 : Nat) (P1 : Nat) (P2 : Nat) (ww : Addr) (kw : ClassId) (w0 : Bool) (w1 : Bool) (w2 : Bool) (A : Nat) (lo : Nat) (hi : Nat) : OwnP := fun h0 n0 v h L => v = some (.int (ownPred (ownEar A wj Pj lo hi))) ∧ Fr n0 L ∧ h = h0
def ll69 : List (Nat × Instr × Nat) := [(0, .aload 5, 2), (2, .iload_n 1, 1), (3, .baload, 1), (4, .ifCond .eq 19, 3), (7, .aload 4, 2), (9, .iload_n 1, 1), (10, .iaload, 1), (11, .iload_n 2, 1), (12, .if_icmp .lt 11, 3), (15, .aload 4, 2), (17, .iload_n 1, 1), (18, .iaload, 1), (19, .iload_n 3, 1), (20, .if_icmp .le 5, 3), (23, .iload_n 0, 1), (24, .ireturn, 1), (25, .iload_n 0, 1), (26, .ifCond .lt 11, 3), (29, .aload 4, 2), (31, .iload_n 1, 1), (32, .iaload, 1), (33, .iload_n 0, 1), (34, .if_icmp .ge 8, 3), (37, .aload 4, 2), (39, .iload_n 1, 1), (40, .iaload, 1), (41, .ireturn, 1), (42, .iload_n 0, 1), (43, .ireturn, 1)]
theorem dl69 : OwnDec method_7_code ll69 := by decide +kernel
theorem rm_earj (Gl : OwnGl Z a0 wG1 wG3) (X00 : Old Z n0 h0) (j1 : Int32) (Pj : Nat) (wj : Bool) (pp : Addr) (kp : ClassId) (P0 : Nat) (P1 : Nat) (P2 : Nat) (ww : Addr) (kw : ClassId) (w0 : Bool) (w1 : Bool) (w2 : Bool) (A : Nat) (lo : Nat) (hi : Nat) (f0 : Arv Z h0 pp kp .int (3 : Int32) [(.int (Int32.ofNat P0)), (.int (Int32.ofNat P1)), (.int (Int32.ofNat P2))] (.int 0)) (f1 : Arv Z h0 ww kw .boolean (3 : Int32) [(.int (ownI w0)), (.int (ownI w1)), (.int (ownI w2))] (.int 0)) (hj : ¬ (j1 < 0) ∧ j1 < (3 : Int32)) (hgP : ([(.int (Int32.ofNat P0)), (.int (Int32.ofNat P1)), (.int (Int32.ofNat P2))] : List Value).getD j1.toNatClampNeg (.int 0) = .int (Int32.ofNat Pj)) (hgW : ([(.int (ownI w0)), (.int (ownI w1)), (.int (ownI w2))] : List Value).getD j1.toNatClampNeg (.int 0) = .int (ownI wj)) (hP3 : Pj ≤ 300) (hB3 : P0 ≤ 300 ∧ P1 ≤ 300 ∧ P2 ≤ 300) (hA3 : A ≤ 301) (hlo3 : lo ≤ 300) (hhi3 : hi ≤ 300) : OwnM l Z mN69 method_7_code 6 (some .int) (oR 0 0 0 0) #[(.int (ownPred A)), (.int j1), (.int (Int32.ofNat lo)), (.int (Int32.ofNat hi)), (.ref pp), (.ref ww)] h0 (Q_earj Z j1 Pj wj pp kp P0 P1 P2 ww kw w0 w1 w2 A lo hi h0 n0) := by
 refine own_in (plainFor_of_name pn_28696215) dl69 #[vI (ownPred A), vI j1, vI (Int32.ofNat lo), vI (Int32.ofNat hi), vR pp, vR ww] (oE rfl) ?_
 intro p e s m below meth c s₁ Bd hml hZ X0 e0 hx hlk Y0 hown
 have N0 := Fr.nil n0
 obtain ⟨hb0, hb1, hb2⟩ := id hB3
 refine oal Y0 0 rfl rfl rfl <| oiN Y0 1 rfl rfl <| ozal X0 Y0 hZ e0 f1 2 rfl hj hgW ?_
 by_cases cc2 : (ownI wj) = (0 : Int32)
 ·
  have hy3 : wj = false := (own_i0 _).mp cc2
  refine oify 23 Y0 3 rfl rfl ((if0 _ _).trans (teq cc2).1) <| oiN Y0 14 rfl rfl <| oti (ownPred (ownEar A wj Pj lo hi)) (own_ear_no (fun z => absurd z.1 (by rw [hy3]; decide))) ?_
  exact orI X0 Y0 hlk Bd.returns 15 rfl (by decide) (by decide) e0 ⟨rfl, N0, rfl⟩
 have hy5 : wj = true := (own_i1 _).mp cc2
 refine oifn Y0 3 rfl ((if0 _ _).trans (feq cc2).1) <| oal Y0 4 rfl rfl rfl <| oiN Y0 5 rfl rfl <| oial X0 Y0 hZ e0 f0 6 rfl hj hgP <| oiN Y0 7 rfl rfl ?_
 by_cases cc7 : (Int32.ofNat Pj) < (Int32.ofNat lo)
 ·
  have hz8 : Pj < lo := (own_ltN (a := Pj) (b := lo) (by omega) (by omega)).mp cc7
  have hy8 : decide (Pj < lo) = true := decide_eq_true hz8
  refine ocy 23 Y0 8 rfl rfl (tlt cc7).1 <| oiN Y0 14 rfl rfl <| oti (ownPred (ownEar A wj Pj lo hi)) (own_ear_no (fun z => absurd z.2.1 (by omega))) ?_
  exact orI X0 Y0 hlk Bd.returns 15 rfl (by decide) (by decide) e0 ⟨rfl, N0, rfl⟩
 have hz10 : ¬ Pj < lo := fun q => cc7 ((own_ltN (a := Pj) (b := lo) (by omega) (by omega)).mpr q)
 have hy10 : decide (Pj < lo) = false := decide_eq_false hz10
 refine ocn Y0 8 rfl (flt cc7).1 <| oal Y0 9 rfl rfl rfl <| oiN Y0 10 rfl rfl <| oial X0 Y0 hZ e0 f0 11 rfl hj hgP <| oiN Y0 12 rfl rfl ?_
 by_cases cc12 : (Int32.ofNat hi) < (Int32.ofNat Pj)
 ·
  have hz13 : hi < Pj := (own_ltN (a := hi) (b := Pj) (by omega) (by omega)).mp cc12
  have hy13 : decide (hi < Pj) = true := decide_eq_true hz13
  refine ocn Y0 13 rfl (tlt cc12).2.2.2 <| oiN Y0 14 rfl rfl <| oti (ownPred (ownEar A wj Pj lo hi)) (own_ear_no (fun z => absurd z.2.2 (by omega))) ?_
  exact orI X0 Y0 hlk Bd.returns 15 rfl (by decide) (by decide) e0 ⟨rfl, N0, rfl⟩
 have hz15 : ¬ hi < Pj := fun q => cc12 ((own_ltN (a := hi) (b := Pj) (by omega) (by omega)).mpr q)
 have hy15 : decide (hi < Pj) = false := decide_eq_false hz15
 refine ocy 25 Y0 13 rfl rfl (flt cc12).2.2.2 <| oiN Y0 16 rfl rfl ?_
 by_cases cc16 : (ownPred A) < (0 : Int32)
 ·
  have ha0 : A = 0 := (own_pred_neg (by omega)).mp cc16
  refine oify 37 Y0 17 rfl rfl ((if0 _ _).trans (tlt cc16).1) <| oal Y0 23 rfl rfl rfl <| oiN Y0 24 rfl rfl <| oial X0 Y0 hZ e0 f0 25 rfl hj hgP <| oti (ownPred (ownEar A wj Pj lo hi)) (own_ear_new hy5 (by omega) (by omega) (by omega)) ?_
  exact orI X0 Y0 hlk Bd.returns 26 rfl (by decide) (by decide) e0 ⟨rfl, N0, rfl⟩
 have ha0 : ¬ A = 0 := fun q => cc16 ((own_pred_neg (by omega)).mpr q)
 refine oifn Y0 17 rfl ((if0 _ _).trans (flt cc16).1) <| oal Y0 18 rfl rfl rfl <| oiN Y0 19 rfl rfl <| oial X0 Y0 hZ e0 f0 20 rfl hj hgP <| oiN Y0 21 rfl rfl ?_
 by_cases cc20 : (Int32.ofNat Pj) < (ownPred A)
 ·
  have hap : Pj + 1 < A := (own_pred_big (by omega) (by omega)).mp cc20
  refine ocn Y0 22 rfl (tlt cc20).2.1 <| oal Y0 23 rfl rfl rfl <| oiN Y0 24 rfl rfl <| oial X0 Y0 hZ e0 f0 25 rfl hj hgP <| oti (ownPred (ownEar A wj Pj lo hi)) (own_ear_new hy5 (by omega) (by omega) (by omega)) ?_
  exact orI X0 Y0 hlk Bd.returns 26 rfl (by decide) (by decide) e0 ⟨rfl, N0, rfl⟩
 have hap : ¬ Pj + 1 < A := fun q => cc20 ((own_pred_big (by omega) (by omega)).mpr q)
 refine ocy 42 Y0 22 rfl rfl (flt cc20).2.1 <| oiN Y0 27 rfl rfl <| oti (ownPred (ownEar A wj Pj lo hi)) (own_ear_old hy5 (by omega) (by omega) (by omega)) ?_
 exact orI X0 Y0 hlk Bd.returns 28 rfl (by decide) (by decide) e0 ⟨rfl, N0, rfl⟩
def Q_at (Z : State) (pp : Addr) (kp : ClassId) (P0 : Nat) (P1 : Nat) (P2 : Nat) (cc : Addr) (kc2 : ClassId) (c0 : Int32) (c1 : Int32) (c2 : Int32) (i : Nat) : OwnP := fun h0 n0 v h L => v = some (.int (ownSel P0 P1 P2 c0 c1 c2 i)) ∧ Fr n0 L ∧ h = h0
def ll70 : List (Nat × Instr × Nat) := [(0, .iload_n 0, 1), (1, .aload_n 1, 1), (2, .iconst 2, 1), (3, .iaload, 1), (4, .if_icmp .ne 7, 3), (7, .aload_n 2, 1), (8, .iconst 2, 1), (9, .caload, 1), (10, .ireturn, 1), (11, .iload_n 0, 1), (12, .aload_n 1, 1), (13, .iconst 1, 1), (14, .iaload, 1), (15, .if_icmp .ne 7, 3), (18, .aload_n 2, 1), (19, .iconst 1, 1), (20, .caload, 1), (21, .ireturn, 1), (22, .iload_n 0, 1), (23, .aload_n 1, 1), (24, .iconst 0, 1), (25, .iaload, 1), (26, .if_icmp .ne 7, 3), (29, .aload_n 2, 1), (30, .iconst 0, 1), (31, .caload, 1), (32, .ireturn, 1), (33, .iconst 0, 1), (34, .ireturn, 1)]
theorem dl70 : OwnDec method_5_code ll70 := by decide +kernel
theorem rm_at (Gl : OwnGl Z a0 wG1 wG3) (X00 : Old Z n0 h0) (pp : Addr) (kp : ClassId) (P0 : Nat) (P1 : Nat) (P2 : Nat) (cc : Addr) (kc2 : ClassId) (c0 : Int32) (c1 : Int32) (c2 : Int32) (i : Nat) (f0 : Arv Z h0 pp kp .int (3 : Int32) [(.int (Int32.ofNat P0)), (.int (Int32.ofNat P1)), (.int (Int32.ofNat P2))] (.int 0)) (f1 : Arv Z h0 cc kc2 .char (3 : Int32) [(.int c0), (.int c1), (.int c2)] (.int 0)) (hB3 : P0 ≤ 300 ∧ P1 ≤ 300 ∧ P2 ≤ 300) (hi3 : i ≤ 300) (hr0c : ¬ c0 < 0 ∧ ¬ (65535 : Int32) < c0) (hr1c : ¬ c1 < 0 ∧ ¬ (65535 : Int32) < c1) (hr2c : ¬ c2 < 0 ∧ ¬ (65535 : Int32) < c2) : OwnM l Z mN70 method_5_code 3 (some .char) (oR 0 0 0 0) #[(.int (Int32.ofNat i)), (.ref pp), (.ref cc)] h0 (Q_at Z pp kp P0 P1 P2 cc kc2 c0 c1 c2 i h0 n0) := by
 refine own_in (plainFor_of_name pn_28696215) dl70 #[vI (Int32.ofNat i), vR pp, vR cc] (oE rfl) ?_
 intro p e s m below meth c s₁ Bd hml hZ X0 e0 hx hlk Y0 hown
 have N0 := Fr.nil n0
 obtain ⟨hb0, hb1, hb2⟩ := id hB3
 refine oiN Y0 0 rfl rfl <| oaN Y0 1 rfl rfl rfl <| oic 2 Y0 2 rfl rfl <| oial X0 Y0 hZ e0 f0 3 rfl (by decide) rfl ?_
 by_cases cc2 : (Int32.ofNat i) = (Int32.ofNat P2)
 ·
  have hz3 : i = P2 := own_ofN (a := i) (b := P2) (by omega) (by omega) cc2
  have hy3 : decide (i = P2) = true := decide_eq_true hz3
  refine ocn Y0 4 rfl (teq cc2).2 <| oaN Y0 5 rfl rfl rfl <| oic 2 Y0 6 rfl rfl <| ocal X0 Y0 hZ e0 f1 7 rfl (by decide) rfl <| oti (ownSel P0 P1 P2 c0 c1 c2 i) (own_sel2 hz3) ?_
  exact orN X0 Y0 hlk Bd.returns (by simp) 8 rfl ((own_nar_w (own_sel_rg hr0c hr1c hr2c))) (by decide) (by decide) e0 ⟨rfl, N0, rfl⟩
 have hz6 : ¬ i = P2 := fun q => cc2 (congrArg Int32.ofNat q)
 have hy6 : decide (i = P2) = false := decide_eq_false hz6
 refine ocy 11 Y0 4 rfl rfl (feq cc2).2 <| oiN Y0 9 rfl rfl <| oaN Y0 10 rfl rfl rfl <| oic 1 Y0 11 rfl rfl <| oial X0 Y0 hZ e0 f0 12 rfl (by decide) rfl ?_
 by_cases cc8 : (Int32.ofNat i) = (Int32.ofNat P1)
 ·
  have hz9 : i = P1 := own_ofN (a := i) (b := P1) (by omega) (by omega) cc8
  have hy9 : decide (i = P1) = true := decide_eq_true hz9
  refine ocn Y0 13 rfl (teq cc8).2 <| oaN Y0 14 rfl rfl rfl <| oic 1 Y0 15 rfl rfl <| ocal X0 Y0 hZ e0 f1 16 rfl (by decide) rfl <| oti (ownSel P0 P1 P2 c0 c1 c2 i) (own_sel1 hz6 hz9) ?_
  exact orN X0 Y0 hlk Bd.returns (by simp) 17 rfl ((own_nar_w (own_sel_rg hr0c hr1c hr2c))) (by decide) (by decide) e0 ⟨rfl, N0, rfl⟩
 have hz12 : ¬ i = P1 := fun q => cc8 (congrArg Int32.ofNat q)
 have hy12 : decide (i = P1) = false := decide_eq_false hz12
 refine ocy 22 Y0 13 rfl rfl (feq cc8).2 <| oiN Y0 18 rfl rfl <| oaN Y0 19 rfl rfl rfl <| oic 0 Y0 20 rfl rfl <| oial X0 Y0 hZ e0 f0 21 rfl (by decide) rfl ?_
 by_cases cc14 : (Int32.ofNat i) = (Int32.ofNat P0)
 ·
  have hz15 : i = P0 := own_ofN (a := i) (b := P0) (by omega) (by omega) cc14
  have hy15 : decide (i = P0) = true := decide_eq_true hz15
  refine ocn Y0 22 rfl (teq cc14).2 <| oaN Y0 23 rfl rfl rfl <| oic 0 Y0 24 rfl rfl <| ocal X0 Y0 hZ e0 f1 25 rfl (by decide) rfl <| oti (ownSel P0 P1 P2 c0 c1 c2 i) (own_sel0 hz6 hz12 hz15) ?_
  exact orN X0 Y0 hlk Bd.returns (by simp) 26 rfl ((own_nar_w (own_sel_rg hr0c hr1c hr2c))) (by decide) (by decide) e0 ⟨rfl, N0, rfl⟩
 have hz18 : ¬ i = P0 := fun q => cc14 (congrArg Int32.ofNat q)
 have hy18 : decide (i = P0) = false := decide_eq_false hz18
 refine ocy 33 Y0 22 rfl rfl (feq cc14).2 <| oic 0 Y0 27 rfl rfl <| oti (ownSel P0 P1 P2 c0 c1 c2 i) (own_selz hz6 hz12 hz18) ?_
 exact orN X0 Y0 hlk Bd.returns (by simp) 28 rfl ((own_nar_w (own_sel_rg hr0c hr1c hr2c))) (by decide) (by decide) e0 ⟨rfl, N0, rfl⟩
def Q_firstWs (Z : State) (pp : Addr) (kp : ClassId) (P0 : Nat) (P1 : Nat) (P2 : Nat) (ww : Addr) (kw : ClassId) (w0 : Bool) (w1 : Bool) (w2 : Bool) (lo : Nat) (hi : Nat) : OwnP := fun h0 n0 v h L => v = some (.int (ownPred (ownEar (ownEar (ownEar 0 w0 P0 lo hi) w1 P1 lo hi) w2 P2 lo hi))) ∧ Fr n0 L ∧ h = h0
def ll71 : List (Nat × Instr × Nat) := [(0, .iconst (-1), 1), (1, .iconst 0, 1), (2, .iload_n 0, 1), (3, .iload_n 1, 1), (4, .aload_n 2, 1), (5, .aload_n 3, 1), (6, .invokestatic 71, 3), (9, .istore 4, 2), (11, .iload 4, 2), (13, .iconst 1, 1), (14, .iload_n 0, 1), (15, .iload_n 1, 1), (16, .aload_n 2, 1), (17, .aload_n 3, 1), (18, .invokestatic 71, 3), (21, .istore 4, 2), (23, .iload 4, 2), (25, .iconst 2, 1), (26, .iload_n 0, 1), (27, .iload_n 1, 1), (28, .aload_n 2, 1), (29, .aload_n 3, 1), (30, .invokestatic 71, 3), (33, .ireturn, 1)]
theorem dl71 : OwnDec method_8_code ll71 := by decide +kernel
theorem pd_81620274 : parseMethodDescriptor "(IIII[I[Z)I" = some ⟨[.int, .int, .int, .int, (.array .int), (.array .boolean)], some .int⟩ := by decide +kernel
theorem rm_firstWs (Gl : OwnGl Z a0 wG1 wG3) (X00 : Old Z n0 h0) (pp : Addr) (kp : ClassId) (P0 : Nat) (P1 : Nat) (P2 : Nat) (ww : Addr) (kw : ClassId) (w0 : Bool) (w1 : Bool) (w2 : Bool) (lo : Nat) (hi : Nat) (f0 : Arv Z h0 pp kp .int (3 : Int32) [(.int (Int32.ofNat P0)), (.int (Int32.ofNat P1)), (.int (Int32.ofNat P2))] (.int 0)) (f1 : Arv Z h0 ww kw .boolean (3 : Int32) [(.int (ownI w0)), (.int (ownI w1)), (.int (ownI w2))] (.int 0)) (hB3 : P0 ≤ 300 ∧ P1 ≤ 300 ∧ P2 ≤ 300) (hlo3 : lo ≤ 300) (hhi3 : hi ≤ 300) : OwnM l Z mN71 method_8_code 5 (some .int) (oR 1 0 0 17) #[(.int (Int32.ofNat lo)), (.int (Int32.ofNat hi)), (.ref pp), (.ref ww)] h0 (Q_firstWs Z pp kp P0 P1 P2 ww kw w0 w1 w2 lo hi h0 n0) := by
 refine own_in (plainFor_of_name pn_28696215) dl71 #[vI (Int32.ofNat lo), vI (Int32.ofNat hi), vR pp, vR ww, vU] (oE rfl) ?_
 intro p e s m below meth c s₁ Bd hml hZ X0 e0 hx hlk Y0 hown
 obtain ⟨hw, cx, hEL⟩ := id Gl
 have wT := oww hw
 have N0 := Fr.nil n0
 obtain ⟨hb0, hb1, hb2⟩ := id hB3
 refine oic (-1) Y0 0 rfl rfl <| oti (ownPred 0) ((by decide)) <| oic 0 Y0 1 rfl rfl <| oiN Y0 2 rfl rfl <| oiN Y0 3 rfl rfl <| oaN Y0 4 rfl rfl rfl <| oaN Y0 5 rfl rfl rfl ?_
 refine oCS X0 Y0 hZ hml hown (wT 321 rfl) (wT 322 rfl) (wT 4 rfl) (wT 323 rfl) (rm_earj Gl X00 (0 : Int32) P0 w0 pp kp P0 P1 P2 ww kw w0 w1 w2 0 lo hi f0 f1 (by decide) rfl rfl (by omega) hB3 (by decide) hlo3 hhi3) e0 6 rfl 6 0 pd_81620274 rfl rfl rfl rfl (by decide +kernel) ?_
 intro v1 T1 L1 X1 Y1 hQ1
 obtain ⟨rfl, Nq1, eq1⟩ := hQ1
 show OwnH p e below _ T1 m _ _ [(.int (ownPred (ownEar 0 w0 P0 lo hi)))]
 have N1 := Fr.app N0 Nq1
 refine ois Y1 7 rfl #[vI (Int32.ofNat lo), vI (Int32.ofNat hi), vR pp, vR ww, vI (ownPred (ownEar 0 w0 P0 lo hi))] rfl <| oil Y1 8 rfl rfl <| oic 1 Y1 9 rfl rfl <| oiN Y1 10 rfl rfl <| oiN Y1 11 rfl rfl <| oaN Y1 12 rfl rfl rfl <| oaN Y1 13 rfl rfl rfl ?_
 refine oCS X1 Y1 hZ hml hown (wT 321 rfl) (wT 322 rfl) (wT 4 rfl) (wT 323 rfl) (rm_earj Gl X00 (1 : Int32) P1 w1 pp kp P0 P1 P2 ww kw w0 w1 w2 (ownEar 0 w0 P0 lo hi) lo hi f0 f1 (by decide) rfl rfl (by omega) hB3 (own_ear_le (by decide) hb0) hlo3 hhi3) eq1 14 rfl 6 0 pd_81620274 rfl rfl rfl rfl (by decide +kernel) ?_
 intro v2 T2 L2 X2 Y2 hQ2
 obtain ⟨rfl, Nq2, eq2⟩ := hQ2
 show OwnH p e below _ T2 m _ _ [(.int (ownPred (ownEar (ownEar 0 w0 P0 lo hi) w1 P1 lo hi)))]
 have N2 := Fr.app N1 Nq2
 refine ois Y2 15 rfl #[vI (Int32.ofNat lo), vI (Int32.ofNat hi), vR pp, vR ww, vI (ownPred (ownEar (ownEar 0 w0 P0 lo hi) w1 P1 lo hi))] rfl <| oil Y2 16 rfl rfl <| oic 2 Y2 17 rfl rfl <| oiN Y2 18 rfl rfl <| oiN Y2 19 rfl rfl <| oaN Y2 20 rfl rfl rfl <| oaN Y2 21 rfl rfl rfl ?_
 refine oCS X2 Y2 hZ hml hown (wT 321 rfl) (wT 322 rfl) (wT 4 rfl) (wT 323 rfl) (rm_earj Gl X00 (2 : Int32) P2 w2 pp kp P0 P1 P2 ww kw w0 w1 w2 (ownEar (ownEar 0 w0 P0 lo hi) w1 P1 lo hi) lo hi f0 f1 (by decide) rfl rfl (by omega) hB3 (own_ear_le (own_ear_le (by decide) hb0) hb1) hlo3 hhi3) eq2 22 rfl 6 0 pd_81620274 rfl rfl rfl rfl (by decide +kernel) ?_
 intro v3 T3 L3 X3 Y3 hQ3
 obtain ⟨rfl, Nq3, eq3⟩ := hQ3
 show OwnH p e below _ T3 m _ _ [(.int (ownPred (ownEar (ownEar (ownEar 0 w0 P0 lo hi) w1 P1 lo hi) w2 P2 lo hi)))]
 have N3 := Fr.app N2 Nq3
 exact orI X3 Y3 hlk Bd.returns 23 rfl (by decide) (by decide) eq3 ⟨rfl, N3, rfl⟩
def Q_maxp (Z : State) (A : Nat) (B : Nat) : OwnP := fun h0 n0 v h L => v = some (.int (ownPred (max A B))) ∧ Fr n0 L ∧ h = h0
theorem rm_maxp (Gl : OwnGl Z a0 wG1 wG3) (X00 : Old Z n0 h0) (A : Nat) (B : Nat) (hA3 : A ≤ 301) (hB3x : B ≤ 301) : OwnM l Z mN60 jdk_29_method_65_code 2 (some .int) (oR 0 0 0 0) #[(.int (ownPred A)), (.int (ownPred B))] h0 (Q_maxp Z A B h0 n0) := by
 refine own_in (Jvm.Free.JP.mathPlain rfl (by decide +kernel)) dl60 #[vI (ownPred A), vI (ownPred B)] (oE rfl) ?_
 intro p e s m below meth c s₁ Bd hml hZ X0 e0 hx hlk Y0 hown
 have N0 := Fr.nil n0
 refine oiN Y0 0 rfl rfl <| oiN Y0 1 rfl rfl ?_
 by_cases cc1 : (ownPred A) < (ownPred B)
 ·
  refine ocy 9 Y0 2 rfl rfl (tlt cc1).1 <| oiN Y0 5 rfl rfl <| oti (ownPred (max A B)) (own_max_pr (by omega) (by omega) cc1) ?_
  exact orI X0 Y0 hlk Bd.returns 6 rfl (by decide) (by decide) e0 ⟨rfl, N0, rfl⟩
 refine ocn Y0 2 rfl (flt cc1).1 <| oiN Y0 3 rfl rfl <| ogt 10 Y0 4 rfl rfl <| oti (ownPred (max A B)) (own_max_pl (by omega) (by omega) cc1) ?_
 exact orI X0 Y0 hlk Bd.returns 6 rfl (by decide) (by decide) e0 ⟨rfl, N0, rfl⟩
def Q_pick (Z : State) (x1x : Int32) : OwnP := fun h0 n0 v h L => ∃ (c : Int32), v = some (.int c) ∧ Fr n0 L ∧ h = h0 ∧ (¬ c < 0 ∧ ¬ (65535 : Int32) < c)
def ll72 : List (Nat × Instr × Nat) := [(0, .iload_n 0, 1), (1, .bipush 8, 2), (3, .iand, 1), (4, .ifCond .eq 8, 3), (7, .iload_n 0, 1), (8, .iconst 4, 1), (9, .iushr, 1), (10, .i2c, 1), (11, .ireturn, 1), (12, .iload_n 0, 1), (13, .bipush 7, 2), (15, .iand, 1), (16, .istore_n 1, 1), (17, .iload_n 1, 1), (18, .ifCond .ne 6, 3), (21, .bipush 32, 2), (23, .ireturn, 1), (24, .iload_n 1, 1), (25, .iconst 1, 1), (26, .if_icmp .ne 6, 3), (29, .bipush 9, 2), (31, .ireturn, 1), (32, .iload_n 1, 1), (33, .iconst 2, 1), (34, .if_icmp .ne 6, 3), (37, .bipush 10, 2), (39, .ireturn, 1), (40, .iload_n 1, 1), (41, .iconst 3, 1), (42, .if_icmp .ne 6, 3), (45, .bipush 11, 2), (47, .ireturn, 1), (48, .iload_n 1, 1), (49, .iconst 4, 1), (50, .if_icmp .ne 6, 3), (53, .bipush 12, 2), (55, .ireturn, 1), (56, .bipush 13, 2), (58, .ireturn, 1)]
theorem dl72 : OwnDec method_3_code ll72 := by decide +kernel
theorem rm_pick (Gl : OwnGl Z a0 wG1 wG3) (X00 : Old Z n0 h0) (x1x : Int32) : OwnM l Z mN72 method_3_code 2 (some .char) (oR 0 0 0 0) #[(.int x1x)] h0 (Q_pick Z x1x h0 n0) := by
 refine own_in (plainFor_of_name pn_28696215) dl72 #[vI x1x, vU] (oE rfl) ?_
 intro p e s m below meth c s₁ Bd hml hZ X0 e0 hx hlk Y0 hown
 have N0 := Fr.nil n0
 refine oiN Y0 0 rfl rfl <| obp 8 Y0 1 rfl rfl <| oand Y0 2 rfl ?_
 by_cases cc1 : (x1x &&& (8 : Int32)) = (0 : Int32)
 ·
  refine oify 12 Y0 3 rfl rfl ((if0 _ _).trans (teq cc1).1) <| oiN Y0 9 rfl rfl <| obp 7 Y0 10 rfl rfl <| oand Y0 11 rfl <| oiS Y0 12 rfl #[vI x1x, vI (x1x &&& (7 : Int32))] rfl <| oiN Y0 13 rfl rfl ?_
  by_cases cc2 : (x1x &&& (7 : Int32)) = (0 : Int32)
  ·
   refine oifn Y0 14 rfl ((if0 _ _).trans (teq cc2).2) <| obp 32 Y0 15 rfl rfl ?_
   exact orN X0 Y0 hlk Bd.returns (by simp) 16 rfl ((by decide : nar .char (32 : Int32) = (32 : Int32))) (by decide) (by decide) e0 ⟨(32 : Int32), rfl, N0, rfl, (by decide)⟩
  refine oify 24 Y0 14 rfl rfl ((if0 _ _).trans (feq cc2).2) <| oiN Y0 17 rfl rfl <| oic 1 Y0 18 rfl rfl ?_
  by_cases cc4 : (x1x &&& (7 : Int32)) = (1 : Int32)
  ·
   refine ocn Y0 19 rfl (teq cc4).2 <| obp 9 Y0 20 rfl rfl ?_
   exact orN X0 Y0 hlk Bd.returns (by simp) 21 rfl ((by decide : nar .char (9 : Int32) = (9 : Int32))) (by decide) (by decide) e0 ⟨(9 : Int32), rfl, N0, rfl, (by decide)⟩
  refine ocy 32 Y0 19 rfl rfl (feq cc4).2 <| oiN Y0 22 rfl rfl <| oic 2 Y0 23 rfl rfl ?_
  by_cases cc6 : (x1x &&& (7 : Int32)) = (2 : Int32)
  ·
   refine ocn Y0 24 rfl (teq cc6).2 <| obp 10 Y0 25 rfl rfl ?_
   exact orN X0 Y0 hlk Bd.returns (by simp) 26 rfl ((by decide : nar .char (10 : Int32) = (10 : Int32))) (by decide) (by decide) e0 ⟨(10 : Int32), rfl, N0, rfl, (by decide)⟩
  refine ocy 40 Y0 24 rfl rfl (feq cc6).2 <| oiN Y0 27 rfl rfl <| oic 3 Y0 28 rfl rfl ?_
  by_cases cc8 : (x1x &&& (7 : Int32)) = (3 : Int32)
  ·
   refine ocn Y0 29 rfl (teq cc8).2 <| obp 11 Y0 30 rfl rfl ?_
   exact orN X0 Y0 hlk Bd.returns (by simp) 31 rfl ((by decide : nar .char (11 : Int32) = (11 : Int32))) (by decide) (by decide) e0 ⟨(11 : Int32), rfl, N0, rfl, (by decide)⟩
  refine ocy 48 Y0 29 rfl rfl (feq cc8).2 <| oiN Y0 32 rfl rfl <| oic 4 Y0 33 rfl rfl ?_
  by_cases cc10 : (x1x &&& (7 : Int32)) = (4 : Int32)
  ·
   refine ocn Y0 34 rfl (teq cc10).2 <| obp 12 Y0 35 rfl rfl ?_
   exact orN X0 Y0 hlk Bd.returns (by simp) 36 rfl ((by decide : nar .char (12 : Int32) = (12 : Int32))) (by decide) (by decide) e0 ⟨(12 : Int32), rfl, N0, rfl, (by decide)⟩
  refine ocy 56 Y0 34 rfl rfl (feq cc10).2 <| obp 13 Y0 37 rfl rfl ?_
  exact orN X0 Y0 hlk Bd.returns (by simp) 38 rfl ((by decide : nar .char (13 : Int32) = (13 : Int32))) (by decide) (by decide) e0 ⟨(13 : Int32), rfl, N0, rfl, (by decide)⟩
 refine oifn Y0 3 rfl ((if0 _ _).trans (feq cc1).1) <| oiN Y0 4 rfl rfl <| oic 4 Y0 5 rfl rfl <| ousr Y0 6 rfl <| oi2c Y0 7 rfl ?_
 exact orN X0 Y0 hlk Bd.returns (by simp) 8 rfl (by rw [own_nar2_char]) (by decide) (by decide) e0 ⟨(nar .char ((x1x.toUInt32 >>> ((4 : Int32) &&& 31).toUInt32).toInt32)), rfl, N0, rfl, (own_wide _)⟩
theorem own_nn0 {n : Nat} (h0 : 0 < n) (h : n ≤ 4000) : ¬ (Int32.ofNat n = (0 : Int32)) := fun q => absurd (own_ofN (b := 0) h (by decide) q) (by omega)
theorem own_nn2 {n : Nat} (h : n ≤ 3000) : ¬ (Int32.ofNat n + (2 : Int32) = (0 : Int32)) := fun q => by
 have q' : Int32.ofNat (n + 2) = Int32.ofNat 0 := (own_addN n 2).symm.trans q
 exact absurd (own_ofN (by omega) (by decide) q') (by omega)
theorem own_psub {Q b : Nat} (h : b + 1 ≤ Q) : ownPred Q - Int32.ofNat b = Int32.ofNat (Q - 1 - b) := by
 obtain ⟨k, rfl⟩ : ∃ k, Q = k + 1 := ⟨Q - 1, by omega⟩
 rw [own_pred_succ, own_subN (by omega), Nat.add_sub_cancel]
theorem own_padd {A : Nat} (h : ¬ A = 0) : ownPred A + (1 : Int32) = Int32.ofNat A := by
 obtain ⟨k, rfl⟩ : ∃ k, A = k + 1 := ⟨A - 1, by omega⟩
 rw [own_pred_succ]; exact own_add1 k
theorem own_ppos {A : Nat} (h : 0 < A) : ownPred A = Int32.ofNat (A - 1) := by
 obtain ⟨k, rfl⟩ : ∃ k, A = k + 1 := ⟨A - 1, by omega⟩
 rw [own_pred_succ, Nat.add_sub_cancel]
theorem own_cnt_le (cs : List Int32) (s e : Nat) : ∀ i, ownCnt cs s e i ≤ i
 | 0 => Nat.le_refl _
 | i + 1 => by
  have := own_cnt_le cs s e i
  rw [own_cnt_succ]; split <;> omega
theorem own_getD_lt {R : List Int32} {i : Nat} (h : R.getD i 0 = 8230) : i < R.length := by
 rcases Nat.lt_or_ge i R.length with q | q
 ·
  exact q
 ·
  rw [List.getD_eq_getElem?_getD, List.getElem?_eq_none q] at h
  exact absurd h (by decide)
theorem ef_law (m : MethodId) (x0 : Int32) (x1 : Int32) (x2 : Int32) (x3 : Int32) (x4 : Int32) : entryFrame m #[(.int x0), (.int x1), (.int x2), (.int x3), (.int x4)] maxLocals = mkF m 0 #[vI x0, vI x1, vI x2, vI x3, vI x4, vU, vU, vU, vU, vU, vU, vU, vU, vU, vU, vU, vU, vU, vU, vU, vU, vU, vU, vU, vU, vU] [] := by
 first | (simp [entryFrame, mkF, argsToLocals, Value.category, maxLocals]; done) | rfl
def Q_law (Z : State) (p1 : Int32) (p2 : Int32) (p3 : Int32) (p4 : Int32) (p5 : Int32) : OwnP := fun h0 n0 v h L => v = some (.int 1) ∧ Fr n0 L
def ll73 : List (Nat × Instr × Nat) := [(0, .iload 4, 2), (2, .iconst 1, 1), (3, .iand, 1), (4, .ifCond .eq 7, 3), (7, .iconst 1, 1), (8, .goto 4, 3), (11, .iconst 0, 1), (12, .istore 5, 2), (14, .iload 5, 2), (16, .ifCond .eq 11, 3), (19, .sipush 300, 3), (22, .newarray .char, 2), (24, .goto 8, 3), (27, .sipush 241, 3), (30, .newarray .char, 2), (32, .astore 6, 2), (34, .aload 6, 2), (36, .arraylength, 1), (37, .istore 7, 2), (39, .iconst 3, 1), (40, .newarray .int, 2), (42, .astore 8, 2), (44, .aload 8, 2), (46, .iconst 0, 1), (47, .iload_n 1, 1), (48, .bipush 20, 2), (50, .iushr, 1), (51, .iload 7, 2), (53, .irem, 1), (54, .iastore, 1), (55, .aload 8, 2), (57, .iconst 1, 1), (58, .iload_n 2, 1), (59, .bipush 20, 2), (61, .iushr, 1), (62, .iload 7, 2), (64, .irem, 1), (65, .iastore, 1), (66, .aload 8, 2), (68, .iconst 2, 1), (69, .iload_n 3, 1), (70, .bipush 20, 2), (72, .iushr, 1), (73, .iload 7, 2), (75, .irem, 1), (76, .iastore, 1), (77, .iconst 3, 1), (78, .newarray .char, 2), (80, .astore 9, 2), (82, .aload 9, 2), (84, .iconst 0, 1), (85, .iload_n 1, 1), (86, .invokestatic 7, 3), (89, .castore, 1), (90, .aload 9, 2), (92, .iconst 1, 1), (93, .iload_n 2, 1), (94, .invokestatic 7, 3), (97, .castore, 1), (98, .aload 9, 2), (100, .iconst 2, 1), (101, .iload_n 3, 1), (102, .invokestatic 7, 3), (105, .castore, 1), (106, .aload 6, 2), (108, .aload 8, 2), (110, .iconst 0, 1), (111, .iaload, 1), (112, .aload 9, 2), (114, .iconst 0, 1), (115, .caload, 1), (116, .castore, 1), (117, .aload 6, 2), (119, .aload 8, 2), (121, .iconst 1, 1), (122, .iaload, 1), (123, .aload 9, 2), (125, .iconst 1, 1), (126, .caload, 1), (127, .castore, 1), (128, .aload 6, 2), (130, .aload 8, 2), (132, .iconst 2, 1), (133, .iaload, 1), (134, .aload 9, 2), (136, .iconst 2, 1), (137, .caload, 1), (138, .castore, 1), (139, .iload_n 0, 1), (140, .ldc 13, 2), (142, .iand, 1), (143, .iload 7, 2), (145, .iconst 2, 1), (146, .iadd, 1), (147, .irem, 1), (148, .iconst 1, 1), (149, .isub, 1), (150, .istore 10, 2), (152, .new 14, 3), (155, .dup, 1), (156, .aload 6, 2), (158, .invokespecial 16, 3), (161, .iload 10, 2), (163, .invokestatic 19, 3), (166, .astore 11, 2), (168, .aload 8, 2), (170, .iconst 0, 1), (171, .iaload, 1), (172, .aload 8, 2), (174, .iconst 1, 1), (175, .iaload, 1), (176, .if_icmp .eq 18, 3), (179, .aload 8, 2), (181, .iconst 0, 1), (182, .iaload, 1), (183, .aload 8, 2), (185, .iconst 2, 1), (186, .iaload, 1), (187, .if_icmp .eq 7, 3), (190, .iconst 1, 1), (191, .goto 4, 3), (194, .iconst 0, 1), (195, .istore 12, 2), (197, .aload 8, 2), (199, .iconst 1, 1), (200, .iaload, 1), (201, .aload 8, 2), (203, .iconst 2, 1), (204, .iaload, 1), (205, .if_icmp .eq 7, 3), (208, .iconst 1, 1), (209, .goto 4, 3), (212, .iconst 0, 1), (213, .istore 13, 2), (215, .iconst 3, 1), (216, .newarray .boolean, 2), (218, .astore 14, 2), (220, .iconst 3, 1), (221, .newarray .boolean, 2), (223, .astore 15, 2), (225, .aload 14, 2), (227, .iconst 0, 1), (228, .iload 12, 2), (230, .ifCond .eq 17, 3), (233, .aload 9, 2), (235, .iconst 0, 1), (236, .caload, 1), (237, .invokestatic 25, 3), (240, .ifCond .eq 7, 3), (243, .iconst 1, 1), (244, .goto 4, 3), (247, .iconst 0, 1), (248, .bastore, 1), (249, .aload 15, 2), (251, .iconst 0, 1), (252, .iload 12, 2), (254, .ifCond .eq 17, 3), (257, .aload 9, 2), (259, .iconst 0, 1), (260, .caload, 1), (261, .invokestatic 25, 3), (264, .ifCond .ne 7, 3), (267, .iconst 1, 1), (268, .goto 4, 3), (271, .iconst 0, 1), (272, .bastore, 1), (273, .aload 14, 2), (275, .iconst 1, 1), (276, .iload 13, 2), (278, .ifCond .eq 17, 3), (281, .aload 9, 2), (283, .iconst 1, 1), (284, .caload, 1), (285, .invokestatic 25, 3), (288, .ifCond .eq 7, 3), (291, .iconst 1, 1), (292, .goto 4, 3), (295, .iconst 0, 1), (296, .bastore, 1), (297, .aload 15, 2), (299, .iconst 1, 1), (300, .iload 13, 2), (302, .ifCond .eq 17, 3), (305, .aload 9, 2), (307, .iconst 1, 1), (308, .caload, 1), (309, .invokestatic 25, 3), (312, .ifCond .ne 7, 3), (315, .iconst 1, 1), (316, .goto 4, 3), (319, .iconst 0, 1), (320, .bastore, 1), (321, .aload 14, 2), (323, .iconst 2, 1), (324, .aload 9, 2), (326, .iconst 2, 1), (327, .caload, 1), (328, .invokestatic 25, 3), (331, .bastore, 1), (332, .aload 15, 2), (334, .iconst 2, 1), (335, .aload 9, 2), (337, .iconst 2, 1), (338, .caload, 1), (339, .invokestatic 25, 3), (342, .ifCond .ne 7, 3), (345, .iconst 1, 1), (346, .goto 4, 3), (349, .iconst 0, 1), (350, .bastore, 1), (351, .iconst 0, 1), (352, .istore 16, 2), (354, .iload 10, 2), (356, .bipush 60, 2), (358, .if_icmp .le 70, 3), (361, .iload 10, 2), (363, .bipush 61, 2), (365, .isub, 1), (366, .iload 10, 2), (368, .iconst 1, 1), (369, .isub, 1), (370, .aload 8, 2), (372, .aload 14, 2), (374, .invokestatic 29, 3), (377, .istore 17, 2), (379, .iload 17, 2), (381, .ifCond .lt 12, 3), (384, .iload 17, 2), (386, .iconst 1, 1), (387, .iadd, 1), (388, .istore 16, 2), (390, .goto 38, 3), (393, .iload 10, 2), (395, .bipush 60, 2), (397, .isub, 1), (398, .istore 16, 2), (400, .iload 16, 2), (402, .aload 8, 2), (404, .aload 9, 2), (406, .invokestatic 33, 3), (409, .istore 18, 2), (411, .iload 18, 2), (413, .ldc 37, 2), (415, .if_icmp .lt 13, 3), (418, .iload 18, 2), (420, .ldc 38, 2), (422, .if_icmp .gt 6, 3), (425, .iinc 16 1, 3), (428, .iload 16, 2), (430, .ifCond .le 7, 3), (433, .iconst 1, 1), (434, .goto 4, 3), (437, .iconst 0, 1), (438, .istore 17, 2), (440, .iconst 3, 1), (441, .newarray .boolean, 2), (443, .astore 18, 2), (445, .aload 18, 2), (447, .iconst 0, 1), (448, .aload 14, 2), (450, .iconst 0, 1), (451, .baload, 1), (452, .ifCond .eq 34, 3), (455, .aload 8, 2), (457, .iconst 0, 1), (458, .iaload, 1), (459, .iload 16, 2), (461, .if_icmp .lt 25, 3), (464, .aload 8, 2), (466, .iconst 0, 1), (467, .iaload, 1), (468, .iload 16, 2), (470, .iload 7, 2), (472, .aload 8, 2), (474, .aload 14, 2), (476, .invokestatic 39, 3), (479, .ifCond .eq 7, 3), (482, .iconst 1, 1), (483, .goto 4, 3), (486, .iconst 0, 1), (487, .bastore, 1), (488, .aload 18, 2), (490, .iconst 1, 1), (491, .aload 14, 2), (493, .iconst 1, 1), (494, .baload, 1), (495, .ifCond .eq 34, 3), (498, .aload 8, 2), (500, .iconst 1, 1), (501, .iaload, 1), (502, .iload 16, 2), (504, .if_icmp .lt 25, 3), (507, .aload 8, 2), (509, .iconst 1, 1), (510, .iaload, 1), (511, .iload 16, 2), (513, .iload 7, 2), (515, .aload 8, 2), (517, .aload 14, 2), (519, .invokestatic 39, 3), (522, .ifCond .eq 7, 3), (525, .iconst 1, 1), (526, .goto 4, 3), (529, .iconst 0, 1), (530, .bastore, 1), (531, .aload 18, 2), (533, .iconst 2, 1), (534, .aload 14, 2), (536, .iconst 2, 1), (537, .baload, 1), (538, .ifCond .eq 34, 3), (541, .aload 8, 2), (543, .iconst 2, 1), (544, .iaload, 1), (545, .iload 16, 2), (547, .if_icmp .lt 25, 3), (550, .aload 8, 2), (552, .iconst 2, 1), (553, .iaload, 1), (554, .iload 16, 2), (556, .iload 7, 2), (558, .aload 8, 2), (560, .aload 14, 2), (562, .invokestatic 39, 3), (565, .ifCond .eq 7, 3), (568, .iconst 1, 1), (569, .goto 4, 3), (572, .iconst 0, 1), (573, .bastore, 1), (574, .iload 17, 2), (576, .iload 7, 2), (578, .iload 16, 2), (580, .aload 8, 2), (582, .aload 18, 2), (584, .invokestatic 43, 3), (587, .iadd, 1), (588, .istore 19, 2), (590, .iload 19, 2), (592, .istore 20, 2), (594, .iload 19, 2), (596, .istore 21, 2), (598, .iload 19, 2), (600, .sipush 240, 3), (603, .if_icmp .gt 25, 3), (606, .iload 19, 2), (608, .sipush 240, 3), (611, .if_icmp .ne 184, 3), (614, .iload 7, 2), (616, .iconst 1, 1), (617, .isub, 1), (618, .aload 8, 2), (620, .aload 14, 2), (622, .invokestatic 46, 3), (625, .ifCond .eq 170, 3), (628, .iconst 0, 1), (629, .iload 16, 2), (631, .iload 17, 2), (633, .aload 8, 2), (635, .aload 14, 2), (637, .aload 18, 2), (639, .invokestatic 50, 3), (642, .iconst 1, 1), (643, .iload 16, 2), (645, .iload 17, 2), (647, .aload 8, 2), (649, .aload 14, 2), (651, .aload 18, 2), (653, .invokestatic 50, 3), (656, .iconst 2, 1), (657, .iload 16, 2), (659, .iload 17, 2), (661, .aload 8, 2), (663, .aload 14, 2), (665, .aload 18, 2), (667, .invokestatic 50, 3), (670, .invokestatic 54, 3), (673, .invokestatic 54, 3), (676, .istore 22, 2), (678, .iconst 0, 1), (679, .iload 16, 2), (681, .iload 17, 2), (683, .aload 8, 2), (685, .aload 15, 2), (687, .aload 9, 2), (689, .aload 18, 2), (691, .invokestatic 60, 3), (694, .ifCond .ne 41, 3), (697, .iconst 1, 1), (698, .iload 16, 2), (700, .iload 17, 2), (702, .aload 8, 2), (704, .aload 15, 2), (706, .aload 9, 2), (708, .aload 18, 2), (710, .invokestatic 60, 3), (713, .ifCond .ne 22, 3), (716, .iconst 2, 1), (717, .iload 16, 2), (719, .iload 17, 2), (721, .aload 8, 2), (723, .aload 15, 2), (725, .aload 9, 2), (727, .aload 18, 2), (729, .invokestatic 60, 3), (732, .ifCond .eq 7, 3), (735, .iconst 1, 1), (736, .goto 4, 3), (739, .iconst 0, 1), (740, .istore 23, 2), (742, .iload 17, 2), (744, .iconst 1, 1), (745, .if_icmp .ne 8, 3), (748, .bipush 120, 2), (750, .goto 5, 3), (753, .bipush 119, 2), (755, .istore 24, 2), (757, .iload 22, 2), (759, .iload 24, 2), (761, .if_icmp .le 10, 3), (764, .iload 22, 2), (766, .istore 20, 2), (768, .goto 21, 3), (771, .iload 23, 2), (773, .ifCond .eq 11, 3), (776, .sipush 238, 3), (779, .istore 20, 2), (781, .goto 8, 3), (784, .sipush 239, 3), (787, .istore 20, 2), (789, .iload 20, 2), (791, .iconst 1, 1), (792, .iadd, 1), (793, .istore 21, 2), (795, .aload 11, 2), (797, .invokevirtual 64, 3), (800, .iload 21, 2), (802, .if_icmp .eq 5, 3), (807, .iload 17, 2), (809, .iconst 1, 1), (810, .if_icmp .ne 17, 3), (813, .aload 11, 2), (815, .iconst 0, 1), (816, .invokevirtual 68, 3), (819, .sipush 8230, 3), (822, .if_icmp .eq 5, 3), (827, .iload 20, 2), (829, .iload 21, 2), (831, .if_icmp .ge 18, 3), (834, .aload 11, 2), (836, .iload 20, 2), (838, .invokevirtual 68, 3), (841, .sipush 8230, 3), (844, .if_icmp .eq 5, 3), (849, .iload 4, 2), (851, .iconst 1, 1), (852, .iushr, 1), (853, .iload 7, 2), (855, .irem, 1), (856, .istore 22, 2), (858, .iload 22, 2), (860, .iload 16, 2), (862, .if_icmp .ge 5, 3), (865, .iconst 1, 1), (866, .ireturn, 1), (867, .iload 22, 2), (869, .aload 8, 2), (871, .aload 14, 2), (873, .invokestatic 46, 3), (876, .istore 23, 2), (878, .iload 23, 2), (880, .ifCond .eq 21, 3), (883, .iload 22, 2), (885, .iload 16, 2), (887, .iload 7, 2), (889, .aload 8, 2), (891, .aload 14, 2), (893, .invokestatic 39, 3), (896, .ifCond .eq 5, 3), (899, .iconst 1, 1), (900, .ireturn, 1), (901, .iload 17, 2), (903, .iload 22, 2), (905, .iload 16, 2), (907, .aload 8, 2), (909, .aload 18, 2), (911, .invokestatic 43, 3), (914, .iadd, 1), (915, .istore 24, 2), (917, .iload 24, 2), (919, .iload 20, 2), (921, .if_icmp .lt 5, 3), (924, .iconst 1, 1), (925, .ireturn, 1), (926, .iload 23, 2), (928, .ifCond .eq 8, 3), (931, .bipush 32, 2), (933, .goto 12, 3), (936, .iload 22, 2), (938, .aload 8, 2), (940, .aload 9, 2), (942, .invokestatic 33, 3), (945, .istore 25, 2), (947, .aload 11, 2), (949, .iload 24, 2), (951, .invokevirtual 68, 3), (954, .iload 25, 2), (956, .if_icmp .ne 7, 3), (959, .iconst 1, 1), (960, .goto 4, 3), (964, .ireturn, 1)]
theorem dl73 : OwnDec code ll73 := oD2 at_0 (oD2 at_2 (oD2 at_3 (oD2 at_4 (oD2 at_7 (oD2 at_8 (oD2 at_11 (oD2 at_12 (oD2 at_14 (oD2 at_16 (oD2 at_19 (oD2 at_22 (oD2 at_24 (oD2 at_27 (oD2 at_30 (oD2 at_32 (oD2 at_34 (oD2 at_36 (oD2 at_37 (oD2 at_39 (oD2 at_40 (oD2 at_42 (oD2 at_44 (oD2 at_46 (oD2 at_47 (oD2 at_48 (oD2 at_50 (oD2 at_51 (oD2 at_53 (oD2 at_54 (oD2 at_55 (oD2 at_57 (oD2 at_58 (oD2 at_59 (oD2 at_61 (oD2 at_62 (oD2 at_64 (oD2 at_65 (oD2 at_66 (oD2 at_68 (oD2 at_69 (oD2 at_70 (oD2 at_72 (oD2 at_73 (oD2 at_75 (oD2 at_76 (oD2 at_77 (oD2 at_78 (oD2 at_80 (oD2 at_82 (oD2 at_84 (oD2 at_85 (oD2 at_86 (oD2 at_89 (oD2 at_90 (oD2 at_92 (oD2 at_93 (oD2 at_94 (oD2 at_97 (oD2 at_98 (oD2 at_100 (oD2 at_101 (oD2 at_102 (oD2 at_105 (oD2 at_106 (oD2 at_108 (oD2 at_110 (oD2 at_111 (oD2 at_112 (oD2 at_114 (oD2 at_115 (oD2 at_116 (oD2 at_117 (oD2 at_119 (oD2 at_121 (oD2 at_122 (oD2 at_123 (oD2 at_125 (oD2 at_126 (oD2 at_127 (oD2 at_128 (oD2 at_130 (oD2 at_132 (oD2 at_133 (oD2 at_134 (oD2 at_136 (oD2 at_137 (oD2 at_138 (oD2 at_139 (oD2 at_140 (oD2 at_142 (oD2 at_143 (oD2 at_145 (oD2 at_146 (oD2 at_147 (oD2 at_148 (oD2 at_149 (oD2 at_150 (oD2 at_152 (oD2 at_155 (oD2 at_156 (oD2 at_158 (oD2 at_161 (oD2 at_163 (oD2 at_166 (oD2 at_168 (oD2 at_170 (oD2 at_171 (oD2 at_172 (oD2 at_174 (oD2 at_175 (oD2 at_176 (oD2 at_179 (oD2 at_181 (oD2 at_182 (oD2 at_183 (oD2 at_185 (oD2 at_186 (oD2 at_187 (oD2 at_190 (oD2 at_191 (oD2 at_194 (oD2 at_195 (oD2 at_197 (oD2 at_199 (oD2 at_200 (oD2 at_201 (oD2 at_203 (oD2 at_204 (oD2 at_205 (oD2 at_208 (oD2 at_209 (oD2 at_212 (oD2 at_213 (oD2 at_215 (oD2 at_216 (oD2 at_218 (oD2 at_220 (oD2 at_221 (oD2 at_223 (oD2 at_225 (oD2 at_227 (oD2 at_228 (oD2 at_230 (oD2 at_233 (oD2 at_235 (oD2 at_236 (oD2 at_237 (oD2 at_240 (oD2 at_243 (oD2 at_244 (oD2 at_247 (oD2 at_248 (oD2 at_249 (oD2 at_251 (oD2 at_252 (oD2 at_254 (oD2 at_257 (oD2 at_259 (oD2 at_260 (oD2 at_261 (oD2 at_264 (oD2 at_267 (oD2 at_268 (oD2 at_271 (oD2 at_272 (oD2 at_273 (oD2 at_275 (oD2 at_276 (oD2 at_278 (oD2 at_281 (oD2 at_283 (oD2 at_284 (oD2 at_285 (oD2 at_288 (oD2 at_291 (oD2 at_292 (oD2 at_295 (oD2 at_296 (oD2 at_297 (oD2 at_299 (oD2 at_300 (oD2 at_302 (oD2 at_305 (oD2 at_307 (oD2 at_308 (oD2 at_309 (oD2 at_312 (oD2 at_315 (oD2 at_316 (oD2 at_319 (oD2 at_320 (oD2 at_321 (oD2 at_323 (oD2 at_324 (oD2 at_326 (oD2 at_327 (oD2 at_328 (oD2 at_331 (oD2 at_332 (oD2 at_334 (oD2 at_335 (oD2 at_337 (oD2 at_338 (oD2 at_339 (oD2 at_342 (oD2 at_345 (oD2 at_346 (oD2 at_349 (oD2 at_350 (oD2 at_351 (oD2 at_352 (oD2 at_354 (oD2 at_356 (oD2 at_358 (oD2 at_361 (oD2 at_363 (oD2 at_365 (oD2 at_366 (oD2 at_368 (oD2 at_369 (oD2 at_370 (oD2 at_372 (oD2 at_374 (oD2 at_377 (oD2 at_379 (oD2 at_381 (oD2 at_384 (oD2 at_386 (oD2 at_387 (oD2 at_388 (oD2 at_390 (oD2 at_393 (oD2 at_395 (oD2 at_397 (oD2 at_398 (oD2 at_400 (oD2 at_402 (oD2 at_404 (oD2 at_406 (oD2 at_409 (oD2 at_411 (oD2 at_413 (oD2 at_415 (oD2 at_418 (oD2 at_420 (oD2 at_422 (oD2 at_425 (oD2 at_428 (oD2 at_430 (oD2 at_433 (oD2 at_434 (oD2 at_437 (oD2 at_438 (oD2 at_440 (oD2 at_441 (oD2 at_443 (oD2 at_445 (oD2 at_447 (oD2 at_448 (oD2 at_450 (oD2 at_451 (oD2 at_452 (oD2 at_455 (oD2 at_457 (oD2 at_458 (oD2 at_459 (oD2 at_461 (oD2 at_464 (oD2 at_466 (oD2 at_467 (oD2 at_468 (oD2 at_470 (oD2 at_472 (oD2 at_474 (oD2 at_476 (oD2 at_479 (oD2 at_482 (oD2 at_483 (oD2 at_486 (oD2 at_487 (oD2 at_488 (oD2 at_490 (oD2 at_491 (oD2 at_493 (oD2 at_494 (oD2 at_495 (oD2 at_498 (oD2 at_500 (oD2 at_501 (oD2 at_502 (oD2 at_504 (oD2 at_507 (oD2 at_509 (oD2 at_510 (oD2 at_511 (oD2 at_513 (oD2 at_515 (oD2 at_517 (oD2 at_519 (oD2 at_522 (oD2 at_525 (oD2 at_526 (oD2 at_529 (oD2 at_530 (oD2 at_531 (oD2 at_533 (oD2 at_534 (oD2 at_536 (oD2 at_537 (oD2 at_538 (oD2 at_541 (oD2 at_543 (oD2 at_544 (oD2 at_545 (oD2 at_547 (oD2 at_550 (oD2 at_552 (oD2 at_553 (oD2 at_554 (oD2 at_556 (oD2 at_558 (oD2 at_560 (oD2 at_562 (oD2 at_565 (oD2 at_568 (oD2 at_569 (oD2 at_572 (oD2 at_573 (oD2 at_574 (oD2 at_576 (oD2 at_578 (oD2 at_580 (oD2 at_582 (oD2 at_584 (oD2 at_587 (oD2 at_588 (oD2 at_590 (oD2 at_592 (oD2 at_594 (oD2 at_596 (oD2 at_598 (oD2 at_600 (oD2 at_603 (oD2 at_606 (oD2 at_608 (oD2 at_611 (oD2 at_614 (oD2 at_616 (oD2 at_617 (oD2 at_618 (oD2 at_620 (oD2 at_622 (oD2 at_625 (oD2 at_628 (oD2 at_629 (oD2 at_631 (oD2 at_633 (oD2 at_635 (oD2 at_637 (oD2 at_639 (oD2 at_642 (oD2 at_643 (oD2 at_645 (oD2 at_647 (oD2 at_649 (oD2 at_651 (oD2 at_653 (oD2 at_656 (oD2 at_657 (oD2 at_659 (oD2 at_661 (oD2 at_663 (oD2 at_665 (oD2 at_667 (oD2 at_670 (oD2 at_673 (oD2 at_676 (oD2 at_678 (oD2 at_679 (oD2 at_681 (oD2 at_683 (oD2 at_685 (oD2 at_687 (oD2 at_689 (oD2 at_691 (oD2 at_694 (oD2 at_697 (oD2 at_698 (oD2 at_700 (oD2 at_702 (oD2 at_704 (oD2 at_706 (oD2 at_708 (oD2 at_710 (oD2 at_713 (oD2 at_716 (oD2 at_717 (oD2 at_719 (oD2 at_721 (oD2 at_723 (oD2 at_725 (oD2 at_727 (oD2 at_729 (oD2 at_732 (oD2 at_735 (oD2 at_736 (oD2 at_739 (oD2 at_740 (oD2 at_742 (oD2 at_744 (oD2 at_745 (oD2 at_748 (oD2 at_750 (oD2 at_753 (oD2 at_755 (oD2 at_757 (oD2 at_759 (oD2 at_761 (oD2 at_764 (oD2 at_766 (oD2 at_768 (oD2 at_771 (oD2 at_773 (oD2 at_776 (oD2 at_779 (oD2 at_781 (oD2 at_784 (oD2 at_787 (oD2 at_789 (oD2 at_791 (oD2 at_792 (oD2 at_793 (oD2 at_795 (oD2 at_797 (oD2 at_800 (oD2 at_802 (oD2 at_807 (oD2 at_809 (oD2 at_810 (oD2 at_813 (oD2 at_815 (oD2 at_816 (oD2 at_819 (oD2 at_822 (oD2 at_827 (oD2 at_829 (oD2 at_831 (oD2 at_834 (oD2 at_836 (oD2 at_838 (oD2 at_841 (oD2 at_844 (oD2 at_849 (oD2 at_851 (oD2 at_852 (oD2 at_853 (oD2 at_855 (oD2 at_856 (oD2 at_858 (oD2 at_860 (oD2 at_862 (oD2 at_865 (oD2 at_866 (oD2 at_867 (oD2 at_869 (oD2 at_871 (oD2 at_873 (oD2 at_876 (oD2 at_878 (oD2 at_880 (oD2 at_883 (oD2 at_885 (oD2 at_887 (oD2 at_889 (oD2 at_891 (oD2 at_893 (oD2 at_896 (oD2 at_899 (oD2 at_900 (oD2 at_901 (oD2 at_903 (oD2 at_905 (oD2 at_907 (oD2 at_909 (oD2 at_911 (oD2 at_914 (oD2 at_915 (oD2 at_917 (oD2 at_919 (oD2 at_921 (oD2 at_924 (oD2 at_925 (oD2 at_926 (oD2 at_928 (oD2 at_931 (oD2 at_933 (oD2 at_936 (oD2 at_938 (oD2 at_940 (oD2 at_942 (oD2 at_945 (oD2 at_947 (oD2 at_949 (oD2 at_951 (oD2 at_954 (oD2 at_956 (oD2 at_959 (oD2 at_960 (oD2 at_964 (oD0))))))))))))))))))))))))))))))))))))))))))))))))))))))))))))))))))))))))))))))))))))))))))))))))))))))))))))))))))))))))))))))))))))))))))))))))))))))))))))))))))))))))))))))))))))))))))))))))))))))))))))))))))))))))))))))))))))))))))))))))))))))))))))))))))))))))))))))))))))))))))))))))))))))))))))))))))))))))))))))))))))))))))))))))))))))))))))))))))))))))))))))))))))))))))))))))))))))))))))))))))))))))))))))))))))))))))))))))))))))))))))))))))))))))))))))))))))))))))))))))))))))))))))))))))))))))))))))
theorem pd_60179436 : parseMethodDescriptor "(Ljava/lang/String;I)Ljava/lang/String;" = some ⟨[(.object "java/lang/String"), .int], some (.object "java/lang/String")⟩ := by decide +kernel
theorem pd_58159063 : parseMethodDescriptor "(I[I[C)C" = some ⟨[.int, (.array .int), (.array .char)], some .char⟩ := by decide +kernel
theorem pd_69277098 : parseMethodDescriptor "(III[I[Z)Z" = some ⟨[.int, .int, .int, (.array .int), (.array .boolean)], some .boolean⟩ := by decide +kernel
theorem pd_89783115 : parseMethodDescriptor "(III[I[Z[Z)I" = some ⟨[.int, .int, .int, (.array .int), (.array .boolean), (.array .boolean)], some .int⟩ := by decide +kernel
theorem pd_56250754 : parseMethodDescriptor "(III[I[Z[C[Z)Z" = some ⟨[.int, .int, .int, (.array .int), (.array .boolean), (.array .char), (.array .boolean)], some .boolean⟩ := by decide +kernel
theorem pd_68446664 : parseMethodDescriptor "([C)V" = some ⟨[(.array .char)], none⟩ := by decide +kernel
theorem rm_law (l : Launch) (Z : State) (a0 : Array Value) (hw : ∀ d ∈ tables_1, d.before a0 Z = true) (ws : List Jvm.Cond) (wG1 : Int32) (wG3 : Value) (cx : OwnCx Z a0 wG1 wG3) (hEL : EW Z a0 consts_1) (h0 : Heap) (n0 : Nat) (X00 : Old Z n0 h0) (p1 : Int32) (p2 : Int32) (p3 : Int32) (p4 : Int32) (p5 : Int32) :
  MetFree l x (head1 (Jvm.Cond.code x code maxLocals ret :: ws) room_1) (fun a U => a = #[(.int p1), (.int p2), (.int p3), (.int p4), (.int p5)] ∧ Z.Warmed39 U.vm ∧ U.heap = h0 ∧ CHv Z consts_1 U.vm h0) (fun _ _ _ _ _ => True) (fun _ U o U' => ∃ v L, o = .returned v ∧ Q_law Z p1 p2 p3 p4 p5 h0 n0 v U'.heap L ∧ CHr Z consts_1 U.vm U.heap U'.vm U'.heap ∧ ReturnedEndW U o U' L room_1.cells room_1.slots) := by
 refine MetFree.of_bodySF (plainFor_of_name pn_28696215) hisR ?_
 intro p e s m args below meth c s₁ Bd hml0 hP hK
 obtain ⟨rfl, hZ, hh, hH⟩ := hP
 have hx := Bd.exec
 have hby := Bd.bytes
 have hlk := Bd.notSynchronized
 have hml : c.maxLocals = 26 := hml0
 have hown : s.vm.findClass "com/example/seekret/seekret/engine/index/SnippetsAroundPinLaw" = some m.cls := findClass_of_methodNamed Bd.named
 have X0 : Stand p l e room_1 (s.setVm s.vm) m #[(.int p1), (.int p2), (.int p3), (.int p4), (.int p5)] below meth c s₁ [] 0 0 := Stand.of_body Bd
 have e0 : s₁.heap = h0 := by rw [← hh, Bd.state]; rfl
 have N0 := Fr.nil n0
 have Z0 : n0 ≤ h0.size := X00.1 ▸ X00.2.1
 have K0 : Keep h0 h0 ([] : List Addr) := Keep.refl _ _
 have Y0 := oY0 hx hby dl73 X0
 have R0 : CHr Z consts_1 s.vm h0 s.vm h0 := CHr.refl hH
 have hS0 : s.Since s.vm h0.size := State.WarmedH.since (State.WarmedH.refl s) _
 have hk0 : h0.size ≤ h0.size := Nat.le_refl _
 have Gl : OwnGl Z a0 wG1 wG3 := ⟨hw, cx, hEL⟩
 have wT := oww hw
 show OwnGoes p e below _ s₁ (entryFrame m _ _)
 refine og s₁ m 0 #[vI p1, vI p2, vI p3, vI p4, vI p5, vU, vU, vU, vU, vU, vU, vU, vU, vU, vU, vU, vU, vU, vU, vU, vU, vU, vU, vU, vU, vU] [] (fun tgt kgo => castTop (ef_law m p1 p2 p3 p4 p5) kgo) ?_
 have s32 : ∀ (nn : Nat) (ar : Addr) (ka : ClassId) (sl5 : Slot) (T1 : State) (h1 : Heap) (L1 : List Loc) (X1 : Stand p l e room_1 (s.setVm s.vm) m #[(.int p1), (.int p2), (.int p3), (.int p4), (.int p5)] below meth c T1 L1 1 300) (e1 : T1.heap = h1) (Ol1 : Old Z n0 h1) (K1 : Keep h0 h1 ([] : List Addr)) (N1 : Fr n0 L1) (R1 : CHr Z consts_1 s.vm h0 s.vm h1) (hk1 : h0.size ≤ h1.size) (F1_1 : Arv Z h1 ar ka .char (Int32.ofNat nn) ((List.replicate nn (0 : Int32)).map Value.int) (.int 0)) (F1_2 : n0 ≤ ar) (F1_3 : h0.size ≤ ar) (hnn : nn = 241 ∨ nn = 300), OwnGoes p e below (fun o U' => ∃ v L, o = .returned v ∧ Q_law Z p1 p2 p3 p4 p5 h0 n0 v U'.heap L ∧ CHr Z consts_1 s.vm s.heap U'.vm U'.heap ∧ ReturnedEndW s o U' L room_1.cells room_1.slots) T1 (mkF m 32 #[vI p1, vI p2, vI p3, vI p4, vI p5, sl5, vU, vU, vU, vU, vU, vU, vU, vU, vU, vU, vU, vU, vU, vU, vU, vU, vU, vU, vU, vU] [(.ref ar)]) := by
  intro nn ar ka sl5 T1 h1 L1 X1 e1 Ol1 K1 N1 R1 hk1 F1_1 F1_2 F1_3 hnn
  have hn3 : nn ≤ 300 := by omega
  have hn4 : 4 ≤ nn := by omega
  have Y1 := Y0.nx X1
  refine oas Y1 15 rfl #[vI p1, vI p2, vI p3, vI p4, vI p5, sl5, vR ar, vU, vU, vU, vU, vU, vU, vU, vU, vU, vU, vU, vU, vU, vU, vU, vU, vU, vU, vU] rfl rfl <| oal Y1 16 rfl rfl rfl <| olen X1 Y1 hZ e1 F1_1 17 rfl <| ois Y1 18 rfl #[vI p1, vI p2, vI p3, vI p4, vI p5, sl5, vR ar, vI (Int32.ofNat nn), vU, vU, vU, vU, vU, vU, vU, vU, vU, vU, vU, vU, vU, vU, vU, vU, vU, vU] rfl <| oic 3 Y1 19 rfl rfl ?_
  obtain ⟨T3, h3, k3, X3, e3, E3, A3, st3⟩ := newP X1 hx hZ (wT 1 rfl) e1 (g := (mkF m 40 #[vI p1, vI p2, vI p3, vI p4, vI p5, sl5, vR ar, vI (Int32.ofNat nn), vU, vU, vU, vU, vU, vU, vU, vU, vU, vU, vU, vU, vU, vU, vU, vU, vU, vU] [(.int 3)])) rfl (Y0.d 20 rfl) rfl (by decide) (cap := 3) (by decide) (by decide) (by decide) (by decide)
  obtain ⟨b3, g3⟩ : ∃ z, z = h1.size := ⟨_, rfl⟩
  rw [← g3] at A3 st3
  refine og T3 m 42 #[vI p1, vI p2, vI p3, vI p4, vI p5, sl5, vR ar, vI (Int32.ofNat nn), vU, vU, vU, vU, vU, vU, vU, vU, vU, vU, vU, vU, vU, vU, vU, vU, vU, vU] [(.ref b3)] st3 ?_
  have V3 : Arv Z h3 b3 k3 .int (3 : Int32) [(.int 0), (.int 0), (.int 0)] (.int 0) := (Arv.new A3 (by decide)).pad (pad_rep [] (.int 0) 3)
  have ne_ar_b3 : ar ≠ b3 := Nat.ne_of_lt (Nat.lt_of_lt_of_le F1_1.lt (Nat.le_of_eq g3.symm))
  have g_b3 : n0 ≤ b3 := Nat.le_trans (Nat.le_trans Z0 K1.1) (Nat.le_of_eq g3.symm)
  have s_b3 : h0.size ≤ b3 := Nat.le_trans K1.1 (Nat.le_of_eq g3.symm)
  have Sf3 : Safe Z consts_1 s.vm h3 b3 := Safe.ext E3 R1.1 (Safe.new (Nat.le_of_eq g3.symm))
  have F3_4 := F1_1.ext E3
  have Ol3 := Ol1.ext E3
  have K3 : Keep h0 h3 ([] : List Addr) := K1.ext E3
  have R3 := R1.trans (CHr.ext E3 R1.1)
  have hk3 := Nat.le_trans hk1 E3.1
  have Y3 := Y0.nx X3
  refine oas Y3 21 rfl #[vI p1, vI p2, vI p3, vI p4, vI p5, sl5, vR ar, vI (Int32.ofNat nn), vR b3, vU, vU, vU, vU, vU, vU, vU, vU, vU, vU, vU, vU, vU, vU, vU, vU, vU] rfl rfl <| oal Y3 22 rfl rfl rfl <| oic 0 Y3 23 rfl rfl <| oiN Y3 24 rfl rfl <| obp 20 Y3 25 rfl rfl <| ousr Y3 26 rfl <| oil Y3 27 rfl rfl <| orem X3 Y3 28 rfl (own_nn0 (by omega) (by omega)) ?_
  obtain ⟨P0, hP0, eP0⟩ : ∃ P, P < nn ∧ (((p2.toUInt32 >>> ((20 : Int32) &&& 31).toUInt32).toInt32) % (Int32.ofNat nn)) = Int32.ofNat P := own_pos (x := p2) (k := 20) (by decide) (by decide) (by omega) (by omega)
  refine oti (Int32.ofNat P0) (eP0) ?_
  obtain ⟨cl4, Ar4, q4, S4, M4, H4, G4⟩ := id V3
  obtain ⟨T4, h4, X4, e4, W4, st4⟩ := stI X3 hx hZ e3 Ar4 (j := (0 : Int32)) (inb_of S4 ⟨by decide, by decide⟩) (g := (mkF m 54 #[vI p1, vI p2, vI p3, vI p4, vI p5, sl5, vR ar, vI (Int32.ofNat nn), vR b3, vU, vU, vU, vU, vU, vU, vU, vU, vU, vU, vU, vU, vU, vU, vU, vU, vU] [(.int (Int32.ofNat P0)), (.int 0), (.ref b3)])) rfl rfl (Y0.d 29 rfl)
  refine og T4 m 55 #[vI p1, vI p2, vI p3, vI p4, vI p5, sl5, vR ar, vI (Int32.ofNat nn), vR b3, vU, vU, vU, vU, vU, vU, vU, vU, vU, vU, vU, vU, vU, vU, vU, vU, vU] [] st4 ?_
  have V4 : Arv Z h4 b3 k3 .int (3 : Int32) [(.int (Int32.ofNat P0)), (.int 0), (.int 0)] (.int 0) := Arv.set Ar4 q4 S4 M4 H4 G4 rfl W4 0 rfl (Nat.le_of_ble_eq_true rfl)
  have V4' : Arv Z h4 b3 k3 .int (3 : Int32) [(.int (Int32.ofNat P0)), (.int 0), (.int 0)] (.int 0) := V4
  have F4_5 := F3_4.other W4 ne_ar_b3
  have F4_6 := Safe.wr W4 Sf3 R3.1 Sf3
  have Ol4 := Ol3.wr W4 g_b3
  have K4 : Keep h0 h4 ([] : List Addr) := K3.wr W4 (Or.inr s_b3)
  have R4 := R3.trans (CHr.wr W4 Sf3 R3.1)
  have hk4 := Nat.le_trans hk3 (Keep.of_wr W4).1
  have N4 := Fr.snoc X4 N1 g_b3
  have Y4 := Y0.nx X4
  refine oal Y4 30 rfl rfl rfl <| oic 1 Y4 31 rfl rfl <| oiN Y4 32 rfl rfl <| obp 20 Y4 33 rfl rfl <| ousr Y4 34 rfl <| oil Y4 35 rfl rfl <| orem X4 Y4 36 rfl (own_nn0 (by omega) (by omega)) ?_
  obtain ⟨P1, hP1, eP1⟩ : ∃ P, P < nn ∧ (((p3.toUInt32 >>> ((20 : Int32) &&& 31).toUInt32).toInt32) % (Int32.ofNat nn)) = Int32.ofNat P := own_pos (x := p3) (k := 20) (by decide) (by decide) (by omega) (by omega)
  refine oti (Int32.ofNat P1) (eP1) ?_
  obtain ⟨cl5, Ar5, q5, S5, M5, H5, G5⟩ := id V4'
  obtain ⟨T5, h5, X5, e5, W5, st5⟩ := stI X4 hx hZ e4 Ar5 (j := (1 : Int32)) (inb_of S5 ⟨by decide, by decide⟩) (g := (mkF m 65 #[vI p1, vI p2, vI p3, vI p4, vI p5, sl5, vR ar, vI (Int32.ofNat nn), vR b3, vU, vU, vU, vU, vU, vU, vU, vU, vU, vU, vU, vU, vU, vU, vU, vU, vU] [(.int (Int32.ofNat P1)), (.int 1), (.ref b3)])) rfl rfl (Y0.d 37 rfl)
  refine og T5 m 66 #[vI p1, vI p2, vI p3, vI p4, vI p5, sl5, vR ar, vI (Int32.ofNat nn), vR b3, vU, vU, vU, vU, vU, vU, vU, vU, vU, vU, vU, vU, vU, vU, vU, vU, vU] [] st5 ?_
  have V5 : Arv Z h5 b3 k3 .int (3 : Int32) [(.int (Int32.ofNat P0)), (.int (Int32.ofNat P1)), (.int 0)] (.int 0) := Arv.set Ar5 q5 S5 M5 H5 G5 rfl W5 1 rfl (Nat.le_of_ble_eq_true rfl)
  have V5' : Arv Z h5 b3 k3 .int (3 : Int32) [(.int (Int32.ofNat P0)), (.int (Int32.ofNat P1)), (.int 0)] (.int 0) := V5
  have F5_7 := F4_5.other W5 ne_ar_b3
  have F5_8 := Safe.wr W5 F4_6 R4.1 F4_6
  have Ol5 := Ol4.wr W5 g_b3
  have K5 : Keep h0 h5 ([] : List Addr) := K4.wr W5 (Or.inr s_b3)
  have R5 := R4.trans (CHr.wr W5 F4_6 R4.1)
  have hk5 := Nat.le_trans hk4 (Keep.of_wr W5).1
  have N5 := Fr.snoc X5 N4 g_b3
  have Y5 := Y0.nx X5
  refine oal Y5 38 rfl rfl rfl <| oic 2 Y5 39 rfl rfl <| oiN Y5 40 rfl rfl <| obp 20 Y5 41 rfl rfl <| ousr Y5 42 rfl <| oil Y5 43 rfl rfl <| orem X5 Y5 44 rfl (own_nn0 (by omega) (by omega)) ?_
  obtain ⟨P2, hP2, eP2⟩ : ∃ P, P < nn ∧ (((p4.toUInt32 >>> ((20 : Int32) &&& 31).toUInt32).toInt32) % (Int32.ofNat nn)) = Int32.ofNat P := own_pos (x := p4) (k := 20) (by decide) (by decide) (by omega) (by omega)
  refine oti (Int32.ofNat P2) (eP2) ?_
  obtain ⟨cl6, Ar6, q6, S6, M6, H6, G6⟩ := id V5'
  obtain ⟨T6, h6, X6, e6, W6, st6⟩ := stI X5 hx hZ e5 Ar6 (j := (2 : Int32)) (inb_of S6 ⟨by decide, by decide⟩) (g := (mkF m 76 #[vI p1, vI p2, vI p3, vI p4, vI p5, sl5, vR ar, vI (Int32.ofNat nn), vR b3, vU, vU, vU, vU, vU, vU, vU, vU, vU, vU, vU, vU, vU, vU, vU, vU, vU] [(.int (Int32.ofNat P2)), (.int 2), (.ref b3)])) rfl rfl (Y0.d 45 rfl)
  refine og T6 m 77 #[vI p1, vI p2, vI p3, vI p4, vI p5, sl5, vR ar, vI (Int32.ofNat nn), vR b3, vU, vU, vU, vU, vU, vU, vU, vU, vU, vU, vU, vU, vU, vU, vU, vU, vU] [] st6 ?_
  have V6 : Arv Z h6 b3 k3 .int (3 : Int32) [(.int (Int32.ofNat P0)), (.int (Int32.ofNat P1)), (.int (Int32.ofNat P2))] (.int 0) := Arv.set Ar6 q6 S6 M6 H6 G6 rfl W6 2 rfl (Nat.le_of_ble_eq_true rfl)
  have V6' : Arv Z h6 b3 k3 .int (3 : Int32) [(.int (Int32.ofNat P0)), (.int (Int32.ofNat P1)), (.int (Int32.ofNat P2))] (.int 0) := V6
  have F6_9 := F5_7.other W6 ne_ar_b3
  have Ol6 := Ol5.wr W6 g_b3
  have K6 : Keep h0 h6 ([] : List Addr) := K5.wr W6 (Or.inr s_b3)
  have R6 := R5.trans (CHr.wr W6 F5_8 R5.1)
  have hk6 := Nat.le_trans hk5 (Keep.of_wr W6).1
  have N6 := Fr.snoc X6 N5 g_b3
  have Y6 := Y0.nx X6
  refine oic 3 Y6 46 rfl rfl ?_
  obtain ⟨T7, h7, k7, X7, e7, E7, A7, st7⟩ := newP X6 hx hZ (wT 0 rfl) e6 (g := (mkF m 78 #[vI p1, vI p2, vI p3, vI p4, vI p5, sl5, vR ar, vI (Int32.ofNat nn), vR b3, vU, vU, vU, vU, vU, vU, vU, vU, vU, vU, vU, vU, vU, vU, vU, vU, vU] [(.int 3)])) rfl (Y0.d 47 rfl) rfl (by decide) (cap := 3) (by decide) (by decide) (by decide) (by decide)
  obtain ⟨b7, g7⟩ : ∃ z, z = h6.size := ⟨_, rfl⟩
  rw [← g7] at A7 st7
  refine og T7 m 80 #[vI p1, vI p2, vI p3, vI p4, vI p5, sl5, vR ar, vI (Int32.ofNat nn), vR b3, vU, vU, vU, vU, vU, vU, vU, vU, vU, vU, vU, vU, vU, vU, vU, vU, vU] [(.ref b7)] st7 ?_
  have V7 : Arv Z h7 b7 k7 .char (3 : Int32) [(.int 0), (.int 0), (.int 0)] (.int 0) := (Arv.new A7 (by decide)).pad (pad_rep [] (.int 0) 3)
  have ne_ar_b7 : ar ≠ b7 := Nat.ne_of_lt (Nat.lt_of_lt_of_le F6_9.lt (Nat.le_of_eq g7.symm))
  have ne_b3_b7 : b3 ≠ b7 := Nat.ne_of_lt (Nat.lt_of_lt_of_le V6'.lt (Nat.le_of_eq g7.symm))
  have g_b7 : n0 ≤ b7 := Nat.le_trans (Nat.le_trans Z0 K6.1) (Nat.le_of_eq g7.symm)
  have s_b7 : h0.size ≤ b7 := Nat.le_trans K6.1 (Nat.le_of_eq g7.symm)
  have Sf7 : Safe Z consts_1 s.vm h7 b7 := Safe.ext E7 R6.1 (Safe.new (Nat.le_of_eq g7.symm))
  have F7_11 := F6_9.ext E7
  have F7_13 := V6'.ext E7
  have Ol7 := Ol6.ext E7
  have K7 : Keep h0 h7 ([] : List Addr) := K6.ext E7
  have R7 := R6.trans (CHr.ext E7 R6.1)
  have hk7 := Nat.le_trans hk6 E7.1
  have Y7 := Y0.nx X7
  refine oas Y7 48 rfl #[vI p1, vI p2, vI p3, vI p4, vI p5, sl5, vR ar, vI (Int32.ofNat nn), vR b3, vR b7, vU, vU, vU, vU, vU, vU, vU, vU, vU, vU, vU, vU, vU, vU, vU, vU] rfl rfl <| oal Y7 49 rfl rfl rfl <| oic 0 Y7 50 rfl rfl <| oiN Y7 51 rfl rfl ?_
  refine oCS X7 Y7 hZ hml hown (wT 2 rfl) (wT 3 rfl) (wT 4 rfl) (wT 5 rfl) (rm_pick Gl Ol7 p2) e7 52 rfl 1 2 pd_17647939 rfl rfl rfl rfl (by decide +kernel) ?_
  intro v8 T8 L8 X8 Y8 hQ8
  obtain ⟨c_8, rfl, Nq8, eq8, pq8_0⟩ := hQ8
  show OwnH p e below _ T8 m _ _ [(.int c_8), (.int 0), (.ref b7)]
  have N8 := Fr.app N6 Nq8
  obtain ⟨cl9, Ar9, q9, S9, M9, H9, G9⟩ := id V7
  obtain ⟨T9, h9, X9, e9, W9, st9⟩ := stC X8 hx hZ eq8 Ar9 (j := (0 : Int32)) (inb_of S9 ⟨by decide, by decide⟩) (g := (mkF m 89 #[vI p1, vI p2, vI p3, vI p4, vI p5, sl5, vR ar, vI (Int32.ofNat nn), vR b3, vR b7, vU, vU, vU, vU, vU, vU, vU, vU, vU, vU, vU, vU, vU, vU, vU, vU] [(.int c_8), (.int 0), (.ref b7)])) rfl rfl (Y0.d 53 rfl)
  refine og T9 m 90 #[vI p1, vI p2, vI p3, vI p4, vI p5, sl5, vR ar, vI (Int32.ofNat nn), vR b3, vR b7, vU, vU, vU, vU, vU, vU, vU, vU, vU, vU, vU, vU, vU, vU, vU, vU] [] st9 ?_
  have V9 : Arv Z h9 b7 k7 .char (3 : Int32) [(.int (nar .char c_8)), (.int 0), (.int 0)] (.int 0) := Arv.set Ar9 q9 S9 M9 H9 G9 (fits_nar_char _) W9 0 rfl (Nat.le_of_ble_eq_true rfl)
  rw [(own_nar_w pq8_0)] at V9
  have V9' : Arv Z h9 b7 k7 .char (3 : Int32) [(.int c_8), (.int 0), (.int 0)] (.int 0) := V9
  have F9_14 := F7_11.other W9 ne_ar_b7
  have F9_16 := F7_13.other W9 ne_b3_b7
  have F9_17 := Safe.wr W9 Sf7 R7.1 Sf7
  have Ol9 := Ol7.wr W9 g_b7
  have K9 : Keep h0 h9 ([] : List Addr) := K7.wr W9 (Or.inr s_b7)
  have R9 := R7.trans (CHr.wr W9 Sf7 R7.1)
  have hk9 := Nat.le_trans hk7 (Keep.of_wr W9).1
  have N9 := Fr.snoc X9 N8 g_b7
  have Y9 := Y0.nx X9
  refine oal Y9 54 rfl rfl rfl <| oic 1 Y9 55 rfl rfl <| oiN Y9 56 rfl rfl ?_
  refine oCS X9 Y9 hZ hml hown (wT 2 rfl) (wT 3 rfl) (wT 4 rfl) (wT 5 rfl) (rm_pick Gl Ol9 p3) e9 57 rfl 1 2 pd_17647939 rfl rfl rfl rfl (by decide +kernel) ?_
  intro v10 T10 L10 X10 Y10 hQ10
  obtain ⟨c_10, rfl, Nq10, eq10, pq10_0⟩ := hQ10
  show OwnH p e below _ T10 m _ _ [(.int c_10), (.int 1), (.ref b7)]
  have N10 := Fr.app N9 Nq10
  obtain ⟨cl11, Ar11, q11, S11, M11, H11, G11⟩ := id V9'
  obtain ⟨T11, h11, X11, e11, W11, st11⟩ := stC X10 hx hZ eq10 Ar11 (j := (1 : Int32)) (inb_of S11 ⟨by decide, by decide⟩) (g := (mkF m 97 #[vI p1, vI p2, vI p3, vI p4, vI p5, sl5, vR ar, vI (Int32.ofNat nn), vR b3, vR b7, vU, vU, vU, vU, vU, vU, vU, vU, vU, vU, vU, vU, vU, vU, vU, vU] [(.int c_10), (.int 1), (.ref b7)])) rfl rfl (Y0.d 58 rfl)
  refine og T11 m 98 #[vI p1, vI p2, vI p3, vI p4, vI p5, sl5, vR ar, vI (Int32.ofNat nn), vR b3, vR b7, vU, vU, vU, vU, vU, vU, vU, vU, vU, vU, vU, vU, vU, vU, vU, vU] [] st11 ?_
  have V11 : Arv Z h11 b7 k7 .char (3 : Int32) [(.int c_8), (.int (nar .char c_10)), (.int 0)] (.int 0) := Arv.set Ar11 q11 S11 M11 H11 G11 (fits_nar_char _) W11 1 rfl (Nat.le_of_ble_eq_true rfl)
  rw [(own_nar_w pq10_0)] at V11
  have V11' : Arv Z h11 b7 k7 .char (3 : Int32) [(.int c_8), (.int c_10), (.int 0)] (.int 0) := V11
  have F11_18 := F9_14.other W11 ne_ar_b7
  have F11_20 := F9_16.other W11 ne_b3_b7
  have F11_21 := Safe.wr W11 F9_17 R9.1 F9_17
  have Ol11 := Ol9.wr W11 g_b7
  have K11 : Keep h0 h11 ([] : List Addr) := K9.wr W11 (Or.inr s_b7)
  have R11 := R9.trans (CHr.wr W11 F9_17 R9.1)
  have hk11 := Nat.le_trans hk9 (Keep.of_wr W11).1
  have N11 := Fr.snoc X11 N10 g_b7
  have Y11 := Y0.nx X11
  refine oal Y11 59 rfl rfl rfl <| oic 2 Y11 60 rfl rfl <| oiN Y11 61 rfl rfl ?_
  refine oCS X11 Y11 hZ hml hown (wT 2 rfl) (wT 3 rfl) (wT 4 rfl) (wT 5 rfl) (rm_pick Gl Ol11 p4) e11 62 rfl 1 2 pd_17647939 rfl rfl rfl rfl (by decide +kernel) ?_
  intro v12 T12 L12 X12 Y12 hQ12
  obtain ⟨c_12, rfl, Nq12, eq12, pq12_0⟩ := hQ12
  show OwnH p e below _ T12 m _ _ [(.int c_12), (.int 2), (.ref b7)]
  have N12 := Fr.app N11 Nq12
  obtain ⟨cl13, Ar13, q13, S13, M13, H13, G13⟩ := id V11'
  obtain ⟨T13, h13, X13, e13, W13, st13⟩ := stC X12 hx hZ eq12 Ar13 (j := (2 : Int32)) (inb_of S13 ⟨by decide, by decide⟩) (g := (mkF m 105 #[vI p1, vI p2, vI p3, vI p4, vI p5, sl5, vR ar, vI (Int32.ofNat nn), vR b3, vR b7, vU, vU, vU, vU, vU, vU, vU, vU, vU, vU, vU, vU, vU, vU, vU, vU] [(.int c_12), (.int 2), (.ref b7)])) rfl rfl (Y0.d 63 rfl)
  refine og T13 m 106 #[vI p1, vI p2, vI p3, vI p4, vI p5, sl5, vR ar, vI (Int32.ofNat nn), vR b3, vR b7, vU, vU, vU, vU, vU, vU, vU, vU, vU, vU, vU, vU, vU, vU, vU, vU] [] st13 ?_
  have V13 : Arv Z h13 b7 k7 .char (3 : Int32) [(.int c_8), (.int c_10), (.int (nar .char c_12))] (.int 0) := Arv.set Ar13 q13 S13 M13 H13 G13 (fits_nar_char _) W13 2 rfl (Nat.le_of_ble_eq_true rfl)
  rw [(own_nar_w pq12_0)] at V13
  have V13' : Arv Z h13 b7 k7 .char (3 : Int32) [(.int c_8), (.int c_10), (.int c_12)] (.int 0) := V13
  have F13_22 := F11_18.other W13 ne_ar_b7
  have F13_24 := F11_20.other W13 ne_b3_b7
  have Ol13 := Ol11.wr W13 g_b7
  have K13 : Keep h0 h13 ([] : List Addr) := K11.wr W13 (Or.inr s_b7)
  have R13 := R11.trans (CHr.wr W13 F11_21 R11.1)
  have hk13 := Nat.le_trans hk11 (Keep.of_wr W13).1
  have N13 := Fr.snoc X13 N12 g_b7
  have Y13 := Y0.nx X13
  refine oal Y13 64 rfl rfl rfl <| oal Y13 65 rfl rfl rfl <| oic 0 Y13 66 rfl rfl <| oial X13 Y13 hZ e13 F13_24 67 rfl (by decide) rfl <| oal Y13 68 rfl rfl rfl <| oic 0 Y13 69 rfl rfl <| ocal X13 Y13 hZ e13 V13' 70 rfl (by decide) rfl ?_
  obtain ⟨cl16, Ar16, q16, S16, M16, H16, G16⟩ := id F13_22
  obtain ⟨T16, h16, X16, e16, W16, st16⟩ := stC X13 hx hZ e13 Ar16 (j := (Int32.ofNat P0)) (inb_of S16 (own_map_nn (cs := (List.replicate nn (0 : Int32))) (by simp only [List.length_set, List.length_replicate]) hn3 hP0).1) (g := (mkF m 116 #[vI p1, vI p2, vI p3, vI p4, vI p5, sl5, vR ar, vI (Int32.ofNat nn), vR b3, vR b7, vU, vU, vU, vU, vU, vU, vU, vU, vU, vU, vU, vU, vU, vU, vU, vU] [(.int c_8), (.int (Int32.ofNat P0)), (.ref ar)])) rfl rfl (Y0.d 71 rfl)
  refine og T16 m 117 #[vI p1, vI p2, vI p3, vI p4, vI p5, sl5, vR ar, vI (Int32.ofNat nn), vR b3, vR b7, vU, vU, vU, vU, vU, vU, vU, vU, vU, vU, vU, vU, vU, vU, vU, vU] [] st16 ?_
  have V16 : Arv Z h16 ar ka .char (Int32.ofNat nn) (((List.replicate nn (0 : Int32)).map Value.int).set P0 (.int (nar .char c_8))) (.int 0) := Arv.set Ar16 q16 S16 M16 H16 G16 (fits_nar_char _) W16 _ (own_nat (by omega)).2.2 (by simp only [List.length_map, List.length_set, List.length_replicate]; exact hP0)
  have V16' : Arv Z h16 ar ka .char (Int32.ofNat nn) (((List.replicate nn (0 : Int32)).set P0 c_8).map Value.int) (.int 0) := by
   rw [own_nar_w pq8_0] at V16
   rw [List.map_set]; exact V16
  have F16_27 := F13_24.other W16 (Ne.symm ne_ar_b3)
  have F16_29 := V13'.other W16 (Ne.symm ne_ar_b7)
  have Ol16 := Ol13.wr W16 F1_2
  have K16 : Keep h0 h16 ([] : List Addr) := K13.wr W16 (Or.inr F1_3)
  have R16 := R13.trans (CHr.wr W16 (Safe.arv (vm := s.vm) hZ.alike F13_22 (by decide)) R13.1)
  have hk16 := Nat.le_trans hk13 (Keep.of_wr W16).1
  have N16 := Fr.snoc X16 N13 F1_2
  have Y16 := Y0.nx X16
  refine oal Y16 72 rfl rfl rfl <| oal Y16 73 rfl rfl rfl <| oic 1 Y16 74 rfl rfl <| oial X16 Y16 hZ e16 F16_27 75 rfl (by decide) rfl <| oal Y16 76 rfl rfl rfl <| oic 1 Y16 77 rfl rfl <| ocal X16 Y16 hZ e16 F16_29 78 rfl (by decide) rfl ?_
  obtain ⟨cl19, Ar19, q19, S19, M19, H19, G19⟩ := id V16'
  obtain ⟨T19, h19, X19, e19, W19, st19⟩ := stC X16 hx hZ e16 Ar19 (j := (Int32.ofNat P1)) (inb_of S19 (own_map_nn (cs := ((List.replicate nn (0 : Int32)).set P0 c_8)) (by simp only [List.length_set, List.length_replicate]) hn3 hP1).1) (g := (mkF m 127 #[vI p1, vI p2, vI p3, vI p4, vI p5, sl5, vR ar, vI (Int32.ofNat nn), vR b3, vR b7, vU, vU, vU, vU, vU, vU, vU, vU, vU, vU, vU, vU, vU, vU, vU, vU] [(.int c_10), (.int (Int32.ofNat P1)), (.ref ar)])) rfl rfl (Y0.d 79 rfl)
  refine og T19 m 128 #[vI p1, vI p2, vI p3, vI p4, vI p5, sl5, vR ar, vI (Int32.ofNat nn), vR b3, vR b7, vU, vU, vU, vU, vU, vU, vU, vU, vU, vU, vU, vU, vU, vU, vU, vU] [] st19 ?_
  have V19 : Arv Z h19 ar ka .char (Int32.ofNat nn) ((((List.replicate nn (0 : Int32)).set P0 c_8).map Value.int).set P1 (.int (nar .char c_10))) (.int 0) := Arv.set Ar19 q19 S19 M19 H19 G19 (fits_nar_char _) W19 _ (own_nat (by omega)).2.2 (by simp only [List.length_map, List.length_set, List.length_replicate]; exact hP1)
  have V19' : Arv Z h19 ar ka .char (Int32.ofNat nn) ((((List.replicate nn (0 : Int32)).set P0 c_8).set P1 c_10).map Value.int) (.int 0) := by
   rw [own_nar_w pq10_0] at V19
   rw [List.map_set]; exact V19
  have F19_31 := F16_27.other W19 (Ne.symm ne_ar_b3)
  have F19_33 := F16_29.other W19 (Ne.symm ne_ar_b7)
  have Ol19 := Ol16.wr W19 F1_2
  have K19 : Keep h0 h19 ([] : List Addr) := K16.wr W19 (Or.inr F1_3)
  have R19 := R16.trans (CHr.wr W19 (Safe.arv (vm := s.vm) hZ.alike V16' (by decide)) R16.1)
  have hk19 := Nat.le_trans hk16 (Keep.of_wr W19).1
  have N19 := Fr.snoc X19 N16 F1_2
  have Y19 := Y0.nx X19
  refine oal Y19 80 rfl rfl rfl <| oal Y19 81 rfl rfl rfl <| oic 2 Y19 82 rfl rfl <| oial X19 Y19 hZ e19 F19_31 83 rfl (by decide) rfl <| oal Y19 84 rfl rfl rfl <| oic 2 Y19 85 rfl rfl <| ocal X19 Y19 hZ e19 F19_33 86 rfl (by decide) rfl ?_
  obtain ⟨cl22, Ar22, q22, S22, M22, H22, G22⟩ := id V19'
  obtain ⟨T22, h22, X22, e22, W22, st22⟩ := stC X19 hx hZ e19 Ar22 (j := (Int32.ofNat P2)) (inb_of S22 (own_map_nn (cs := (((List.replicate nn (0 : Int32)).set P0 c_8).set P1 c_10)) (by simp only [List.length_set, List.length_replicate]) hn3 hP2).1) (g := (mkF m 138 #[vI p1, vI p2, vI p3, vI p4, vI p5, sl5, vR ar, vI (Int32.ofNat nn), vR b3, vR b7, vU, vU, vU, vU, vU, vU, vU, vU, vU, vU, vU, vU, vU, vU, vU, vU] [(.int c_12), (.int (Int32.ofNat P2)), (.ref ar)])) rfl rfl (Y0.d 87 rfl)
  refine og T22 m 139 #[vI p1, vI p2, vI p3, vI p4, vI p5, sl5, vR ar, vI (Int32.ofNat nn), vR b3, vR b7, vU, vU, vU, vU, vU, vU, vU, vU, vU, vU, vU, vU, vU, vU, vU, vU] [] st22 ?_
  have V22 : Arv Z h22 ar ka .char (Int32.ofNat nn) (((((List.replicate nn (0 : Int32)).set P0 c_8).set P1 c_10).map Value.int).set P2 (.int (nar .char c_12))) (.int 0) := Arv.set Ar22 q22 S22 M22 H22 G22 (fits_nar_char _) W22 _ (own_nat (by omega)).2.2 (by simp only [List.length_map, List.length_set, List.length_replicate]; exact hP2)
  have V22' : Arv Z h22 ar ka .char (Int32.ofNat nn) (((((List.replicate nn (0 : Int32)).set P0 c_8).set P1 c_10).set P2 c_12).map Value.int) (.int 0) := by
   rw [own_nar_w pq12_0] at V22
   rw [List.map_set]; exact V22
  have F22_35 := F19_31.other W22 (Ne.symm ne_ar_b3)
  have F22_37 := F19_33.other W22 (Ne.symm ne_ar_b7)
  have Ol22 := Ol19.wr W22 F1_2
  have K22 : Keep h0 h22 ([] : List Addr) := K19.wr W22 (Or.inr F1_3)
  have R22 := R19.trans (CHr.wr W22 (Safe.arv (vm := s.vm) hZ.alike V19' (by decide)) R19.1)
  have hk22 := Nat.le_trans hk19 (Keep.of_wr W22).1
  have N22 := Fr.snoc X22 N19 F1_2
  obtain ⟨bod, hbd⟩ : ∃ z, z = ownBody nn P0 P1 P2 c_8 c_10 c_12 := ⟨_, rfl⟩
  have hBod : OwnBody bod nn P0 P1 P2 c_8 c_10 c_12 := hbd ▸ own_body hP0 hP1 hP2
  have hBl : bod.length = nn := hBod.len
  have hrgB : OwnRg bod := hbd ▸ own_body_rg pq8_0 pq10_0 pq12_0
  have hat : ∀ i, ownAt bod i = ownSel P0 P1 P2 c_8 c_10 c_12 i := fun i => hBod.at_ i
  have Vb22 : Arv Z h22 ar ka .char (Int32.ofNat nn) (bod.map Value.int) (.int 0) := by rw [hbd]; exact V22'
  have Y22 := Y0.nx X22
  refine oiN Y22 88 rfl rfl ?_
  refine og T22 m 142 #[vI p1, vI p2, vI p3, vI p4, vI p5, sl5, vR ar, vI (Int32.ofNat nn), vR b3, vR b7, vU, vU, vU, vU, vU, vU, vU, vU, vU, vU, vU, vU, vU, vU, vU, vU] [(.int 2147483647), (.int p1)] (fun tgt kgo => ?_) ?_
  ·
   refine X22.ldcInt hx hown (mvT hZ (wT 6 rfl)) (g := (mkF m 140 #[vI p1, vI p2, vI p3, vI p4, vI p5, sl5, vR ar, vI (Int32.ofNat nn), vR b3, vR b7, vU, vU, vU, vU, vU, vU, vU, vU, vU, vU, vU, vU, vU, vU, vU, vU] [(.int p1)])) rfl (Y0.d 89 rfl) _ ?_
   exact kgo
  refine oand Y22 90 rfl <| oil Y22 91 rfl rfl <| oic 2 Y22 92 rfl rfl <| oadd Y22 93 rfl <| orem X22 Y22 94 rfl (own_nn2 (by omega)) <| oic 1 Y22 95 rfl rfl <| osub Y22 96 rfl ?_
  obtain ⟨Q, hQ, eQ⟩ : ∃ Q, Q < nn + 2 ∧ (((p1 &&& (2147483647 : Int32)) % ((Int32.ofNat nn) + (2 : Int32))) - (1 : Int32)) = ownPred Q := own_place (p := p1) (by omega)
  refine oti (ownPred Q) (eQ) <| ois Y22 97 rfl #[vI p1, vI p2, vI p3, vI p4, vI p5, sl5, vR ar, vI (Int32.ofNat nn), vR b3, vR b7, vI (ownPred Q), vU, vU, vU, vU, vU, vU, vU, vU, vU, vU, vU, vU, vU, vU, vU] rfl ?_
  obtain ⟨T23, h23, X23, e23, E23, A23, D23, U23, st23⟩ := newO X22 hx hZ hown (wT 7 rfl) (wT 8 rfl) (wT 9 rfl) e22 (g := (mkF m 152 #[vI p1, vI p2, vI p3, vI p4, vI p5, sl5, vR ar, vI (Int32.ofNat nn), vR b3, vR b7, vI (ownPred Q), vU, vU, vU, vU, vU, vU, vU, vU, vU, vU, vU, vU, vU, vU, vU] [])) rfl (Y0.d 98 rfl) (by decide) (by decide)
  obtain ⟨b23, g23⟩ : ∃ z, z = h22.size := ⟨_, rfl⟩
  rw [← g23] at A23 D23 U23 st23
  refine og T23 m 155 #[vI p1, vI p2, vI p3, vI p4, vI p5, sl5, vR ar, vI (Int32.ofNat nn), vR b3, vR b7, vI (ownPred Q), vU, vU, vU, vU, vU, vU, vU, vU, vU, vU, vU, vU, vU, vU, vU] [(.ref b23)] st23 ?_
  have ne_b3_b23 : b3 ≠ b23 := Nat.ne_of_lt (Nat.lt_of_lt_of_le F22_35.lt (Nat.le_of_eq g23.symm))
  have ne_b7_b23 : b7 ≠ b23 := Nat.ne_of_lt (Nat.lt_of_lt_of_le F22_37.lt (Nat.le_of_eq g23.symm))
  have g_b23 : n0 ≤ b23 := Nat.le_trans (Nat.le_trans Z0 K22.1) (Nat.le_of_eq g23.symm)
  have s_b23 : h0.size ≤ b23 := Nat.le_trans K22.1 (Nat.le_of_eq g23.symm)
  have Sf23 : Safe Z consts_1 s.vm h23 b23 := Safe.ext E23 R22.1 (Safe.new (Nat.le_of_eq g23.symm))
  have F23_38 := Vb22.ext E23
  have F23_40 := F22_35.ext E23
  have F23_42 := F22_37.ext E23
  have Ol23 := Ol22.ext E23
  have K23 : Keep h0 h23 ([] : List Addr) := K22.ext E23
  have R23 := R22.trans (CHr.ext E23 R22.1)
  have hk23 := Nat.le_trans hk22 E23.1
  have F23_43 : Fld Z h23 b23 "java/lang/String" "coder" "B" (.int 0) := D23 (Or.inr (wT 33 rfl)) (ty := .byte) (by decide)
  have F23_44 : Fld Z h23 b23 "java/lang/String" "value" "[B" .null := D23 (Or.inr (wT 35 rfl)) (ty := (.array .byte)) (by decide)
  have Y23 := Y0.nx X23
  refine odup Y23 99 rfl rfl <| oal Y23 100 rfl rfl rfl ?_
  have s161 : ∀ (tS : Addr) (kS : ClassId) (nS : Int32) (vsS : List Value) (cdS : Int32) (T24 : State) (h24 : Heap) (L24 : List Loc) (X24 : Stand p l e room_1 (s.setVm s.vm) m #[(.int p1), (.int p2), (.int p3), (.int p4), (.int p5)] below meth c T24 L24 6 1210) (e24 : T24.heap = h24) (Ol24 : Old Z n0 h24) (K24 : Keep h0 h24 ([] : List Addr)) (N24 : Fr n0 L24) (R24 : CHr Z consts_1 s.vm h0 s.vm h24) (hk24 : h0.size ≤ h24.size) (F24_45 : Exa Z h24 b23 "java/lang/String") (F24_46 : Fld Z h24 b23 "java/lang/String" "value" "[B" (.ref tS)) (F24_47 : Fld Z h24 b23 "java/lang/String" "coder" "B" (.int cdS)) (F24_48 : Arv Z h24 tS kS .byte nS vsS (.int 0)) (F24_49 : Arv Z h24 b3 k3 .int (3 : Int32) [(.int (Int32.ofNat P0)), (.int (Int32.ofNat P1)), (.int (Int32.ofNat P2))] (.int 0)) (F24_50 : Arv Z h24 b7 k7 .char (3 : Int32) [(.int c_8), (.int c_10), (.int c_12)] (.int 0)) (hoS : OwnStr bod cdS nS vsS), OwnGoes p e below (fun o U' => ∃ v L, o = .returned v ∧ Q_law Z p1 p2 p3 p4 p5 h0 n0 v U'.heap L ∧ CHr Z consts_1 s.vm s.heap U'.vm U'.heap ∧ ReturnedEndW s o U' L room_1.cells room_1.slots) T24 (mkF m 161 #[vI p1, vI p2, vI p3, vI p4, vI p5, sl5, vR ar, vI (Int32.ofNat nn), vR b3, vR b7, vI (ownPred Q), vU, vU, vU, vU, vU, vU, vU, vU, vU, vU, vU, vU, vU, vU, vU] [(.ref b23)]) := by
   intro tS kS nS vsS cdS T24 h24 L24 X24 e24 Ol24 K24 N24 R24 hk24 F24_45 F24_46 F24_47 F24_48 F24_49 F24_50 hoS
   have Y24 := Y0.nx X24
   refine oil Y24 102 rfl rfl ?_
   obtain ⟨_, _, ⟨T25, L25, k25, n25⟩, -, X25, Si25, Gr25, ⟨Lc25, hQ25, l25, y25, z25, Rc25⟩, st25⟩ := callSS X24 hx (y := mN62) hown (mvT hZ (wT 36 rfl)) (mvT hZ (wT 37 rfl)) (mvT hZ (wT 38 rfl)) (mvT hZ (wT 39 rfl)) (by decide) (backOfSH (W := 0) (rm_around l Z a0 hw [] wG1 wG3 cx hEL h24 n0 Ol24 b23 cdS tS kS nS vsS bod (ownPred Q) (Q - 1) F24_45 F24_46 F24_47 F24_48 hoS (by rw [hBl]; exact hn3) (by rw [hBl]; omega) own_pa) hZ (wT 39 rfl) (wT 38 rfl) (by decide) (by decide) hEL R24.1) (g := (mkF m 163 #[vI p1, vI p2, vI p3, vI p4, vI p5, sl5, vR ar, vI (Int32.ofNat nn), vR b3, vR b7, vI (ownPred Q), vU, vU, vU, vU, vU, vU, vU, vU, vU, vU, vU, vU, vU, vU, vU] [(.int (ownPred Q)), (.ref b23)])) rfl (by rw [hml]; rfl) (argsL := [(.ref b23), (.int (ownPred Q))]) (rest := []) (lenOf pd_60179436 rfl) rfl (Nat.le_of_eq rfl) (Y0.d 103 rfl) (fun _ _ => ⟨rfl, e24, (by decide : 6 + 8 ≤ _), (by decide : 1210 + 1576 ≤ _)⟩)
   dsimp only [Pt.U, Pt.locs, Pt.cells, Pt.slots] at X25 l25 y25 z25 st25 hQ25 Si25 Gr25 Rc25
   subst l25 y25 z25
   obtain ⟨x_25, t_25, k_25, N_25, vs_25, cd_25, R_25, rfl, Nq25, Kq25, fq25_0, fq25_1, fq25_2, fq25_3, pq25_0, pq25_1⟩ := hQ25
   refine OwnGoes.tr (T' := T25) (g' := (mkF m 166 #[vI p1, vI p2, vI p3, vI p4, vI p5, sl5, vR ar, vI (Int32.ofNat nn), vR b3, vR b7, vI (ownPred Q), vU, vU, vU, vU, vU, vU, vU, vU, vU, vU, vU, vU, vU, vU, vU] [(.ref x_25)])) st25 ?_
   have N25 := Fr.app N24 Nq25
   have gz25 : h24.size ≤ T25.heap.size := Rc25.2.1
   obtain ⟨X25, hS25, hZ25, ho25⟩ := rebS hS0 hk24 X25 Si25 gz25 hZ hown
   have F25_55 := F24_49.keep Kq25 nin0
   have F25_56 := F24_50.keep Kq25 nin0
   have Ol25 := Ol24.keep Kq25 all0
   have K25 : Keep h0 T25.heap ([] : List Addr) := K24.trans Kq25 all0
   have R25 := R24.trans Rc25
   have Y25 := Y0.nx X25
   refine oas Y25 104 rfl #[vI p1, vI p2, vI p3, vI p4, vI p5, sl5, vR ar, vI (Int32.ofNat nn), vR b3, vR b7, vI (ownPred Q), vR x_25, vU, vU, vU, vU, vU, vU, vU, vU, vU, vU, vU, vU, vU, vU] rfl rfl ?_
   obtain ⟨lv0, hlv0⟩ : ∃ z : Bool, z = (decide (P0 ≠ P1) && decide (P0 ≠ P2)) := ⟨_, rfl⟩
   have s195 : ∀ (T26 : State) (L26 : List Loc) (X26 : Stand p l e room_1 (s.setVm T25.vm) m #[(.int p1), (.int p2), (.int p3), (.int p4), (.int p5)] below meth c T26 L26 14 2786) (e26 : T26.heap = T25.heap) (N26 : Fr n0 L26), OwnGoes p e below (fun o U' => ∃ v L, o = .returned v ∧ Q_law Z p1 p2 p3 p4 p5 h0 n0 v U'.heap L ∧ CHr Z consts_1 s.vm s.heap U'.vm U'.heap ∧ ReturnedEndW s o U' L room_1.cells room_1.slots) T26 (mkF m 195 #[vI p1, vI p2, vI p3, vI p4, vI p5, sl5, vR ar, vI (Int32.ofNat nn), vR b3, vR b7, vI (ownPred Q), vR x_25, vU, vU, vU, vU, vU, vU, vU, vU, vU, vU, vU, vU, vU, vU] [(.int (ownI lv0))]) := by
    intro T26 L26 X26 e26 N26
    have Y26 := Y0.nx X26
    refine ois Y26 122 rfl #[vI p1, vI p2, vI p3, vI p4, vI p5, sl5, vR ar, vI (Int32.ofNat nn), vR b3, vR b7, vI (ownPred Q), vR x_25, vI (ownI lv0), vU, vU, vU, vU, vU, vU, vU, vU, vU, vU, vU, vU, vU] rfl ?_
    obtain ⟨lv1, hlv1⟩ : ∃ z : Bool, z = (decide (P1 ≠ P2)) := ⟨_, rfl⟩
    have s213 : ∀ (T27 : State) (L27 : List Loc) (X27 : Stand p l e room_1 (s.setVm T25.vm) m #[(.int p1), (.int p2), (.int p3), (.int p4), (.int p5)] below meth c T27 L27 14 2786) (e27 : T27.heap = T25.heap) (N27 : Fr n0 L27), OwnGoes p e below (fun o U' => ∃ v L, o = .returned v ∧ Q_law Z p1 p2 p3 p4 p5 h0 n0 v U'.heap L ∧ CHr Z consts_1 s.vm s.heap U'.vm U'.heap ∧ ReturnedEndW s o U' L room_1.cells room_1.slots) T27 (mkF m 213 #[vI p1, vI p2, vI p3, vI p4, vI p5, sl5, vR ar, vI (Int32.ofNat nn), vR b3, vR b7, vI (ownPred Q), vR x_25, vI (ownI lv0), vU, vU, vU, vU, vU, vU, vU, vU, vU, vU, vU, vU, vU] [(.int (ownI lv1))]) := by
     intro T27 L27 X27 e27 N27
     have Y27 := Y0.nx X27
     refine ois Y27 133 rfl #[vI p1, vI p2, vI p3, vI p4, vI p5, sl5, vR ar, vI (Int32.ofNat nn), vR b3, vR b7, vI (ownPred Q), vR x_25, vI (ownI lv0), vI (ownI lv1), vU, vU, vU, vU, vU, vU, vU, vU, vU, vU, vU, vU] rfl <| oic 3 Y27 134 rfl rfl ?_
     obtain ⟨T28, h28, k28, X28, e28, E28, A28, st28⟩ := newP X27 hx hZ25 (wT 170 rfl) e27 (g := (mkF m 216 #[vI p1, vI p2, vI p3, vI p4, vI p5, sl5, vR ar, vI (Int32.ofNat nn), vR b3, vR b7, vI (ownPred Q), vR x_25, vI (ownI lv0), vI (ownI lv1), vU, vU, vU, vU, vU, vU, vU, vU, vU, vU, vU, vU] [(.int 3)])) rfl (Y0.d 135 rfl) rfl (by decide) (cap := 3) (by decide) (by decide) (by decide) (by decide)
     obtain ⟨b28, g28⟩ : ∃ z, z = T25.heap.size := ⟨_, rfl⟩
     rw [← g28] at A28 st28
     refine og T28 m 218 #[vI p1, vI p2, vI p3, vI p4, vI p5, sl5, vR ar, vI (Int32.ofNat nn), vR b3, vR b7, vI (ownPred Q), vR x_25, vI (ownI lv0), vI (ownI lv1), vU, vU, vU, vU, vU, vU, vU, vU, vU, vU, vU, vU] [(.ref b28)] st28 ?_
     have V28 : Arv Z h28 b28 k28 .boolean (3 : Int32) [(.int 0), (.int 0), (.int 0)] (.int 0) := (Arv.new A28 (by decide)).pad (pad_rep [] (.int 0) 3)
     have ne_b3_b28 : b3 ≠ b28 := Nat.ne_of_lt (Nat.lt_of_lt_of_le F25_55.lt (Nat.le_of_eq g28.symm))
     have ne_b7_b28 : b7 ≠ b28 := Nat.ne_of_lt (Nat.lt_of_lt_of_le F25_56.lt (Nat.le_of_eq g28.symm))
     have ne_x_25_b28 : x_25 ≠ b28 := Nat.ne_of_lt (Nat.lt_of_lt_of_le fq25_0.lt (Nat.le_of_eq g28.symm))
     have ne_t_25_b28 : t_25 ≠ b28 := Nat.ne_of_lt (Nat.lt_of_lt_of_le fq25_3.lt (Nat.le_of_eq g28.symm))
     have g_b28 : n0 ≤ b28 := Nat.le_trans (Nat.le_trans Z0 K25.1) (Nat.le_of_eq g28.symm)
     have s_b28 : h0.size ≤ b28 := Nat.le_trans K25.1 (Nat.le_of_eq g28.symm)
     have Sf28 : Safe Z consts_1 T25.vm h28 b28 := Safe.ext E28 R25.1 (Safe.new (Nat.le_of_eq g28.symm))
     have F28_61 := F25_55.ext E28
     have F28_62 := F25_56.ext E28
     have F28_63 := fq25_0.ext E28
     have F28_64 := fq25_1.ext E28
     have F28_65 := fq25_2.ext E28
     have F28_66 := fq25_3.ext E28
     have Ol28 := Ol25.ext E28
     have K28 : Keep h0 h28 ([] : List Addr) := K25.ext E28
     have R28 := R25.trans (CHr.ext E28 R25.1)
     have hk28 := Nat.le_trans (Nat.le_refl _) E28.1
     have Y28 := Y0.nx X28
     refine oas Y28 136 rfl #[vI p1, vI p2, vI p3, vI p4, vI p5, sl5, vR ar, vI (Int32.ofNat nn), vR b3, vR b7, vI (ownPred Q), vR x_25, vI (ownI lv0), vI (ownI lv1), vR b28, vU, vU, vU, vU, vU, vU, vU, vU, vU, vU, vU] rfl rfl <| oic 3 Y28 137 rfl rfl ?_
     obtain ⟨T29, h29, k29, X29, e29, E29, A29, st29⟩ := newP X28 hx hZ25 (wT 170 rfl) e28 (g := (mkF m 221 #[vI p1, vI p2, vI p3, vI p4, vI p5, sl5, vR ar, vI (Int32.ofNat nn), vR b3, vR b7, vI (ownPred Q), vR x_25, vI (ownI lv0), vI (ownI lv1), vR b28, vU, vU, vU, vU, vU, vU, vU, vU, vU, vU, vU] [(.int 3)])) rfl (Y0.d 138 rfl) rfl (by decide) (cap := 3) (by decide) (by decide) (by decide) (by decide)
     obtain ⟨b29, g29⟩ : ∃ z, z = h28.size := ⟨_, rfl⟩
     rw [← g29] at A29 st29
     refine og T29 m 223 #[vI p1, vI p2, vI p3, vI p4, vI p5, sl5, vR ar, vI (Int32.ofNat nn), vR b3, vR b7, vI (ownPred Q), vR x_25, vI (ownI lv0), vI (ownI lv1), vR b28, vU, vU, vU, vU, vU, vU, vU, vU, vU, vU, vU] [(.ref b29)] st29 ?_
     have V29 : Arv Z h29 b29 k29 .boolean (3 : Int32) [(.int 0), (.int 0), (.int 0)] (.int 0) := (Arv.new A29 (by decide)).pad (pad_rep [] (.int 0) 3)
     have ne_b3_b29 : b3 ≠ b29 := Nat.ne_of_lt (Nat.lt_of_lt_of_le F28_61.lt (Nat.le_of_eq g29.symm))
     have ne_b7_b29 : b7 ≠ b29 := Nat.ne_of_lt (Nat.lt_of_lt_of_le F28_62.lt (Nat.le_of_eq g29.symm))
     have ne_x_25_b29 : x_25 ≠ b29 := Nat.ne_of_lt (Nat.lt_of_lt_of_le F28_63.lt (Nat.le_of_eq g29.symm))
     have ne_t_25_b29 : t_25 ≠ b29 := Nat.ne_of_lt (Nat.lt_of_lt_of_le F28_66.lt (Nat.le_of_eq g29.symm))
     have ne_b28_b29 : b28 ≠ b29 := Nat.ne_of_lt (Nat.lt_of_lt_of_le V28.lt (Nat.le_of_eq g29.symm))
     have g_b29 : n0 ≤ b29 := Nat.le_trans (Nat.le_trans Z0 K28.1) (Nat.le_of_eq g29.symm)
     have s_b29 : h0.size ≤ b29 := Nat.le_trans K28.1 (Nat.le_of_eq g29.symm)
     have Sf29 : Safe Z consts_1 T25.vm h29 b29 := Safe.ext E29 R28.1 (Safe.new (Nat.le_of_eq g29.symm))
     have F29_71 := F28_61.ext E29
     have F29_72 := F28_62.ext E29
     have F29_73 := F28_63.ext E29
     have F29_74 := F28_64.ext E29
     have F29_75 := F28_65.ext E29
     have F29_76 := F28_66.ext E29
     have F29_77 := Safe.ext E29 R28.1 Sf28
     have F29_78 := V28.ext E29
     have Ol29 := Ol28.ext E29
     have K29 : Keep h0 h29 ([] : List Addr) := K28.ext E29
     have R29 := R28.trans (CHr.ext E29 R28.1)
     have hk29 := Nat.le_trans hk28 E29.1
     have Y29 := Y0.nx X29
     refine oas Y29 139 rfl #[vI p1, vI p2, vI p3, vI p4, vI p5, sl5, vR ar, vI (Int32.ofNat nn), vR b3, vR b7, vI (ownPred Q), vR x_25, vI (ownI lv0), vI (ownI lv1), vR b28, vR b29, vU, vU, vU, vU, vU, vU, vU, vU, vU, vU] rfl rfl <| oal Y29 140 rfl rfl rfl <| oic 0 Y29 141 rfl rfl ?_
     obtain ⟨w0, hw0⟩ : ∃ z : Bool, z = (lv0 && ownWs c_8) := ⟨_, rfl⟩
     have s248 : ∀ (T30 : State) (L30 : List Loc) (X30 : Stand p l e room_1 (s.setVm T25.vm) m #[(.int p1), (.int p2), (.int p3), (.int p4), (.int p5)] below meth c T30 L30 16 2792) (e30 : T30.heap = h29) (N30 : Fr n0 L30), OwnGoes p e below (fun o U' => ∃ v L, o = .returned v ∧ Q_law Z p1 p2 p3 p4 p5 h0 n0 v U'.heap L ∧ CHr Z consts_1 s.vm s.heap U'.vm U'.heap ∧ ReturnedEndW s o U' L room_1.cells room_1.slots) T30 (mkF m 248 #[vI p1, vI p2, vI p3, vI p4, vI p5, sl5, vR ar, vI (Int32.ofNat nn), vR b3, vR b7, vI (ownPred Q), vR x_25, vI (ownI lv0), vI (ownI lv1), vR b28, vR b29, vU, vU, vU, vU, vU, vU, vU, vU, vU, vU] [(.int (ownI w0)), (.int 0), (.ref b28)]) := by
      intro T30 L30 X30 e30 N30
      obtain ⟨cl31, Ar31, q31, S31, M31, H31, G31⟩ := id F29_78
      obtain ⟨T31, h31, X31, e31, W31, st31⟩ := stZ X30 hx hZ25 e30 Ar31 (j := (0 : Int32)) (inb_of S31 ⟨by decide, by decide⟩) (g := (mkF m 248 #[vI p1, vI p2, vI p3, vI p4, vI p5, sl5, vR ar, vI (Int32.ofNat nn), vR b3, vR b7, vI (ownPred Q), vR x_25, vI (ownI lv0), vI (ownI lv1), vR b28, vR b29, vU, vU, vU, vU, vU, vU, vU, vU, vU, vU] [(.int (ownI w0)), (.int 0), (.ref b28)])) rfl rfl (Y0.d 152 rfl)
      refine og T31 m 249 #[vI p1, vI p2, vI p3, vI p4, vI p5, sl5, vR ar, vI (Int32.ofNat nn), vR b3, vR b7, vI (ownPred Q), vR x_25, vI (ownI lv0), vI (ownI lv1), vR b28, vR b29, vU, vU, vU, vU, vU, vU, vU, vU, vU, vU] [] st31 ?_
      have V31 : Arv Z h31 b28 k28 .boolean (3 : Int32) [(.int (nar .boolean (ownI w0))), (.int 0), (.int 0)] (.int 0) := Arv.set Ar31 q31 S31 M31 H31 G31 (fits_nar_bool _) W31 0 rfl (Nat.le_of_ble_eq_true rfl)
      rw [(own_nar_i _)] at V31
      have V31' : Arv Z h31 b28 k28 .boolean (3 : Int32) [(.int (ownI w0)), (.int 0), (.int 0)] (.int 0) := V31
      have F31_83 := F29_71.other W31 ne_b3_b28
      have F31_84 := F29_72.other W31 ne_b7_b28
      have F31_85 := F29_73.wr W31
      have F31_86 := F29_74.other W31 (Or.inl ne_x_25_b28)
      have F31_87 := F29_75.other W31 (Or.inl ne_x_25_b28)
      have F31_88 := F29_76.other W31 ne_t_25_b28
      have F31_89 := Safe.wr W31 F29_77 R29.1 F29_77
      have F31_90 := Safe.wr W31 F29_77 R29.1 Sf29
      have F31_91 := V29.other W31 (Ne.symm ne_b28_b29)
      have Ol31 := Ol29.wr W31 g_b28
      have K31 : Keep h0 h31 ([] : List Addr) := K29.wr W31 (Or.inr s_b28)
      have R31 := R29.trans (CHr.wr W31 F29_77 R29.1)
      have hk31 := Nat.le_trans hk29 (Keep.of_wr W31).1
      have N31 := Fr.snoc X31 N30 g_b28
      have Y31 := Y0.nx X31
      refine oal Y31 153 rfl rfl rfl <| oic 0 Y31 154 rfl rfl ?_
      obtain ⟨v0, hv0⟩ : ∃ z : Bool, z = (lv0 && !ownWs c_8) := ⟨_, rfl⟩
      have s272 : ∀ (T32 : State) (L32 : List Loc) (X32 : Stand p l e room_1 (s.setVm T25.vm) m #[(.int p1), (.int p2), (.int p3), (.int p4), (.int p5)] below meth c T32 L32 16 2792) (e32 : T32.heap = h31) (N32 : Fr n0 L32), OwnGoes p e below (fun o U' => ∃ v L, o = .returned v ∧ Q_law Z p1 p2 p3 p4 p5 h0 n0 v U'.heap L ∧ CHr Z consts_1 s.vm s.heap U'.vm U'.heap ∧ ReturnedEndW s o U' L room_1.cells room_1.slots) T32 (mkF m 272 #[vI p1, vI p2, vI p3, vI p4, vI p5, sl5, vR ar, vI (Int32.ofNat nn), vR b3, vR b7, vI (ownPred Q), vR x_25, vI (ownI lv0), vI (ownI lv1), vR b28, vR b29, vU, vU, vU, vU, vU, vU, vU, vU, vU, vU] [(.int (ownI v0)), (.int 0), (.ref b29)]) := by
       intro T32 L32 X32 e32 N32
       obtain ⟨cl33, Ar33, q33, S33, M33, H33, G33⟩ := id F31_91
       obtain ⟨T33, h33, X33, e33, W33, st33⟩ := stZ X32 hx hZ25 e32 Ar33 (j := (0 : Int32)) (inb_of S33 ⟨by decide, by decide⟩) (g := (mkF m 272 #[vI p1, vI p2, vI p3, vI p4, vI p5, sl5, vR ar, vI (Int32.ofNat nn), vR b3, vR b7, vI (ownPred Q), vR x_25, vI (ownI lv0), vI (ownI lv1), vR b28, vR b29, vU, vU, vU, vU, vU, vU, vU, vU, vU, vU] [(.int (ownI v0)), (.int 0), (.ref b29)])) rfl rfl (Y0.d 165 rfl)
       refine og T33 m 273 #[vI p1, vI p2, vI p3, vI p4, vI p5, sl5, vR ar, vI (Int32.ofNat nn), vR b3, vR b7, vI (ownPred Q), vR x_25, vI (ownI lv0), vI (ownI lv1), vR b28, vR b29, vU, vU, vU, vU, vU, vU, vU, vU, vU, vU] [] st33 ?_
       have V33 : Arv Z h33 b29 k29 .boolean (3 : Int32) [(.int (nar .boolean (ownI v0))), (.int 0), (.int 0)] (.int 0) := Arv.set Ar33 q33 S33 M33 H33 G33 (fits_nar_bool _) W33 0 rfl (Nat.le_of_ble_eq_true rfl)
       rw [(own_nar_i _)] at V33
       have V33' : Arv Z h33 b29 k29 .boolean (3 : Int32) [(.int (ownI v0)), (.int 0), (.int 0)] (.int 0) := V33
       have F33_96 := F31_83.other W33 ne_b3_b29
       have F33_97 := F31_84.other W33 ne_b7_b29
       have F33_98 := F31_85.wr W33
       have F33_99 := F31_86.other W33 (Or.inl ne_x_25_b29)
       have F33_100 := F31_87.other W33 (Or.inl ne_x_25_b29)
       have F33_101 := F31_88.other W33 ne_t_25_b29
       have F33_102 := Safe.wr W33 F31_90 R31.1 F31_89
       have F33_103 := V31'.other W33 ne_b28_b29
       have F33_104 := Safe.wr W33 F31_90 R31.1 F31_90
       have Ol33 := Ol31.wr W33 g_b29
       have K33 : Keep h0 h33 ([] : List Addr) := K31.wr W33 (Or.inr s_b29)
       have R33 := R31.trans (CHr.wr W33 F31_90 R31.1)
       have hk33 := Nat.le_trans hk31 (Keep.of_wr W33).1
       have N33 := Fr.snoc X33 N32 g_b29
       have Y33 := Y0.nx X33
       refine oal Y33 166 rfl rfl rfl <| oic 1 Y33 167 rfl rfl ?_
       obtain ⟨w1, hw1⟩ : ∃ z : Bool, z = (lv1 && ownWs c_10) := ⟨_, rfl⟩
       have s296 : ∀ (T34 : State) (L34 : List Loc) (X34 : Stand p l e room_1 (s.setVm T25.vm) m #[(.int p1), (.int p2), (.int p3), (.int p4), (.int p5)] below meth c T34 L34 16 2792) (e34 : T34.heap = h33) (N34 : Fr n0 L34), OwnGoes p e below (fun o U' => ∃ v L, o = .returned v ∧ Q_law Z p1 p2 p3 p4 p5 h0 n0 v U'.heap L ∧ CHr Z consts_1 s.vm s.heap U'.vm U'.heap ∧ ReturnedEndW s o U' L room_1.cells room_1.slots) T34 (mkF m 296 #[vI p1, vI p2, vI p3, vI p4, vI p5, sl5, vR ar, vI (Int32.ofNat nn), vR b3, vR b7, vI (ownPred Q), vR x_25, vI (ownI lv0), vI (ownI lv1), vR b28, vR b29, vU, vU, vU, vU, vU, vU, vU, vU, vU, vU] [(.int (ownI w1)), (.int 1), (.ref b28)]) := by
        intro T34 L34 X34 e34 N34
        obtain ⟨cl35, Ar35, q35, S35, M35, H35, G35⟩ := id F33_103
        obtain ⟨T35, h35, X35, e35, W35, st35⟩ := stZ X34 hx hZ25 e34 Ar35 (j := (1 : Int32)) (inb_of S35 ⟨by decide, by decide⟩) (g := (mkF m 296 #[vI p1, vI p2, vI p3, vI p4, vI p5, sl5, vR ar, vI (Int32.ofNat nn), vR b3, vR b7, vI (ownPred Q), vR x_25, vI (ownI lv0), vI (ownI lv1), vR b28, vR b29, vU, vU, vU, vU, vU, vU, vU, vU, vU, vU] [(.int (ownI w1)), (.int 1), (.ref b28)])) rfl rfl (Y0.d 178 rfl)
        refine og T35 m 297 #[vI p1, vI p2, vI p3, vI p4, vI p5, sl5, vR ar, vI (Int32.ofNat nn), vR b3, vR b7, vI (ownPred Q), vR x_25, vI (ownI lv0), vI (ownI lv1), vR b28, vR b29, vU, vU, vU, vU, vU, vU, vU, vU, vU, vU] [] st35 ?_
        have V35 : Arv Z h35 b28 k28 .boolean (3 : Int32) [(.int (ownI w0)), (.int (nar .boolean (ownI w1))), (.int 0)] (.int 0) := Arv.set Ar35 q35 S35 M35 H35 G35 (fits_nar_bool _) W35 1 rfl (Nat.le_of_ble_eq_true rfl)
        rw [(own_nar_i _)] at V35
        have V35' : Arv Z h35 b28 k28 .boolean (3 : Int32) [(.int (ownI w0)), (.int (ownI w1)), (.int 0)] (.int 0) := V35
        have F35_109 := F33_96.other W35 ne_b3_b28
        have F35_110 := F33_97.other W35 ne_b7_b28
        have F35_111 := F33_98.wr W35
        have F35_112 := F33_99.other W35 (Or.inl ne_x_25_b28)
        have F35_113 := F33_100.other W35 (Or.inl ne_x_25_b28)
        have F35_114 := F33_101.other W35 ne_t_25_b28
        have F35_115 := Safe.wr W35 F33_102 R33.1 F33_102
        have F35_116 := Safe.wr W35 F33_102 R33.1 F33_104
        have F35_117 := V33'.other W35 (Ne.symm ne_b28_b29)
        have Ol35 := Ol33.wr W35 g_b28
        have K35 : Keep h0 h35 ([] : List Addr) := K33.wr W35 (Or.inr s_b28)
        have R35 := R33.trans (CHr.wr W35 F33_102 R33.1)
        have hk35 := Nat.le_trans hk33 (Keep.of_wr W35).1
        have N35 := Fr.snoc X35 N34 g_b28
        have Y35 := Y0.nx X35
        refine oal Y35 179 rfl rfl rfl <| oic 1 Y35 180 rfl rfl ?_
        obtain ⟨v1, hv1⟩ : ∃ z : Bool, z = (lv1 && !ownWs c_10) := ⟨_, rfl⟩
        have s320 : ∀ (T36 : State) (L36 : List Loc) (X36 : Stand p l e room_1 (s.setVm T25.vm) m #[(.int p1), (.int p2), (.int p3), (.int p4), (.int p5)] below meth c T36 L36 16 2792) (e36 : T36.heap = h35) (N36 : Fr n0 L36), OwnGoes p e below (fun o U' => ∃ v L, o = .returned v ∧ Q_law Z p1 p2 p3 p4 p5 h0 n0 v U'.heap L ∧ CHr Z consts_1 s.vm s.heap U'.vm U'.heap ∧ ReturnedEndW s o U' L room_1.cells room_1.slots) T36 (mkF m 320 #[vI p1, vI p2, vI p3, vI p4, vI p5, sl5, vR ar, vI (Int32.ofNat nn), vR b3, vR b7, vI (ownPred Q), vR x_25, vI (ownI lv0), vI (ownI lv1), vR b28, vR b29, vU, vU, vU, vU, vU, vU, vU, vU, vU, vU] [(.int (ownI v1)), (.int 1), (.ref b29)]) := by
         intro T36 L36 X36 e36 N36
         obtain ⟨cl37, Ar37, q37, S37, M37, H37, G37⟩ := id F35_117
         obtain ⟨T37, h37, X37, e37, W37, st37⟩ := stZ X36 hx hZ25 e36 Ar37 (j := (1 : Int32)) (inb_of S37 ⟨by decide, by decide⟩) (g := (mkF m 320 #[vI p1, vI p2, vI p3, vI p4, vI p5, sl5, vR ar, vI (Int32.ofNat nn), vR b3, vR b7, vI (ownPred Q), vR x_25, vI (ownI lv0), vI (ownI lv1), vR b28, vR b29, vU, vU, vU, vU, vU, vU, vU, vU, vU, vU] [(.int (ownI v1)), (.int 1), (.ref b29)])) rfl rfl (Y0.d 191 rfl)
         refine og T37 m 321 #[vI p1, vI p2, vI p3, vI p4, vI p5, sl5, vR ar, vI (Int32.ofNat nn), vR b3, vR b7, vI (ownPred Q), vR x_25, vI (ownI lv0), vI (ownI lv1), vR b28, vR b29, vU, vU, vU, vU, vU, vU, vU, vU, vU, vU] [] st37 ?_
         have V37 : Arv Z h37 b29 k29 .boolean (3 : Int32) [(.int (ownI v0)), (.int (nar .boolean (ownI v1))), (.int 0)] (.int 0) := Arv.set Ar37 q37 S37 M37 H37 G37 (fits_nar_bool _) W37 1 rfl (Nat.le_of_ble_eq_true rfl)
         rw [(own_nar_i _)] at V37
         have V37' : Arv Z h37 b29 k29 .boolean (3 : Int32) [(.int (ownI v0)), (.int (ownI v1)), (.int 0)] (.int 0) := V37
         have F37_122 := F35_109.other W37 ne_b3_b29
         have F37_123 := F35_110.other W37 ne_b7_b29
         have F37_124 := F35_111.wr W37
         have F37_125 := F35_112.other W37 (Or.inl ne_x_25_b29)
         have F37_126 := F35_113.other W37 (Or.inl ne_x_25_b29)
         have F37_127 := F35_114.other W37 ne_t_25_b29
         have F37_128 := Safe.wr W37 F35_116 R35.1 F35_115
         have F37_129 := V35'.other W37 ne_b28_b29
         have F37_130 := Safe.wr W37 F35_116 R35.1 F35_116
         have Ol37 := Ol35.wr W37 g_b29
         have K37 : Keep h0 h37 ([] : List Addr) := K35.wr W37 (Or.inr s_b29)
         have R37 := R35.trans (CHr.wr W37 F35_116 R35.1)
         have hk37 := Nat.le_trans hk35 (Keep.of_wr W37).1
         have N37 := Fr.snoc X37 N36 g_b29
         have Y37 := Y0.nx X37
         refine oal Y37 192 rfl rfl rfl <| oic 2 Y37 193 rfl rfl <| oal Y37 194 rfl rfl rfl <| oic 2 Y37 195 rfl rfl <| ocal X37 Y37 hZ25 e37 F37_123 196 rfl (by decide) rfl ?_
         refine oCS X37 Y37 hZ25 hml ho25 (wT 171 rfl) (wT 172 rfl) (wT 4 rfl) (wT 173 rfl) (rm_wsL Gl Ol37 c_12) e37 197 rfl 1 2 pd_92619605 rfl rfl rfl rfl (by decide +kernel) ?_
         intro v39 T39 L39 X39 Y39 hQ39
         obtain ⟨rfl, Nq39, eq39⟩ := hQ39
         show OwnH p e below _ T39 m _ _ [(.int (ownI (ownWs c_12))), (.int 2), (.ref b28)]
         have N39 := Fr.app N37 Nq39
         obtain ⟨w2, hw2⟩ : ∃ z : Bool, z = (ownWs c_12) := ⟨_, rfl⟩
         refine oti (ownI w2) ((by rw [hw2])) ?_
         obtain ⟨cl40, Ar40, q40, S40, M40, H40, G40⟩ := id F37_129
         obtain ⟨T40, h40, X40, e40, W40, st40⟩ := stZ X39 hx hZ25 eq39 Ar40 (j := (2 : Int32)) (inb_of S40 ⟨by decide, by decide⟩) (g := (mkF m 331 #[vI p1, vI p2, vI p3, vI p4, vI p5, sl5, vR ar, vI (Int32.ofNat nn), vR b3, vR b7, vI (ownPred Q), vR x_25, vI (ownI lv0), vI (ownI lv1), vR b28, vR b29, vU, vU, vU, vU, vU, vU, vU, vU, vU, vU] [(.int (ownI w2)), (.int 2), (.ref b28)])) rfl rfl (Y0.d 198 rfl)
         refine og T40 m 332 #[vI p1, vI p2, vI p3, vI p4, vI p5, sl5, vR ar, vI (Int32.ofNat nn), vR b3, vR b7, vI (ownPred Q), vR x_25, vI (ownI lv0), vI (ownI lv1), vR b28, vR b29, vU, vU, vU, vU, vU, vU, vU, vU, vU, vU] [] st40 ?_
         have V40 : Arv Z h40 b28 k28 .boolean (3 : Int32) [(.int (ownI w0)), (.int (ownI w1)), (.int (nar .boolean (ownI w2)))] (.int 0) := Arv.set Ar40 q40 S40 M40 H40 G40 (fits_nar_bool _) W40 2 rfl (Nat.le_of_ble_eq_true rfl)
         rw [(own_nar_i _)] at V40
         have V40' : Arv Z h40 b28 k28 .boolean (3 : Int32) [(.int (ownI w0)), (.int (ownI w1)), (.int (ownI w2))] (.int 0) := V40
         have F40_135 := F37_122.other W40 ne_b3_b28
         have F40_136 := F37_123.other W40 ne_b7_b28
         have F40_137 := F37_124.wr W40
         have F40_138 := F37_125.other W40 (Or.inl ne_x_25_b28)
         have F40_139 := F37_126.other W40 (Or.inl ne_x_25_b28)
         have F40_140 := F37_127.other W40 ne_t_25_b28
         have F40_142 := Safe.wr W40 F37_128 R37.1 F37_130
         have F40_143 := V37'.other W40 (Ne.symm ne_b28_b29)
         have Ol40 := Ol37.wr W40 g_b28
         have K40 : Keep h0 h40 ([] : List Addr) := K37.wr W40 (Or.inr s_b28)
         have R40 := R37.trans (CHr.wr W40 F37_128 R37.1)
         have hk40 := Nat.le_trans hk37 (Keep.of_wr W40).1
         have N40 := Fr.snoc X40 N39 g_b28
         have Y40 := Y0.nx X40
         refine oal Y40 199 rfl rfl rfl <| oic 2 Y40 200 rfl rfl ?_
         obtain ⟨v2, hv2⟩ : ∃ z : Bool, z = (!ownWs c_12) := ⟨_, rfl⟩
         have s350 : ∀ (T41 : State) (L41 : List Loc) (X41 : Stand p l e room_1 (s.setVm T25.vm) m #[(.int p1), (.int p2), (.int p3), (.int p4), (.int p5)] below meth c T41 L41 16 2792) (e41 : T41.heap = h40) (N41 : Fr n0 L41), OwnGoes p e below (fun o U' => ∃ v L, o = .returned v ∧ Q_law Z p1 p2 p3 p4 p5 h0 n0 v U'.heap L ∧ CHr Z consts_1 s.vm s.heap U'.vm U'.heap ∧ ReturnedEndW s o U' L room_1.cells room_1.slots) T41 (mkF m 350 #[vI p1, vI p2, vI p3, vI p4, vI p5, sl5, vR ar, vI (Int32.ofNat nn), vR b3, vR b7, vI (ownPred Q), vR x_25, vI (ownI lv0), vI (ownI lv1), vR b28, vR b29, vU, vU, vU, vU, vU, vU, vU, vU, vU, vU] [(.int (ownI v2)), (.int 2), (.ref b29)]) := by
          intro T41 L41 X41 e41 N41
          obtain ⟨cl42, Ar42, q42, S42, M42, H42, G42⟩ := id F40_143
          obtain ⟨T42, h42, X42, e42, W42, st42⟩ := stZ X41 hx hZ25 e41 Ar42 (j := (2 : Int32)) (inb_of S42 ⟨by decide, by decide⟩) (g := (mkF m 350 #[vI p1, vI p2, vI p3, vI p4, vI p5, sl5, vR ar, vI (Int32.ofNat nn), vR b3, vR b7, vI (ownPred Q), vR x_25, vI (ownI lv0), vI (ownI lv1), vR b28, vR b29, vU, vU, vU, vU, vU, vU, vU, vU, vU, vU] [(.int (ownI v2)), (.int 2), (.ref b29)])) rfl rfl (Y0.d 209 rfl)
          refine og T42 m 351 #[vI p1, vI p2, vI p3, vI p4, vI p5, sl5, vR ar, vI (Int32.ofNat nn), vR b3, vR b7, vI (ownPred Q), vR x_25, vI (ownI lv0), vI (ownI lv1), vR b28, vR b29, vU, vU, vU, vU, vU, vU, vU, vU, vU, vU] [] st42 ?_
          have V42 : Arv Z h42 b29 k29 .boolean (3 : Int32) [(.int (ownI v0)), (.int (ownI v1)), (.int (nar .boolean (ownI v2)))] (.int 0) := Arv.set Ar42 q42 S42 M42 H42 G42 (fits_nar_bool _) W42 2 rfl (Nat.le_of_ble_eq_true rfl)
          rw [(own_nar_i _)] at V42
          have V42' : Arv Z h42 b29 k29 .boolean (3 : Int32) [(.int (ownI v0)), (.int (ownI v1)), (.int (ownI v2))] (.int 0) := V42
          have F42_148 := F40_135.other W42 ne_b3_b29
          have F42_149 := F40_136.other W42 ne_b7_b29
          have F42_150 := F40_137.wr W42
          have F42_151 := F40_138.other W42 (Or.inl ne_x_25_b29)
          have F42_152 := F40_139.other W42 (Or.inl ne_x_25_b29)
          have F42_153 := F40_140.other W42 ne_t_25_b29
          have F42_155 := V40'.other W42 ne_b28_b29
          have Ol42 := Ol40.wr W42 g_b29
          have K42 : Keep h0 h42 ([] : List Addr) := K40.wr W42 (Or.inr s_b29)
          have R42 := R40.trans (CHr.wr W42 F40_142 R40.1)
          have hk42 := Nat.le_trans hk40 (Keep.of_wr W42).1
          have N42 := Fr.snoc X42 N41 g_b29
          have hw0' : w0 = ownW0 P0 P1 P2 c_8 := by rw [hw0, hlv0] <;> rfl
          have hw1' : w1 = ownW1 P1 P2 c_10 := by rw [hw1, hlv1] <;> rfl
          have hv0' : v0 = (decide (P0 ≠ P1) && decide (P0 ≠ P2) && !ownWs c_8) := by rw [hv0, hlv0]
          have hv1' : v1 = (decide (P1 ≠ P2) && !ownWs c_10) := by rw [hv1, hlv1]
          have hWW : ∀ t, ownW bod t = ownWsAt P0 P1 P2 w0 w1 w2 t := fun t => by rw [own_body_ws hBod t, ← hw0', ← hw1', ← hw2]
          have hWf : ownW bod = ownWsAt P0 P1 P2 w0 w1 w2 := funext hWW
          have Y42 := Y0.nx X42
          refine oic 0 Y42 210 rfl rfl <| ois Y42 211 rfl #[vI p1, vI p2, vI p3, vI p4, vI p5, sl5, vR ar, vI (Int32.ofNat nn), vR b3, vR b7, vI (ownPred Q), vR x_25, vI (ownI lv0), vI (ownI lv1), vR b28, vR b29, vI 0, vU, vU, vU, vU, vU, vU, vU, vU, vU] rfl ?_
          have s428 : ∀ (S : Nat) (sl17 : Slot) (sl18 : Slot) (T43 : State) (L43 : List Loc) (X43 : Stand p l e room_1 (s.setVm T25.vm) m #[(.int p1), (.int p2), (.int p3), (.int p4), (.int p5)] below meth c T43 L43 16 2792) (e43 : T43.heap = h42) (N43 : Fr n0 L43) (hsl17 : OwnSl sl17) (hsl18 : OwnSl sl18) (hS : OwnStart bod (Q - 1) S), OwnGoes p e below (fun o U' => ∃ v L, o = .returned v ∧ Q_law Z p1 p2 p3 p4 p5 h0 n0 v U'.heap L ∧ CHr Z consts_1 s.vm s.heap U'.vm U'.heap ∧ ReturnedEndW s o U' L room_1.cells room_1.slots) T43 (mkF m 428 #[vI p1, vI p2, vI p3, vI p4, vI p5, sl5, vR ar, vI (Int32.ofNat nn), vR b3, vR b7, vI (ownPred Q), vR x_25, vI (ownI lv0), vI (ownI lv1), vR b28, vR b29, vI (Int32.ofNat S), sl17, sl18, vU, vU, vU, vU, vU, vU, vU] []) := by
           intro S sl17 sl18 T43 L43 X43 e43 N43 hsl17 hsl18 hS
           have hSl : S ≤ nn := by
            have z := own_start_le (cs := bod) (pl := Q - 1) (by rw [hBl]; omega) hS
            rw [hBl] at z; exact z
           have hmk1 : ownMark S ≤ 1 := by unfold ownMark; split <;> omega
           obtain ⟨en, hen⟩ := own_end_ex bod
           have s438 : ∀ (T44 : State) (L44 : List Loc) (X44 : Stand p l e room_1 (s.setVm T25.vm) m #[(.int p1), (.int p2), (.int p3), (.int p4), (.int p5)] below meth c T44 L44 16 2792) (e44 : T44.heap = h42) (N44 : Fr n0 L44), OwnGoes p e below (fun o U' => ∃ v L, o = .returned v ∧ Q_law Z p1 p2 p3 p4 p5 h0 n0 v U'.heap L ∧ CHr Z consts_1 s.vm s.heap U'.vm U'.heap ∧ ReturnedEndW s o U' L room_1.cells room_1.slots) T44 (mkF m 438 #[vI p1, vI p2, vI p3, vI p4, vI p5, sl5, vR ar, vI (Int32.ofNat nn), vR b3, vR b7, vI (ownPred Q), vR x_25, vI (ownI lv0), vI (ownI lv1), vR b28, vR b29, vI (Int32.ofNat S), sl17, sl18, vU, vU, vU, vU, vU, vU, vU] [(.int (Int32.ofNat (ownMark S)))]) := by
            intro T44 L44 X44 e44 N44
            have Y44 := Y0.nx X44
            refine ois Y44 253 rfl #[vI p1, vI p2, vI p3, vI p4, vI p5, sl5, vR ar, vI (Int32.ofNat nn), vR b3, vR b7, vI (ownPred Q), vR x_25, vI (ownI lv0), vI (ownI lv1), vR b28, vR b29, vI (Int32.ofNat S), vI (Int32.ofNat (ownMark S)), sl18, vU, vU, vU, vU, vU, vU, vU] (XS.store1 rfl hsl17 rfl) <| oic 3 Y44 254 rfl rfl ?_
            obtain ⟨T45, h45, k45, X45, e45, E45, A45, st45⟩ := newP X44 hx hZ25 (wT 170 rfl) e44 (g := (mkF m 441 #[vI p1, vI p2, vI p3, vI p4, vI p5, sl5, vR ar, vI (Int32.ofNat nn), vR b3, vR b7, vI (ownPred Q), vR x_25, vI (ownI lv0), vI (ownI lv1), vR b28, vR b29, vI (Int32.ofNat S), vI (Int32.ofNat (ownMark S)), sl18, vU, vU, vU, vU, vU, vU, vU] [(.int 3)])) rfl (Y0.d 255 rfl) rfl (by decide) (cap := 3) (by decide) (by decide) (by decide) (by decide)
            obtain ⟨b45, g45⟩ : ∃ z, z = h42.size := ⟨_, rfl⟩
            rw [← g45] at A45 st45
            refine og T45 m 443 #[vI p1, vI p2, vI p3, vI p4, vI p5, sl5, vR ar, vI (Int32.ofNat nn), vR b3, vR b7, vI (ownPred Q), vR x_25, vI (ownI lv0), vI (ownI lv1), vR b28, vR b29, vI (Int32.ofNat S), vI (Int32.ofNat (ownMark S)), sl18, vU, vU, vU, vU, vU, vU, vU] [(.ref b45)] st45 ?_
            have V45 : Arv Z h45 b45 k45 .boolean (3 : Int32) [(.int 0), (.int 0), (.int 0)] (.int 0) := (Arv.new A45 (by decide)).pad (pad_rep [] (.int 0) 3)
            have ne_b3_b45 : b3 ≠ b45 := Nat.ne_of_lt (Nat.lt_of_lt_of_le F42_148.lt (Nat.le_of_eq g45.symm))
            have ne_b7_b45 : b7 ≠ b45 := Nat.ne_of_lt (Nat.lt_of_lt_of_le F42_149.lt (Nat.le_of_eq g45.symm))
            have ne_x_25_b45 : x_25 ≠ b45 := Nat.ne_of_lt (Nat.lt_of_lt_of_le F42_150.lt (Nat.le_of_eq g45.symm))
            have ne_t_25_b45 : t_25 ≠ b45 := Nat.ne_of_lt (Nat.lt_of_lt_of_le F42_153.lt (Nat.le_of_eq g45.symm))
            have ne_b28_b45 : b28 ≠ b45 := Nat.ne_of_lt (Nat.lt_of_lt_of_le F42_155.lt (Nat.le_of_eq g45.symm))
            have ne_b29_b45 : b29 ≠ b45 := Nat.ne_of_lt (Nat.lt_of_lt_of_le V42'.lt (Nat.le_of_eq g45.symm))
            have g_b45 : n0 ≤ b45 := Nat.le_trans (Nat.le_trans Z0 K42.1) (Nat.le_of_eq g45.symm)
            have Sf45 : Safe Z consts_1 T25.vm h45 b45 := Safe.ext E45 R42.1 (Safe.new (Nat.le_of_eq g45.symm))
            have F45_161 := F42_148.ext E45
            have F45_162 := F42_149.ext E45
            have F45_163 := F42_150.ext E45
            have F45_164 := F42_151.ext E45
            have F45_165 := F42_152.ext E45
            have F45_166 := F42_153.ext E45
            have F45_168 := F42_155.ext E45
            have F45_170 := V42'.ext E45
            have Ol45 := Ol42.ext E45
            have R45 := R42.trans (CHr.ext E45 R42.1)
            have hk45 := Nat.le_trans hk42 E45.1
            have Y45 := Y0.nx X45
            refine oas Y45 256 rfl #[vI p1, vI p2, vI p3, vI p4, vI p5, sl5, vR ar, vI (Int32.ofNat nn), vR b3, vR b7, vI (ownPred Q), vR x_25, vI (ownI lv0), vI (ownI lv1), vR b28, vR b29, vI (Int32.ofNat S), vI (Int32.ofNat (ownMark S)), vR b45, vU, vU, vU, vU, vU, vU, vU] rfl (XS.store1 rfl hsl18 rfl) <| oal Y45 257 rfl rfl rfl <| oic 0 Y45 258 rfl rfl ?_
            obtain ⟨r0, hr0⟩ : ∃ z : Bool, z = (w0 && decide (S ≤ P0) && ownRem (ownWsAt P0 P1 P2 w0 w1 w2) nn S P0) := ⟨_, rfl⟩
            have s487 : ∀ (T46 : State) (L46 : List Loc) (X46 : Stand p l e room_1 (s.setVm T25.vm) m #[(.int p1), (.int p2), (.int p3), (.int p4), (.int p5)] below meth c T46 L46 17 2795) (e46 : T46.heap = h45) (N46 : Fr n0 L46), OwnGoes p e below (fun o U' => ∃ v L, o = .returned v ∧ Q_law Z p1 p2 p3 p4 p5 h0 n0 v U'.heap L ∧ CHr Z consts_1 s.vm s.heap U'.vm U'.heap ∧ ReturnedEndW s o U' L room_1.cells room_1.slots) T46 (mkF m 487 #[vI p1, vI p2, vI p3, vI p4, vI p5, sl5, vR ar, vI (Int32.ofNat nn), vR b3, vR b7, vI (ownPred Q), vR x_25, vI (ownI lv0), vI (ownI lv1), vR b28, vR b29, vI (Int32.ofNat S), vI (Int32.ofNat (ownMark S)), vR b45, vU, vU, vU, vU, vU, vU, vU] [(.int (ownI r0)), (.int 0), (.ref b45)]) := by
             intro T46 L46 X46 e46 N46
             obtain ⟨cl47, Ar47, q47, S47, M47, H47, G47⟩ := id V45
             obtain ⟨T47, h47, X47, e47, W47, st47⟩ := stZ X46 hx hZ25 e46 Ar47 (j := (0 : Int32)) (inb_of S47 ⟨by decide, by decide⟩) (g := (mkF m 487 #[vI p1, vI p2, vI p3, vI p4, vI p5, sl5, vR ar, vI (Int32.ofNat nn), vR b3, vR b7, vI (ownPred Q), vR x_25, vI (ownI lv0), vI (ownI lv1), vR b28, vR b29, vI (Int32.ofNat S), vI (Int32.ofNat (ownMark S)), vR b45, vU, vU, vU, vU, vU, vU, vU] [(.int (ownI r0)), (.int 0), (.ref b45)])) rfl rfl (Y0.d 280 rfl)
             refine og T47 m 488 #[vI p1, vI p2, vI p3, vI p4, vI p5, sl5, vR ar, vI (Int32.ofNat nn), vR b3, vR b7, vI (ownPred Q), vR x_25, vI (ownI lv0), vI (ownI lv1), vR b28, vR b29, vI (Int32.ofNat S), vI (Int32.ofNat (ownMark S)), vR b45, vU, vU, vU, vU, vU, vU, vU] [] st47 ?_
             have V47 : Arv Z h47 b45 k45 .boolean (3 : Int32) [(.int (nar .boolean (ownI r0))), (.int 0), (.int 0)] (.int 0) := Arv.set Ar47 q47 S47 M47 H47 G47 (fits_nar_bool _) W47 0 rfl (Nat.le_of_ble_eq_true rfl)
             rw [(own_nar_i _)] at V47
             have V47' : Arv Z h47 b45 k45 .boolean (3 : Int32) [(.int (ownI r0)), (.int 0), (.int 0)] (.int 0) := V47
             have F47_175 := F45_161.other W47 ne_b3_b45
             have F47_176 := F45_162.other W47 ne_b7_b45
             have F47_177 := F45_163.wr W47
             have F47_178 := F45_164.other W47 (Or.inl ne_x_25_b45)
             have F47_179 := F45_165.other W47 (Or.inl ne_x_25_b45)
             have F47_180 := F45_166.other W47 ne_t_25_b45
             have F47_182 := F45_168.other W47 ne_b28_b45
             have F47_184 := F45_170.other W47 ne_b29_b45
             have F47_185 := Safe.wr W47 Sf45 R45.1 Sf45
             have Ol47 := Ol45.wr W47 g_b45
             have R47 := R45.trans (CHr.wr W47 Sf45 R45.1)
             have hk47 := Nat.le_trans hk45 (Keep.of_wr W47).1
             have N47 := Fr.snoc X47 N46 g_b45
             have Y47 := Y0.nx X47
             refine oal Y47 281 rfl rfl rfl <| oic 1 Y47 282 rfl rfl ?_
             obtain ⟨r1, hr1⟩ : ∃ z : Bool, z = (w1 && decide (S ≤ P1) && ownRem (ownWsAt P0 P1 P2 w0 w1 w2) nn S P1) := ⟨_, rfl⟩
             have s530 : ∀ (T48 : State) (L48 : List Loc) (X48 : Stand p l e room_1 (s.setVm T25.vm) m #[(.int p1), (.int p2), (.int p3), (.int p4), (.int p5)] below meth c T48 L48 17 2795) (e48 : T48.heap = h47) (N48 : Fr n0 L48), OwnGoes p e below (fun o U' => ∃ v L, o = .returned v ∧ Q_law Z p1 p2 p3 p4 p5 h0 n0 v U'.heap L ∧ CHr Z consts_1 s.vm s.heap U'.vm U'.heap ∧ ReturnedEndW s o U' L room_1.cells room_1.slots) T48 (mkF m 530 #[vI p1, vI p2, vI p3, vI p4, vI p5, sl5, vR ar, vI (Int32.ofNat nn), vR b3, vR b7, vI (ownPred Q), vR x_25, vI (ownI lv0), vI (ownI lv1), vR b28, vR b29, vI (Int32.ofNat S), vI (Int32.ofNat (ownMark S)), vR b45, vU, vU, vU, vU, vU, vU, vU] [(.int (ownI r1)), (.int 1), (.ref b45)]) := by
              intro T48 L48 X48 e48 N48
              obtain ⟨cl49, Ar49, q49, S49, M49, H49, G49⟩ := id V47'
              obtain ⟨T49, h49, X49, e49, W49, st49⟩ := stZ X48 hx hZ25 e48 Ar49 (j := (1 : Int32)) (inb_of S49 ⟨by decide, by decide⟩) (g := (mkF m 530 #[vI p1, vI p2, vI p3, vI p4, vI p5, sl5, vR ar, vI (Int32.ofNat nn), vR b3, vR b7, vI (ownPred Q), vR x_25, vI (ownI lv0), vI (ownI lv1), vR b28, vR b29, vI (Int32.ofNat S), vI (Int32.ofNat (ownMark S)), vR b45, vU, vU, vU, vU, vU, vU, vU] [(.int (ownI r1)), (.int 1), (.ref b45)])) rfl rfl (Y0.d 304 rfl)
              refine og T49 m 531 #[vI p1, vI p2, vI p3, vI p4, vI p5, sl5, vR ar, vI (Int32.ofNat nn), vR b3, vR b7, vI (ownPred Q), vR x_25, vI (ownI lv0), vI (ownI lv1), vR b28, vR b29, vI (Int32.ofNat S), vI (Int32.ofNat (ownMark S)), vR b45, vU, vU, vU, vU, vU, vU, vU] [] st49 ?_
              have V49 : Arv Z h49 b45 k45 .boolean (3 : Int32) [(.int (ownI r0)), (.int (nar .boolean (ownI r1))), (.int 0)] (.int 0) := Arv.set Ar49 q49 S49 M49 H49 G49 (fits_nar_bool _) W49 1 rfl (Nat.le_of_ble_eq_true rfl)
              rw [(own_nar_i _)] at V49
              have V49' : Arv Z h49 b45 k45 .boolean (3 : Int32) [(.int (ownI r0)), (.int (ownI r1)), (.int 0)] (.int 0) := V49
              have F49_190 := F47_175.other W49 ne_b3_b45
              have F49_191 := F47_176.other W49 ne_b7_b45
              have F49_192 := F47_177.wr W49
              have F49_193 := F47_178.other W49 (Or.inl ne_x_25_b45)
              have F49_194 := F47_179.other W49 (Or.inl ne_x_25_b45)
              have F49_195 := F47_180.other W49 ne_t_25_b45
              have F49_197 := F47_182.other W49 ne_b28_b45
              have F49_199 := F47_184.other W49 ne_b29_b45
              have F49_200 := Safe.wr W49 F47_185 R47.1 F47_185
              have Ol49 := Ol47.wr W49 g_b45
              have R49 := R47.trans (CHr.wr W49 F47_185 R47.1)
              have hk49 := Nat.le_trans hk47 (Keep.of_wr W49).1
              have N49 := Fr.snoc X49 N48 g_b45
              have Y49 := Y0.nx X49
              refine oal Y49 305 rfl rfl rfl <| oic 2 Y49 306 rfl rfl ?_
              obtain ⟨r2, hr2⟩ : ∃ z : Bool, z = (w2 && decide (S ≤ P2) && ownRem (ownWsAt P0 P1 P2 w0 w1 w2) nn S P2) := ⟨_, rfl⟩
              have s573 : ∀ (T50 : State) (L50 : List Loc) (X50 : Stand p l e room_1 (s.setVm T25.vm) m #[(.int p1), (.int p2), (.int p3), (.int p4), (.int p5)] below meth c T50 L50 17 2795) (e50 : T50.heap = h49) (N50 : Fr n0 L50), OwnGoes p e below (fun o U' => ∃ v L, o = .returned v ∧ Q_law Z p1 p2 p3 p4 p5 h0 n0 v U'.heap L ∧ CHr Z consts_1 s.vm s.heap U'.vm U'.heap ∧ ReturnedEndW s o U' L room_1.cells room_1.slots) T50 (mkF m 573 #[vI p1, vI p2, vI p3, vI p4, vI p5, sl5, vR ar, vI (Int32.ofNat nn), vR b3, vR b7, vI (ownPred Q), vR x_25, vI (ownI lv0), vI (ownI lv1), vR b28, vR b29, vI (Int32.ofNat S), vI (Int32.ofNat (ownMark S)), vR b45, vU, vU, vU, vU, vU, vU, vU] [(.int (ownI r2)), (.int 2), (.ref b45)]) := by
               intro T50 L50 X50 e50 N50
               obtain ⟨cl51, Ar51, q51, S51, M51, H51, G51⟩ := id V49'
               obtain ⟨T51, h51, X51, e51, W51, st51⟩ := stZ X50 hx hZ25 e50 Ar51 (j := (2 : Int32)) (inb_of S51 ⟨by decide, by decide⟩) (g := (mkF m 573 #[vI p1, vI p2, vI p3, vI p4, vI p5, sl5, vR ar, vI (Int32.ofNat nn), vR b3, vR b7, vI (ownPred Q), vR x_25, vI (ownI lv0), vI (ownI lv1), vR b28, vR b29, vI (Int32.ofNat S), vI (Int32.ofNat (ownMark S)), vR b45, vU, vU, vU, vU, vU, vU, vU] [(.int (ownI r2)), (.int 2), (.ref b45)])) rfl rfl (Y0.d 328 rfl)
               refine og T51 m 574 #[vI p1, vI p2, vI p3, vI p4, vI p5, sl5, vR ar, vI (Int32.ofNat nn), vR b3, vR b7, vI (ownPred Q), vR x_25, vI (ownI lv0), vI (ownI lv1), vR b28, vR b29, vI (Int32.ofNat S), vI (Int32.ofNat (ownMark S)), vR b45, vU, vU, vU, vU, vU, vU, vU] [] st51 ?_
               have V51 : Arv Z h51 b45 k45 .boolean (3 : Int32) [(.int (ownI r0)), (.int (ownI r1)), (.int (nar .boolean (ownI r2)))] (.int 0) := Arv.set Ar51 q51 S51 M51 H51 G51 (fits_nar_bool _) W51 2 rfl (Nat.le_of_ble_eq_true rfl)
               rw [(own_nar_i _)] at V51
               have V51' : Arv Z h51 b45 k45 .boolean (3 : Int32) [(.int (ownI r0)), (.int (ownI r1)), (.int (ownI r2))] (.int 0) := V51
               have F51_205 := F49_190.other W51 ne_b3_b45
               have F51_206 := F49_191.other W51 ne_b7_b45
               have F51_207 := F49_192.wr W51
               have F51_208 := F49_193.other W51 (Or.inl ne_x_25_b45)
               have F51_209 := F49_194.other W51 (Or.inl ne_x_25_b45)
               have F51_210 := F49_195.other W51 ne_t_25_b45
               have F51_212 := F49_197.other W51 ne_b28_b45
               have F51_214 := F49_199.other W51 ne_b29_b45
               have Ol51 := Ol49.wr W51 g_b45
               have R51 := R49.trans (CHr.wr W51 F49_200 R49.1)
               have hk51 := Nat.le_trans hk49 (Keep.of_wr W51).1
               have N51 := Fr.snoc X51 N50 g_b45
               have er0 : r0 = (w0 && decide (S ≤ P0) && ownRem (ownW bod) nn S P0) := by rw [hWf]; exact hr0
               have ef0 : r0 = (ownW0 P0 P1 P2 c_8 && decide (S ≤ P0) && ownRem (ownW bod) nn S P0) := by rw [← hw0']; exact er0
               have er1 : r1 = (w1 && decide (S ≤ P1) && ownRem (ownW bod) nn S P1) := by rw [hWf]; exact hr1
               have ef1 : r1 = (ownW1 P1 P2 c_10 && decide (S ≤ P1) && ownRem (ownW bod) nn S P1) := by rw [← hw1']; exact er1
               have er2 : r2 = (w2 && decide (S ≤ P2) && ownRem (ownW bod) nn S P2) := by rw [hWf]; exact hr2
               have ef2 : r2 = (ownWs c_12 && decide (S ≤ P2) && ownRem (ownW bod) nn S P2) := by rw [← hw2]; exact er2
               have hFa : ∀ i, S ≤ i → i ≤ nn → ownCnt bod S en i + ownN (r0 && decide (P0 < i)) + ownN (r1 && decide (P1 < i)) + ownN (r2 && decide (P2 < i)) = i - S := own_cnt_f (by omega) hBod hen ef0 ef1 ef2
               have Y51 := Y0.nx X51
               refine oil Y51 329 rfl rfl <| oil Y51 330 rfl rfl <| oil Y51 331 rfl rfl <| oal Y51 332 rfl rfl rfl <| oal Y51 333 rfl rfl rfl ?_
               refine oCS X51 Y51 hZ25 hml ho25 (wT 177 rfl) (wT 178 rfl) (wT 4 rfl) (wT 179 rfl) (rm_f Gl Ol51 b3 k3 P0 P1 P2 b45 k45 r0 r1 r2 nn S (ownCnt bod S en nn) F51_205 V51' ⟨by omega, by omega, by omega⟩ (by omega) (by omega) (hFa _ (by omega) (by omega))) e51 334 rfl 4 1 pd_34574447 rfl rfl rfl rfl (by decide +kernel) ?_
               intro v52 T52 L52 X52 Y52 hQ52
               obtain ⟨rfl, Nq52, eq52⟩ := hQ52
               show OwnH p e below _ T52 m _ _ [(.int (Int32.ofNat (ownCnt bod S en nn))), (.int (Int32.ofNat (ownMark S)))]
               have N52 := Fr.app N51 Nq52
               refine oadd Y52 335 rfl ?_
               obtain ⟨full, hfull⟩ : ∃ z, z = ownMark S + ownCnt bod S en nn := ⟨_, rfl⟩
               have hfl : full ≤ 301 := by rw [hfull]; have := own_cnt_le bod S en nn; omega
               refine oti (Int32.ofNat full) ((by rw [hfull]; exact own_addN _ _)) <| ois Y52 336 rfl #[vI p1, vI p2, vI p3, vI p4, vI p5, sl5, vR ar, vI (Int32.ofNat nn), vR b3, vR b7, vI (ownPred Q), vR x_25, vI (ownI lv0), vI (ownI lv1), vR b28, vR b29, vI (Int32.ofNat S), vI (Int32.ofNat (ownMark S)), vR b45, vI (Int32.ofNat full), vU, vU, vU, vU, vU, vU] rfl <| oil Y52 337 rfl rfl <| ois Y52 338 rfl #[vI p1, vI p2, vI p3, vI p4, vI p5, sl5, vR ar, vI (Int32.ofNat nn), vR b3, vR b7, vI (ownPred Q), vR x_25, vI (ownI lv0), vI (ownI lv1), vR b28, vR b29, vI (Int32.ofNat S), vI (Int32.ofNat (ownMark S)), vR b45, vI (Int32.ofNat full), vI (Int32.ofNat full), vU, vU, vU, vU, vU] rfl <| oil Y52 339 rfl rfl <| ois Y52 340 rfl #[vI p1, vI p2, vI p3, vI p4, vI p5, sl5, vR ar, vI (Int32.ofNat nn), vR b3, vR b7, vI (ownPred Q), vR x_25, vI (ownI lv0), vI (ownI lv1), vR b28, vR b29, vI (Int32.ofNat S), vI (Int32.ofNat (ownMark S)), vR b45, vI (Int32.ofNat full), vI (Int32.ofNat full), vI (Int32.ofNat full), vU, vU, vU, vU] rfl ?_
               obtain ⟨M, hM⟩ : ∃ z, z = max (ownKs w0 r0 S ((ownMark S) + (ownCnt bod S en P0)) P0) (max (ownKs w1 r1 S ((ownMark S) + (ownCnt bod S en P1)) P1) (ownKs w2 r2 S ((ownMark S) + (ownCnt bod S en P2)) P2)) := ⟨_, rfl⟩
               have hM3 : M ≤ 301 := by rw [hM]; exact Nat.max_le.mpr ⟨Nat.le_trans own_ks_le (by decide), Nat.max_le.mpr ⟨Nat.le_trans own_ks_le (by decide), Nat.le_trans own_ks_le (by decide)⟩⟩
               obtain ⟨hg, hhg⟩ : ∃ z : Bool, z = ((v0 && decide (S ≤ P0) && decide (((ownMark S) + (ownCnt bod S en P0)) = 238) && ownHigh c_8) || (v1 && decide (S ≤ P1) && decide (((ownMark S) + (ownCnt bod S en P1)) = 238) && ownHigh c_10) || (v2 && decide (S ≤ P2) && decide (((ownMark S) + (ownCnt bod S en P2)) = 238) && ownHigh c_12)) := ⟨_, rfl⟩
               have hHi : hg = true ↔ ((v0 = true ∧ S ≤ P0 ∧ ownMark S + (ownCnt bod S en P0) = 238 ∧ ownHigh c_8 = true) ∨ (v1 = true ∧ S ≤ P1 ∧ ownMark S + (ownCnt bod S en P1) = 238 ∧ ownHigh c_10 = true) ∨ (v2 = true ∧ S ≤ P2 ∧ ownMark S + (ownCnt bod S en P2) = 238 ∧ ownHigh c_12 = true)) := by
                rw [hhg]
                simp only [Bool.or_eq_true, Bool.and_eq_true, decide_eq_true_eq, and_assoc, or_assoc]
               have s795 : ∀ (lim : Nat) (len : Nat) (sl22 : Slot) (sl23 : Slot) (sl24 : Slot) (T53 : State) (L53 : List Loc) (X53 : Stand p l e room_1 (s.setVm T25.vm) m #[(.int p1), (.int p2), (.int p3), (.int p4), (.int p5)] below meth c T53 L53 17 2795) (e53 : T53.heap = h51) (N53 : Fr n0 L53) (hcut : (240 < full ∨ (full = 240 ∧ ownW bod (nn - 1) = true)) → lim = ownLim (ownMark S) M hg ∧ len = lim + 1) (hnot : ¬ (240 < full ∨ (full = 240 ∧ ownW bod (nn - 1) = true)) → lim = full ∧ len = full) (hll : lim ≤ len ∧ len ≤ 302) (hsl22 : OwnSl sl22) (hsl23 : OwnSl sl23) (hsl24 : OwnSl sl24), OwnGoes p e below (fun o U' => ∃ v L, o = .returned v ∧ Q_law Z p1 p2 p3 p4 p5 h0 n0 v U'.heap L ∧ CHr Z consts_1 s.vm s.heap U'.vm U'.heap ∧ ReturnedEndW s o U' L room_1.cells room_1.slots) T53 (mkF m 795 #[vI p1, vI p2, vI p3, vI p4, vI p5, sl5, vR ar, vI (Int32.ofNat nn), vR b3, vR b7, vI (ownPred Q), vR x_25, vI (ownI lv0), vI (ownI lv1), vR b28, vR b29, vI (Int32.ofNat S), vI (Int32.ofNat (ownMark S)), vR b45, vI (Int32.ofNat full), vI (Int32.ofNat lim), vI (Int32.ofNat len), sl22, sl23, sl24, vU] []) := by
                intro lim len sl22 sl23 sl24 T53 L53 X53 e53 N53 hcut hnot hll hsl22 hsl23 hsl24
                obtain ⟨hR1, hR2, hR3, hR4⟩ := own_plain (by omega) hBod hS pq25_1 hw0' hw1' hw2 hv0' hv1' hv2 er0 er1 er2 (F := ownCnt bod S en) hFa hfull hM hHi hcut hnot
                have Y53 := Y0.nx X53
                refine oal Y53 433 rfl rfl rfl ?_
                refine oCV X53 Y53 hZ25 hml ho25 (wT 183 rfl) (wT 69 rfl) (notFace_of_selects (args := #[]) (mvT hZ25 (wT 71 rfl))) (wT 71 rfl) (wT 70 rfl) (wT 72 rfl) (wT 9 rfl) (rm_lenA Gl Ol51 x_25 cd_25 (Int32.ofNat R_25.length) t_25 k_25 N_25 vs_25 F51_207 F51_208 F51_209 F51_210 (own_len pq25_0 rfl)) e53 F51_207 434 rfl 0 0 pd_86913941 rfl rfl rfl rfl rfl (by decide +kernel) (by decide +kernel) ?_
                intro v54 T54 L54 X54 Y54 hQ54
                obtain ⟨rfl, Nq54, eq54⟩ := hQ54
                show OwnH p e below _ T54 m _ _ [(.int (Int32.ofNat R_25.length))]
                have N54 := Fr.app N53 Nq54
                refine oil Y54 435 rfl rfl <| ocy 807 Y54 436 rfl rfl (teq (congrArg Int32.ofNat hR1)).1 ?_
                have s849 : ∀ (T55 : State) (L55 : List Loc) (X55 : Stand p l e room_1 (s.setVm T25.vm) m #[(.int p1), (.int p2), (.int p3), (.int p4), (.int p5)] below meth c T55 L55 17 2795) (e55 : T55.heap = h51) (N55 : Fr n0 L55), OwnGoes p e below (fun o U' => ∃ v L, o = .returned v ∧ Q_law Z p1 p2 p3 p4 p5 h0 n0 v U'.heap L ∧ CHr Z consts_1 s.vm s.heap U'.vm U'.heap ∧ ReturnedEndW s o U' L room_1.cells room_1.slots) T55 (mkF m 849 #[vI p1, vI p2, vI p3, vI p4, vI p5, sl5, vR ar, vI (Int32.ofNat nn), vR b3, vR b7, vI (ownPred Q), vR x_25, vI (ownI lv0), vI (ownI lv1), vR b28, vR b29, vI (Int32.ofNat S), vI (Int32.ofNat (ownMark S)), vR b45, vI (Int32.ofNat full), vI (Int32.ofNat lim), vI (Int32.ofNat len), sl22, sl23, sl24, vU] []) := by
                 intro T55 L55 X55 e55 N55
                 have Y55 := Y0.nx X55
                 refine oil Y55 453 rfl rfl <| oic 1 Y55 454 rfl rfl <| ousr Y55 455 rfl <| oil Y55 456 rfl rfl <| orem X55 Y55 457 rfl (own_nn0 (by omega) (by omega)) ?_
                 obtain ⟨iq, hiq, eiq⟩ : ∃ P, P < nn ∧ (((p5.toUInt32 >>> ((1 : Int32) &&& 31).toUInt32).toInt32) % (Int32.ofNat nn)) = Int32.ofNat P := own_pos (x := p5) (k := 1) (by decide) (by decide) (by omega) (by omega)
                 refine oti (Int32.ofNat iq) (eiq) <| ois Y55 458 rfl #[vI p1, vI p2, vI p3, vI p4, vI p5, sl5, vR ar, vI (Int32.ofNat nn), vR b3, vR b7, vI (ownPred Q), vR x_25, vI (ownI lv0), vI (ownI lv1), vR b28, vR b29, vI (Int32.ofNat S), vI (Int32.ofNat (ownMark S)), vR b45, vI (Int32.ofNat full), vI (Int32.ofNat lim), vI (Int32.ofNat len), vI (Int32.ofNat iq), sl23, sl24, vU] (XS.store1 rfl hsl22 rfl) <| oil Y55 459 rfl rfl <| oil Y55 460 rfl rfl ?_
                 by_cases cc56 : (Int32.ofNat iq) < (Int32.ofNat S)
                 ·
                  refine ocn Y55 461 rfl (tlt cc56).2.1 <| oic 1 Y55 462 rfl rfl ?_
                  refine own_leaveW (Z := Z) (EL := consts_1) X55 hS25 (e55 ▸ hk51) hlk (v := some (.int 1)) (fun h => by rw [Bd.returns] at h; cases h) (fun fs hr => retN X55 hx (t := .boolean) Bd.returns (by simp) (Y0.d 463 rfl) (by rw [(by decide : nar .boolean (1 : Int32) = (1 : Int32))]; exact hr)) (by decide) (by decide) ?_ ?_
                  ·
                   rw [hh, e55]
                   exact R51.trans (CHv.at X55 hZ25 hEL R51.1)
                  show Q_law Z p1 p2 p3 p4 p5 h0 n0 _ T55.heap _
                  rw [e55]
                  exact ⟨rfl, N55⟩
                 have hiS : S ≤ iq := Nat.le_of_not_lt fun q => cc56 ((own_ltN (by omega) (by omega)).mpr q)
                 refine ocy 867 Y55 461 rfl rfl (flt cc56).2.1 <| oil Y55 464 rfl rfl <| oal Y55 465 rfl rfl rfl <| oal Y55 466 rfl rfl rfl ?_
                 refine oCS X55 Y55 hZ25 hml ho25 (wT 180 rfl) (wT 181 rfl) (wT 4 rfl) (wT 182 rfl) (rm_wsAt Gl Ol51 b3 k3 P0 P1 P2 b28 k28 w0 w1 w2 iq F51_205 F51_212 ⟨by omega, by omega, by omega⟩ (by omega)) e55 467 rfl 3 0 pd_25816040 rfl rfl rfl rfl (by decide +kernel) ?_
                 intro v58 T58 L58 X58 Y58 hQ58
                 obtain ⟨rfl, Nq58, eq58⟩ := hQ58
                 show OwnH p e below _ T58 m _ _ [(.int (ownI (ownWsAt P0 P1 P2 w0 w1 w2 iq)))]
                 have N58 := Fr.app N55 Nq58
                 refine ois Y58 468 rfl #[vI p1, vI p2, vI p3, vI p4, vI p5, sl5, vR ar, vI (Int32.ofNat nn), vR b3, vR b7, vI (ownPred Q), vR x_25, vI (ownI lv0), vI (ownI lv1), vR b28, vR b29, vI (Int32.ofNat S), vI (Int32.ofNat (ownMark S)), vR b45, vI (Int32.ofNat full), vI (Int32.ofNat lim), vI (Int32.ofNat len), vI (Int32.ofNat iq), vI (ownI (ownWsAt P0 P1 P2 w0 w1 w2 iq)), sl24, vU] (XS.store1 rfl hsl23 rfl) <| oil Y58 469 rfl rfl ?_
                 by_cases cc59 : (ownI (ownWsAt P0 P1 P2 w0 w1 w2 iq)) = (0 : Int32)
                 ·
                  have hwi : ownW bod iq = false := (hWW _).trans ((own_i0 _).mp cc59)
                  refine oify 901 Y58 470 rfl rfl ((if0 _ _).trans (teq cc59).1) <| oil Y58 480 rfl rfl <| oil Y58 481 rfl rfl <| oil Y58 482 rfl rfl <| oal Y58 483 rfl rfl rfl <| oal Y58 484 rfl rfl rfl ?_
                  refine oCS X58 Y58 hZ25 hml ho25 (wT 177 rfl) (wT 178 rfl) (wT 4 rfl) (wT 179 rfl) (rm_f Gl Ol51 b3 k3 P0 P1 P2 b45 k45 r0 r1 r2 iq S (ownCnt bod S en iq) F51_205 V51' ⟨by omega, by omega, by omega⟩ (by omega) (by omega) (hFa _ (by omega) (by omega))) eq58 485 rfl 4 1 pd_34574447 rfl rfl rfl rfl (by decide +kernel) ?_
                  intro v60 T60 L60 X60 Y60 hQ60
                  obtain ⟨rfl, Nq60, eq60⟩ := hQ60
                  show OwnH p e below _ T60 m _ _ [(.int (Int32.ofNat (ownCnt bod S en iq))), (.int (Int32.ofNat (ownMark S)))]
                  have N60 := Fr.app N58 Nq60
                  refine oadd Y60 486 rfl <| oti (Int32.ofNat ((ownMark S) + (ownCnt bod S en iq))) ((own_addN _ _)) <| ois Y60 487 rfl #[vI p1, vI p2, vI p3, vI p4, vI p5, sl5, vR ar, vI (Int32.ofNat nn), vR b3, vR b7, vI (ownPred Q), vR x_25, vI (ownI lv0), vI (ownI lv1), vR b28, vR b29, vI (Int32.ofNat S), vI (Int32.ofNat (ownMark S)), vR b45, vI (Int32.ofNat full), vI (Int32.ofNat lim), vI (Int32.ofNat len), vI (Int32.ofNat iq), vI (ownI (ownWsAt P0 P1 P2 w0 w1 w2 iq)), vI (Int32.ofNat ((ownMark S) + (ownCnt bod S en iq))), vU] (XS.store1 rfl hsl24 rfl) <| oil Y60 488 rfl rfl <| oil Y60 489 rfl rfl ?_
                  by_cases cc61 : (Int32.ofNat ((ownMark S) + (ownCnt bod S en iq))) < (Int32.ofNat lim)
                  ·
                   have hgl : ((ownMark S) + (ownCnt bod S en iq)) < lim := (own_ltN (by have := own_cnt_le bod S en iq; omega) (by omega)).mp cc61
                   refine ocy 926 Y60 490 rfl rfl (tlt cc61).1 <| oil Y60 493 rfl rfl <| oify 936 Y60 494 rfl rfl ((if0 _ _).trans (teq cc59).1) <| oil Y60 497 rfl rfl <| oal Y60 498 rfl rfl rfl <| oal Y60 499 rfl rfl rfl ?_
                   refine oCS X60 Y60 hZ25 hml ho25 (wT 300 rfl) (wT 301 rfl) (wT 4 rfl) (wT 302 rfl) (rm_at Gl Ol51 b3 k3 P0 P1 P2 b7 k7 c_8 c_10 c_12 iq F51_205 F51_206 ⟨by omega, by omega, by omega⟩ (by omega) pq8_0 pq10_0 pq12_0) eq60 500 rfl 3 0 pd_58159063 rfl rfl rfl rfl (by decide +kernel) ?_
                   intro v62 T62 L62 X62 Y62 hQ62
                   obtain ⟨rfl, Nq62, eq62⟩ := hQ62
                   show OwnH p e below _ T62 m _ _ [(.int (ownSel P0 P1 P2 c_8 c_10 c_12 iq))]
                   have N62 := Fr.app N60 Nq62
                   refine ois Y62 501 rfl #[vI p1, vI p2, vI p3, vI p4, vI p5, sl5, vR ar, vI (Int32.ofNat nn), vR b3, vR b7, vI (ownPred Q), vR x_25, vI (ownI lv0), vI (ownI lv1), vR b28, vR b29, vI (Int32.ofNat S), vI (Int32.ofNat (ownMark S)), vR b45, vI (Int32.ofNat full), vI (Int32.ofNat lim), vI (Int32.ofNat len), vI (Int32.ofNat iq), vI (ownI (ownWsAt P0 P1 P2 w0 w1 w2 iq)), vI (Int32.ofNat ((ownMark S) + (ownCnt bod S en iq))), vI (ownSel P0 P1 P2 c_8 c_10 c_12 iq)] rfl <| oal Y62 502 rfl rfl rfl <| oil Y62 503 rfl rfl ?_
                   refine oCV X62 Y62 hZ25 hml ho25 (wT 296 rfl) (wT 79 rfl) (notFace_of_selects (args := #[]) (mvT hZ25 (wT 81 rfl))) (wT 81 rfl) (wT 80 rfl) (wT 82 rfl) (wT 9 rfl) (rm_chA Gl Ol51 x_25 cd_25 t_25 k_25 N_25 vs_25 (Int32.ofNat ((ownMark S) + (ownCnt bod S en iq))) (ownAt R_25 ((ownMark S) + (ownCnt bod S en iq))) F51_207 F51_208 F51_209 F51_210 (own_ch pq25_0 (j := ((ownMark S) + (ownCnt bod S en iq))) (by rw [hR1]; omega) rfl)) eq62 F51_207 504 rfl 1 0 pd_17647939 rfl rfl rfl rfl rfl (by decide +kernel) (by decide +kernel) ?_
                   intro v63 T63 L63 X63 Y63 hQ63
                   obtain ⟨rfl, Nq63, eq63⟩ := hQ63
                   show OwnH p e below _ T63 m _ _ [(.int (ownAt R_25 ((ownMark S) + (ownCnt bod S en iq))))]
                   have N63 := Fr.app N62 Nq63
                   refine oil Y63 505 rfl rfl <| ocn Y63 506 rfl (teq (show (ownAt R_25 ((ownMark S) + (ownCnt bod S en iq))) = (ownSel P0 P1 P2 c_8 c_10 c_12 iq) from ((hR4 iq hiS hiq (fun q => absurd (hwi.symm.trans q) (by decide)) hgl).trans ((if_neg (by rw [hwi]; decide)).trans (hat iq))))).2 <| oic 1 Y63 507 rfl rfl <| ogt 964 Y63 508 rfl rfl ?_
                   refine own_leaveW (Z := Z) (EL := consts_1) X63 hS25 (eq63 ▸ hk51) hlk (v := some (.int 1)) (fun h => by rw [Bd.returns] at h; cases h) (fun fs hr => retN X63 hx (t := .boolean) Bd.returns (by simp) (Y0.d 509 rfl) (by rw [(by decide : nar .boolean (1 : Int32) = (1 : Int32))]; exact hr)) (by decide) (by decide) ?_ ?_
                   ·
                    rw [hh, eq63]
                    exact R51.trans (CHv.at X63 hZ25 hEL R51.1)
                   show Q_law Z p1 p2 p3 p4 p5 h0 n0 _ T63.heap _
                   rw [eq63]
                   exact ⟨rfl, N63⟩
                  refine ocn Y60 490 rfl (flt cc61).1 <| oic 1 Y60 491 rfl rfl ?_
                  refine own_leaveW (Z := Z) (EL := consts_1) X60 hS25 (eq60 ▸ hk51) hlk (v := some (.int 1)) (fun h => by rw [Bd.returns] at h; cases h) (fun fs hr => retN X60 hx (t := .boolean) Bd.returns (by simp) (Y0.d 492 rfl) (by rw [(by decide : nar .boolean (1 : Int32) = (1 : Int32))]; exact hr)) (by decide) (by decide) ?_ ?_
                  ·
                   rw [hh, eq60]
                   exact R51.trans (CHv.at X60 hZ25 hEL R51.1)
                  show Q_law Z p1 p2 p3 p4 p5 h0 n0 _ T60.heap _
                  rw [eq60]
                  exact ⟨rfl, N60⟩
                 have hwi : ownW bod iq = true := (hWW _).trans ((own_i1 _).mp cc59)
                 refine oifn Y58 470 rfl ((if0 _ _).trans (feq cc59).1) <| oil Y58 471 rfl rfl <| oil Y58 472 rfl rfl <| oil Y58 473 rfl rfl <| oal Y58 474 rfl rfl rfl <| oal Y58 475 rfl rfl rfl ?_
                 refine oCS X58 Y58 hZ25 hml ho25 (wT 174 rfl) (wT 175 rfl) (wT 4 rfl) (wT 176 rfl) (rm_removed Gl Ol51 b3 k3 P0 P1 P2 b28 k28 w0 w1 w2 iq S nn F51_205 F51_212 ⟨by omega, by omega, by omega⟩ (by omega) (by omega) (by omega) (by omega)) eq58 476 rfl 5 0 pd_69277098 rfl rfl rfl rfl (by decide +kernel) ?_
                 intro v66 T66 L66 X66 Y66 hQ66
                 obtain ⟨rfl, Nq66, eq66⟩ := hQ66
                 show OwnH p e below _ T66 m _ _ [(.int (ownI (ownRem (ownWsAt P0 P1 P2 w0 w1 w2) nn S iq)))]
                 have N66 := Fr.app N58 Nq66
                 by_cases cc67 : (ownI (ownRem (ownWsAt P0 P1 P2 w0 w1 w2) nn S iq)) = (0 : Int32)
                 ·
                  have hri : ownRem (ownW bod) nn S iq = false := by rw [hWf]; exact (own_i0 _).mp cc67
                  refine oify 901 Y66 477 rfl rfl ((if0 _ _).trans (teq cc67).1) <| oil Y66 480 rfl rfl <| oil Y66 481 rfl rfl <| oil Y66 482 rfl rfl <| oal Y66 483 rfl rfl rfl <| oal Y66 484 rfl rfl rfl ?_
                  refine oCS X66 Y66 hZ25 hml ho25 (wT 177 rfl) (wT 178 rfl) (wT 4 rfl) (wT 179 rfl) (rm_f Gl Ol51 b3 k3 P0 P1 P2 b45 k45 r0 r1 r2 iq S (ownCnt bod S en iq) F51_205 V51' ⟨by omega, by omega, by omega⟩ (by omega) (by omega) (hFa _ (by omega) (by omega))) eq66 485 rfl 4 1 pd_34574447 rfl rfl rfl rfl (by decide +kernel) ?_
                  intro v68 T68 L68 X68 Y68 hQ68
                  obtain ⟨rfl, Nq68, eq68⟩ := hQ68
                  show OwnH p e below _ T68 m _ _ [(.int (Int32.ofNat (ownCnt bod S en iq))), (.int (Int32.ofNat (ownMark S)))]
                  have N68 := Fr.app N66 Nq68
                  refine oadd Y68 486 rfl <| oti (Int32.ofNat ((ownMark S) + (ownCnt bod S en iq))) ((own_addN _ _)) <| ois Y68 487 rfl #[vI p1, vI p2, vI p3, vI p4, vI p5, sl5, vR ar, vI (Int32.ofNat nn), vR b3, vR b7, vI (ownPred Q), vR x_25, vI (ownI lv0), vI (ownI lv1), vR b28, vR b29, vI (Int32.ofNat S), vI (Int32.ofNat (ownMark S)), vR b45, vI (Int32.ofNat full), vI (Int32.ofNat lim), vI (Int32.ofNat len), vI (Int32.ofNat iq), vI (ownI (ownWsAt P0 P1 P2 w0 w1 w2 iq)), vI (Int32.ofNat ((ownMark S) + (ownCnt bod S en iq))), vU] (XS.store1 rfl hsl24 rfl) <| oil Y68 488 rfl rfl <| oil Y68 489 rfl rfl ?_
                  by_cases cc69 : (Int32.ofNat ((ownMark S) + (ownCnt bod S en iq))) < (Int32.ofNat lim)
                  ·
                   have hgl : ((ownMark S) + (ownCnt bod S en iq)) < lim := (own_ltN (by have := own_cnt_le bod S en iq; omega) (by omega)).mp cc69
                   refine ocy 926 Y68 490 rfl rfl (tlt cc69).1 <| oil Y68 493 rfl rfl <| oifn Y68 494 rfl ((if0 _ _).trans (feq cc59).1) <| obp 32 Y68 495 rfl rfl <| ogt 945 Y68 496 rfl rfl <| ois Y68 501 rfl #[vI p1, vI p2, vI p3, vI p4, vI p5, sl5, vR ar, vI (Int32.ofNat nn), vR b3, vR b7, vI (ownPred Q), vR x_25, vI (ownI lv0), vI (ownI lv1), vR b28, vR b29, vI (Int32.ofNat S), vI (Int32.ofNat (ownMark S)), vR b45, vI (Int32.ofNat full), vI (Int32.ofNat lim), vI (Int32.ofNat len), vI (Int32.ofNat iq), vI (ownI (ownWsAt P0 P1 P2 w0 w1 w2 iq)), vI (Int32.ofNat ((ownMark S) + (ownCnt bod S en iq))), vI 32] rfl <| oal Y68 502 rfl rfl rfl <| oil Y68 503 rfl rfl ?_
                   refine oCV X68 Y68 hZ25 hml ho25 (wT 296 rfl) (wT 79 rfl) (notFace_of_selects (args := #[]) (mvT hZ25 (wT 81 rfl))) (wT 81 rfl) (wT 80 rfl) (wT 82 rfl) (wT 9 rfl) (rm_chA Gl Ol51 x_25 cd_25 t_25 k_25 N_25 vs_25 (Int32.ofNat ((ownMark S) + (ownCnt bod S en iq))) (ownAt R_25 ((ownMark S) + (ownCnt bod S en iq))) F51_207 F51_208 F51_209 F51_210 (own_ch pq25_0 (j := ((ownMark S) + (ownCnt bod S en iq))) (by rw [hR1]; omega) rfl)) eq68 F51_207 504 rfl 1 0 pd_17647939 rfl rfl rfl rfl rfl (by decide +kernel) (by decide +kernel) ?_
                   intro v70 T70 L70 X70 Y70 hQ70
                   obtain ⟨rfl, Nq70, eq70⟩ := hQ70
                   show OwnH p e below _ T70 m _ _ [(.int (ownAt R_25 ((ownMark S) + (ownCnt bod S en iq))))]
                   have N70 := Fr.app N68 Nq70
                   refine oil Y70 505 rfl rfl <| ocn Y70 506 rfl (teq (show (ownAt R_25 ((ownMark S) + (ownCnt bod S en iq))) = (32 : Int32) from ((hR4 iq hiS hiq (fun _ => hri) hgl).trans (if_pos hwi)))).2 <| oic 1 Y70 507 rfl rfl <| ogt 964 Y70 508 rfl rfl ?_
                   refine own_leaveW (Z := Z) (EL := consts_1) X70 hS25 (eq70 ▸ hk51) hlk (v := some (.int 1)) (fun h => by rw [Bd.returns] at h; cases h) (fun fs hr => retN X70 hx (t := .boolean) Bd.returns (by simp) (Y0.d 509 rfl) (by rw [(by decide : nar .boolean (1 : Int32) = (1 : Int32))]; exact hr)) (by decide) (by decide) ?_ ?_
                   ·
                    rw [hh, eq70]
                    exact R51.trans (CHv.at X70 hZ25 hEL R51.1)
                   show Q_law Z p1 p2 p3 p4 p5 h0 n0 _ T70.heap _
                   rw [eq70]
                   exact ⟨rfl, N70⟩
                  refine ocn Y68 490 rfl (flt cc69).1 <| oic 1 Y68 491 rfl rfl ?_
                  refine own_leaveW (Z := Z) (EL := consts_1) X68 hS25 (eq68 ▸ hk51) hlk (v := some (.int 1)) (fun h => by rw [Bd.returns] at h; cases h) (fun fs hr => retN X68 hx (t := .boolean) Bd.returns (by simp) (Y0.d 492 rfl) (by rw [(by decide : nar .boolean (1 : Int32) = (1 : Int32))]; exact hr)) (by decide) (by decide) ?_ ?_
                  ·
                   rw [hh, eq68]
                   exact R51.trans (CHv.at X68 hZ25 hEL R51.1)
                  show Q_law Z p1 p2 p3 p4 p5 h0 n0 _ T68.heap _
                  rw [eq68]
                  exact ⟨rfl, N68⟩
                 refine oifn Y66 477 rfl ((if0 _ _).trans (feq cc67).1) <| oic 1 Y66 478 rfl rfl ?_
                 refine own_leaveW (Z := Z) (EL := consts_1) X66 hS25 (eq66 ▸ hk51) hlk (v := some (.int 1)) (fun h => by rw [Bd.returns] at h; cases h) (fun fs hr => retN X66 hx (t := .boolean) Bd.returns (by simp) (Y0.d 479 rfl) (by rw [(by decide : nar .boolean (1 : Int32) = (1 : Int32))]; exact hr)) (by decide) (by decide) ?_ ?_
                 ·
                  rw [hh, eq66]
                  exact R51.trans (CHv.at X66 hZ25 hEL R51.1)
                 show Q_law Z p1 p2 p3 p4 p5 h0 n0 _ T66.heap _
                 rw [eq66]
                 exact ⟨rfl, N66⟩
                have s827 : ∀ (T74 : State) (L74 : List Loc) (X74 : Stand p l e room_1 (s.setVm T25.vm) m #[(.int p1), (.int p2), (.int p3), (.int p4), (.int p5)] below meth c T74 L74 17 2795) (e74 : T74.heap = h51) (N74 : Fr n0 L74), OwnGoes p e below (fun o U' => ∃ v L, o = .returned v ∧ Q_law Z p1 p2 p3 p4 p5 h0 n0 v U'.heap L ∧ CHr Z consts_1 s.vm s.heap U'.vm U'.heap ∧ ReturnedEndW s o U' L room_1.cells room_1.slots) T74 (mkF m 827 #[vI p1, vI p2, vI p3, vI p4, vI p5, sl5, vR ar, vI (Int32.ofNat nn), vR b3, vR b7, vI (ownPred Q), vR x_25, vI (ownI lv0), vI (ownI lv1), vR b28, vR b29, vI (Int32.ofNat S), vI (Int32.ofNat (ownMark S)), vR b45, vI (Int32.ofNat full), vI (Int32.ofNat lim), vI (Int32.ofNat len), sl22, sl23, sl24, vU] []) := by
                 intro T74 L74 X74 e74 N74
                 have Y74 := Y0.nx X74
                 refine oil Y74 445 rfl rfl <| oil Y74 446 rfl rfl ?_
                 by_cases cc75 : (Int32.ofNat lim) < (Int32.ofNat len)
                 ·
                  have hl2 : lim < len := (own_ltN (by omega) (by omega)).mp cc75
                  refine ocn Y74 447 rfl (tlt cc75).2.1 <| oal Y74 448 rfl rfl rfl <| oil Y74 449 rfl rfl ?_
                  refine oCV X74 Y74 hZ25 hml ho25 (wT 296 rfl) (wT 79 rfl) (notFace_of_selects (args := #[]) (mvT hZ25 (wT 81 rfl))) (wT 81 rfl) (wT 80 rfl) (wT 82 rfl) (wT 9 rfl) (rm_chA Gl Ol51 x_25 cd_25 t_25 k_25 N_25 vs_25 (Int32.ofNat lim) (ownAt R_25 lim) F51_207 F51_208 F51_209 F51_210 (own_ch pq25_0 (j := lim) (own_getD_lt (hR3 hl2)) rfl)) e74 F51_207 450 rfl 1 0 pd_17647939 rfl rfl rfl rfl rfl (by decide +kernel) (by decide +kernel) ?_
                  intro v76 T76 L76 X76 Y76 hQ76
                  obtain ⟨rfl, Nq76, eq76⟩ := hQ76
                  show OwnH p e below _ T76 m _ _ [(.int (ownAt R_25 lim))]
                  have N76 := Fr.app N74 Nq76
                  refine osp 8230 Y76 451 rfl rfl <| ocy 849 Y76 452 rfl rfl (teq (show ownAt R_25 lim = (8230 : Int32) from hR3 hl2)).1 ?_
                  exact s849 T76 _ X76 eq76 N76
                 refine ocy 849 Y74 447 rfl rfl (flt cc75).2.1 ?_
                 exact s849 T74 _ X74 e74 N74
                refine oil Y54 437 rfl rfl <| oic 1 Y54 438 rfl rfl ?_
                by_cases cc77 : (Int32.ofNat (ownMark S)) = (1 : Int32)
                ·
                 have hm1 : ownMark S = 1 := own_ofN (b := 1) (by omega) (by decide) cc77
                 refine ocn Y54 439 rfl (teq cc77).2 <| oal Y54 440 rfl rfl rfl <| oic 0 Y54 441 rfl rfl ?_
                 refine oCV X54 Y54 hZ25 hml ho25 (wT 296 rfl) (wT 79 rfl) (notFace_of_selects (args := #[]) (mvT hZ25 (wT 81 rfl))) (wT 81 rfl) (wT 80 rfl) (wT 82 rfl) (wT 9 rfl) (rm_chA Gl Ol51 x_25 cd_25 t_25 k_25 N_25 vs_25 (0 : Int32) (ownAt R_25 0) F51_207 F51_208 F51_209 F51_210 (own_ch pq25_0 (j := 0) (own_getD_lt (hR2 hm1)) rfl)) eq54 F51_207 442 rfl 1 0 pd_17647939 rfl rfl rfl rfl rfl (by decide +kernel) (by decide +kernel) ?_
                 intro v78 T78 L78 X78 Y78 hQ78
                 obtain ⟨rfl, Nq78, eq78⟩ := hQ78
                 show OwnH p e below _ T78 m _ _ [(.int (ownAt R_25 0))]
                 have N78 := Fr.app N54 Nq78
                 refine osp 8230 Y78 443 rfl rfl <| ocy 827 Y78 444 rfl rfl (teq (show ownAt R_25 0 = (8230 : Int32) from hR2 hm1)).1 ?_
                 exact s827 T78 _ X78 eq78 N78
                have hm1 : ownMark S = 0 := by
                 have z : ¬ ownMark S = 1 := fun q => cc77 (congrArg Int32.ofNat q)
                 omega
                refine ocy 827 Y54 439 rfl rfl (feq cc77).2 ?_
                exact s827 T54 _ X54 eq54 N54
               have s628 : ∀ (T79 : State) (L79 : List Loc) (X79 : Stand p l e room_1 (s.setVm T25.vm) m #[(.int p1), (.int p2), (.int p3), (.int p4), (.int p5)] below meth c T79 L79 17 2795) (e79 : T79.heap = h51) (N79 : Fr n0 L79) (hC : 240 < full ∨ (full = 240 ∧ ownW bod (nn - 1) = true)), OwnGoes p e below (fun o U' => ∃ v L, o = .returned v ∧ Q_law Z p1 p2 p3 p4 p5 h0 n0 v U'.heap L ∧ CHr Z consts_1 s.vm s.heap U'.vm U'.heap ∧ ReturnedEndW s o U' L room_1.cells room_1.slots) T79 (mkF m 628 #[vI p1, vI p2, vI p3, vI p4, vI p5, sl5, vR ar, vI (Int32.ofNat nn), vR b3, vR b7, vI (ownPred Q), vR x_25, vI (ownI lv0), vI (ownI lv1), vR b28, vR b29, vI (Int32.ofNat S), vI (Int32.ofNat (ownMark S)), vR b45, vI (Int32.ofNat full), vI (Int32.ofNat full), vI (Int32.ofNat full), vU, vU, vU, vU] []) := by
                intro T79 L79 X79 e79 N79 hC
                have Y79 := Y0.nx X79
                refine oic 0 Y79 354 rfl rfl <| oil Y79 355 rfl rfl <| oil Y79 356 rfl rfl <| oal Y79 357 rfl rfl rfl <| oal Y79 358 rfl rfl rfl <| oal Y79 359 rfl rfl rfl ?_
                refine oCS X79 Y79 hZ25 hml ho25 (wT 289 rfl) (wT 290 rfl) (wT 4 rfl) (wT 291 rfl) (rm_ksj Gl Ol51 (0 : Int32) P0 w0 r0 b3 k3 P0 P1 P2 b28 k28 w0 w1 w2 b45 k45 r0 r1 r2 S (ownMark S) (ownCnt bod S en P0) F51_205 F51_212 V51' (by decide) rfl rfl rfl (by omega) ⟨by omega, by omega, by omega⟩ (by omega) hmk1 (fun q => hFa _ q (by omega)) (Nat.le_trans (own_cnt_le _ _ _ _) (by omega))) e79 360 rfl 6 0 pd_89783115 rfl rfl rfl rfl (by decide +kernel) ?_
                intro v80 T80 L80 X80 Y80 hQ80
                obtain ⟨rfl, Nq80, eq80⟩ := hQ80
                show OwnH p e below _ T80 m _ _ [(.int (ownPred (ownKs w0 r0 S ((ownMark S) + (ownCnt bod S en P0)) P0)))]
                have N80 := Fr.app N79 Nq80
                refine oic 1 Y80 361 rfl rfl <| oil Y80 362 rfl rfl <| oil Y80 363 rfl rfl <| oal Y80 364 rfl rfl rfl <| oal Y80 365 rfl rfl rfl <| oal Y80 366 rfl rfl rfl ?_
                refine oCS X80 Y80 hZ25 hml ho25 (wT 289 rfl) (wT 290 rfl) (wT 4 rfl) (wT 291 rfl) (rm_ksj Gl Ol51 (1 : Int32) P1 w1 r1 b3 k3 P0 P1 P2 b28 k28 w0 w1 w2 b45 k45 r0 r1 r2 S (ownMark S) (ownCnt bod S en P1) F51_205 F51_212 V51' (by decide) rfl rfl rfl (by omega) ⟨by omega, by omega, by omega⟩ (by omega) hmk1 (fun q => hFa _ q (by omega)) (Nat.le_trans (own_cnt_le _ _ _ _) (by omega))) eq80 367 rfl 6 1 pd_89783115 rfl rfl rfl rfl (by decide +kernel) ?_
                intro v81 T81 L81 X81 Y81 hQ81
                obtain ⟨rfl, Nq81, eq81⟩ := hQ81
                show OwnH p e below _ T81 m _ _ [(.int (ownPred (ownKs w1 r1 S ((ownMark S) + (ownCnt bod S en P1)) P1))), (.int (ownPred (ownKs w0 r0 S ((ownMark S) + (ownCnt bod S en P0)) P0)))]
                have N81 := Fr.app N80 Nq81
                refine oic 2 Y81 368 rfl rfl <| oil Y81 369 rfl rfl <| oil Y81 370 rfl rfl <| oal Y81 371 rfl rfl rfl <| oal Y81 372 rfl rfl rfl <| oal Y81 373 rfl rfl rfl ?_
                refine oCS X81 Y81 hZ25 hml ho25 (wT 289 rfl) (wT 290 rfl) (wT 4 rfl) (wT 291 rfl) (rm_ksj Gl Ol51 (2 : Int32) P2 w2 r2 b3 k3 P0 P1 P2 b28 k28 w0 w1 w2 b45 k45 r0 r1 r2 S (ownMark S) (ownCnt bod S en P2) F51_205 F51_212 V51' (by decide) rfl rfl rfl (by omega) ⟨by omega, by omega, by omega⟩ (by omega) hmk1 (fun q => hFa _ q (by omega)) (Nat.le_trans (own_cnt_le _ _ _ _) (by omega))) eq81 374 rfl 6 2 pd_89783115 rfl rfl rfl rfl (by decide +kernel) ?_
                intro v82 T82 L82 X82 Y82 hQ82
                obtain ⟨rfl, Nq82, eq82⟩ := hQ82
                show OwnH p e below _ T82 m _ _ [(.int (ownPred (ownKs w2 r2 S ((ownMark S) + (ownCnt bod S en P2)) P2))), (.int (ownPred (ownKs w1 r1 S ((ownMark S) + (ownCnt bod S en P1)) P1))), (.int (ownPred (ownKs w0 r0 S ((ownMark S) + (ownCnt bod S en P0)) P0)))]
                have N82 := Fr.app N81 Nq82
                refine oCS X82 Y82 hZ25 hml ho25 (wT 292 rfl) (wT 41 rfl) (wT 42 rfl) (wT 43 rfl) (rm_maxp Gl Ol51 (ownKs w1 r1 S ((ownMark S) + (ownCnt bod S en P1)) P1) (ownKs w2 r2 S ((ownMark S) + (ownCnt bod S en P2)) P2) (Nat.le_trans own_ks_le (by decide)) (Nat.le_trans own_ks_le (by decide))) eq82 375 rfl 2 1 pd_50523903 rfl rfl rfl rfl (by decide +kernel) ?_
                intro v83 T83 L83 X83 Y83 hQ83
                obtain ⟨rfl, Nq83, eq83⟩ := hQ83
                show OwnH p e below _ T83 m _ _ [(.int (ownPred (max (ownKs w1 r1 S ((ownMark S) + (ownCnt bod S en P1)) P1) (ownKs w2 r2 S ((ownMark S) + (ownCnt bod S en P2)) P2)))), (.int (ownPred (ownKs w0 r0 S ((ownMark S) + (ownCnt bod S en P0)) P0)))]
                have N83 := Fr.app N82 Nq83
                refine oCS X83 Y83 hZ25 hml ho25 (wT 292 rfl) (wT 41 rfl) (wT 42 rfl) (wT 43 rfl) (rm_maxp Gl Ol51 (ownKs w0 r0 S ((ownMark S) + (ownCnt bod S en P0)) P0) (max (ownKs w1 r1 S ((ownMark S) + (ownCnt bod S en P1)) P1) (ownKs w2 r2 S ((ownMark S) + (ownCnt bod S en P2)) P2)) (Nat.le_trans own_ks_le (by decide)) (Nat.max_le.mpr ⟨Nat.le_trans own_ks_le (by decide), Nat.le_trans own_ks_le (by decide)⟩)) eq83 376 rfl 2 0 pd_50523903 rfl rfl rfl rfl (by decide +kernel) ?_
                intro v84 T84 L84 X84 Y84 hQ84
                obtain ⟨rfl, Nq84, eq84⟩ := hQ84
                show OwnH p e below _ T84 m _ _ [(.int (ownPred (max (ownKs w0 r0 S ((ownMark S) + (ownCnt bod S en P0)) P0) (max (ownKs w1 r1 S ((ownMark S) + (ownCnt bod S en P1)) P1) (ownKs w2 r2 S ((ownMark S) + (ownCnt bod S en P2)) P2)))))]
                have N84 := Fr.app N83 Nq84
                refine oti (ownPred M) ((by rw [hM])) <| ois Y84 377 rfl #[vI p1, vI p2, vI p3, vI p4, vI p5, sl5, vR ar, vI (Int32.ofNat nn), vR b3, vR b7, vI (ownPred Q), vR x_25, vI (ownI lv0), vI (ownI lv1), vR b28, vR b29, vI (Int32.ofNat S), vI (Int32.ofNat (ownMark S)), vR b45, vI (Int32.ofNat full), vI (Int32.ofNat full), vI (Int32.ofNat full), vI (ownPred M), vU, vU, vU] rfl ?_
                have s740 : ∀ (T85 : State) (L85 : List Loc) (X85 : Stand p l e room_1 (s.setVm T25.vm) m #[(.int p1), (.int p2), (.int p3), (.int p4), (.int p5)] below meth c T85 L85 17 2795) (e85 : T85.heap = h51) (N85 : Fr n0 L85), OwnGoes p e below (fun o U' => ∃ v L, o = .returned v ∧ Q_law Z p1 p2 p3 p4 p5 h0 n0 v U'.heap L ∧ CHr Z consts_1 s.vm s.heap U'.vm U'.heap ∧ ReturnedEndW s o U' L room_1.cells room_1.slots) T85 (mkF m 740 #[vI p1, vI p2, vI p3, vI p4, vI p5, sl5, vR ar, vI (Int32.ofNat nn), vR b3, vR b7, vI (ownPred Q), vR x_25, vI (ownI lv0), vI (ownI lv1), vR b28, vR b29, vI (Int32.ofNat S), vI (Int32.ofNat (ownMark S)), vR b45, vI (Int32.ofNat full), vI (Int32.ofNat full), vI (Int32.ofNat full), vI (ownPred M), vU, vU, vU] [(.int (ownI hg))]) := by
                 intro T85 L85 X85 e85 N85
                 have Y85 := Y0.nx X85
                 refine ois Y85 408 rfl #[vI p1, vI p2, vI p3, vI p4, vI p5, sl5, vR ar, vI (Int32.ofNat nn), vR b3, vR b7, vI (ownPred Q), vR x_25, vI (ownI lv0), vI (ownI lv1), vR b28, vR b29, vI (Int32.ofNat S), vI (Int32.ofNat (ownMark S)), vR b45, vI (Int32.ofNat full), vI (Int32.ofNat full), vI (Int32.ofNat full), vI (ownPred M), vI (ownI hg), vU, vU] rfl <| oil Y85 409 rfl rfl <| oic 1 Y85 410 rfl rfl ?_
                 by_cases cc86 : (Int32.ofNat (ownMark S)) = (1 : Int32)
                 ·
                  have hm1 : ownMark S = 1 := own_ofN (b := 1) (by omega) (by decide) cc86
                  refine ocn Y85 411 rfl (teq cc86).2 <| obp 120 Y85 412 rfl rfl <| ogt 755 Y85 413 rfl rfl <| ois Y85 415 rfl #[vI p1, vI p2, vI p3, vI p4, vI p5, sl5, vR ar, vI (Int32.ofNat nn), vR b3, vR b7, vI (ownPred Q), vR x_25, vI (ownI lv0), vI (ownI lv1), vR b28, vR b29, vI (Int32.ofNat S), vI (Int32.ofNat (ownMark S)), vR b45, vI (Int32.ofNat full), vI (Int32.ofNat full), vI (Int32.ofNat full), vI (ownPred M), vI (ownI hg), vI 120, vU] rfl <| oil Y85 416 rfl rfl <| oil Y85 417 rfl rfl ?_
                  by_cases cc87 : (120 : Int32) < (ownPred M)
                  ·
                   have hmx : 121 < M := (own_pred_big (k := 120) (by omega) (by decide)).mp cc87
                   refine ocn Y85 418 rfl (tlt cc87).2.2.2 <| oil Y85 419 rfl rfl <| ois Y85 420 rfl #[vI p1, vI p2, vI p3, vI p4, vI p5, sl5, vR ar, vI (Int32.ofNat nn), vR b3, vR b7, vI (ownPred Q), vR x_25, vI (ownI lv0), vI (ownI lv1), vR b28, vR b29, vI (Int32.ofNat S), vI (Int32.ofNat (ownMark S)), vR b45, vI (Int32.ofNat full), vI (ownPred M), vI (Int32.ofNat full), vI (ownPred M), vI (ownI hg), vI 120, vU] rfl <| ogt 789 Y85 421 rfl rfl <| oil Y85 429 rfl rfl <| oic 1 Y85 430 rfl rfl <| oadd Y85 431 rfl <| ois Y85 432 rfl #[vI p1, vI p2, vI p3, vI p4, vI p5, sl5, vR ar, vI (Int32.ofNat nn), vR b3, vR b7, vI (ownPred Q), vR x_25, vI (ownI lv0), vI (ownI lv1), vR b28, vR b29, vI (Int32.ofNat S), vI (Int32.ofNat (ownMark S)), vR b45, vI (Int32.ofNat full), vI (ownPred M), vI ((ownPred M) + (1 : Int32)), vI (ownPred M), vI (ownI hg), vI 120, vU] rfl ?_
                   refine og T85 m 795 #[vI p1, vI p2, vI p3, vI p4, vI p5, sl5, vR ar, vI (Int32.ofNat nn), vR b3, vR b7, vI (ownPred Q), vR x_25, vI (ownI lv0), vI (ownI lv1), vR b28, vR b29, vI (Int32.ofNat S), vI (Int32.ofNat (ownMark S)), vR b45, vI (Int32.ofNat full), vI (ownPred M), vI (Int32.ofNat M), vI (ownPred M), vI (ownI hg), vI 120, vU] [] (fun tgt kgo => castTop (by rw [(own_padd (A := M) (by omega))]) kgo) ?_
                   refine og T85 m 795 #[vI p1, vI p2, vI p3, vI p4, vI p5, sl5, vR ar, vI (Int32.ofNat nn), vR b3, vR b7, vI (ownPred Q), vR x_25, vI (ownI lv0), vI (ownI lv1), vR b28, vR b29, vI (Int32.ofNat S), vI (Int32.ofNat (ownMark S)), vR b45, vI (Int32.ofNat full), vI (Int32.ofNat (M - 1)), vI (Int32.ofNat M), vI (Int32.ofNat (M - 1)), vI (ownI hg), vI 120, vU] [] (fun tgt kgo => castTop (by rw [own_ppos (A := M) (by omega)]) kgo) ?_
                   exact s795 (M - 1) M (vI (Int32.ofNat (M - 1))) (vI (ownI hg)) (vI 120) T85 _ X85 e85 N85 (fun _ => ⟨by unfold ownLim; rw [hm1, if_pos (by omega)], by omega⟩) (fun q => absurd hC q) ⟨by omega, by omega⟩ (Or.inr ⟨_, rfl, rfl⟩) (Or.inr ⟨_, rfl, rfl⟩) (Or.inr ⟨_, rfl, rfl⟩)
                  have hmx : ¬ 121 < M := fun q => cc87 ((own_pred_big (k := 120) (by omega) (by decide)).mpr q)
                  refine ocy 771 Y85 418 rfl rfl (flt cc87).2.2.2 <| oil Y85 422 rfl rfl ?_
                  by_cases cc88 : (ownI hg) = (0 : Int32)
                  ·
                   have hgv : hg = false := (own_i0 _).mp cc88
                   refine oify 784 Y85 423 rfl rfl ((if0 _ _).trans (teq cc88).1) <| osp 239 Y85 427 rfl rfl <| ois Y85 428 rfl #[vI p1, vI p2, vI p3, vI p4, vI p5, sl5, vR ar, vI (Int32.ofNat nn), vR b3, vR b7, vI (ownPred Q), vR x_25, vI (ownI lv0), vI (ownI lv1), vR b28, vR b29, vI (Int32.ofNat S), vI (Int32.ofNat (ownMark S)), vR b45, vI (Int32.ofNat full), vI 239, vI (Int32.ofNat full), vI (ownPred M), vI (ownI hg), vI 120, vU] rfl <| oil Y85 429 rfl rfl <| oic 1 Y85 430 rfl rfl <| oadd Y85 431 rfl <| oti (240 : Int32) (by decide) <| ois Y85 432 rfl #[vI p1, vI p2, vI p3, vI p4, vI p5, sl5, vR ar, vI (Int32.ofNat nn), vR b3, vR b7, vI (ownPred Q), vR x_25, vI (ownI lv0), vI (ownI lv1), vR b28, vR b29, vI (Int32.ofNat S), vI (Int32.ofNat (ownMark S)), vR b45, vI (Int32.ofNat full), vI 239, vI 240, vI (ownPred M), vI (ownI hg), vI 120, vU] rfl ?_
                   exact s795 239 240 (vI (ownPred M)) (vI (ownI hg)) (vI 120) T85 _ X85 e85 N85 (fun _ => ⟨by unfold ownLim; rw [hm1, if_neg (by omega), hgv] <;> rfl, rfl⟩) (fun q => absurd hC q) ⟨by decide, by decide⟩ (Or.inr ⟨_, rfl, rfl⟩) (Or.inr ⟨_, rfl, rfl⟩) (Or.inr ⟨_, rfl, rfl⟩)
                  have hgv : hg = true := (own_i1 _).mp cc88
                  refine oifn Y85 423 rfl ((if0 _ _).trans (feq cc88).1) <| osp 238 Y85 424 rfl rfl <| ois Y85 425 rfl #[vI p1, vI p2, vI p3, vI p4, vI p5, sl5, vR ar, vI (Int32.ofNat nn), vR b3, vR b7, vI (ownPred Q), vR x_25, vI (ownI lv0), vI (ownI lv1), vR b28, vR b29, vI (Int32.ofNat S), vI (Int32.ofNat (ownMark S)), vR b45, vI (Int32.ofNat full), vI 238, vI (Int32.ofNat full), vI (ownPred M), vI (ownI hg), vI 120, vU] rfl <| ogt 789 Y85 426 rfl rfl <| oil Y85 429 rfl rfl <| oic 1 Y85 430 rfl rfl <| oadd Y85 431 rfl <| oti (239 : Int32) (by decide) <| ois Y85 432 rfl #[vI p1, vI p2, vI p3, vI p4, vI p5, sl5, vR ar, vI (Int32.ofNat nn), vR b3, vR b7, vI (ownPred Q), vR x_25, vI (ownI lv0), vI (ownI lv1), vR b28, vR b29, vI (Int32.ofNat S), vI (Int32.ofNat (ownMark S)), vR b45, vI (Int32.ofNat full), vI 238, vI 239, vI (ownPred M), vI (ownI hg), vI 120, vU] rfl ?_
                  exact s795 238 239 (vI (ownPred M)) (vI (ownI hg)) (vI 120) T85 _ X85 e85 N85 (fun _ => ⟨by unfold ownLim; rw [hm1, if_neg (by omega), hgv] <;> rfl, rfl⟩) (fun q => absurd hC q) ⟨by decide, by decide⟩ (Or.inr ⟨_, rfl, rfl⟩) (Or.inr ⟨_, rfl, rfl⟩) (Or.inr ⟨_, rfl, rfl⟩)
                 have hm1 : ownMark S = 0 := by
                  have z : ¬ ownMark S = 1 := fun q => cc86 (congrArg Int32.ofNat q)
                  omega
                 refine ocy 753 Y85 411 rfl rfl (feq cc86).2 <| obp 119 Y85 414 rfl rfl <| ois Y85 415 rfl #[vI p1, vI p2, vI p3, vI p4, vI p5, sl5, vR ar, vI (Int32.ofNat nn), vR b3, vR b7, vI (ownPred Q), vR x_25, vI (ownI lv0), vI (ownI lv1), vR b28, vR b29, vI (Int32.ofNat S), vI (Int32.ofNat (ownMark S)), vR b45, vI (Int32.ofNat full), vI (Int32.ofNat full), vI (Int32.ofNat full), vI (ownPred M), vI (ownI hg), vI 119, vU] rfl <| oil Y85 416 rfl rfl <| oil Y85 417 rfl rfl ?_
                 by_cases cc89 : (119 : Int32) < (ownPred M)
                 ·
                  have hmx : 120 < M := (own_pred_big (k := 119) (by omega) (by decide)).mp cc89
                  refine ocn Y85 418 rfl (tlt cc89).2.2.2 <| oil Y85 419 rfl rfl <| ois Y85 420 rfl #[vI p1, vI p2, vI p3, vI p4, vI p5, sl5, vR ar, vI (Int32.ofNat nn), vR b3, vR b7, vI (ownPred Q), vR x_25, vI (ownI lv0), vI (ownI lv1), vR b28, vR b29, vI (Int32.ofNat S), vI (Int32.ofNat (ownMark S)), vR b45, vI (Int32.ofNat full), vI (ownPred M), vI (Int32.ofNat full), vI (ownPred M), vI (ownI hg), vI 119, vU] rfl <| ogt 789 Y85 421 rfl rfl <| oil Y85 429 rfl rfl <| oic 1 Y85 430 rfl rfl <| oadd Y85 431 rfl <| ois Y85 432 rfl #[vI p1, vI p2, vI p3, vI p4, vI p5, sl5, vR ar, vI (Int32.ofNat nn), vR b3, vR b7, vI (ownPred Q), vR x_25, vI (ownI lv0), vI (ownI lv1), vR b28, vR b29, vI (Int32.ofNat S), vI (Int32.ofNat (ownMark S)), vR b45, vI (Int32.ofNat full), vI (ownPred M), vI ((ownPred M) + (1 : Int32)), vI (ownPred M), vI (ownI hg), vI 119, vU] rfl ?_
                  refine og T85 m 795 #[vI p1, vI p2, vI p3, vI p4, vI p5, sl5, vR ar, vI (Int32.ofNat nn), vR b3, vR b7, vI (ownPred Q), vR x_25, vI (ownI lv0), vI (ownI lv1), vR b28, vR b29, vI (Int32.ofNat S), vI (Int32.ofNat (ownMark S)), vR b45, vI (Int32.ofNat full), vI (ownPred M), vI (Int32.ofNat M), vI (ownPred M), vI (ownI hg), vI 119, vU] [] (fun tgt kgo => castTop (by rw [(own_padd (A := M) (by omega))]) kgo) ?_
                  refine og T85 m 795 #[vI p1, vI p2, vI p3, vI p4, vI p5, sl5, vR ar, vI (Int32.ofNat nn), vR b3, vR b7, vI (ownPred Q), vR x_25, vI (ownI lv0), vI (ownI lv1), vR b28, vR b29, vI (Int32.ofNat S), vI (Int32.ofNat (ownMark S)), vR b45, vI (Int32.ofNat full), vI (Int32.ofNat (M - 1)), vI (Int32.ofNat M), vI (Int32.ofNat (M - 1)), vI (ownI hg), vI 119, vU] [] (fun tgt kgo => castTop (by rw [own_ppos (A := M) (by omega)]) kgo) ?_
                  exact s795 (M - 1) M (vI (Int32.ofNat (M - 1))) (vI (ownI hg)) (vI 119) T85 _ X85 e85 N85 (fun _ => ⟨by unfold ownLim; rw [hm1, if_pos (by omega)], by omega⟩) (fun q => absurd hC q) ⟨by omega, by omega⟩ (Or.inr ⟨_, rfl, rfl⟩) (Or.inr ⟨_, rfl, rfl⟩) (Or.inr ⟨_, rfl, rfl⟩)
                 have hmx : ¬ 120 < M := fun q => cc89 ((own_pred_big (k := 119) (by omega) (by decide)).mpr q)
                 refine ocy 771 Y85 418 rfl rfl (flt cc89).2.2.2 <| oil Y85 422 rfl rfl ?_
                 by_cases cc90 : (ownI hg) = (0 : Int32)
                 ·
                  have hgv : hg = false := (own_i0 _).mp cc90
                  refine oify 784 Y85 423 rfl rfl ((if0 _ _).trans (teq cc90).1) <| osp 239 Y85 427 rfl rfl <| ois Y85 428 rfl #[vI p1, vI p2, vI p3, vI p4, vI p5, sl5, vR ar, vI (Int32.ofNat nn), vR b3, vR b7, vI (ownPred Q), vR x_25, vI (ownI lv0), vI (ownI lv1), vR b28, vR b29, vI (Int32.ofNat S), vI (Int32.ofNat (ownMark S)), vR b45, vI (Int32.ofNat full), vI 239, vI (Int32.ofNat full), vI (ownPred M), vI (ownI hg), vI 119, vU] rfl <| oil Y85 429 rfl rfl <| oic 1 Y85 430 rfl rfl <| oadd Y85 431 rfl <| oti (240 : Int32) (by decide) <| ois Y85 432 rfl #[vI p1, vI p2, vI p3, vI p4, vI p5, sl5, vR ar, vI (Int32.ofNat nn), vR b3, vR b7, vI (ownPred Q), vR x_25, vI (ownI lv0), vI (ownI lv1), vR b28, vR b29, vI (Int32.ofNat S), vI (Int32.ofNat (ownMark S)), vR b45, vI (Int32.ofNat full), vI 239, vI 240, vI (ownPred M), vI (ownI hg), vI 119, vU] rfl ?_
                  exact s795 239 240 (vI (ownPred M)) (vI (ownI hg)) (vI 119) T85 _ X85 e85 N85 (fun _ => ⟨by unfold ownLim; rw [hm1, if_neg (by omega), hgv] <;> rfl, rfl⟩) (fun q => absurd hC q) ⟨by decide, by decide⟩ (Or.inr ⟨_, rfl, rfl⟩) (Or.inr ⟨_, rfl, rfl⟩) (Or.inr ⟨_, rfl, rfl⟩)
                 have hgv : hg = true := (own_i1 _).mp cc90
                 refine oifn Y85 423 rfl ((if0 _ _).trans (feq cc90).1) <| osp 238 Y85 424 rfl rfl <| ois Y85 425 rfl #[vI p1, vI p2, vI p3, vI p4, vI p5, sl5, vR ar, vI (Int32.ofNat nn), vR b3, vR b7, vI (ownPred Q), vR x_25, vI (ownI lv0), vI (ownI lv1), vR b28, vR b29, vI (Int32.ofNat S), vI (Int32.ofNat (ownMark S)), vR b45, vI (Int32.ofNat full), vI 238, vI (Int32.ofNat full), vI (ownPred M), vI (ownI hg), vI 119, vU] rfl <| ogt 789 Y85 426 rfl rfl <| oil Y85 429 rfl rfl <| oic 1 Y85 430 rfl rfl <| oadd Y85 431 rfl <| oti (239 : Int32) (by decide) <| ois Y85 432 rfl #[vI p1, vI p2, vI p3, vI p4, vI p5, sl5, vR ar, vI (Int32.ofNat nn), vR b3, vR b7, vI (ownPred Q), vR x_25, vI (ownI lv0), vI (ownI lv1), vR b28, vR b29, vI (Int32.ofNat S), vI (Int32.ofNat (ownMark S)), vR b45, vI (Int32.ofNat full), vI 238, vI 239, vI (ownPred M), vI (ownI hg), vI 119, vU] rfl ?_
                 exact s795 238 239 (vI (ownPred M)) (vI (ownI hg)) (vI 119) T85 _ X85 e85 N85 (fun _ => ⟨by unfold ownLim; rw [hm1, if_neg (by omega), hgv] <;> rfl, rfl⟩) (fun q => absurd hC q) ⟨by decide, by decide⟩ (Or.inr ⟨_, rfl, rfl⟩) (Or.inr ⟨_, rfl, rfl⟩) (Or.inr ⟨_, rfl, rfl⟩)
                refine oic 0 Y84 378 rfl rfl <| oil Y84 379 rfl rfl <| oil Y84 380 rfl rfl <| oal Y84 381 rfl rfl rfl <| oal Y84 382 rfl rfl rfl <| oal Y84 383 rfl rfl rfl <| oal Y84 384 rfl rfl rfl ?_
                refine oCS X84 Y84 hZ25 hml ho25 (wT 293 rfl) (wT 294 rfl) (wT 4 rfl) (wT 295 rfl) (rm_hij Gl Ol51 (0 : Int32) P0 v0 c_8 b3 k3 P0 P1 P2 b29 k29 v0 v1 v2 b7 k7 c_8 c_10 c_12 b45 k45 r0 r1 r2 S (ownMark S) (ownCnt bod S en P0) F51_205 F51_214 F51_206 V51' (by decide) rfl rfl rfl (by omega) ⟨by omega, by omega, by omega⟩ (by omega) hmk1 (fun q => hFa _ q (by omega)) (Nat.le_trans (own_cnt_le _ _ _ _) (by omega))) eq84 385 rfl 7 0 pd_56250754 rfl rfl rfl rfl (by decide +kernel) ?_
                intro v91 T91 L91 X91 Y91 hQ91
                obtain ⟨rfl, Nq91, eq91⟩ := hQ91
                show OwnH p e below _ T91 m _ _ [(.int (ownI (v0 && decide (S ≤ P0) && decide (((ownMark S) + (ownCnt bod S en P0)) = 238) && ownHigh c_8)))]
                have N91 := Fr.app N84 Nq91
                by_cases cc92 : (ownI (v0 && decide (S ≤ P0) && decide (((ownMark S) + (ownCnt bod S en P0)) = 238) && ownHigh c_8)) = (0 : Int32)
                ·
                 have hy93 : (v0 && decide (S ≤ P0) && decide (((ownMark S) + (ownCnt bod S en P0)) = 238) && ownHigh c_8) = false := (own_i0 _).mp cc92
                 refine oifn Y91 386 rfl ((if0 _ _).trans (teq cc92).2) <| oic 1 Y91 387 rfl rfl <| oil Y91 388 rfl rfl <| oil Y91 389 rfl rfl <| oal Y91 390 rfl rfl rfl <| oal Y91 391 rfl rfl rfl <| oal Y91 392 rfl rfl rfl <| oal Y91 393 rfl rfl rfl ?_
                 refine oCS X91 Y91 hZ25 hml ho25 (wT 293 rfl) (wT 294 rfl) (wT 4 rfl) (wT 295 rfl) (rm_hij Gl Ol51 (1 : Int32) P1 v1 c_10 b3 k3 P0 P1 P2 b29 k29 v0 v1 v2 b7 k7 c_8 c_10 c_12 b45 k45 r0 r1 r2 S (ownMark S) (ownCnt bod S en P1) F51_205 F51_214 F51_206 V51' (by decide) rfl rfl rfl (by omega) ⟨by omega, by omega, by omega⟩ (by omega) hmk1 (fun q => hFa _ q (by omega)) (Nat.le_trans (own_cnt_le _ _ _ _) (by omega))) eq91 394 rfl 7 0 pd_56250754 rfl rfl rfl rfl (by decide +kernel) ?_
                 intro v94 T94 L94 X94 Y94 hQ94
                 obtain ⟨rfl, Nq94, eq94⟩ := hQ94
                 show OwnH p e below _ T94 m _ _ [(.int (ownI (v1 && decide (S ≤ P1) && decide (((ownMark S) + (ownCnt bod S en P1)) = 238) && ownHigh c_10)))]
                 have N94 := Fr.app N91 Nq94
                 by_cases cc95 : (ownI (v1 && decide (S ≤ P1) && decide (((ownMark S) + (ownCnt bod S en P1)) = 238) && ownHigh c_10)) = (0 : Int32)
                 ·
                  have hy96 : (v1 && decide (S ≤ P1) && decide (((ownMark S) + (ownCnt bod S en P1)) = 238) && ownHigh c_10) = false := (own_i0 _).mp cc95
                  refine oifn Y94 395 rfl ((if0 _ _).trans (teq cc95).2) <| oic 2 Y94 396 rfl rfl <| oil Y94 397 rfl rfl <| oil Y94 398 rfl rfl <| oal Y94 399 rfl rfl rfl <| oal Y94 400 rfl rfl rfl <| oal Y94 401 rfl rfl rfl <| oal Y94 402 rfl rfl rfl ?_
                  refine oCS X94 Y94 hZ25 hml ho25 (wT 293 rfl) (wT 294 rfl) (wT 4 rfl) (wT 295 rfl) (rm_hij Gl Ol51 (2 : Int32) P2 v2 c_12 b3 k3 P0 P1 P2 b29 k29 v0 v1 v2 b7 k7 c_8 c_10 c_12 b45 k45 r0 r1 r2 S (ownMark S) (ownCnt bod S en P2) F51_205 F51_214 F51_206 V51' (by decide) rfl rfl rfl (by omega) ⟨by omega, by omega, by omega⟩ (by omega) hmk1 (fun q => hFa _ q (by omega)) (Nat.le_trans (own_cnt_le _ _ _ _) (by omega))) eq94 403 rfl 7 0 pd_56250754 rfl rfl rfl rfl (by decide +kernel) ?_
                  intro v97 T97 L97 X97 Y97 hQ97
                  obtain ⟨rfl, Nq97, eq97⟩ := hQ97
                  show OwnH p e below _ T97 m _ _ [(.int (ownI (v2 && decide (S ≤ P2) && decide (((ownMark S) + (ownCnt bod S en P2)) = 238) && ownHigh c_12)))]
                  have N97 := Fr.app N94 Nq97
                  by_cases cc98 : (ownI (v2 && decide (S ≤ P2) && decide (((ownMark S) + (ownCnt bod S en P2)) = 238) && ownHigh c_12)) = (0 : Int32)
                  ·
                   have hy99 : (v2 && decide (S ≤ P2) && decide (((ownMark S) + (ownCnt bod S en P2)) = 238) && ownHigh c_12) = false := (own_i0 _).mp cc98
                   refine oify 739 Y97 404 rfl rfl ((if0 _ _).trans (teq cc98).1) <| oic 0 Y97 407 rfl rfl <| oti (ownI hg) ((by rw [hhg, hy99, hy96, hy93] <;> rfl)) ?_
                   exact s740 T97 _ X97 eq97 N97
                  have hy100 : (v2 && decide (S ≤ P2) && decide (((ownMark S) + (ownCnt bod S en P2)) = 238) && ownHigh c_12) = true := (own_i1 _).mp cc98
                  refine oifn Y97 404 rfl ((if0 _ _).trans (feq cc98).1) <| oic 1 Y97 405 rfl rfl <| ogt 740 Y97 406 rfl rfl <| oti (ownI hg) ((by rw [hhg, hy100, hy96, hy93] <;> rfl)) ?_
                  exact s740 T97 _ X97 eq97 N97
                 have hy101 : (v1 && decide (S ≤ P1) && decide (((ownMark S) + (ownCnt bod S en P1)) = 238) && ownHigh c_10) = true := (own_i1 _).mp cc95
                 refine oify 735 Y94 395 rfl rfl ((if0 _ _).trans (feq cc95).2) <| oic 1 Y94 405 rfl rfl <| ogt 740 Y94 406 rfl rfl <| oti (ownI hg) ((by rw [hhg, hy101, hy93] <;> rfl)) ?_
                 exact s740 T94 _ X94 eq94 N94
                have hy102 : (v0 && decide (S ≤ P0) && decide (((ownMark S) + (ownCnt bod S en P0)) = 238) && ownHigh c_8) = true := (own_i1 _).mp cc92
                refine oify 735 Y91 386 rfl rfl ((if0 _ _).trans (feq cc92).2) <| oic 1 Y91 405 rfl rfl <| ogt 740 Y91 406 rfl rfl <| oti (ownI hg) ((by rw [hhg, hy102] <;> rfl)) ?_
                exact s740 T91 _ X91 eq91 N91
               refine oil Y52 341 rfl rfl <| osp 240 Y52 342 rfl rfl ?_
               by_cases cc103 : (240 : Int32) < (Int32.ofNat full)
               ·
                have hf1 : 240 < full := (own_ltN (a := 240) (by decide) (by omega)).mp cc103
                refine ocy 628 Y52 343 rfl rfl (tlt cc103).2.2.1 ?_
                exact s628 T52 _ X52 eq52 N52 (Or.inl hf1)
               have hf1 : ¬ 240 < full := fun q => cc103 ((own_ltN (a := 240) (by decide) (by omega)).mpr q)
               refine ocn Y52 343 rfl (flt cc103).2.2.1 <| oil Y52 344 rfl rfl <| osp 240 Y52 345 rfl rfl ?_
               by_cases cc104 : (Int32.ofNat full) = (240 : Int32)
               ·
                have hf2 : full = 240 := own_ofN (b := 240) (by omega) (by decide) cc104
                refine ocn Y52 346 rfl (teq cc104).2 <| oil Y52 347 rfl rfl <| oic 1 Y52 348 rfl rfl <| osub Y52 349 rfl <| oti (Int32.ofNat (nn - 1)) ((show (Int32.ofNat nn) - (1 : Int32) = (Int32.ofNat (nn - 1)) from own_subN (b := 1) (by omega))) <| oal Y52 350 rfl rfl rfl <| oal Y52 351 rfl rfl rfl ?_
                refine oCS X52 Y52 hZ25 hml ho25 (wT 180 rfl) (wT 181 rfl) (wT 4 rfl) (wT 182 rfl) (rm_wsAt Gl Ol51 b3 k3 P0 P1 P2 b28 k28 w0 w1 w2 (nn - 1) F51_205 F51_212 ⟨by omega, by omega, by omega⟩ (by omega)) eq52 352 rfl 3 0 pd_25816040 rfl rfl rfl rfl (by decide +kernel) ?_
                intro v105 T105 L105 X105 Y105 hQ105
                obtain ⟨rfl, Nq105, eq105⟩ := hQ105
                show OwnH p e below _ T105 m _ _ [(.int (ownI (ownWsAt P0 P1 P2 w0 w1 w2 (nn - 1))))]
                have N105 := Fr.app N52 Nq105
                by_cases cc106 : (ownI (ownWsAt P0 P1 P2 w0 w1 w2 (nn - 1))) = (0 : Int32)
                ·
                 have hf3 : ownW bod (nn - 1) = false := (hWW _).trans ((own_i0 _).mp cc106)
                 refine oify 795 Y105 353 rfl rfl ((if0 _ _).trans (teq cc106).1) ?_
                 exact s795 full full .unset .unset .unset T105 _ X105 eq105 N105 (fun q => False.elim (by
                   rcases q with q | ⟨_, q⟩
                   ·
                    omega
                   ·
                    rw [hf3] at q; cases q)) (fun _ => ⟨rfl, rfl⟩) ⟨Nat.le_refl _, by omega⟩ (Or.inl rfl) (Or.inl rfl) (Or.inl rfl)
                have hf3 : ownW bod (nn - 1) = true := (hWW _).trans ((own_i1 _).mp cc106)
                refine oifn Y105 353 rfl ((if0 _ _).trans (feq cc106).1) ?_
                exact s628 T105 _ X105 eq105 N105 (Or.inr ⟨hf2, hf3⟩)
               have hf2 : ¬ full = 240 := fun q => cc104 (congrArg Int32.ofNat q)
               refine ocy 795 Y52 346 rfl rfl (feq cc104).2 ?_
               exact s795 full full .unset .unset .unset T52 _ X52 eq52 N52 (fun q => False.elim (by rcases q with q | ⟨q, _⟩ <;> omega)) (fun _ => ⟨rfl, rfl⟩) ⟨Nat.le_refl _, by omega⟩ (Or.inl rfl) (Or.inl rfl) (Or.inl rfl)
              refine oal Y49 307 rfl rfl rfl <| oic 2 Y49 308 rfl rfl <| ozal X49 Y49 hZ25 e49 F49_197 309 rfl (by decide) rfl ?_
              by_cases cc108 : (ownI w2) = (0 : Int32)
              ·
               have hy109 : w2 = false := (own_i0 _).mp cc108
               refine oify 572 Y49 310 rfl rfl ((if0 _ _).trans (teq cc108).1) <| oic 0 Y49 327 rfl rfl <| oti (ownI r2) ((by rw [hr2, hy109] <;> rfl)) ?_
               exact s573 T49 _ X49 e49 N49
              have hy110 : w2 = true := (own_i1 _).mp cc108
              refine oifn Y49 310 rfl ((if0 _ _).trans (feq cc108).1) <| oal Y49 311 rfl rfl rfl <| oic 2 Y49 312 rfl rfl <| oial X49 Y49 hZ25 e49 F49_190 313 rfl (by decide) rfl <| oil Y49 314 rfl rfl ?_
              by_cases cc112 : (Int32.ofNat P2) < (Int32.ofNat S)
              ·
               have hz113 : P2 < S := (own_ltN (by omega) (by omega)).mp cc112
               have hy113 : decide (S ≤ P2) = false := decide_eq_false (Nat.not_le_of_lt hz113)
               refine ocy 572 Y49 315 rfl rfl (tlt cc112).1 <| oic 0 Y49 327 rfl rfl <| oti (ownI r2) ((by rw [hr2, hy113, hy110] <;> rfl)) ?_
               exact s573 T49 _ X49 e49 N49
              have hz114 : S ≤ P2 := Nat.le_of_not_lt fun q => cc112 ((own_ltN (by omega) (by omega)).mpr q)
              have hy114 : decide (S ≤ P2) = true := decide_eq_true hz114
              refine ocn Y49 315 rfl (flt cc112).1 <| oal Y49 316 rfl rfl rfl <| oic 2 Y49 317 rfl rfl <| oial X49 Y49 hZ25 e49 F49_190 318 rfl (by decide) rfl <| oil Y49 319 rfl rfl <| oil Y49 320 rfl rfl <| oal Y49 321 rfl rfl rfl <| oal Y49 322 rfl rfl rfl ?_
              refine oCS X49 Y49 hZ25 hml ho25 (wT 174 rfl) (wT 175 rfl) (wT 4 rfl) (wT 176 rfl) (rm_removed Gl Ol49 b3 k3 P0 P1 P2 b28 k28 w0 w1 w2 P2 S nn F49_190 F49_197 ⟨by omega, by omega, by omega⟩ (by omega) (by omega) (by omega) (by omega)) e49 323 rfl 5 2 pd_69277098 rfl rfl rfl rfl (by decide +kernel) ?_
              intro v116 T116 L116 X116 Y116 hQ116
              obtain ⟨rfl, Nq116, eq116⟩ := hQ116
              show OwnH p e below _ T116 m _ _ [(.int (ownI (ownRem (ownWsAt P0 P1 P2 w0 w1 w2) nn S P2))), (.int 2), (.ref b45)]
              have N116 := Fr.app N49 Nq116
              by_cases cc117 : (ownI (ownRem (ownWsAt P0 P1 P2 w0 w1 w2) nn S P2)) = (0 : Int32)
              ·
               have hy118 : (ownRem (ownWsAt P0 P1 P2 w0 w1 w2) nn S P2) = false := (own_i0 _).mp cc117
               refine oify 572 Y116 324 rfl rfl ((if0 _ _).trans (teq cc117).1) <| oic 0 Y116 327 rfl rfl <| oti (ownI r2) ((by rw [hr2, hy118, hy114, hy110] <;> rfl)) ?_
               exact s573 T116 _ X116 eq116 N116
              have hy119 : (ownRem (ownWsAt P0 P1 P2 w0 w1 w2) nn S P2) = true := (own_i1 _).mp cc117
              refine oifn Y116 324 rfl ((if0 _ _).trans (feq cc117).1) <| oic 1 Y116 325 rfl rfl <| ogt 573 Y116 326 rfl rfl <| oti (ownI r2) ((by rw [hr2, hy119, hy114, hy110] <;> rfl)) ?_
              exact s573 T116 _ X116 eq116 N116
             refine oal Y47 283 rfl rfl rfl <| oic 1 Y47 284 rfl rfl <| ozal X47 Y47 hZ25 e47 F47_182 285 rfl (by decide) rfl ?_
             by_cases cc121 : (ownI w1) = (0 : Int32)
             ·
              have hy122 : w1 = false := (own_i0 _).mp cc121
              refine oify 529 Y47 286 rfl rfl ((if0 _ _).trans (teq cc121).1) <| oic 0 Y47 303 rfl rfl <| oti (ownI r1) ((by rw [hr1, hy122] <;> rfl)) ?_
              exact s530 T47 _ X47 e47 N47
             have hy123 : w1 = true := (own_i1 _).mp cc121
             refine oifn Y47 286 rfl ((if0 _ _).trans (feq cc121).1) <| oal Y47 287 rfl rfl rfl <| oic 1 Y47 288 rfl rfl <| oial X47 Y47 hZ25 e47 F47_175 289 rfl (by decide) rfl <| oil Y47 290 rfl rfl ?_
             by_cases cc125 : (Int32.ofNat P1) < (Int32.ofNat S)
             ·
              have hz126 : P1 < S := (own_ltN (by omega) (by omega)).mp cc125
              have hy126 : decide (S ≤ P1) = false := decide_eq_false (Nat.not_le_of_lt hz126)
              refine ocy 529 Y47 291 rfl rfl (tlt cc125).1 <| oic 0 Y47 303 rfl rfl <| oti (ownI r1) ((by rw [hr1, hy126, hy123] <;> rfl)) ?_
              exact s530 T47 _ X47 e47 N47
             have hz127 : S ≤ P1 := Nat.le_of_not_lt fun q => cc125 ((own_ltN (by omega) (by omega)).mpr q)
             have hy127 : decide (S ≤ P1) = true := decide_eq_true hz127
             refine ocn Y47 291 rfl (flt cc125).1 <| oal Y47 292 rfl rfl rfl <| oic 1 Y47 293 rfl rfl <| oial X47 Y47 hZ25 e47 F47_175 294 rfl (by decide) rfl <| oil Y47 295 rfl rfl <| oil Y47 296 rfl rfl <| oal Y47 297 rfl rfl rfl <| oal Y47 298 rfl rfl rfl ?_
             refine oCS X47 Y47 hZ25 hml ho25 (wT 174 rfl) (wT 175 rfl) (wT 4 rfl) (wT 176 rfl) (rm_removed Gl Ol47 b3 k3 P0 P1 P2 b28 k28 w0 w1 w2 P1 S nn F47_175 F47_182 ⟨by omega, by omega, by omega⟩ (by omega) (by omega) (by omega) (by omega)) e47 299 rfl 5 2 pd_69277098 rfl rfl rfl rfl (by decide +kernel) ?_
             intro v129 T129 L129 X129 Y129 hQ129
             obtain ⟨rfl, Nq129, eq129⟩ := hQ129
             show OwnH p e below _ T129 m _ _ [(.int (ownI (ownRem (ownWsAt P0 P1 P2 w0 w1 w2) nn S P1))), (.int 1), (.ref b45)]
             have N129 := Fr.app N47 Nq129
             by_cases cc130 : (ownI (ownRem (ownWsAt P0 P1 P2 w0 w1 w2) nn S P1)) = (0 : Int32)
             ·
              have hy131 : (ownRem (ownWsAt P0 P1 P2 w0 w1 w2) nn S P1) = false := (own_i0 _).mp cc130
              refine oify 529 Y129 300 rfl rfl ((if0 _ _).trans (teq cc130).1) <| oic 0 Y129 303 rfl rfl <| oti (ownI r1) ((by rw [hr1, hy131, hy127, hy123] <;> rfl)) ?_
              exact s530 T129 _ X129 eq129 N129
             have hy132 : (ownRem (ownWsAt P0 P1 P2 w0 w1 w2) nn S P1) = true := (own_i1 _).mp cc130
             refine oifn Y129 300 rfl ((if0 _ _).trans (feq cc130).1) <| oic 1 Y129 301 rfl rfl <| ogt 530 Y129 302 rfl rfl <| oti (ownI r1) ((by rw [hr1, hy132, hy127, hy123] <;> rfl)) ?_
             exact s530 T129 _ X129 eq129 N129
            refine oal Y45 259 rfl rfl rfl <| oic 0 Y45 260 rfl rfl <| ozal X45 Y45 hZ25 e45 F45_168 261 rfl (by decide) rfl ?_
            by_cases cc134 : (ownI w0) = (0 : Int32)
            ·
             have hy135 : w0 = false := (own_i0 _).mp cc134
             refine oify 486 Y45 262 rfl rfl ((if0 _ _).trans (teq cc134).1) <| oic 0 Y45 279 rfl rfl <| oti (ownI r0) ((by rw [hr0, hy135] <;> rfl)) ?_
             exact s487 T45 _ X45 e45 N44
            have hy136 : w0 = true := (own_i1 _).mp cc134
            refine oifn Y45 262 rfl ((if0 _ _).trans (feq cc134).1) <| oal Y45 263 rfl rfl rfl <| oic 0 Y45 264 rfl rfl <| oial X45 Y45 hZ25 e45 F45_161 265 rfl (by decide) rfl <| oil Y45 266 rfl rfl ?_
            by_cases cc138 : (Int32.ofNat P0) < (Int32.ofNat S)
            ·
             have hz139 : P0 < S := (own_ltN (by omega) (by omega)).mp cc138
             have hy139 : decide (S ≤ P0) = false := decide_eq_false (Nat.not_le_of_lt hz139)
             refine ocy 486 Y45 267 rfl rfl (tlt cc138).1 <| oic 0 Y45 279 rfl rfl <| oti (ownI r0) ((by rw [hr0, hy139, hy136] <;> rfl)) ?_
             exact s487 T45 _ X45 e45 N44
            have hz140 : S ≤ P0 := Nat.le_of_not_lt fun q => cc138 ((own_ltN (by omega) (by omega)).mpr q)
            have hy140 : decide (S ≤ P0) = true := decide_eq_true hz140
            refine ocn Y45 267 rfl (flt cc138).1 <| oal Y45 268 rfl rfl rfl <| oic 0 Y45 269 rfl rfl <| oial X45 Y45 hZ25 e45 F45_161 270 rfl (by decide) rfl <| oil Y45 271 rfl rfl <| oil Y45 272 rfl rfl <| oal Y45 273 rfl rfl rfl <| oal Y45 274 rfl rfl rfl ?_
            refine oCS X45 Y45 hZ25 hml ho25 (wT 174 rfl) (wT 175 rfl) (wT 4 rfl) (wT 176 rfl) (rm_removed Gl Ol45 b3 k3 P0 P1 P2 b28 k28 w0 w1 w2 P0 S nn F45_161 F45_168 ⟨by omega, by omega, by omega⟩ (by omega) (by omega) (by omega) (by omega)) e45 275 rfl 5 2 pd_69277098 rfl rfl rfl rfl (by decide +kernel) ?_
            intro v142 T142 L142 X142 Y142 hQ142
            obtain ⟨rfl, Nq142, eq142⟩ := hQ142
            show OwnH p e below _ T142 m _ _ [(.int (ownI (ownRem (ownWsAt P0 P1 P2 w0 w1 w2) nn S P0))), (.int 0), (.ref b45)]
            have N142 := Fr.app N44 Nq142
            by_cases cc143 : (ownI (ownRem (ownWsAt P0 P1 P2 w0 w1 w2) nn S P0)) = (0 : Int32)
            ·
             have hy144 : (ownRem (ownWsAt P0 P1 P2 w0 w1 w2) nn S P0) = false := (own_i0 _).mp cc143
             refine oify 486 Y142 276 rfl rfl ((if0 _ _).trans (teq cc143).1) <| oic 0 Y142 279 rfl rfl <| oti (ownI r0) ((by rw [hr0, hy144, hy140, hy136] <;> rfl)) ?_
             exact s487 T142 _ X142 eq142 N142
            have hy145 : (ownRem (ownWsAt P0 P1 P2 w0 w1 w2) nn S P0) = true := (own_i1 _).mp cc143
            refine oifn Y142 276 rfl ((if0 _ _).trans (feq cc143).1) <| oic 1 Y142 277 rfl rfl <| ogt 487 Y142 278 rfl rfl <| oti (ownI r0) ((by rw [hr0, hy145, hy140, hy136] <;> rfl)) ?_
            exact s487 T142 _ X142 eq142 N142
           have Y43 := Y0.nx X43
           refine oil Y43 248 rfl rfl ?_
           by_cases cc146 : (0 : Int32) < (Int32.ofNat S)
           ·
            refine oifn Y43 249 rfl ((if0 _ _).trans (tlt cc146).2.2.2) <| oic 1 Y43 250 rfl rfl <| ogt 438 Y43 251 rfl rfl <| oti (Int32.ofNat (ownMark S)) ((by rw [own_mark1 (by omega) cc146] <;> rfl)) ?_
            exact s438 T43 _ X43 e43 N43
           refine oify 437 Y43 249 rfl rfl ((if0 _ _).trans (flt cc146).2.2.2) <| oic 0 Y43 252 rfl rfl <| oti (Int32.ofNat (ownMark S)) ((by rw [own_mark0 (by omega) cc146] <;> rfl)) ?_
           exact s438 T43 _ X43 e43 N43
          refine oil Y42 212 rfl rfl <| obp 60 Y42 213 rfl rfl ?_
          by_cases cc147 : (60 : Int32) < (ownPred Q)
          ·
           have hq61 : 61 < Q := (own_pred_big (k := 60) (by omega) (by decide)).mp cc147
           refine ocn Y42 214 rfl (tlt cc147).2.2.2 <| oil Y42 215 rfl rfl <| obp 61 Y42 216 rfl rfl <| osub Y42 217 rfl <| oti (Int32.ofNat (Q - 1 - 61)) ((show (ownPred Q) - (61 : Int32) = (Int32.ofNat (Q - 1 - 61)) from own_psub (b := 61) (by omega))) <| oil Y42 218 rfl rfl <| oic 1 Y42 219 rfl rfl <| osub Y42 220 rfl <| oti (Int32.ofNat (Q - 1 - 1)) ((show (ownPred Q) - (1 : Int32) = (Int32.ofNat (Q - 1 - 1)) from own_psub (b := 1) (by omega))) <| oal Y42 221 rfl rfl rfl ?_
           refine oal Y42 222 rfl rfl rfl ?_
           refine oCS X42 Y42 hZ25 hml ho25 (wT 318 rfl) (wT 319 rfl) (wT 4 rfl) (wT 320 rfl) (rm_firstWs Gl Ol42 b3 k3 P0 P1 P2 b28 k28 w0 w1 w2 (Q - 1 - 61) (Q - 1 - 1) F42_148 F42_155 ⟨by omega, by omega, by omega⟩ (by omega) (by omega)) e42 223 rfl 4 0 pd_34574447 rfl rfl rfl rfl (by decide +kernel) ?_
           intro v148 T148 L148 X148 Y148 hQ148
           obtain ⟨rfl, Nq148, eq148⟩ := hQ148
           show OwnH p e below _ T148 m _ _ [(.int (ownPred (ownEar (ownEar (ownEar 0 w0 P0 (Q - 1 - 61) (Q - 1 - 1)) w1 P1 (Q - 1 - 61) (Q - 1 - 1)) w2 P2 (Q - 1 - 61) (Q - 1 - 1))))]
           have N148 := Fr.app N42 Nq148
           obtain ⟨A, hA⟩ : ∃ z, z = (ownEar (ownEar (ownEar 0 w0 P0 (Q - 1 - 61) (Q - 1 - 1)) w1 P1 (Q - 1 - 61) (Q - 1 - 1)) w2 P2 (Q - 1 - 61) (Q - 1 - 1)) := ⟨_, rfl⟩
           have hA3 : A ≤ 301 := by rw [hA]; exact own_ear_le (own_ear_le (own_ear_le (by decide) (by omega)) (by omega)) (by omega)
           have hfi := own_first (W := ownW bod) hWW hA
           refine oti (ownPred A) ((by rw [hA])) <| ois Y148 224 rfl #[vI p1, vI p2, vI p3, vI p4, vI p5, sl5, vR ar, vI (Int32.ofNat nn), vR b3, vR b7, vI (ownPred Q), vR x_25, vI (ownI lv0), vI (ownI lv1), vR b28, vR b29, vI 0, vI (ownPred A), vU, vU, vU, vU, vU, vU, vU, vU] rfl <| oil Y148 225 rfl rfl ?_
           by_cases cc149 : (ownPred A) < (0 : Int32)
           ·
            have ha0 : A = 0 := (own_pred_neg (by omega)).mp cc149
            refine oify 393 Y148 226 rfl rfl ((if0 _ _).trans (tlt cc149).1) <| oil Y148 232 rfl rfl <| obp 60 Y148 233 rfl rfl <| osub Y148 234 rfl <| oti (Int32.ofNat (Q - 1 - 60)) ((show (ownPred Q) - (60 : Int32) = (Int32.ofNat (Q - 1 - 60)) from own_psub (b := 60) (by omega))) <| ois Y148 235 rfl #[vI p1, vI p2, vI p3, vI p4, vI p5, sl5, vR ar, vI (Int32.ofNat nn), vR b3, vR b7, vI (ownPred Q), vR x_25, vI (ownI lv0), vI (ownI lv1), vR b28, vR b29, vI (Int32.ofNat (Q - 1 - 60)), vI (ownPred A), vU, vU, vU, vU, vU, vU, vU, vU] rfl <| oil Y148 236 rfl rfl <| oal Y148 237 rfl rfl rfl <| oal Y148 238 rfl rfl rfl ?_
            refine oCS X148 Y148 hZ25 hml ho25 (wT 300 rfl) (wT 301 rfl) (wT 4 rfl) (wT 302 rfl) (rm_at Gl Ol42 b3 k3 P0 P1 P2 b7 k7 c_8 c_10 c_12 (Q - 1 - 60) F42_148 F42_149 ⟨by omega, by omega, by omega⟩ (by omega) pq8_0 pq10_0 pq12_0) eq148 239 rfl 3 0 pd_58159063 rfl rfl rfl rfl (by decide +kernel) ?_
            intro v150 T150 L150 X150 Y150 hQ150
            obtain ⟨rfl, Nq150, eq150⟩ := hQ150
            show OwnH p e below _ T150 m _ _ [(.int (ownSel P0 P1 P2 c_8 c_10 c_12 (Q - 1 - 60)))]
            have N150 := Fr.app N148 Nq150
            refine ois Y150 240 rfl #[vI p1, vI p2, vI p3, vI p4, vI p5, sl5, vR ar, vI (Int32.ofNat nn), vR b3, vR b7, vI (ownPred Q), vR x_25, vI (ownI lv0), vI (ownI lv1), vR b28, vR b29, vI (Int32.ofNat (Q - 1 - 60)), vI (ownPred A), vI (ownSel P0 P1 P2 c_8 c_10 c_12 (Q - 1 - 60)), vU, vU, vU, vU, vU, vU, vU] rfl <| oil Y150 241 rfl rfl ?_
            refine og T150 m 415 #[vI p1, vI p2, vI p3, vI p4, vI p5, sl5, vR ar, vI (Int32.ofNat nn), vR b3, vR b7, vI (ownPred Q), vR x_25, vI (ownI lv0), vI (ownI lv1), vR b28, vR b29, vI (Int32.ofNat (Q - 1 - 60)), vI (ownPred A), vI (ownSel P0 P1 P2 c_8 c_10 c_12 (Q - 1 - 60)), vU, vU, vU, vU, vU, vU, vU] [(.int 56320), (.int (ownSel P0 P1 P2 c_8 c_10 c_12 (Q - 1 - 60)))] (fun tgt kgo => ?_) ?_
            ·
             refine X150.ldcInt hx ho25 (mvT hZ25 (wT 324 rfl)) (g := (mkF m 413 #[vI p1, vI p2, vI p3, vI p4, vI p5, sl5, vR ar, vI (Int32.ofNat nn), vR b3, vR b7, vI (ownPred Q), vR x_25, vI (ownI lv0), vI (ownI lv1), vR b28, vR b29, vI (Int32.ofNat (Q - 1 - 60)), vI (ownPred A), vI (ownSel P0 P1 P2 c_8 c_10 c_12 (Q - 1 - 60)), vU, vU, vU, vU, vU, vU, vU] [(.int (ownSel P0 P1 P2 c_8 c_10 c_12 (Q - 1 - 60)))])) rfl (Y0.d 242 rfl) _ ?_
             exact kgo
            by_cases cc151 : (ownSel P0 P1 P2 c_8 c_10 c_12 (Q - 1 - 60)) < (56320 : Int32)
            ·
             have hlow : ownLow (ownAt bod (Q - 1 - 60)) = false := by rw [hat]; exact own_lo_f1 cc151
             refine ocy 428 Y150 243 rfl rfl (tlt cc151).1 ?_
             exact s428 (Q - 1 - 60) (vI (ownPred A)) (vI (ownSel P0 P1 P2 c_8 c_10 c_12 (Q - 1 - 60))) T150 _ X150 eq150 N150 (Or.inr ⟨_, rfl, rfl⟩) (Or.inr ⟨_, rfl, rfl⟩) (by
               have z := own_start_none (cs := bod) (pl := Q - 1) (by omega) (hfi.resolve_right (fun z => absurd ha0 (by have := z.1; omega))).2
               rw [hlow, own_n0, Nat.add_zero] at z; exact z)
            refine ocn Y150 243 rfl (flt cc151).1 <| oil Y150 244 rfl rfl ?_
            refine og T150 m 422 #[vI p1, vI p2, vI p3, vI p4, vI p5, sl5, vR ar, vI (Int32.ofNat nn), vR b3, vR b7, vI (ownPred Q), vR x_25, vI (ownI lv0), vI (ownI lv1), vR b28, vR b29, vI (Int32.ofNat (Q - 1 - 60)), vI (ownPred A), vI (ownSel P0 P1 P2 c_8 c_10 c_12 (Q - 1 - 60)), vU, vU, vU, vU, vU, vU, vU] [(.int 57343), (.int (ownSel P0 P1 P2 c_8 c_10 c_12 (Q - 1 - 60)))] (fun tgt kgo => ?_) ?_
            ·
             refine X150.ldcInt hx ho25 (mvT hZ25 (wT 334 rfl)) (g := (mkF m 420 #[vI p1, vI p2, vI p3, vI p4, vI p5, sl5, vR ar, vI (Int32.ofNat nn), vR b3, vR b7, vI (ownPred Q), vR x_25, vI (ownI lv0), vI (ownI lv1), vR b28, vR b29, vI (Int32.ofNat (Q - 1 - 60)), vI (ownPred A), vI (ownSel P0 P1 P2 c_8 c_10 c_12 (Q - 1 - 60)), vU, vU, vU, vU, vU, vU, vU] [(.int (ownSel P0 P1 P2 c_8 c_10 c_12 (Q - 1 - 60)))])) rfl (Y0.d 245 rfl) _ ?_
             exact kgo
            by_cases cc152 : (57343 : Int32) < (ownSel P0 P1 P2 c_8 c_10 c_12 (Q - 1 - 60))
            ·
             have hlow : ownLow (ownAt bod (Q - 1 - 60)) = false := by rw [hat]; exact own_lo_f2 cc152
             refine ocy 428 Y150 246 rfl rfl (tlt cc152).2.2.1 ?_
             exact s428 (Q - 1 - 60) (vI (ownPred A)) (vI (ownSel P0 P1 P2 c_8 c_10 c_12 (Q - 1 - 60))) T150 _ X150 eq150 N150 (Or.inr ⟨_, rfl, rfl⟩) (Or.inr ⟨_, rfl, rfl⟩) (by
               have z := own_start_none (cs := bod) (pl := Q - 1) (by omega) (hfi.resolve_right (fun z => absurd ha0 (by have := z.1; omega))).2
               rw [hlow, own_n0, Nat.add_zero] at z; exact z)
            have hlow : ownLow (ownAt bod (Q - 1 - 60)) = true := by rw [hat]; exact own_lo_t cc151 cc152
            refine ocn Y150 246 rfl (flt cc152).2.2.1 <| oinc Y150 247 rfl #[vI p1, vI p2, vI p3, vI p4, vI p5, sl5, vR ar, vI (Int32.ofNat nn), vR b3, vR b7, vI (ownPred Q), vR x_25, vI (ownI lv0), vI (ownI lv1), vR b28, vR b29, vI ((Int32.ofNat (Q - 1 - 60)) + (1 : Int32)), vI (ownPred A), vI (ownSel P0 P1 P2 c_8 c_10 c_12 (Q - 1 - 60)), vU, vU, vU, vU, vU, vU, vU] rfl rfl ?_
            refine og T150 m 428 #[vI p1, vI p2, vI p3, vI p4, vI p5, sl5, vR ar, vI (Int32.ofNat nn), vR b3, vR b7, vI (ownPred Q), vR x_25, vI (ownI lv0), vI (ownI lv1), vR b28, vR b29, vI (Int32.ofNat (Q - 1 - 60 + 1)), vI (ownPred A), vI (ownSel P0 P1 P2 c_8 c_10 c_12 (Q - 1 - 60)), vU, vU, vU, vU, vU, vU, vU] [] (fun tgt kgo => castTop (by rw [(own_add1 (Q - 1 - 60))]) kgo) ?_
            exact s428 (Q - 1 - 60 + 1) (vI (ownPred A)) (vI (ownSel P0 P1 P2 c_8 c_10 c_12 (Q - 1 - 60))) T150 _ X150 eq150 N150 (Or.inr ⟨_, rfl, rfl⟩) (Or.inr ⟨_, rfl, rfl⟩) (by
              have z := own_start_none (cs := bod) (pl := Q - 1) (by omega) (hfi.resolve_right (fun z => absurd ha0 (by have := z.1; omega))).2
              rw [hlow, own_n1] at z; exact z)
           have ha0 : ¬ A = 0 := fun q => cc149 ((own_pred_neg (by omega)).mpr q)
           have hfj := hfi.resolve_left (fun z => ha0 z.1)
           refine oifn Y148 226 rfl ((if0 _ _).trans (flt cc149).1) <| oil Y148 227 rfl rfl <| oic 1 Y148 228 rfl rfl <| oadd Y148 229 rfl <| ois Y148 230 rfl #[vI p1, vI p2, vI p3, vI p4, vI p5, sl5, vR ar, vI (Int32.ofNat nn), vR b3, vR b7, vI (ownPred Q), vR x_25, vI (ownI lv0), vI (ownI lv1), vR b28, vR b29, vI ((ownPred A) + (1 : Int32)), vI (ownPred A), vU, vU, vU, vU, vU, vU, vU, vU] rfl <| ogt 428 Y148 231 rfl rfl ?_
           refine og T148 m 428 #[vI p1, vI p2, vI p3, vI p4, vI p5, sl5, vR ar, vI (Int32.ofNat nn), vR b3, vR b7, vI (ownPred Q), vR x_25, vI (ownI lv0), vI (ownI lv1), vR b28, vR b29, vI (Int32.ofNat A), vI (ownPred A), vU, vU, vU, vU, vU, vU, vU, vU] [] (fun tgt kgo => castTop (by rw [(own_padd ha0)]) kgo) ?_
           exact s428 A (vI (ownPred A)) .unset T148 _ X148 eq148 N148 (Or.inr ⟨_, rfl, rfl⟩) (Or.inl rfl) (own_start_hit2 (by omega) hfj.1 hfj.2.1 hfj.2.2.1 hfj.2.2.2.1 hfj.2.2.2.2)
          have hq61 : ¬ 61 < Q := fun q => cc147 ((own_pred_big (k := 60) (by omega) (by decide)).mpr q)
          refine ocy 428 Y42 214 rfl rfl (flt cc147).2.2.2 ?_
          exact s428 0 .unset .unset T42 _ X42 e42 N42 (Or.inl rfl) (Or.inl rfl) (Or.inl ⟨by omega, rfl⟩)
         refine oal Y40 201 rfl rfl rfl <| oic 2 Y40 202 rfl rfl <| ocal X40 Y40 hZ25 e40 F40_136 203 rfl (by decide) rfl ?_
         refine oCS X40 Y40 hZ25 hml ho25 (wT 171 rfl) (wT 172 rfl) (wT 4 rfl) (wT 173 rfl) (rm_wsL Gl Ol40 c_12) e40 204 rfl 1 2 pd_92619605 rfl rfl rfl rfl (by decide +kernel) ?_
         intro v154 T154 L154 X154 Y154 hQ154
         obtain ⟨rfl, Nq154, eq154⟩ := hQ154
         show OwnH p e below _ T154 m _ _ [(.int (ownI (ownWs c_12))), (.int 2), (.ref b29)]
         have N154 := Fr.app N40 Nq154
         by_cases cc155 : (ownI (ownWs c_12)) = (0 : Int32)
         ·
          have hy156 : (!(ownWs c_12)) = true := congrArg (fun z => !z) ((own_i0 _).mp cc155)
          refine oifn Y154 205 rfl ((if0 _ _).trans (teq cc155).2) <| oic 1 Y154 206 rfl rfl <| ogt 350 Y154 207 rfl rfl <| oti (ownI v2) ((by rw [hv2, hy156] <;> rfl)) ?_
          exact s350 T154 _ X154 eq154 N154
         have hy157 : (!(ownWs c_12)) = false := congrArg (fun z => !z) ((own_i1 _).mp cc155)
         refine oify 349 Y154 205 rfl rfl ((if0 _ _).trans (feq cc155).2) <| oic 0 Y154 208 rfl rfl <| oti (ownI v2) ((by rw [hv2, hy157] <;> rfl)) ?_
         exact s350 T154 _ X154 eq154 N154
        refine oil Y35 181 rfl rfl ?_
        by_cases cc158 : (ownI lv1) = (0 : Int32)
        ·
         have hy159 : lv1 = false := (own_i0 _).mp cc158
         refine oify 319 Y35 182 rfl rfl ((if0 _ _).trans (teq cc158).1) <| oic 0 Y35 190 rfl rfl <| oti (ownI v1) ((by rw [hv1, hy159] <;> rfl)) ?_
         exact s320 T35 _ X35 e35 N35
        have hy160 : lv1 = true := (own_i1 _).mp cc158
        refine oifn Y35 182 rfl ((if0 _ _).trans (feq cc158).1) <| oal Y35 183 rfl rfl rfl <| oic 1 Y35 184 rfl rfl <| ocal X35 Y35 hZ25 e35 F35_110 185 rfl (by decide) rfl ?_
        refine oCS X35 Y35 hZ25 hml ho25 (wT 171 rfl) (wT 172 rfl) (wT 4 rfl) (wT 173 rfl) (rm_wsL Gl Ol35 c_10) e35 186 rfl 1 2 pd_92619605 rfl rfl rfl rfl (by decide +kernel) ?_
        intro v162 T162 L162 X162 Y162 hQ162
        obtain ⟨rfl, Nq162, eq162⟩ := hQ162
        show OwnH p e below _ T162 m _ _ [(.int (ownI (ownWs c_10))), (.int 1), (.ref b29)]
        have N162 := Fr.app N35 Nq162
        by_cases cc163 : (ownI (ownWs c_10)) = (0 : Int32)
        ·
         have hy164 : (!(ownWs c_10)) = true := congrArg (fun z => !z) ((own_i0 _).mp cc163)
         refine oifn Y162 187 rfl ((if0 _ _).trans (teq cc163).2) <| oic 1 Y162 188 rfl rfl <| ogt 320 Y162 189 rfl rfl <| oti (ownI v1) ((by rw [hv1, hy164, hy160] <;> rfl)) ?_
         exact s320 T162 _ X162 eq162 N162
        have hy165 : (!(ownWs c_10)) = false := congrArg (fun z => !z) ((own_i1 _).mp cc163)
        refine oify 319 Y162 187 rfl rfl ((if0 _ _).trans (feq cc163).2) <| oic 0 Y162 190 rfl rfl <| oti (ownI v1) ((by rw [hv1, hy165, hy160] <;> rfl)) ?_
        exact s320 T162 _ X162 eq162 N162
       refine oil Y33 168 rfl rfl ?_
       by_cases cc166 : (ownI lv1) = (0 : Int32)
       ·
        have hy167 : lv1 = false := (own_i0 _).mp cc166
        refine oify 295 Y33 169 rfl rfl ((if0 _ _).trans (teq cc166).1) <| oic 0 Y33 177 rfl rfl <| oti (ownI w1) ((by rw [hw1, hy167] <;> rfl)) ?_
        exact s296 T33 _ X33 e33 N33
       have hy168 : lv1 = true := (own_i1 _).mp cc166
       refine oifn Y33 169 rfl ((if0 _ _).trans (feq cc166).1) <| oal Y33 170 rfl rfl rfl <| oic 1 Y33 171 rfl rfl <| ocal X33 Y33 hZ25 e33 F33_97 172 rfl (by decide) rfl ?_
       refine oCS X33 Y33 hZ25 hml ho25 (wT 171 rfl) (wT 172 rfl) (wT 4 rfl) (wT 173 rfl) (rm_wsL Gl Ol33 c_10) e33 173 rfl 1 2 pd_92619605 rfl rfl rfl rfl (by decide +kernel) ?_
       intro v170 T170 L170 X170 Y170 hQ170
       obtain ⟨rfl, Nq170, eq170⟩ := hQ170
       show OwnH p e below _ T170 m _ _ [(.int (ownI (ownWs c_10))), (.int 1), (.ref b28)]
       have N170 := Fr.app N33 Nq170
       by_cases cc171 : (ownI (ownWs c_10)) = (0 : Int32)
       ·
        have hy172 : (ownWs c_10) = false := (own_i0 _).mp cc171
        refine oify 295 Y170 174 rfl rfl ((if0 _ _).trans (teq cc171).1) <| oic 0 Y170 177 rfl rfl <| oti (ownI w1) ((by rw [hw1, hy172, hy168] <;> rfl)) ?_
        exact s296 T170 _ X170 eq170 N170
       have hy173 : (ownWs c_10) = true := (own_i1 _).mp cc171
       refine oifn Y170 174 rfl ((if0 _ _).trans (feq cc171).1) <| oic 1 Y170 175 rfl rfl <| ogt 296 Y170 176 rfl rfl <| oti (ownI w1) ((by rw [hw1, hy173, hy168] <;> rfl)) ?_
       exact s296 T170 _ X170 eq170 N170
      refine oil Y31 155 rfl rfl ?_
      by_cases cc174 : (ownI lv0) = (0 : Int32)
      ·
       have hy175 : lv0 = false := (own_i0 _).mp cc174
       refine oify 271 Y31 156 rfl rfl ((if0 _ _).trans (teq cc174).1) <| oic 0 Y31 164 rfl rfl <| oti (ownI v0) ((by rw [hv0, hy175] <;> rfl)) ?_
       exact s272 T31 _ X31 e31 N31
      have hy176 : lv0 = true := (own_i1 _).mp cc174
      refine oifn Y31 156 rfl ((if0 _ _).trans (feq cc174).1) <| oal Y31 157 rfl rfl rfl <| oic 0 Y31 158 rfl rfl <| ocal X31 Y31 hZ25 e31 F31_84 159 rfl (by decide) rfl ?_
      refine oCS X31 Y31 hZ25 hml ho25 (wT 171 rfl) (wT 172 rfl) (wT 4 rfl) (wT 173 rfl) (rm_wsL Gl Ol31 c_8) e31 160 rfl 1 2 pd_92619605 rfl rfl rfl rfl (by decide +kernel) ?_
      intro v178 T178 L178 X178 Y178 hQ178
      obtain ⟨rfl, Nq178, eq178⟩ := hQ178
      show OwnH p e below _ T178 m _ _ [(.int (ownI (ownWs c_8))), (.int 0), (.ref b29)]
      have N178 := Fr.app N31 Nq178
      by_cases cc179 : (ownI (ownWs c_8)) = (0 : Int32)
      ·
       have hy180 : (!(ownWs c_8)) = true := congrArg (fun z => !z) ((own_i0 _).mp cc179)
       refine oifn Y178 161 rfl ((if0 _ _).trans (teq cc179).2) <| oic 1 Y178 162 rfl rfl <| ogt 272 Y178 163 rfl rfl <| oti (ownI v0) ((by rw [hv0, hy180, hy176] <;> rfl)) ?_
       exact s272 T178 _ X178 eq178 N178
      have hy181 : (!(ownWs c_8)) = false := congrArg (fun z => !z) ((own_i1 _).mp cc179)
      refine oify 271 Y178 161 rfl rfl ((if0 _ _).trans (feq cc179).2) <| oic 0 Y178 164 rfl rfl <| oti (ownI v0) ((by rw [hv0, hy181, hy176] <;> rfl)) ?_
      exact s272 T178 _ X178 eq178 N178
     refine oil Y29 142 rfl rfl ?_
     by_cases cc182 : (ownI lv0) = (0 : Int32)
     ·
      have hy183 : lv0 = false := (own_i0 _).mp cc182
      refine oify 247 Y29 143 rfl rfl ((if0 _ _).trans (teq cc182).1) <| oic 0 Y29 151 rfl rfl <| oti (ownI w0) ((by rw [hw0, hy183] <;> rfl)) ?_
      exact s248 T29 _ X29 e29 N27
     have hy184 : lv0 = true := (own_i1 _).mp cc182
     refine oifn Y29 143 rfl ((if0 _ _).trans (feq cc182).1) <| oal Y29 144 rfl rfl rfl <| oic 0 Y29 145 rfl rfl <| ocal X29 Y29 hZ25 e29 F29_72 146 rfl (by decide) rfl ?_
     refine oCS X29 Y29 hZ25 hml ho25 (wT 171 rfl) (wT 172 rfl) (wT 4 rfl) (wT 173 rfl) (rm_wsL Gl Ol29 c_8) e29 147 rfl 1 2 pd_92619605 rfl rfl rfl rfl (by decide +kernel) ?_
     intro v186 T186 L186 X186 Y186 hQ186
     obtain ⟨rfl, Nq186, eq186⟩ := hQ186
     show OwnH p e below _ T186 m _ _ [(.int (ownI (ownWs c_8))), (.int 0), (.ref b28)]
     have N186 := Fr.app N27 Nq186
     by_cases cc187 : (ownI (ownWs c_8)) = (0 : Int32)
     ·
      have hy188 : (ownWs c_8) = false := (own_i0 _).mp cc187
      refine oify 247 Y186 148 rfl rfl ((if0 _ _).trans (teq cc187).1) <| oic 0 Y186 151 rfl rfl <| oti (ownI w0) ((by rw [hw0, hy188, hy184] <;> rfl)) ?_
      exact s248 T186 _ X186 eq186 N186
     have hy189 : (ownWs c_8) = true := (own_i1 _).mp cc187
     refine oifn Y186 148 rfl ((if0 _ _).trans (feq cc187).1) <| oic 1 Y186 149 rfl rfl <| ogt 248 Y186 150 rfl rfl <| oti (ownI w0) ((by rw [hw0, hy189, hy184] <;> rfl)) ?_
     exact s248 T186 _ X186 eq186 N186
    refine oal Y26 123 rfl rfl rfl <| oic 1 Y26 124 rfl rfl <| oial X26 Y26 hZ25 e26 F25_55 125 rfl (by decide) rfl <| oal Y26 126 rfl rfl rfl <| oic 2 Y26 127 rfl rfl <| oial X26 Y26 hZ25 e26 F25_55 128 rfl (by decide) rfl ?_
    by_cases cc192 : (Int32.ofNat P1) = (Int32.ofNat P2)
    ·
     have hy193 : decide (P1 ≠ P2) = false := decide_eq_false (fun q => q (own_ofN (by omega) (by omega) cc192))
     refine ocy 212 Y26 129 rfl rfl (teq cc192).1 <| oic 0 Y26 132 rfl rfl <| oti (ownI lv1) ((by rw [hlv1, hy193] <;> rfl)) ?_
     exact s213 T26 _ X26 e26 N26
    have hy194 : decide (P1 ≠ P2) = true := decide_eq_true (fun q => cc192 (congrArg Int32.ofNat q))
    refine ocn Y26 129 rfl (feq cc192).1 <| oic 1 Y26 130 rfl rfl <| ogt 213 Y26 131 rfl rfl <| oti (ownI lv1) ((by rw [hlv1, hy194] <;> rfl)) ?_
    exact s213 T26 _ X26 e26 N26
   refine oal Y25 105 rfl rfl rfl <| oic 0 Y25 106 rfl rfl <| oial X25 Y25 hZ25 rfl F25_55 107 rfl (by decide) rfl <| oal Y25 108 rfl rfl rfl <| oic 1 Y25 109 rfl rfl <| oial X25 Y25 hZ25 rfl F25_55 110 rfl (by decide) rfl ?_
   by_cases cc197 : (Int32.ofNat P0) = (Int32.ofNat P1)
   ·
    have hy198 : decide (P0 ≠ P1) = false := decide_eq_false (fun q => q (own_ofN (by omega) (by omega) cc197))
    refine ocy 194 Y25 111 rfl rfl (teq cc197).1 <| oic 0 Y25 121 rfl rfl <| oti (ownI lv0) ((by rw [hlv0, hy198] <;> rfl)) ?_
    exact s195 T25 _ X25 rfl N25
   have hy199 : decide (P0 ≠ P1) = true := decide_eq_true (fun q => cc197 (congrArg Int32.ofNat q))
   refine ocn Y25 111 rfl (feq cc197).1 <| oal Y25 112 rfl rfl rfl <| oic 0 Y25 113 rfl rfl <| oial X25 Y25 hZ25 rfl F25_55 114 rfl (by decide) rfl <| oal Y25 115 rfl rfl rfl <| oic 2 Y25 116 rfl rfl <| oial X25 Y25 hZ25 rfl F25_55 117 rfl (by decide) rfl ?_
   by_cases cc202 : (Int32.ofNat P0) = (Int32.ofNat P2)
   ·
    have hy203 : decide (P0 ≠ P2) = false := decide_eq_false (fun q => q (own_ofN (by omega) (by omega) cc202))
    refine ocy 194 Y25 118 rfl rfl (teq cc202).1 <| oic 0 Y25 121 rfl rfl <| oti (ownI lv0) ((by rw [hlv0, hy203, hy199] <;> rfl)) ?_
    exact s195 T25 _ X25 rfl N25
   have hy204 : decide (P0 ≠ P2) = true := decide_eq_true (fun q => cc202 (congrArg Int32.ofNat q))
   refine ocn Y25 118 rfl (feq cc202).1 <| oic 1 Y25 119 rfl rfl <| ogt 195 Y25 120 rfl rfl <| oti (ownI lv0) ((by rw [hlv0, hy204, hy199] <;> rfl)) ?_
   exact s195 T25 _ X25 rfl N25
  by_cases cb205 : ∃ c ∈ bod, (255 : Int32) < c
  ·
   obtain ⟨_, _, ⟨T206, L206, k206, n206⟩, -, X206, ⟨Lc206, hQ206, l206, y206, z206⟩, st206⟩ := X23.specialBack hx (y := mN17) rfl hown (mvT hZ (wT 10 rfl)) (mvT hZ (wT 11 rfl)) (mvT hZ (wT 12 rfl)) (by decide) (backOf (W := 1) (rm_si2_1 Gl Ol23 b23 ar ka bod nn A23 F23_44 F23_43 g_b23 F23_38 hBl (by omega) hrgB (by omega) cb205) hZ (wT 12 rfl) (wT 9 rfl) (by decide) (by decide)) (g := (mkF m 158 #[vI p1, vI p2, vI p3, vI p4, vI p5, sl5, vR ar, vI (Int32.ofNat nn), vR b3, vR b7, vI (ownPred Q), vU, vU, vU, vU, vU, vU, vU, vU, vU, vU, vU, vU, vU, vU, vU] [(.ref ar), (.ref b23), (.ref b23)])) rfl (by rw [hml]; rfl) (Steps.refl _) (a := b23) (argsL := [(.ref ar)]) (rest := [(.ref b23)]) (lenOf pd_68446664 rfl) rfl (Nat.le_of_eq rfl) (Y0.d 101 rfl) (fun _ _ => ⟨rfl, e23, (by decide : 4 + 2 ≤ _), (by decide : 310 + 900 ≤ _)⟩)
   dsimp only [Pt.U, Pt.locs, Pt.cells, Pt.slots] at X206 l206 y206 z206 st206 hQ206
   subst l206 y206 z206
   obtain ⟨t_206, k_206, vs_206, rfl, Nq206, Kq206, zq206_0, fq206_0, fq206_1, fq206_2, fq206_3, pq206_0⟩ := hQ206
   refine OwnGoes.tr (T' := T206) (g' := (mkF m 161 #[vI p1, vI p2, vI p3, vI p4, vI p5, sl5, vR ar, vI (Int32.ofNat nn), vR b3, vR b7, vI (ownPred Q), vU, vU, vU, vU, vU, vU, vU, vU, vU, vU, vU, vU, vU, vU, vU] [(.ref b23)])) st206 ?_
   have N206 := Fr.app N22 Nq206
   have F206_218 := F23_40.keep Kq206 (ninS ne_b3_b23 nin0)
   have F206_220 := F23_42.keep Kq206 (ninS ne_b7_b23 nin0)
   have Ol206 := Ol23.keep Kq206 (allS g_b23 all0)
   have K206 : Keep h0 T206.heap ([] : List Addr) := K23.trans Kq206 (allS (Or.inr s_b23) all0)
   have R206 := R23.trans (CHr.keep Kq206 (sfS Sf23 sf0) R23.1)
   have hk206 := Nat.le_trans hk23 Kq206.1
   exact s161 t_206 k_206 (Int32.ofNat (2 * nn)) vs_206 (1 : Int32) T206 T206.heap _ X206 rfl Ol206 K206 N206 R206 hk206 fq206_0 fq206_1 fq206_2 fq206_3 F206_218 F206_220 pq206_0
  have halcb205 : ∀ c ∈ bod, ¬ (255 : Int32) < c := fun c hc q => cb205 ⟨c, hc, q⟩
  obtain ⟨_, _, ⟨T207, L207, k207, n207⟩, -, X207, ⟨Lc207, hQ207, l207, y207, z207⟩, st207⟩ := X23.specialBack hx (y := mN17) rfl hown (mvT hZ (wT 10 rfl)) (mvT hZ (wT 11 rfl)) (mvT hZ (wT 12 rfl)) (by decide) (backOf (W := 1) (rm_si2_0 Gl Ol23 b23 ar ka bod nn A23 F23_44 F23_43 g_b23 F23_38 hBl (by omega) hrgB (by omega) halcb205) hZ (wT 12 rfl) (wT 9 rfl) (by decide) (by decide)) (g := (mkF m 158 #[vI p1, vI p2, vI p3, vI p4, vI p5, sl5, vR ar, vI (Int32.ofNat nn), vR b3, vR b7, vI (ownPred Q), vU, vU, vU, vU, vU, vU, vU, vU, vU, vU, vU, vU, vU, vU, vU] [(.ref ar), (.ref b23), (.ref b23)])) rfl (by rw [hml]; rfl) (Steps.refl _) (a := b23) (argsL := [(.ref ar)]) (rest := [(.ref b23)]) (lenOf pd_68446664 rfl) rfl (Nat.le_of_eq rfl) (Y0.d 101 rfl) (fun _ _ => ⟨rfl, e23, (by decide : 4 + 1 ≤ _), (by decide : 310 + 300 ≤ _)⟩)
  dsimp only [Pt.U, Pt.locs, Pt.cells, Pt.slots] at X207 l207 y207 z207 st207 hQ207
  subst l207 y207 z207
  obtain ⟨t_207, k_207, vs_207, rfl, Nq207, Kq207, zq207_0, fq207_0, fq207_1, fq207_2, fq207_3, pq207_0⟩ := hQ207
  refine OwnGoes.tr (T' := T207) (g' := (mkF m 161 #[vI p1, vI p2, vI p3, vI p4, vI p5, sl5, vR ar, vI (Int32.ofNat nn), vR b3, vR b7, vI (ownPred Q), vU, vU, vU, vU, vU, vU, vU, vU, vU, vU, vU, vU, vU, vU, vU] [(.ref b23)])) st207 ?_
  have N207 := Fr.app N22 Nq207
  have F207_225 := F23_40.keep Kq207 (ninS ne_b3_b23 nin0)
  have F207_227 := F23_42.keep Kq207 (ninS ne_b7_b23 nin0)
  have Ol207 := Ol23.keep Kq207 (allS g_b23 all0)
  have K207 : Keep h0 T207.heap ([] : List Addr) := K23.trans Kq207 (allS (Or.inr s_b23) all0)
  have R207 := R23.trans (CHr.keep Kq207 (sfS Sf23 sf0) R23.1)
  have hk207 := Nat.le_trans hk23 Kq207.1
  exact s161 t_207 k_207 (Int32.ofNat nn) vs_207 (0 : Int32) T207 T207.heap _ (X207.more (by decide) (by decide)) rfl Ol207 K207 N207 R207 hk207 fq207_0 fq207_1 fq207_2 fq207_3 F207_225 F207_227 pq207_0
 refine oil Y0 0 rfl rfl <| oic 1 Y0 1 rfl rfl <| oand Y0 2 rfl ?_
 by_cases cc208 : (p5 &&& (1 : Int32)) = (0 : Int32)
 ·
  refine oify 11 Y0 3 rfl rfl ((if0 _ _).trans (teq cc208).1) <| oic 0 Y0 6 rfl rfl <| ois Y0 7 rfl #[vI p1, vI p2, vI p3, vI p4, vI p5, vI 0, vU, vU, vU, vU, vU, vU, vU, vU, vU, vU, vU, vU, vU, vU, vU, vU, vU, vU, vU, vU] rfl <| oil Y0 8 rfl rfl <| oify 27 Y0 9 rfl rfl ((if0 _ _).trans (teq (by decide : (0 : Int32) = (0 : Int32))).1) <| osp 241 Y0 13 rfl rfl ?_
  obtain ⟨T209, h209, k209, X209, e209, E209, A209, st209⟩ := newP X0 hx hZ (wT 0 rfl) e0 (g := (mkF m 30 #[vI p1, vI p2, vI p3, vI p4, vI p5, vI 0, vU, vU, vU, vU, vU, vU, vU, vU, vU, vU, vU, vU, vU, vU, vU, vU, vU, vU, vU, vU] [(.int 241)])) rfl (Y0.d 14 rfl) rfl (by decide) (cap := 241) (by decide) (by decide) (by decide) (by decide)
  obtain ⟨b209, g209⟩ : ∃ z, z = h0.size := ⟨_, rfl⟩
  rw [← g209] at A209 st209
  refine og T209 m 32 #[vI p1, vI p2, vI p3, vI p4, vI p5, vI 0, vU, vU, vU, vU, vU, vU, vU, vU, vU, vU, vU, vU, vU, vU, vU, vU, vU, vU, vU, vU] [(.ref b209)] st209 ?_
  have V209 : Arv Z h209 b209 k209 .char (241 : Int32) [] (.int 0) := Arv.new A209 (by decide)
  have g_b209 : n0 ≤ b209 := Nat.le_trans (Nat.le_trans Z0 K0.1) (Nat.le_of_eq g209.symm)
  have s_b209 : h0.size ≤ b209 := Nat.le_trans K0.1 (Nat.le_of_eq g209.symm)
  have Ol209 := X00.ext E209
  have K209 : Keep h0 h209 ([] : List Addr) := K0.ext E209
  have R209 := R0.trans (CHr.ext E209 R0.1)
  have hk209 := Nat.le_trans hk0 E209.1
  have Vr210 : Arv Z h209 b209 k209 .char (Int32.ofNat 241) ((List.replicate 241 (0 : Int32)).map Value.int) (.int 0) := by rw [List.map_replicate]; exact V209.pad (pad_rep [] (Value.int (0 : Int32)) 241)
  exact s32 241 b209 k209 (vI 0) T209 h209 _ (X209.more (by decide) (by decide)) e209 Ol209 K209 N0 R209 hk209 Vr210 g_b209 s_b209 (by decide)
 refine oifn Y0 3 rfl ((if0 _ _).trans (feq cc208).1) <| oic 1 Y0 4 rfl rfl <| ogt 12 Y0 5 rfl rfl <| ois Y0 7 rfl #[vI p1, vI p2, vI p3, vI p4, vI p5, vI 1, vU, vU, vU, vU, vU, vU, vU, vU, vU, vU, vU, vU, vU, vU, vU, vU, vU, vU, vU, vU] rfl <| oil Y0 8 rfl rfl <| oifn Y0 9 rfl ((if0 _ _).trans (feq (by decide : ¬ ((1 : Int32) = (0 : Int32)))).1) <| osp 300 Y0 10 rfl rfl ?_
 obtain ⟨T211, h211, k211, X211, e211, E211, A211, st211⟩ := newP X0 hx hZ (wT 0 rfl) e0 (g := (mkF m 22 #[vI p1, vI p2, vI p3, vI p4, vI p5, vI 1, vU, vU, vU, vU, vU, vU, vU, vU, vU, vU, vU, vU, vU, vU, vU, vU, vU, vU, vU, vU] [(.int 300)])) rfl (Y0.d 11 rfl) rfl (by decide) (cap := 300) (by decide) (by decide) (by decide) (by decide)
 obtain ⟨b211, g211⟩ : ∃ z, z = h0.size := ⟨_, rfl⟩
 rw [← g211] at A211 st211
 refine og T211 m 24 #[vI p1, vI p2, vI p3, vI p4, vI p5, vI 1, vU, vU, vU, vU, vU, vU, vU, vU, vU, vU, vU, vU, vU, vU, vU, vU, vU, vU, vU, vU] [(.ref b211)] st211 ?_
 have V211 : Arv Z h211 b211 k211 .char (300 : Int32) [] (.int 0) := Arv.new A211 (by decide)
 have g_b211 : n0 ≤ b211 := Nat.le_trans (Nat.le_trans Z0 K0.1) (Nat.le_of_eq g211.symm)
 have s_b211 : h0.size ≤ b211 := Nat.le_trans K0.1 (Nat.le_of_eq g211.symm)
 have Ol211 := X00.ext E211
 have K211 : Keep h0 h211 ([] : List Addr) := K0.ext E211
 have R211 := R0.trans (CHr.ext E211 R0.1)
 have hk211 := Nat.le_trans hk0 E211.1
 have Y211 := Y0.nx X211
 refine ogt 32 Y211 12 rfl rfl ?_
 have Vr212 : Arv Z h211 b211 k211 .char (Int32.ofNat 300) ((List.replicate 300 (0 : Int32)).map Value.int) (.int 0) := by rw [List.map_replicate]; exact V211.pad (pad_rep [] (Value.int (0 : Int32)) 300)
 exact s32 300 b211 k211 (vI 1) T211 h211 _ X211 e211 Ol211 K211 N0 R211 hk211 Vr212 g_b211 s_b211 (by decide)
theorem comes_1 {Post : Tables → Env → Array Value → State → Outcome → State → Prop} (hpost : ∀ tb e args s v u, (limb_1_1.after args s (.returned v) u = true ∧ limb_1_2.after args s (.returned v) u = true ∧ True) → ReturnedEndW s (.returned v) u (Jvm.fieldLocs frame_1_writes args s ++ Jvm.arrayLocs frame_1_arrays args s ++ Jvm.staticLocs frame_1_statics s) 40 6464 → Post tb e args s (.returned v) u) :
  ArmFor flags0 classFile x code maxLocals ret World_1 tables_1 room_1 Calls_1 rest_1 Pre_1 Post := by
 intro l hfl _ _ p e ha hc hk s m args below hf hA hF happ hP
 obtain ⟨hcalls, hrest, hpre⟩ := hP
 obtain ⟨-, -, -, hnamed, -, -, -, hat⟩ := (Spec.applies_iff hf).mp happ
 obtain ⟨hg, hn⟩ := and_e (Cond.before_iff.mp (show (Jvm.Cond.and given_1 narrow_1).before args s = true from hpre))
 obtain ⟨gc, gr0⟩ := and_e hg
 obtain ⟨ga0, gr1⟩ := and_e gr0
 obtain ⟨ga1, gr2⟩ := and_e gr1
 obtain ⟨ga2, gr3⟩ := and_e gr2
 obtain ⟨ga3, gr4⟩ := and_e gr3
 obtain ⟨w0, w1, w2, w3, w4, rfl⟩ : ∃ w0 w1 w2 w3 w4 : Value, args = #[w0, w1, w2, w3, w4] := by
  have hs : args.size = 5 := by simpa [Cond.value, given_1] using gc
  obtain ⟨L⟩ := args
  match L, hs with
  | [w0, w1, w2, w3, w4], _ => exact ⟨w0, w1, w2, w3, w4, rfl⟩
 have hw := fun d (hd : d ∈ tables_1) => atoms_spec (ws := Jvm.Cond.code x code maxLocals ret :: tables_1) hat d (List.mem_cons_of_mem _ hd)
 have wT := oww hw
 have hfit : Fit s := fun {y c} hc i hi => by
  obtain ⟨ha, rfl⟩ := Array.getElem?_eq_some_iff.mp hc
  have q := List.all_eq_true.mp ((Array.all_eq_true_iff_forall_mem.mp hF) _ (Array.getElem_mem ha)) i (List.mem_range.mpr hi)
  simpa [Array.getElem?_eq_getElem hi] using q
 obtain ⟨hsets, hown0⟩ := atoms_of _ (rest_1_c_eq ▸ (show rest_1_c.before _ s = true from hrest))
 obtain ⟨i0, ei0⟩ := is_v ga0
 obtain rfl : w0 = (.int i0) := Option.some.inj ei0
 obtain ⟨i1, ei1⟩ := is_v ga1
 obtain rfl : w1 = (.int i1) := Option.some.inj ei1
 obtain ⟨i2, ei2⟩ := is_v ga2
 obtain rfl : w2 = (.int i2) := Option.some.inj ei2
 obtain ⟨i3, ei3⟩ := is_v ga3
 obtain rfl : w3 = (.int i3) := Option.some.inj ei3
 obtain ⟨i4, ei4⟩ := is_v gr4
 obtain rfl : w4 = (.int i4) := Option.some.inj ei4
 obtain ⟨wG1, e10⟩ := is_v (Cond.before_iff.mp (hsets _ (List.mem_of_getElem? (i := 1) rfl)))
 have wO2 : Sta s s.heap "java/lang/String" "COMPACT_STRINGS" "Z" (.int wG1) := Sta.start e10 (Or.inl (hsets _ (List.mem_of_getElem? (i := 0) rfl)))
 have wP5 : ¬ (wG1 = (0 : Int32)) := gotF (Cond.eq_ints e10 (Term.int_eval (0))) (not_v (Cond.before_iff.mp (hsets _ (List.mem_of_getElem? (i := 2) rfl))))
 obtain ⟨wG3, e14, wrG3⟩ := isR_v (Cond.before_iff.mp (hsets _ (List.mem_of_getElem? (i := 8) rfl)))
 have wO4 : Sta s s.heap "jdk/internal/util/Preconditions" "SIOOBE_FORMATTER" "Ljava/util/function/BiFunction;" wG3 := Sta.start e14 (Or.inl (hsets _ (List.mem_of_getElem? (i := 7) rfl)))
 have hstr : ∀ a ∈ Bundle.stringAtoms, a.before _ s = true := fun d hd => hw d ((by decide +kernel : ∀ d ∈ Bundle.stringAtoms, d ∈ tables_1) d hd)
 have wUA : Sta s s.heap "java/lang/StringUTF16" "$assertionsDisabled" "Z" (.int 1) := Sta.start (own_eq_int (Cond.before_iff.mp (hsets _ (List.mem_of_getElem? (i := 12) rfl)))) (Or.inl (hsets _ (List.mem_of_getElem? (i := 11) rfl)))
 have wUH : Sta s s.heap "java/lang/StringUTF16" "HI_BYTE_SHIFT" "I" (.int 0) := Sta.start (own_eq_int (Cond.before_iff.mp (hsets _ (List.mem_of_getElem? (i := 15) rfl)))) (Or.inl (hsets _ (List.mem_of_getElem? (i := 14) rfl)))
 have wUL : Sta s s.heap "java/lang/StringUTF16" "LO_BYTE_SHIFT" "I" (.int 8) := Sta.start (own_eq_int (Cond.before_iff.mp (hsets _ (List.mem_of_getElem? (i := 18) rfl)))) (Or.inl (hsets _ (List.mem_of_getElem? (i := 17) rfl)))
 have hEL : EW s #[(.int i0), (.int i1), (.int i2), (.int i3), (.int i4)] consts_1 := (EW.cons (wT 187 rfl) (by decide) EW.nil)
 have hcw : Jvm.Lit.compactW.before _ s = true := (hsets _ (List.mem_of_getElem? (i := 2) rfl))
 have hH : CHv s consts_1 s.vm s.heap := CHv.start hEL (fun p hp => hcalls.1 p hp) hcw (hstr _ (by simp [Bundle.stringAtoms])) (hstr _ (by simp [Bundle.stringAtoms, Bundle.sN]))
 obtain ⟨n, o, h1, h2, h3, _, L, rfl, ⟨rfl, N⟩, -, hq⟩ := rm_law l s _ hw tables_1 wG1 wG3 ⟨wO2, wP5, wO4, wrG3, hstr, wUA, wUH, wUL⟩ hEL s.heap s.heap.size (Old.start s) i0 i1 i2 i3 i4 p e ha hc hk s m _ below hf ((Spec.applies_iff_loose hf).mp happ).1 ⟨rfl, State.Warmed39.refl s, rfl, hH⟩ trivial
 refine ⟨n, _, h1, h2, h3, hpost _ _ _ _ _ _ ⟨Cond.after_iff.mpr rfl, Cond.after_iff.mpr (eq_i res_at (Term.int_eval (1)) rfl), trivial⟩ ⟨hq.1, hq.2.1, hq.2.2.1, (hq.2.2.2.sift fun y hy => Or.inr (N y hy)).mono (by decide) (by decide)⟩⟩
theorem main_1_1 : Claimed_1_1 := comes_1 fun _ _ _ _ _ _ h hF => ⟨h.1, hF⟩
theorem main_1_2 : Claimed_1_2 := comes_1 fun _ _ _ _ _ _ h hF => ⟨h.2.1, hF⟩
end Jvm.Pilot.@@N@@
namespace Jvm.Pilot.@@N@@
open Jvm Jvm.ClassFile Sem Op Lib Jvm.Free Jvm.Stand Jvm.Pilot.@@N@@.Jvm.D
/-! MADE BY PROGRAM (witnessworld.py) out of the Statement's table words and the real class files: 29 classes; the members and pool entries that the words name. The judged class is class 1, her method 1. -/
namespace start1
open Jvm.ClassFile
def u (s : String) : CpInfo := .utf8 (stringToUtf16 s)
/-- a pool by its gaps: so many unusable entries, then the entry; so many at the end -/
def gap : Nat → List CpInfo → List CpInfo
  | 0, r => r
  | n + 1, r => .unusable :: gap n r
def poolList (es : List (Nat × CpInfo)) (last : Nat) : List CpInfo := es.foldr (fun e r => gap e.1 (e.2 :: r)) (gap last [])
def pool (es : List (Nat × CpInfo)) (last : Nat) : Array CpInfo := ⟨poolList es last⟩
def fileOf (pool : Array CpInfo) (this : Nat) (attrs : Array Attribute := #[]) (ms : Array MethodInfo := #[]) (fl : Nat := 33) (sup : Nat := 0) (ifs : Array Nat := #[]) (fds : Array FieldInfo := #[]) : ClassFile where
  minorVersion := 0
  majorVersion := 65
  constantPool := pool
  accessFlags := fl
  thisClass := this
  superClass := sup
  interfaces := ifs
  fields := fds
  methods := ms
  attributes := attrs
def plain (name : String) (sup : Option ClassId) : Class where
  name := name
  kind := .ordinary
  loader := none
  accessFlags := 33
  super := sup
  interfaces := #[]
  cf := none
  fields := #[]
  methods := #[]
  instanceTypes := #[]
  staticTypes := #[]
  resolved := #[]
  callSites := []
  init := .initialized
  statics := none
  mirror := none

def pool0 : Array CpInfo := pool [(5, u "<init>"), (0, u "()V"), (1, .class_ 10), (1, u "java/lang/Object"), (85, u "clone"), (0, u "()Ljava/lang/Object;")] 26

def k0c0 : Code := { maxStack := 0, maxLocals := 1, code := object_method_1_code, exceptionTable := #[], attributes := #[] }
def k0m0 : Method := { name := "<init>", desc := "()V", sig := { parameters := [], returnType := none }, accessFlags := 1, code := some k0c0 }
def k0m1 : Method := { name := "clone", desc := "()Ljava/lang/Object;", sig := { parameters := [], returnType := some (.object "java/lang/Object") }, accessFlags := 260, code := none }
/-- java/lang/Object -/
def k0 : Class := { plain "java/lang/Object" none with
  accessFlags := 33
  interfaces := #[]
  cf := some (fileOf pool0 8 #[] #[⟨1, 5, 6, #[]⟩, ⟨260, 96, 97, #[]⟩] 33 0 #[] #[])
  fields := #[]
  methods := #[k0m0, k0m1]
  instanceTypes := #[]
  staticTypes := #[]
  resolved := Array.replicate 124 none
  statics := none }

def pool1 : Array CpInfo := pool [(2, .class_ 4), (1, u "java/lang/Object"), (0, u "<init>"), (0, u "()V"), (0, .methodref 8 9), (0, .class_ 10), (0, .nameAndType 11 12), (0, u "com/example/seekret/seekret/engine/index/SnippetsAroundPinLaw"), (0, u "pick"), (0, u "(I)C"), (0, .integer 2147483647), (0, .class_ 15), (0, u "java/lang/String"), (0, .methodref 14 17), (0, .nameAndType 5 18), (0, u "([C)V"), (0, .methodref 20 21), (0, .class_ 22), (0, .nameAndType 23 24), (0, u "com/example/seekret/seekret/engine/index/Snippets"), (0, u "around"), (0, u "(Ljava/lang/String;I)Ljava/lang/String;"), (0, .methodref 8 26), (0, .nameAndType 27 28), (0, u "ws"), (0, u "(C)Z"), (0, .methodref 8 30), (0, .nameAndType 31 32), (0, u "firstWs"), (0, u "(II[I[Z)I"), (0, .methodref 8 34), (0, .nameAndType 35 36), (0, u "at"), (0, u "(I[I[C)C"), (0, .integer 56320), (0, .integer 57343), (0, .methodref 8 40), (0, .nameAndType 41 42), (0, u "removed"), (0, u "(III[I[Z)Z"), (0, .methodref 8 44), (0, .nameAndType 45 32), (0, u "f"), (0, .methodref 8 47), (0, .nameAndType 48 49), (0, u "wsAt"), (0, u "(I[I[Z)Z"), (0, .methodref 8 51), (0, .nameAndType 52 53), (0, u "keptSpace"), (0, u "(III[I[Z[Z)I"), (0, .methodref 55 56), (0, .class_ 57), (0, .nameAndType 58 59), (0, u "java/lang/Math"), (0, u "max"), (0, u "(II)I"), (0, .methodref 8 61), (0, .nameAndType 62 63), (0, u "high238"), (0, u "(III[I[Z[C[Z)Z"), (0, .methodref 14 65), (0, .nameAndType 66 67), (0, u "length"), (0, u "()I"), (0, .methodref 14 69), (0, .nameAndType 70 12), (0, u "charAt"), (0, .methodref 8 72), (0, .nameAndType 73 74), (0, u "earlier"), (0, u "(IIII[I[Z)I"), (0, .integer 55296), (0, .integer 56319), (2, u "law"), (0, u "(IIIII)Z")] 9

def k1m0 : Method := { name := "<init>", desc := "()V", sig := { parameters := [], returnType := none }, accessFlags := 2, code := none }
def k1c1 : Code := { maxStack := 8, maxLocals := 26, code := code, exceptionTable := #[], attributes := #[] }
def k1m1 : Method := { name := "law", desc := "(IIIII)Z", sig := { parameters := [.int, .int, .int, .int, .int], returnType := some .boolean }, accessFlags := 9, code := some k1c1 }
def k1c2 : Code := { maxStack := 2, maxLocals := 2, code := method_3_code, exceptionTable := #[], attributes := #[] }
def k1m2 : Method := { name := "pick", desc := "(I)C", sig := { parameters := [.int], returnType := some .char }, accessFlags := 10, code := some k1c2 }
def k1c3 : Code := { maxStack := 2, maxLocals := 1, code := method_4_code, exceptionTable := #[], attributes := #[] }
def k1m3 : Method := { name := "ws", desc := "(C)Z", sig := { parameters := [.char], returnType := some .boolean }, accessFlags := 10, code := some k1c3 }
def k1c4 : Code := { maxStack := 3, maxLocals := 3, code := method_5_code, exceptionTable := #[], attributes := #[] }
def k1m4 : Method := { name := "at", desc := "(I[I[C)C", sig := { parameters := [.int, (.array .int), (.array .char)], returnType := some .char }, accessFlags := 10, code := some k1c4 }
def k1c5 : Code := { maxStack := 3, maxLocals := 3, code := method_6_code, exceptionTable := #[], attributes := #[] }
def k1m5 : Method := { name := "wsAt", desc := "(I[I[Z)Z", sig := { parameters := [.int, (.array .int), (.array .boolean)], returnType := some .boolean }, accessFlags := 10, code := some k1c5 }
def k1c6 : Code := { maxStack := 2, maxLocals := 6, code := method_7_code, exceptionTable := #[], attributes := #[] }
def k1m6 : Method := { name := "earlier", desc := "(IIII[I[Z)I", sig := { parameters := [.int, .int, .int, .int, (.array .int), (.array .boolean)], returnType := some .int }, accessFlags := 10, code := some k1c6 }
def k1c7 : Code := { maxStack := 6, maxLocals := 5, code := method_8_code, exceptionTable := #[], attributes := #[] }
def k1m7 : Method := { name := "firstWs", desc := "(II[I[Z)I", sig := { parameters := [.int, .int, (.array .int), (.array .boolean)], returnType := some .int }, accessFlags := 10, code := some k1c7 }
def k1c8 : Code := { maxStack := 3, maxLocals := 5, code := method_9_code, exceptionTable := #[], attributes := #[] }
def k1m8 : Method := { name := "removed", desc := "(III[I[Z)Z", sig := { parameters := [.int, .int, .int, (.array .int), (.array .boolean)], returnType := some .boolean }, accessFlags := 10, code := some k1c8 }
def k1c9 : Code := { maxStack := 2, maxLocals := 5, code := method_10_code, exceptionTable := #[], attributes := #[] }
def k1m9 : Method := { name := "f", desc := "(II[I[Z)I", sig := { parameters := [.int, .int, (.array .int), (.array .boolean)], returnType := some .int }, accessFlags := 10, code := some k1c9 }
def k1c10 : Code := { maxStack := 5, maxLocals := 7, code := method_11_code, exceptionTable := #[], attributes := #[] }
def k1m10 : Method := { name := "keptSpace", desc := "(III[I[Z[Z)I", sig := { parameters := [.int, .int, .int, (.array .int), (.array .boolean), (.array .boolean)], returnType := some .int }, accessFlags := 10, code := some k1c10 }
def k1c11 : Code := { maxStack := 5, maxLocals := 7, code := method_12_code, exceptionTable := #[], attributes := #[] }
def k1m11 : Method := { name := "high238", desc := "(III[I[Z[C[Z)Z", sig := { parameters := [.int, .int, .int, (.array .int), (.array .boolean), (.array .char), (.array .boolean)], returnType := some .boolean }, accessFlags := 10, code := some k1c11 }
/-- com/example/seekret/seekret/engine/index/SnippetsAroundPinLaw -/
def k1 : Class := { plain "com/example/seekret/seekret/engine/index/SnippetsAroundPinLaw" (some 0) with
  accessFlags := 49
  interfaces := #[]
  cf := some (fileOf pool1 8 #[] #[⟨2, 5, 6, #[]⟩, ⟨9, 79, 80, #[]⟩, ⟨10, 11, 12, #[]⟩, ⟨10, 27, 28, #[]⟩, ⟨10, 35, 36, #[]⟩, ⟨10, 48, 49, #[]⟩, ⟨10, 73, 74, #[]⟩, ⟨10, 31, 32, #[]⟩, ⟨10, 41, 42, #[]⟩, ⟨10, 45, 32, #[]⟩, ⟨10, 52, 53, #[]⟩, ⟨10, 62, 63, #[]⟩] 49 2 #[] #[])
  fields := #[]
  methods := #[k1m0, k1m1, k1m2, k1m3, k1m4, k1m5, k1m6, k1m7, k1m8, k1m9, k1m10, k1m11]
  instanceTypes := #[]
  staticTypes := #[]
  resolved := Array.replicate 90 none
  statics := none }

def pool2 : Array CpInfo := pool [(1, .class_ 2), (0, u "java/io/Serializable"), (0, .class_ 4), (0, u "java/lang/Object")] 2

/-- java/io/Serializable -/
def k2 : Class := { plain "java/io/Serializable" (some 0) with
  accessFlags := 1537
  interfaces := #[]
  cf := some (fileOf pool2 1 #[] #[] 1537 3 #[] #[])
  fields := #[]
  methods := #[]
  instanceTypes := #[]
  staticTypes := #[]
  resolved := Array.replicate 7 none
  statics := none }

def pool3 : Array CpInfo := pool [(1, .class_ 2), (0, u "java/lang/Comparable"), (0, .class_ 4), (0, u "java/lang/Object")] 7

/-- java/lang/Comparable -/
def k3 : Class := { plain "java/lang/Comparable" (some 0) with
  accessFlags := 1537
  interfaces := #[]
  cf := some (fileOf pool3 1 #[] #[] 1537 3 #[] #[])
  fields := #[]
  methods := #[]
  instanceTypes := #[]
  staticTypes := #[]
  resolved := Array.replicate 12 none
  statics := none }

def pool4 : Array CpInfo := pool [(2, .class_ 4), (1, u "java/lang/CharSequence"), (42, .class_ 48), (0, u "java/lang/CharSequence$1CodePointIterator"), (10, .class_ 60), (0, u "java/lang/CharSequence$1CharIterator"), (5, .class_ 67), (0, u "java/lang/Object")] 63

/-- java/lang/CharSequence -/
def k4 : Class := { plain "java/lang/CharSequence" (some 0) with
  accessFlags := 1537
  interfaces := #[]
  cf := some (fileOf pool4 2 #[.nestMembers #[47, 59]] #[] 1537 66 #[] #[])
  fields := #[]
  methods := #[]
  instanceTypes := #[]
  staticTypes := #[]
  resolved := Array.replicate 131 none
  statics := none }

def pool5 : Array CpInfo := pool [(1, .class_ 2), (0, u "java/lang/constant/Constable"), (0, .class_ 4), (0, u "java/lang/Object")] 6

/-- java/lang/constant/Constable -/
def k5 : Class := { plain "java/lang/constant/Constable" (some 0) with
  accessFlags := 1537
  interfaces := #[]
  cf := some (fileOf pool5 1 #[] #[] 1537 3 #[] #[])
  fields := #[]
  methods := #[]
  instanceTypes := #[]
  staticTypes := #[]
  resolved := Array.replicate 11 none
  statics := none }

def pool6 : Array CpInfo := pool [(1, .class_ 2), (0, u "java/lang/constant/ConstantDesc"), (0, .class_ 4), (0, u "java/lang/Object")] 32

/-- java/lang/constant/ConstantDesc -/
def k6 : Class := { plain "java/lang/constant/ConstantDesc" (some 0) with
  accessFlags := 1537
  interfaces := #[]
  cf := some (fileOf pool6 1 #[] #[] 1537 3 #[] #[])
  fields := #[]
  methods := #[]
  instanceTypes := #[]
  staticTypes := #[]
  resolved := Array.replicate 37 none
  statics := none }

def pool7 : Array CpInfo := pool [(1, .methodref 2 3), (0, .class_ 4), (0, .nameAndType 5 6), (0, u "java/lang/Object"), (0, u "<init>"), (0, u "()V"), (2, .fieldref 10 11), (0, .class_ 12), (0, .nameAndType 13 14), (0, u "java/lang/String"), (0, u "value"), (0, u "[B"), (0, .fieldref 10 16), (0, .nameAndType 17 18), (0, u "coder"), (0, u "B"), (2, u "hash"), (0, u "I"), (2, u "hashIsZero"), (0, u "Z"), (0, .methodref 10 28), (0, .nameAndType 5 29), (0, u "([CIILjava/lang/Void;)V"), (6, u "checkBoundsOffCount"), (0, u "(III)I"), (0, .fieldref 10 39), (0, .nameAndType 40 26), (0, u "COMPACT_STRINGS"), (1, .class_ 44), (1, u "java/lang/StringUTF16"), (0, u "compress"), (1, .methodref 42 48), (0, .nameAndType 49 50), (0, u "coderFromArrayLen"), (0, u "([BI)B"), (3, .methodref 55 56), (0, .class_ 57), (0, .nameAndType 58 59), (0, u "java/util/Arrays"), (0, u "copyOfRange"), (0, u "([BII)[B"), (47, .class_ 109), (1, u "java/lang/StringLatin1"), (32, u "()Z"), (34, .methodref 42 178), (0, .nameAndType 45 179), (0, u "([CII)[B"), (154, u "()I"), (0, .methodref 10 336), (0, .nameAndType 17 337), (0, u "()B"), (2, u "()[B"), (22, u "([BI)C"), (12, u "([BI[BII)I"), (14, u "(II)V"), (35, u "(I)C"), (61, .methodref 10 490), (0, .nameAndType 5 491), (0, u "(Ljava/lang/AbstractStringBuilder;Ljava/lang/Void;)V"), (0, .methodref 10 493), (0, .nameAndType 494 142), (0, u "isLatin1"), (0, .methodref 107 496), (0, .nameAndType 497 363), (0, u "charAt"), (0, .methodref 42 496), (2, u "checkIndex"), (3, .methodref 10 506), (0, .nameAndType 507 334), (0, u "length"), (41, .methodref 550 506), (0, .class_ 551), (0, u "java/lang/AbstractStringBuilder"), (0, .methodref 550 553), (0, .nameAndType 554 340), (0, u "getValue"), (20, .class_ 576), (0, u "java/lang/CharSequence"), (22, u "CASE_INSENSITIVE_ORDER"), (0, u "Ljava/util/Comparator;"), (42, u "lastIndexOf"), (11, u "([BBILjava/lang/String;I)I"), (19, .methodref 107 676), (0, .nameAndType 643 376), (1, .methodref 42 679), (0, .nameAndType 680 376), (0, u "lastIndexOfLatin1"), (329, u "([C)V"), (36, .methodref 550 493), (0, .fieldref 550 1049), (0, .nameAndType 1050 26), (0, u "maybeLatin1"), (0, .methodref 42 1052), (0, .nameAndType 45 59), (0, .fieldref 1054 1055), (0, .class_ 1056), (0, .nameAndType 1057 1058), (0, u "jdk/internal/util/Preconditions"), (0, u "SIOOBE_FORMATTER"), (0, u "Ljava/util/function/BiFunction;"), (0, .methodref 1054 1060), (0, .nameAndType 501 1061), (0, u "(IILjava/util/function/BiFunction;)I"), (2, u "(IIILjava/util/function/BiFunction;)I"), (0, .methodref 1054 1066), (0, .nameAndType 1067 1064), (0, u "checkFromIndexSize"), (33, u "serialPersistentFields"), (0, u "[Ljava/io/ObjectStreamField;"), (0, .class_ 1104), (0, u "java/lang/String$CaseInsensitiveComparator"), (1, .class_ 1107), (0, u "java/io/Serializable"), (0, .class_ 1109), (0, u "java/lang/Comparable"), (0, .class_ 1111), (0, u "java/lang/constant/Constable"), (0, .class_ 1113), (0, u "java/lang/constant/ConstantDesc"), (2, u "serialVersionUID"), (0, u "J"), (3, u "REPL"), (0, u "C"), (2, u "LATIN1"), (1, u "UTF16"), (105, u "(Ljava/lang/StringBuilder;)V")] 217

def k7m0 : Method := { name := "<init>", desc := "()V", sig := { parameters := [], returnType := none }, accessFlags := 1, code := none }
def k7c1 : Code := { maxStack := 5, maxLocals := 2, code := jdk_42_method_3_code, exceptionTable := #[], attributes := #[] }
def k7m1 : Method := { name := "<init>", desc := "([C)V", sig := { parameters := [(.array .char)], returnType := none }, accessFlags := 1, code := some k7c1 }
def k7c2 : Code := { maxStack := 3, maxLocals := 2, code := jdk_42_method_53_code, exceptionTable := #[], attributes := #[] }
def k7m2 : Method := { name := "<init>", desc := "(Ljava/lang/StringBuilder;)V", sig := { parameters := [(.object "java/lang/StringBuilder")], returnType := none }, accessFlags := 1, code := some k7c2 }
def k7c3 : Code := { maxStack := 2, maxLocals := 1, code := jdk_42_method_54_code, exceptionTable := #[], attributes := #[] }
def k7m3 : Method := { name := "length", desc := "()I", sig := { parameters := [], returnType := some .int }, accessFlags := 1, code := some k7c3 }
def k7c4 : Code := { maxStack := 2, maxLocals := 2, code := jdk_42_method_56_code, exceptionTable := #[], attributes := #[] }
def k7m4 : Method := { name := "charAt", desc := "(I)C", sig := { parameters := [.int], returnType := some .char }, accessFlags := 1, code := some k7c4 }
def k7c5 : Code := { maxStack := 5, maxLocals := 9, code := jdk_42_method_90_code, exceptionTable := #[], attributes := #[] }
def k7m5 : Method := { name := "lastIndexOf", desc := "([BBILjava/lang/String;I)I", sig := { parameters := [(.array .byte), .byte, .int, (.object "java/lang/String"), .int], returnType := some .int }, accessFlags := 8, code := some k7c5 }
def k7c6 : Code := { maxStack := 4, maxLocals := 6, code := jdk_42_method_149_code, exceptionTable := #[], attributes := #[] }
def k7m6 : Method := { name := "<init>", desc := "([CIILjava/lang/Void;)V", sig := { parameters := [(.array .char), .int, .int, (.object "java/lang/Void")], returnType := none }, accessFlags := 2, code := some k7c6 }
def k7c7 : Code := { maxStack := 5, maxLocals := 5, code := jdk_42_method_150_code, exceptionTable := #[], attributes := #[] }
def k7m7 : Method := { name := "<init>", desc := "(Ljava/lang/AbstractStringBuilder;Ljava/lang/Void;)V", sig := { parameters := [(.object "java/lang/AbstractStringBuilder"), (.object "java/lang/Void")], returnType := none }, accessFlags := 0, code := some k7c7 }
def k7c8 : Code := { maxStack := 1, maxLocals := 1, code := jdk_42_method_152_code, exceptionTable := #[], attributes := #[] }
def k7m8 : Method := { name := "coder", desc := "()B", sig := { parameters := [], returnType := some .byte }, accessFlags := 0, code := some k7c8 }
def k7c9 : Code := { maxStack := 1, maxLocals := 1, code := jdk_42_method_154_code, exceptionTable := #[], attributes := #[] }
def k7m9 : Method := { name := "isLatin1", desc := "()Z", sig := { parameters := [], returnType := some .boolean }, accessFlags := 0, code := some k7c9 }
def k7c10 : Code := { maxStack := 3, maxLocals := 2, code := jdk_42_method_155_code, exceptionTable := #[], attributes := #[] }
def k7m10 : Method := { name := "checkIndex", desc := "(II)V", sig := { parameters := [.int, .int], returnType := none }, accessFlags := 8, code := some k7c10 }
def k7c11 : Code := { maxStack := 4, maxLocals := 3, code := jdk_42_method_157_code, exceptionTable := #[], attributes := #[] }
def k7m11 : Method := { name := "checkBoundsOffCount", desc := "(III)I", sig := { parameters := [.int, .int, .int], returnType := some .int }, accessFlags := 8, code := some k7c11 }
/-- java/lang/String -/
def k7 : Class := { plain "java/lang/String" (some 0) with
  accessFlags := 49
  interfaces := #[2, 3, 4, 5, 6]
  cf := some (fileOf pool7 10 #[.nestMembers #[1103]] #[⟨1, 5, 6, #[]⟩, ⟨1, 5, 1010, #[]⟩, ⟨1, 5, 1233, #[]⟩, ⟨1, 507, 334, #[]⟩, ⟨1, 497, 427, #[]⟩, ⟨8, 643, 655, #[]⟩, ⟨2, 5, 29, #[]⟩, ⟨0, 5, 491, #[]⟩, ⟨0, 17, 337, #[]⟩, ⟨0, 494, 142, #[]⟩, ⟨8, 501, 391, #[]⟩, ⟨8, 36, 37, #[]⟩] 49 2 #[1106, 1108, 575, 1110, 1112] #[⟨18, 13, 14, #[]⟩, ⟨18, 17, 18, #[]⟩, ⟨2, 21, 22, #[]⟩, ⟨2, 25, 26, #[]⟩, ⟨26, 1116, 1117, #[]⟩, ⟨24, 40, 26, #[]⟩, ⟨26, 1101, 1102, #[]⟩, ⟨26, 1121, 1122, #[]⟩, ⟨25, 599, 600, #[]⟩, ⟨24, 1125, 18, #[]⟩, ⟨24, 1127, 18, #[]⟩])
  fields := #[⟨"value", (.array .byte), 18, 0, 0⟩, ⟨"coder", .byte, 18, 1, 0⟩, ⟨"hash", .int, 2, 2, 0⟩, ⟨"hashIsZero", .boolean, 2, 3, 0⟩, ⟨"serialVersionUID", .long, 26, 0, 0⟩, ⟨"COMPACT_STRINGS", .boolean, 24, 1, 0⟩, ⟨"serialPersistentFields", (.array (.object "java/io/ObjectStreamField")), 26, 2, 0⟩, ⟨"REPL", .char, 26, 3, 0⟩, ⟨"CASE_INSENSITIVE_ORDER", (.object "java/util/Comparator"), 25, 4, 0⟩, ⟨"LATIN1", .byte, 24, 5, 0⟩, ⟨"UTF16", .byte, 24, 6, 0⟩]
  methods := #[k7m0, k7m1, k7m2, k7m3, k7m4, k7m5, k7m6, k7m7, k7m8, k7m9, k7m10, k7m11]
  instanceTypes := #[(.array .byte), .byte, .int, .boolean]
  staticTypes := #[.long, .boolean, (.array (.object "java/io/ObjectStreamField")), .char, (.object "java/util/Comparator"), .byte, .byte]
  resolved := Array.replicate 1451 none
  statics := some 0 }

def pool8 : Array CpInfo := pool [(3, .class_ 4), (0, u "java/lang/String"), (1, .class_ 8), (1, u "java/lang/Object"), (0, u "<init>"), (0, u "()V"), (0, .methodref 12 13), (0, .class_ 14), (0, .nameAndType 15 16), (0, u "java/lang/StringUTF16"), (0, u "newBytesLength"), (0, u "(I)I"), (3, .integer 1073741823), (23, .fieldref 12 45), (0, .nameAndType 46 47), (0, u "$assertionsDisabled"), (0, u "Z"), (0, .methodref 12 49), (0, .nameAndType 50 51), (0, u "length"), (0, u "([B)I"), (7, .fieldref 12 60), (0, .nameAndType 61 62), (0, u "HI_BYTE_SHIFT"), (0, u "I"), (0, .fieldref 12 64), (0, .nameAndType 65 62), (0, u "LO_BYTE_SHIFT"), (1, .methodref 12 68), (0, .nameAndType 69 70), (0, u "checkIndex"), (0, u "(I[B)V"), (0, .methodref 12 72), (0, .nameAndType 73 74), (0, u "getChar"), (0, u "([BI)C"), (24, u "(II[B)V"), (7, .methodref 12 108), (0, .nameAndType 109 110), (0, u "newBytesFor"), (0, u "(I)[B"), (0, .methodref 12 112), (0, .nameAndType 113 114), (0, u "putChar"), (0, u "([BII)V"), (0, .methodref 12 116), (0, .nameAndType 117 118), (0, u "compress"), (0, u "([CI[BII)I"), (0, .methodref 12 120), (0, .nameAndType 121 122), (0, u "toBytes"), (0, u "([CII)[B"), (0, .methodref 12 124), (0, .nameAndType 117 125), (0, u "([BI[BII)I"), (0, .methodref 127 128), (0, .class_ 129), (0, .nameAndType 130 131), (0, u "java/util/Arrays"), (0, u "copyOfRange"), (0, u "([BII)[B"), (8, u "inflate"), (0, u "([BI[BII)V"), (31, .methodref 12 174), (0, .nameAndType 175 99), (0, u "checkBoundsOffCount"), (85, u "coderFromArrayLen"), (0, u "([BI)B"), (18, u "(III)I"), (87, .class_ 371), (1, u "java/lang/StringUTF16$LinesSpliterator"), (20, u "charAt"), (21, .methodref 3 415), (0, .nameAndType 69 416), (0, u "(II)V"), (2, .methodref 3 420), (0, .nameAndType 175 281), (9, u "MAX_LENGTH"), (155, u "putCharSB"), (29, u "lastIndexOfLatin1"), (10, .class_ 628), (0, u "java/lang/StringUTF16$CodePointsSpliterator"), (0, .class_ 630), (0, u "java/lang/StringUTF16$CharsSpliterator")] 4

def k8m0 : Method := { name := "<init>", desc := "()V", sig := { parameters := [], returnType := none }, accessFlags := 0, code := none }
def k8c1 : Code := { maxStack := 1, maxLocals := 1, code := jdk_52_method_2_code, exceptionTable := #[], attributes := #[] }
def k8m1 : Method := { name := "newBytesFor", desc := "(I)[B", sig := { parameters := [.int], returnType := some (.array .byte) }, accessFlags := 9, code := some k8c1 }
def k8c2 : Code := { maxStack := 4, maxLocals := 1, code := jdk_52_method_3_code, exceptionTable := #[], attributes := #[] }
def k8m2 : Method := { name := "newBytesLength", desc := "(I)I", sig := { parameters := [.int], returnType := some .int }, accessFlags := 9, code := some k8c2 }
def k8c3 : Code := { maxStack := 4, maxLocals := 3, code := jdk_52_method_4_code, exceptionTable := #[], attributes := #[] }
def k8m3 : Method := { name := "putChar", desc := "([BII)V", sig := { parameters := [(.array .byte), .int, .int], returnType := none }, accessFlags := 8, code := some k8c3 }
def k8c4 : Code := { maxStack := 3, maxLocals := 2, code := jdk_52_method_5_code, exceptionTable := #[], attributes := #[] }
def k8m4 : Method := { name := "getChar", desc := "([BI)C", sig := { parameters := [(.array .byte), .int], returnType := some .char }, accessFlags := 8, code := some k8c4 }
def k8c5 : Code := { maxStack := 2, maxLocals := 1, code := jdk_52_method_6_code, exceptionTable := #[], attributes := #[] }
def k8m5 : Method := { name := "length", desc := "([B)I", sig := { parameters := [(.array .byte)], returnType := some .int }, accessFlags := 9, code := some k8c5 }
def k8c6 : Code := { maxStack := 4, maxLocals := 5, code := jdk_52_method_14_code, exceptionTable := #[], attributes := #[] }
def k8m6 : Method := { name := "toBytes", desc := "([CII)[B", sig := { parameters := [(.array .char), .int, .int], returnType := some (.array .byte) }, accessFlags := 9, code := some k8c6 }
def k8c7 : Code := { maxStack := 2, maxLocals := 2, code := jdk_52_method_15_code, exceptionTable := #[], attributes := #[] }
def k8m7 : Method := { name := "coderFromArrayLen", desc := "([BI)B", sig := { parameters := [(.array .byte), .int], returnType := some .byte }, accessFlags := 8, code := some k8c7 }
def k8c8 : Code := { maxStack := 5, maxLocals := 6, code := jdk_52_method_16_code, exceptionTable := #[], attributes := #[] }
def k8m8 : Method := { name := "compress", desc := "([CII)[B", sig := { parameters := [(.array .char), .int, .int], returnType := some (.array .byte) }, accessFlags := 9, code := some k8c8 }
def k8c9 : Code := { maxStack := 5, maxLocals := 6, code := jdk_52_method_17_code, exceptionTable := #[], attributes := #[] }
def k8m9 : Method := { name := "compress", desc := "([BII)[B", sig := { parameters := [(.array .byte), .int, .int], returnType := some (.array .byte) }, accessFlags := 9, code := some k8c9 }
def k8c10 : Code := { maxStack := 3, maxLocals := 7, code := jdk_52_method_21_code, exceptionTable := #[], attributes := #[] }
def k8m10 : Method := { name := "compress", desc := "([CI[BII)I", sig := { parameters := [(.array .char), .int, (.array .byte), .int, .int], returnType := some .int }, accessFlags := 9, code := some k8c10 }
def k8c11 : Code := { maxStack := 3, maxLocals := 7, code := jdk_52_method_22_code, exceptionTable := #[], attributes := #[] }
def k8m11 : Method := { name := "compress", desc := "([BI[BII)I", sig := { parameters := [(.array .byte), .int, (.array .byte), .int, .int], returnType := some .int }, accessFlags := 9, code := some k8c11 }
def k8c12 : Code := { maxStack := 3, maxLocals := 3, code := jdk_52_method_71_code, exceptionTable := #[], attributes := #[] }
def k8m12 : Method := { name := "putCharSB", desc := "([BII)V", sig := { parameters := [(.array .byte), .int, .int], returnType := none }, accessFlags := 9, code := some k8c12 }
def k8c13 : Code := { maxStack := 2, maxLocals := 2, code := jdk_52_method_83_code, exceptionTable := #[], attributes := #[] }
def k8m13 : Method := { name := "charAt", desc := "([BI)C", sig := { parameters := [(.array .byte), .int], returnType := some .char }, accessFlags := 9, code := some k8c13 }
def k8c14 : Code := { maxStack := 4, maxLocals := 6, code := jdk_52_method_86_code, exceptionTable := #[], attributes := #[] }
def k8m14 : Method := { name := "inflate", desc := "([BI[BII)V", sig := { parameters := [(.array .byte), .int, (.array .byte), .int, .int], returnType := none }, accessFlags := 9, code := some k8c14 }
def k8c15 : Code := { maxStack := 3, maxLocals := 12, code := jdk_52_method_87_code, exceptionTable := #[], attributes := #[] }
def k8m15 : Method := { name := "lastIndexOfLatin1", desc := "([BI[BII)I", sig := { parameters := [(.array .byte), .int, (.array .byte), .int, .int], returnType := some .int }, accessFlags := 9, code := some k8c15 }
def k8c16 : Code := { maxStack := 2, maxLocals := 2, code := jdk_52_method_91_code, exceptionTable := #[], attributes := #[] }
def k8m16 : Method := { name := "checkIndex", desc := "(I[B)V", sig := { parameters := [.int, (.array .byte)], returnType := none }, accessFlags := 9, code := some k8c16 }
def k8c17 : Code := { maxStack := 3, maxLocals := 3, code := jdk_52_method_94_code, exceptionTable := #[], attributes := #[] }
def k8m17 : Method := { name := "checkBoundsOffCount", desc := "(II[B)V", sig := { parameters := [.int, .int, (.array .byte)], returnType := none }, accessFlags := 9, code := some k8c17 }
/-- java/lang/StringUTF16 -/
def k8 : Class := { plain "java/lang/StringUTF16" (some 0) with
  accessFlags := 48
  interfaces := #[]
  cf := some (fileOf pool8 12 #[.nestMembers #[627, 629, 369]] #[⟨0, 9, 10, #[]⟩, ⟨9, 109, 110, #[]⟩, ⟨9, 15, 16, #[]⟩, ⟨8, 113, 114, #[]⟩, ⟨8, 73, 74, #[]⟩, ⟨9, 50, 51, #[]⟩, ⟨9, 121, 122, #[]⟩, ⟨8, 261, 262, #[]⟩, ⟨9, 117, 122, #[]⟩, ⟨9, 117, 131, #[]⟩, ⟨9, 117, 118, #[]⟩, ⟨9, 117, 125, #[]⟩, ⟨9, 586, 114, #[]⟩, ⟨9, 392, 74, #[]⟩, ⟨9, 140, 141, #[]⟩, ⟨9, 616, 125, #[]⟩, ⟨9, 69, 70, #[]⟩, ⟨9, 175, 99, #[]⟩] 48 6 #[] #[⟨26, 61, 62, #[]⟩, ⟨26, 65, 62, #[]⟩, ⟨24, 430, 62, #[]⟩, ⟨4120, 46, 47, #[]⟩])
  fields := #[⟨"HI_BYTE_SHIFT", .int, 26, 0, 0⟩, ⟨"LO_BYTE_SHIFT", .int, 26, 1, 0⟩, ⟨"MAX_LENGTH", .int, 24, 2, 0⟩, ⟨"$assertionsDisabled", .boolean, 4120, 3, 0⟩]
  methods := #[k8m0, k8m1, k8m2, k8m3, k8m4, k8m5, k8m6, k8m7, k8m8, k8m9, k8m10, k8m11, k8m12, k8m13, k8m14, k8m15, k8m16, k8m17]
  instanceTypes := #[]
  staticTypes := #[.int, .int, .int, .boolean]
  resolved := Array.replicate 635 none
  statics := some 1 }

def pool9 : Array CpInfo := pool [(2, .class_ 4), (1, u "java/lang/Object"), (0, u "<init>"), (0, u "()V"), (0, .methodref 8 9), (0, .class_ 10), (0, .nameAndType 11 12), (0, u "java/lang/Math"), (0, u "max"), (0, u "(II)I"), (0, .methodref 14 15), (0, .class_ 16), (0, .nameAndType 17 18), (0, u "com/example/seekret/seekret/engine/index/Snippets"), (0, u "start"), (0, u "(Ljava/lang/String;I)I"), (0, .class_ 20), (0, u "java/lang/StringBuilder"), (0, .methodref 19 22), (0, .nameAndType 5 23), (0, u "(I)V"), (0, .methodref 19 25), (0, .nameAndType 26 27), (0, u "append"), (0, u "(C)Ljava/lang/StringBuilder;"), (0, .methodref 14 29), (0, .nameAndType 30 18), (0, u "skipWhitespace"), (0, .methodref 32 33), (0, .class_ 34), (0, .nameAndType 35 36), (0, u "java/lang/String"), (0, u "length"), (0, u "()I"), (0, .methodref 19 33), (0, .methodref 32 39), (0, .nameAndType 40 41), (0, u "charAt"), (0, u "(I)C"), (0, .methodref 14 43), (0, .nameAndType 44 45), (0, u "isWhitespace"), (0, u "(C)Z"), (0, .methodref 14 47), (0, .nameAndType 48 49), (0, u "cutEnd"), (0, u "(Ljava/lang/StringBuilder;I)V"), (0, .methodref 19 51), (0, .nameAndType 52 53), (0, u "toString"), (0, u "()Ljava/lang/String;"), (0, .methodref 55 56), (0, .class_ 57), (0, .nameAndType 58 45), (0, u "java/lang/Character"), (0, u "isLowSurrogate"), (0, .string 60), (0, u " "), (0, .methodref 19 62), (0, .nameAndType 63 18), (0, u "lastIndexOf"), (0, .methodref 19 39), (0, .methodref 55 66), (0, .nameAndType 67 45), (0, u "isHighSurrogate"), (0, .methodref 19 69), (0, .nameAndType 70 23), (0, u "setLength"), (0, u "MAX_CHARS"), (0, u "I"), (2, u "MARK"), (0, u "C"), (1, u "LEAD"), (3, u "around"), (0, u "(Ljava/lang/String;I)Ljava/lang/String;")] 3

def k9m0 : Method := { name := "<init>", desc := "()V", sig := { parameters := [], returnType := none }, accessFlags := 2, code := none }
def k9c1 : Code := { maxStack := 3, maxLocals := 5, code := prog_10_method_2_code, exceptionTable := #[], attributes := #[] }
def k9m1 : Method := { name := "around", desc := "(Ljava/lang/String;I)Ljava/lang/String;", sig := { parameters := [(.object "java/lang/String"), .int], returnType := some (.object "java/lang/String") }, accessFlags := 8, code := some k9c1 }
def k9c2 : Code := { maxStack := 2, maxLocals := 4, code := prog_10_method_3_code, exceptionTable := #[], attributes := #[] }
def k9m2 : Method := { name := "start", desc := "(Ljava/lang/String;I)I", sig := { parameters := [(.object "java/lang/String"), .int], returnType := some .int }, accessFlags := 10, code := some k9c2 }
def k9c3 : Code := { maxStack := 4, maxLocals := 4, code := prog_10_method_4_code, exceptionTable := #[], attributes := #[] }
def k9m3 : Method := { name := "cutEnd", desc := "(Ljava/lang/StringBuilder;I)V", sig := { parameters := [(.object "java/lang/StringBuilder"), .int], returnType := none }, accessFlags := 10, code := some k9c3 }
def k9c4 : Code := { maxStack := 2, maxLocals := 3, code := prog_10_method_5_code, exceptionTable := #[], attributes := #[] }
def k9m4 : Method := { name := "skipWhitespace", desc := "(Ljava/lang/String;I)I", sig := { parameters := [(.object "java/lang/String"), .int], returnType := some .int }, accessFlags := 10, code := some k9c4 }
def k9c5 : Code := { maxStack := 2, maxLocals := 1, code := prog_10_method_6_code, exceptionTable := #[], attributes := #[] }
def k9m5 : Method := { name := "isWhitespace", desc := "(C)Z", sig := { parameters := [.char], returnType := some .boolean }, accessFlags := 10, code := some k9c5 }
/-- com/example/seekret/seekret/engine/index/Snippets -/
def k9 : Class := { plain "com/example/seekret/seekret/engine/index/Snippets" (some 0) with
  accessFlags := 48
  interfaces := #[]
  cf := some (fileOf pool9 14 #[] #[⟨2, 5, 6, #[]⟩, ⟨8, 82, 83, #[]⟩, ⟨10, 17, 18, #[]⟩, ⟨10, 48, 49, #[]⟩, ⟨10, 30, 18, #[]⟩, ⟨10, 44, 45, #[]⟩] 48 2 #[] #[⟨24, 71, 72, #[]⟩, ⟨24, 75, 76, #[]⟩, ⟨26, 78, 72, #[]⟩])
  fields := #[⟨"MAX_CHARS", .int, 24, 0, 0⟩, ⟨"MARK", .char, 24, 1, 0⟩, ⟨"LEAD", .int, 26, 2, 0⟩]
  methods := #[k9m0, k9m1, k9m2, k9m3, k9m4, k9m5]
  instanceTypes := #[]
  staticTypes := #[.int, .char, .int]
  resolved := Array.replicate 87 none
  statics := none }

def pool10 : Array CpInfo := pool [(1, .class_ 2), (0, u "java/lang/Math"), (1, .class_ 6), (1, u "java/lang/Object"), (0, u "<init>"), (0, u "()V"), (89, .class_ 100), (1, u "java/lang/Math$RandomNumberGeneratorHolder"), (71, u "negativeZeroFloatBits"), (0, u "J"), (2, u "negativeZeroDoubleBits"), (21, u "max"), (2, u "min"), (43, u "$assertionsDisabled"), (0, u "Z"), (88, u "(II)I"), (2, u "twoToTheDoubleScaleDown"), (0, u "D"), (4, u "twoToTheDoubleScaleUp"), (9, u "E"), (3, u "PI"), (2, u "TAU"), (2, u "DEGREES_TO_RADIANS"), (0, u "RADIANS_TO_DEGREES")] 94

def k10m0 : Method := { name := "<init>", desc := "()V", sig := { parameters := [], returnType := none }, accessFlags := 2, code := none }
def k10c1 : Code := { maxStack := 2, maxLocals := 2, code := jdk_29_method_65_code, exceptionTable := #[], attributes := #[] }
def k10m1 : Method := { name := "max", desc := "(II)I", sig := { parameters := [.int, .int], returnType := some .int }, accessFlags := 9, code := some k10c1 }
def k10c2 : Code := { maxStack := 2, maxLocals := 2, code := jdk_29_method_69_code, exceptionTable := #[], attributes := #[] }
def k10m2 : Method := { name := "min", desc := "(II)I", sig := { parameters := [.int, .int], returnType := some .int }, accessFlags := 9, code := some k10c2 }
/-- java/lang/Math -/
def k10 : Class := { plain "java/lang/Math" (some 0) with
  accessFlags := 49
  interfaces := #[]
  cf := some (fileOf pool10 1 #[.nestMembers #[98]] #[⟨2, 7, 8, #[]⟩, ⟨9, 198, 335, #[]⟩, ⟨9, 201, 335, #[]⟩] 49 4 #[] #[⟨25, 354, 339, #[]⟩, ⟨25, 358, 339, #[]⟩, ⟨25, 361, 339, #[]⟩, ⟨26, 364, 339, #[]⟩, ⟨26, 365, 339, #[]⟩, ⟨26, 172, 173, #[]⟩, ⟨26, 176, 173, #[]⟩, ⟨8, 344, 339, #[]⟩, ⟨8, 338, 339, #[]⟩, ⟨4120, 245, 246, #[]⟩])
  fields := #[⟨"E", .double, 25, 0, 0⟩, ⟨"PI", .double, 25, 1, 0⟩, ⟨"TAU", .double, 25, 2, 0⟩, ⟨"DEGREES_TO_RADIANS", .double, 26, 3, 0⟩, ⟨"RADIANS_TO_DEGREES", .double, 26, 4, 0⟩, ⟨"negativeZeroFloatBits", .long, 26, 5, 0⟩, ⟨"negativeZeroDoubleBits", .long, 26, 6, 0⟩, ⟨"twoToTheDoubleScaleUp", .double, 8, 7, 0⟩, ⟨"twoToTheDoubleScaleDown", .double, 8, 8, 0⟩, ⟨"$assertionsDisabled", .boolean, 4120, 9, 0⟩]
  methods := #[k10m0, k10m1, k10m2]
  instanceTypes := #[]
  staticTypes := #[.double, .double, .double, .double, .double, .long, .long, .double, .double, .boolean]
  resolved := Array.replicate 460 none
  statics := none }

def pool11 : Array CpInfo := pool [(1, .class_ 2), (0, u "java/lang/Appendable"), (0, .class_ 4), (0, u "java/lang/Object")] 9

/-- java/lang/Appendable -/
def k11 : Class := { plain "java/lang/Appendable" (some 0) with
  accessFlags := 1537
  interfaces := #[]
  cf := some (fileOf pool11 1 #[] #[] 1537 3 #[] #[])
  fields := #[]
  methods := #[]
  instanceTypes := #[]
  staticTypes := #[]
  resolved := Array.replicate 14 none
  statics := none }

def pool12 : Array CpInfo := pool [(1, .class_ 2), (0, u "java/lang/String"), (0, .methodref 4 5), (0, .class_ 6), (0, .nameAndType 7 8), (0, u "java/lang/Object"), (0, u "<init>"), (0, u "()V"), (1, .class_ 12), (1, u "java/lang/AbstractStringBuilder"), (0, u "EMPTYVALUE"), (0, u "[B"), (0, .fieldref 10 16), (0, .nameAndType 17 14), (0, u "value"), (0, .fieldref 1 19), (0, .nameAndType 20 21), (0, u "COMPACT_STRINGS"), (0, u "Z"), (0, .fieldref 10 23), (0, .nameAndType 24 25), (0, u "coder"), (0, u "B"), (0, .methodref 27 28), (0, .class_ 29), (0, .nameAndType 30 31), (0, u "java/lang/StringUTF16"), (0, u "newBytesFor"), (0, u "(I)[B"), (2, u "length"), (0, u "()I"), (9, u "append"), (2, .class_ 49), (0, u "java/lang/CharSequence"), (23, .fieldref 10 74), (0, .nameAndType 75 21), (0, u "maybeLatin1"), (3, .fieldref 10 80), (0, .nameAndType 81 82), (0, u "count"), (0, u "I"), (0, .methodref 10 84), (0, .nameAndType 85 86), (0, u "isLatin1"), (0, u "()Z"), (1, .class_ 90), (1, u "java/lang/StringLatin1"), (9, .methodref 10 101), (0, .nameAndType 102 103), (0, u "ensureCapacityInternal"), (0, u "(I)V"), (21, .methodref 88 126), (0, .nameAndType 127 128), (0, u "inflate"), (0, u "([BI[BII)V"), (7, u "([BII)V"), (1, .methodref 139 140), (0, .class_ 141), (0, .nameAndType 142 143), (0, u "java/lang/Math"), (0, u "min"), (0, u "(II)I"), (0, .methodref 1 145), (0, .nameAndType 146 147), (0, u "checkIndex"), (0, u "(II)V"), (0, .methodref 27 149), (0, .nameAndType 150 151), (0, u "getChar"), (0, u "([BI)C"), (39, .methodref 88 192), (0, .nameAndType 193 194), (0, u "canEncode"), (0, u "(C)Z"), (0, .methodref 10 196), (0, .nameAndType 127 8), (0, .methodref 27 198), (0, .nameAndType 199 136), (0, u "putCharSB"), (92, u "(C)Ljava/lang/AbstractStringBuilder;"), (56, u "(Ljava/lang/String;I)I"), (2, u "([BBILjava/lang/String;I)I"), (2, u "lastIndexOf"), (0, .methodref 1 357), (0, .nameAndType 355 352), (34, u "charAt"), (0, u "(I)C"), (9, u "()[B"), (40, .class_ 445), (0, u "java/lang/Appendable"), (30, u "setLength"), (75, u "getValue")] 56

def k12m0 : Method := { name := "<init>", desc := "()V", sig := { parameters := [], returnType := none }, accessFlags := 0, code := none }
def k12c1 : Code := { maxStack := 2, maxLocals := 2, code := jdk_68_method_2_code, exceptionTable := #[], attributes := #[] }
def k12m1 : Method := { name := "<init>", desc := "(I)V", sig := { parameters := [.int], returnType := none }, accessFlags := 0, code := some k12c1 }
def k12c2 : Code := { maxStack := 1, maxLocals := 1, code := jdk_68_method_6_code, exceptionTable := #[], attributes := #[] }
def k12m2 : Method := { name := "length", desc := "()I", sig := { parameters := [], returnType := some .int }, accessFlags := 1, code := some k12c2 }
def k12c3 : Code := { maxStack := 4, maxLocals := 3, code := jdk_68_method_9_code, exceptionTable := #[], attributes := #[] }
def k12m3 : Method := { name := "ensureCapacityInternal", desc := "(I)V", sig := { parameters := [.int], returnType := none }, accessFlags := 2, code := some k12c3 }
def k12c4 : Code := { maxStack := 5, maxLocals := 2, code := jdk_68_method_11_code, exceptionTable := #[], attributes := #[] }
def k12m4 : Method := { name := "inflate", desc := "()V", sig := { parameters := [], returnType := none }, accessFlags := 2, code := some k12c4 }
def k12c5 : Code := { maxStack := 3, maxLocals := 2, code := jdk_68_method_13_code, exceptionTable := #[], attributes := #[] }
def k12m5 : Method := { name := "setLength", desc := "(I)V", sig := { parameters := [.int], returnType := none }, accessFlags := 1, code := some k12c5 }
def k12c6 : Code := { maxStack := 3, maxLocals := 5, code := jdk_68_method_14_code, exceptionTable := #[], attributes := #[] }
def k12m6 : Method := { name := "charAt", desc := "(I)C", sig := { parameters := [.int], returnType := some .char }, accessFlags := 1, code := some k12c6 }
def k12c7 : Code := { maxStack := 5, maxLocals := 2, code := jdk_68_method_31_code, exceptionTable := #[], attributes := #[] }
def k12m7 : Method := { name := "append", desc := "(C)Ljava/lang/AbstractStringBuilder;", sig := { parameters := [.char], returnType := some (.object "java/lang/AbstractStringBuilder") }, accessFlags := 1, code := some k12c7 }
def k12c8 : Code := { maxStack := 5, maxLocals := 3, code := jdk_68_method_59_code, exceptionTable := #[], attributes := #[] }
def k12m8 : Method := { name := "lastIndexOf", desc := "(Ljava/lang/String;I)I", sig := { parameters := [(.object "java/lang/String"), .int], returnType := some .int }, accessFlags := 1, code := some k12c8 }
def k12c9 : Code := { maxStack := 1, maxLocals := 1, code := jdk_68_method_64_code, exceptionTable := #[], attributes := #[] }
def k12m9 : Method := { name := "getValue", desc := "()[B", sig := { parameters := [], returnType := some (.array .byte) }, accessFlags := 16, code := some k12c9 }
def k12c10 : Code := { maxStack := 1, maxLocals := 1, code := jdk_68_method_68_code, exceptionTable := #[], attributes := #[] }
def k12m10 : Method := { name := "isLatin1", desc := "()Z", sig := { parameters := [], returnType := some .boolean }, accessFlags := 16, code := some k12c10 }
/-- java/lang/AbstractStringBuilder -/
def k12 : Class := { plain "java/lang/AbstractStringBuilder" (some 0) with
  accessFlags := 1056
  interfaces := #[11, 4]
  cf := some (fileOf pool12 10 #[] #[⟨0, 7, 8, #[]⟩, ⟨0, 7, 103, #[]⟩, ⟨1, 34, 35, #[]⟩, ⟨2, 102, 103, #[]⟩, ⟨2, 127, 8, #[]⟩, ⟨1, 476, 103, #[]⟩, ⟨1, 392, 393, #[]⟩, ⟨1, 45, 292, #[]⟩, ⟨1, 355, 349, #[]⟩, ⟨16, 552, 403, #[]⟩, ⟨16, 85, 86, #[]⟩] 1056 4 #[444, 48] #[⟨0, 17, 14, #[]⟩, ⟨0, 24, 25, #[]⟩, ⟨0, 75, 21, #[]⟩, ⟨0, 81, 82, #[]⟩, ⟨26, 13, 14, #[]⟩])
  fields := #[⟨"value", (.array .byte), 0, 0, 0⟩, ⟨"coder", .byte, 0, 1, 0⟩, ⟨"maybeLatin1", .boolean, 0, 2, 0⟩, ⟨"count", .int, 0, 3, 0⟩, ⟨"EMPTYVALUE", (.array .byte), 26, 0, 0⟩]
  methods := #[k12m0, k12m1, k12m2, k12m3, k12m4, k12m5, k12m6, k12m7, k12m8, k12m9, k12m10]
  instanceTypes := #[(.array .byte), .byte, .boolean, .int]
  staticTypes := #[(.array .byte)]
  resolved := Array.replicate 609 none
  statics := none }

def pool13 : Array CpInfo := pool [(1, .methodref 2 3), (0, .class_ 4), (0, .nameAndType 5 6), (0, u "java/lang/AbstractStringBuilder"), (0, u "<init>"), (0, u "(I)V"), (11, .class_ 20), (1, u "java/lang/String"), (3, .class_ 26), (1, u "java/lang/StringBuilder"), (0, u "append"), (22, .methodref 2 51), (0, .nameAndType 27 52), (0, u "(C)Ljava/lang/AbstractStringBuilder;"), (68, u "(Ljava/lang/String;I)I"), (2, u "lastIndexOf"), (0, .methodref 2 126), (0, .nameAndType 124 121), (10, .methodref 18 138), (0, .nameAndType 5 139), (0, u "(Ljava/lang/StringBuilder;)V"), (5, u "()V"), (10, u "()I"), (129, u "(C)Ljava/lang/StringBuilder;"), (42, .methodref 2 330), (0, .nameAndType 331 332), (0, u "charAt"), (0, u "(I)C"), (0, .methodref 2 334), (0, .nameAndType 335 6), (0, u "setLength"), (7, .methodref 2 344), (0, .nameAndType 345 156), (0, u "length"), (3, .class_ 350), (0, u "java/lang/Appendable"), (0, .class_ 352), (0, u "java/io/Serializable"), (0, .class_ 354), (0, u "java/lang/Comparable"), (0, .class_ 356), (0, u "java/lang/CharSequence"), (0, u "serialVersionUID"), (0, u "J"), (40, u "toString"), (0, u "()Ljava/lang/String;")] 21

def k13m0 : Method := { name := "<init>", desc := "()V", sig := { parameters := [], returnType := none }, accessFlags := 1, code := none }
def k13c1 : Code := { maxStack := 2, maxLocals := 2, code := jdk_67_method_2_code, exceptionTable := #[], attributes := #[] }
def k13m1 : Method := { name := "<init>", desc := "(I)V", sig := { parameters := [.int], returnType := none }, accessFlags := 1, code := some k13c1 }
def k13c2 : Code := { maxStack := 2, maxLocals := 2, code := jdk_67_method_14_code, exceptionTable := #[], attributes := #[] }
def k13m2 : Method := { name := "append", desc := "(C)Ljava/lang/StringBuilder;", sig := { parameters := [.char], returnType := some (.object "java/lang/StringBuilder") }, accessFlags := 1, code := some k13c2 }
def k13c3 : Code := { maxStack := 3, maxLocals := 3, code := jdk_67_method_38_code, exceptionTable := #[], attributes := #[] }
def k13m3 : Method := { name := "lastIndexOf", desc := "(Ljava/lang/String;I)I", sig := { parameters := [(.object "java/lang/String"), .int], returnType := some .int }, accessFlags := 1, code := some k13c3 }
def k13c4 : Code := { maxStack := 3, maxLocals := 1, code := jdk_67_method_42_code, exceptionTable := #[], attributes := #[] }
def k13m4 : Method := { name := "toString", desc := "()Ljava/lang/String;", sig := { parameters := [], returnType := some (.object "java/lang/String") }, accessFlags := 1, code := some k13c4 }
def k13c5 : Code := { maxStack := 2, maxLocals := 2, code := jdk_67_method_88_code, exceptionTable := #[], attributes := #[] }
def k13m5 : Method := { name := "charAt", desc := "(I)C", sig := { parameters := [.int], returnType := some .char }, accessFlags := 4161, code := some k13c5 }
def k13c6 : Code := { maxStack := 2, maxLocals := 2, code := jdk_67_method_89_code, exceptionTable := #[], attributes := #[] }
def k13m6 : Method := { name := "setLength", desc := "(I)V", sig := { parameters := [.int], returnType := none }, accessFlags := 4161, code := some k13c6 }
def k13c7 : Code := { maxStack := 1, maxLocals := 1, code := jdk_67_method_93_code, exceptionTable := #[], attributes := #[] }
def k13m7 : Method := { name := "length", desc := "()I", sig := { parameters := [], returnType := some .int }, accessFlags := 4161, code := some k13c7 }
/-- java/lang/StringBuilder -/
def k13 : Class := { plain "java/lang/StringBuilder" (some 12) with
  accessFlags := 49
  interfaces := #[11, 2, 3, 4]
  cf := some (fileOf pool13 24 #[] #[⟨1, 5, 145, #[]⟩, ⟨1, 5, 6, #[]⟩, ⟨1, 27, 286, #[]⟩, ⟨1, 124, 121, #[]⟩, ⟨1, 399, 400, #[]⟩, ⟨4161, 331, 332, #[]⟩, ⟨4161, 335, 6, #[]⟩, ⟨4161, 345, 156, #[]⟩] 49 2 #[349, 351, 353, 355] #[⟨24, 357, 358, #[]⟩])
  fields := #[⟨"serialVersionUID", .long, 24, 0, 0⟩]
  methods := #[k13m0, k13m1, k13m2, k13m3, k13m4, k13m5, k13m6, k13m7]
  instanceTypes := #[(.array .byte), .byte, .boolean, .int]
  staticTypes := #[.long]
  resolved := Array.replicate 422 none
  statics := none }

def pool14 : Array CpInfo := pool [(1, .class_ 2), (0, u "java/lang/String"), (1, .class_ 6), (1, u "java/lang/Object"), (0, u "<init>"), (0, u "()V"), (0, .methodref 1 10), (0, .nameAndType 11 12), (0, u "checkIndex"), (0, u "(II)V"), (1, .class_ 16), (1, u "java/lang/StringLatin1"), (0, u "inflate"), (2, .class_ 22), (1, u "java/lang/StringUTF16"), (3, .nameAndType 17 27), (0, u "([BI[BII)V"), (25, u "([BI)C"), (36, u "canEncode"), (11, u "([BI[BII)I"), (2, u "(C)Z"), (15, u "$assertionsDisabled"), (0, u "Z"), (98, .class_ 223), (1, u "java/lang/StringLatin1$LinesSpliterator"), (16, .methodref 20 26), (11, u "charAt"), (56, u "lastIndexOf"), (80, .class_ 391), (0, u "java/lang/StringLatin1$CharsSpliterator")] 3

def k14m0 : Method := { name := "<init>", desc := "()V", sig := { parameters := [], returnType := none }, accessFlags := 0, code := none }
def k14c1 : Code := { maxStack := 2, maxLocals := 2, code := jdk_43_method_2_code, exceptionTable := #[], attributes := #[] }
def k14m1 : Method := { name := "charAt", desc := "([BI)C", sig := { parameters := [(.array .byte), .int], returnType := some .char }, accessFlags := 9, code := some k14c1 }
def k14c2 : Code := { maxStack := 2, maxLocals := 1, code := jdk_43_method_3_code, exceptionTable := #[], attributes := #[] }
def k14m2 : Method := { name := "canEncode", desc := "(C)Z", sig := { parameters := [.char], returnType := some .boolean }, accessFlags := 9, code := some k14c2 }
def k14c3 : Code := { maxStack := 3, maxLocals := 12, code := jdk_43_method_26_code, exceptionTable := #[], attributes := #[] }
def k14m3 : Method := { name := "lastIndexOf", desc := "([BI[BII)I", sig := { parameters := [(.array .byte), .int, (.array .byte), .int, .int], returnType := some .int }, accessFlags := 9, code := some k14c3 }
def k14c4 : Code := { maxStack := 5, maxLocals := 5, code := jdk_43_method_50_code, exceptionTable := #[], attributes := #[] }
def k14m4 : Method := { name := "inflate", desc := "([BI[BII)V", sig := { parameters := [(.array .byte), .int, (.array .byte), .int, .int], returnType := none }, accessFlags := 9, code := some k14c4 }
/-- java/lang/StringLatin1 -/
def k14 : Class := { plain "java/lang/StringLatin1" (some 0) with
  accessFlags := 48
  interfaces := #[]
  cf := some (fileOf pool14 14 #[.nestMembers #[390, 221]] #[⟨0, 7, 8, #[]⟩, ⟨9, 252, 53, #[]⟩, ⟨9, 90, 105, #[]⟩, ⟨9, 309, 102, #[]⟩, ⟨9, 17, 27, #[]⟩] 48 4 #[] #[⟨4120, 121, 122, #[]⟩])
  fields := #[⟨"$assertionsDisabled", .boolean, 4120, 0, 0⟩]
  methods := #[k14m0, k14m1, k14m2, k14m3, k14m4]
  instanceTypes := #[]
  staticTypes := #[.boolean]
  resolved := Array.replicate 395 none
  statics := none }

def pool15 : Array CpInfo := pool [(2, .class_ 4), (1, u "java/lang/Object"), (0, u "<init>"), (0, u "()V"), (17, .class_ 26), (1, u "jdk/internal/util/Preconditions"), (6, u "checkIndex"), (15, u "checkFromIndexSize"), (5, .class_ 56), (0, u "jdk/internal/util/Preconditions$4"), (57, .class_ 115), (0, u "jdk/internal/util/Preconditions$1"), (7, u "SIOOBE_FORMATTER"), (0, u "Ljava/util/function/BiFunction;"), (0, .class_ 126), (0, u "jdk/internal/util/Preconditions$2"), (3, u "AIOOBE_FORMATTER"), (0, .class_ 132), (0, u "jdk/internal/util/Preconditions$3"), (3, u "IOOBE_FORMATTER"), (41, u "(IILjava/util/function/BiFunction;)I"), (4, u "(IIILjava/util/function/BiFunction;)I")] 10

def k15m0 : Method := { name := "<init>", desc := "()V", sig := { parameters := [], returnType := none }, accessFlags := 1, code := none }
def k15c1 : Code := { maxStack := 3, maxLocals := 3, code := jdk_41_method_11_code, exceptionTable := #[], attributes := #[] }
def k15m1 : Method := { name := "checkIndex", desc := "(IILjava/util/function/BiFunction;)I", sig := { parameters := [.int, .int, (.object "java/util/function/BiFunction")], returnType := some .int }, accessFlags := 9, code := some k15c1 }
def k15c2 : Code := { maxStack := 4, maxLocals := 4, code := jdk_41_method_13_code, exceptionTable := #[], attributes := #[] }
def k15m2 : Method := { name := "checkFromIndexSize", desc := "(IIILjava/util/function/BiFunction;)I", sig := { parameters := [.int, .int, .int, (.object "java/util/function/BiFunction")], returnType := some .int }, accessFlags := 9, code := some k15c2 }
/-- jdk/internal/util/Preconditions -/
def k15 : Class := { plain "jdk/internal/util/Preconditions" (some 0) with
  accessFlags := 33
  interfaces := #[]
  cf := some (fileOf pool15 24 #[.nestMembers #[55, 131, 125, 114]] #[⟨1, 5, 6, #[]⟩, ⟨9, 33, 178, #[]⟩, ⟨9, 49, 183, #[]⟩] 33 2 #[] #[⟨25, 123, 124, #[]⟩, ⟨25, 130, 124, #[]⟩, ⟨25, 136, 124, #[]⟩])
  fields := #[⟨"SIOOBE_FORMATTER", (.object "java/util/function/BiFunction"), 25, 0, 0⟩, ⟨"AIOOBE_FORMATTER", (.object "java/util/function/BiFunction"), 25, 1, 0⟩, ⟨"IOOBE_FORMATTER", (.object "java/util/function/BiFunction"), 25, 2, 0⟩]
  methods := #[k15m0, k15m1, k15m2]
  instanceTypes := #[]
  staticTypes := #[(.object "java/util/function/BiFunction"), (.object "java/util/function/BiFunction"), (.object "java/util/function/BiFunction")]
  resolved := Array.replicate 194 none
  statics := some 2 }

def pool16 : Array CpInfo := pool [(2, .class_ 4), (1, u "java/lang/Object"), (0, u "<init>"), (0, u "()V"), (7, .class_ 16), (1, u "java/util/Arrays"), (57, .class_ 76), (1, u "java/util/Arrays$NaturalOrder"), (32, u "()Ljava/lang/Object;"), (3, .class_ 115), (1, u "java/util/Arrays$LegacyMergeSort"), (1, u "Z"), (10, .nameAndType 129 109), (0, u "clone"), (9, u "copyOfRange"), (10, .methodref 151 152), (0, .class_ 153), (0, .nameAndType 154 155), (0, u "java/lang/System"), (0, u "arraycopy"), (0, u "(Ljava/lang/Object;ILjava/lang/Object;II)V"), (148, .methodref 305 306), (0, .class_ 307), (0, .nameAndType 308 309), (0, u "java/lang/Math"), (0, u "min"), (0, u "(II)I"), (0, .methodref 311 128), (0, .class_ 312), (0, u "[B"), (26, .methodref 14 340), (0, .nameAndType 341 342), (0, u "copyOfRangeByte"), (0, u "([BII)[B"), (0, .methodref 14 344), (0, .nameAndType 345 346), (0, u "checkLength"), (0, u "(II)V"), (28, .class_ 376), (0, u "java/util/Arrays$ArrayList"), (68, u "$assertionsDisabled"), (269, u "MIN_ARRAY_SORT_GRAN"), (0, u "I"), (2, u "INSERTIONSORT_THRESHOLD"), (255, .class_ 976), (0, u "java/util/Arrays$ArrayItr")] 52

def k16m0 : Method := { name := "<init>", desc := "()V", sig := { parameters := [], returnType := none }, accessFlags := 2, code := none }
def k16c1 : Code := { maxStack := 4, maxLocals := 2, code := jdk_65_method_131_code, exceptionTable := #[], attributes := #[] }
def k16m1 : Method := { name := "checkLength", desc := "(II)V", sig := { parameters := [.int, .int], returnType := none }, accessFlags := 10, code := some k16c1 }
def k16c2 : Code := { maxStack := 3, maxLocals := 3, code := jdk_65_method_132_code, exceptionTable := #[], attributes := #[] }
def k16m2 : Method := { name := "copyOfRange", desc := "([BII)[B", sig := { parameters := [(.array .byte), .int, .int], returnType := some (.array .byte) }, accessFlags := 9, code := some k16c2 }
def k16c3 : Code := { maxStack := 6, maxLocals := 5, code := jdk_65_method_133_code, exceptionTable := #[], attributes := #[] }
def k16m3 : Method := { name := "copyOfRangeByte", desc := "([BII)[B", sig := { parameters := [(.array .byte), .int, .int], returnType := some (.array .byte) }, accessFlags := 10, code := some k16c3 }
/-- java/util/Arrays -/
def k16 : Class := { plain "java/util/Arrays" (some 0) with
  accessFlags := 49
  interfaces := #[]
  cf := some (fileOf pool16 14 #[.nestMembers #[975, 375, 113, 74]] #[⟨2, 5, 6, #[]⟩, ⟨10, 345, 346, #[]⟩, ⟨9, 139, 342, #[]⟩, ⟨10, 341, 342, #[]⟩] 49 2 #[] #[⟨26, 715, 716, #[]⟩, ⟨26, 719, 716, #[]⟩, ⟨4120, 445, 117, #[]⟩])
  fields := #[⟨"MIN_ARRAY_SORT_GRAN", .int, 26, 0, 0⟩, ⟨"INSERTIONSORT_THRESHOLD", .int, 26, 1, 0⟩, ⟨"$assertionsDisabled", .boolean, 4120, 2, 0⟩]
  methods := #[k16m0, k16m1, k16m2, k16m3]
  instanceTypes := #[]
  staticTypes := #[.int, .int, .boolean]
  resolved := Array.replicate 1029 none
  statics := none }

def pool17 : Array CpInfo := pool [(1, .class_ 2), (0, u "java/lang/Cloneable"), (0, .class_ 4), (0, u "java/lang/Object")] 2

/-- java/lang/Cloneable -/
def k17 : Class := { plain "java/lang/Cloneable" (some 0) with
  accessFlags := 1537
  interfaces := #[]
  cf := some (fileOf pool17 1 #[] #[] 1537 3 #[] #[])
  fields := #[]
  methods := #[]
  instanceTypes := #[]
  staticTypes := #[]
  resolved := Array.replicate 7 none
  statics := none }

def pool18 : Array CpInfo := pool [(1, .class_ 2), (0, u "java/lang/Character"), (18, u "value"), (0, u "C"), (19, .class_ 44), (1, u "java/lang/Object"), (3, .class_ 50), (1, u "java/lang/Character$CharacterCache"), (24, .integer 55296), (0, .integer 56320), (0, .integer 57344), (2, u "isHighSurrogate"), (0, u "(C)Z"), (2, u "isLowSurrogate"), (199, u "$assertionsDisabled"), (0, u "Z"), (21, .class_ 309), (1, u "java/lang/Character$UnicodeBlock"), (73, u "TYPE"), (0, u "Ljava/lang/Class;"), (0, .class_ 386), (0, u "java/io/Serializable"), (0, .class_ 388), (0, u "java/lang/Comparable"), (0, .class_ 390), (0, u "java/lang/constant/Constable"), (0, u "MIN_RADIX"), (0, u "I"), (2, u "MAX_RADIX"), (1, u "MIN_VALUE"), (1, u "MAX_VALUE"), (3, u "UNASSIGNED"), (0, u "B"), (0, u "UPPERCASE_LETTER"), (1, u "LOWERCASE_LETTER"), (0, u "TITLECASE_LETTER"), (1, u "MODIFIER_LETTER"), (1, u "OTHER_LETTER"), (1, u "NON_SPACING_MARK"), (1, u "ENCLOSING_MARK"), (1, u "COMBINING_SPACING_MARK"), (1, u "DECIMAL_DIGIT_NUMBER"), (1, u "LETTER_NUMBER"), (1, u "OTHER_NUMBER"), (1, u "SPACE_SEPARATOR"), (1, u "LINE_SEPARATOR"), (1, u "PARAGRAPH_SEPARATOR"), (1, u "CONTROL"), (1, u "FORMAT"), (1, u "PRIVATE_USE"), (1, u "SURROGATE"), (1, u "DASH_PUNCTUATION"), (1, u "START_PUNCTUATION"), (1, u "END_PUNCTUATION"), (1, u "CONNECTOR_PUNCTUATION"), (1, u "OTHER_PUNCTUATION"), (1, u "MATH_SYMBOL"), (1, u "CURRENCY_SYMBOL"), (1, u "MODIFIER_SYMBOL"), (1, u "OTHER_SYMBOL"), (1, u "INITIAL_QUOTE_PUNCTUATION"), (1, u "FINAL_QUOTE_PUNCTUATION"), (1, u "ERROR"), (1, u "DIRECTIONALITY_UNDEFINED"), (0, u "DIRECTIONALITY_LEFT_TO_RIGHT"), (0, u "DIRECTIONALITY_RIGHT_TO_LEFT"), (0, u "DIRECTIONALITY_RIGHT_TO_LEFT_ARABIC"), (0, u "DIRECTIONALITY_EUROPEAN_NUMBER"), (0, u "DIRECTIONALITY_EUROPEAN_NUMBER_SEPARATOR"), (0, u "DIRECTIONALITY_EUROPEAN_NUMBER_TERMINATOR"), (0, u "DIRECTIONALITY_ARABIC_NUMBER"), (0, u "DIRECTIONALITY_COMMON_NUMBER_SEPARATOR"), (0, u "DIRECTIONALITY_NONSPACING_MARK"), (0, u "DIRECTIONALITY_BOUNDARY_NEUTRAL"), (0, u "DIRECTIONALITY_PARAGRAPH_SEPARATOR"), (0, u "DIRECTIONALITY_SEGMENT_SEPARATOR"), (0, u "DIRECTIONALITY_WHITESPACE"), (0, u "DIRECTIONALITY_OTHER_NEUTRALS"), (0, u "DIRECTIONALITY_LEFT_TO_RIGHT_EMBEDDING"), (0, u "DIRECTIONALITY_LEFT_TO_RIGHT_OVERRIDE"), (0, u "DIRECTIONALITY_RIGHT_TO_LEFT_EMBEDDING"), (0, u "DIRECTIONALITY_RIGHT_TO_LEFT_OVERRIDE"), (1, u "DIRECTIONALITY_POP_DIRECTIONAL_FORMAT"), (0, u "DIRECTIONALITY_LEFT_TO_RIGHT_ISOLATE"), (0, u "DIRECTIONALITY_RIGHT_TO_LEFT_ISOLATE"), (0, u "DIRECTIONALITY_FIRST_STRONG_ISOLATE"), (0, u "DIRECTIONALITY_POP_DIRECTIONAL_ISOLATE"), (0, u "MIN_HIGH_SURROGATE"), (0, u "MAX_HIGH_SURROGATE"), (1, u "MIN_LOW_SURROGATE"), (0, u "MAX_LOW_SURROGATE"), (1, u "MIN_SURROGATE"), (0, u "MAX_SURROGATE"), (0, u "MIN_SUPPLEMENTARY_CODE_POINT"), (0, u "MIN_CODE_POINT"), (0, u "MAX_CODE_POINT"), (1, u "serialVersionUID"), (0, u "J"), (2, u "SIZE"), (0, u "BYTES"), (88, .class_ 596), (0, u "java/lang/Character$UnicodeScript"), (0, .class_ 598), (0, u "java/lang/Character$Subset")] 5

def k18c0 : Code := { maxStack := 2, maxLocals := 1, code := jdk_89_method_14_code, exceptionTable := #[], attributes := #[] }
def k18m0 : Method := { name := "isHighSurrogate", desc := "(C)Z", sig := { parameters := [.char], returnType := some .boolean }, accessFlags := 9, code := some k18c0 }
def k18c1 : Code := { maxStack := 2, maxLocals := 1, code := jdk_89_method_15_code, exceptionTable := #[], attributes := #[] }
def k18m1 : Method := { name := "isLowSurrogate", desc := "(C)Z", sig := { parameters := [.char], returnType := some .boolean }, accessFlags := 9, code := some k18c1 }
/-- java/lang/Character -/
def k18 : Class := { plain "java/lang/Character" (some 0) with
  accessFlags := 49
  interfaces := #[2, 3, 5]
  cf := some (fileOf pool18 1 #[.nestMembers #[48, 595, 307, 597]] #[⟨9, 80, 81, #[]⟩, ⟨9, 84, 81, #[]⟩] 49 42 #[385, 387, 389] #[⟨25, 391, 392, #[]⟩, ⟨25, 395, 392, #[]⟩, ⟨25, 397, 22, #[]⟩, ⟨25, 399, 22, #[]⟩, ⟨25, 383, 384, #[]⟩, ⟨25, 403, 404, #[]⟩, ⟨25, 405, 404, #[]⟩, ⟨25, 407, 404, #[]⟩, ⟨25, 408, 404, #[]⟩, ⟨25, 410, 404, #[]⟩, ⟨25, 412, 404, #[]⟩, ⟨25, 414, 404, #[]⟩, ⟨25, 416, 404, #[]⟩, ⟨25, 418, 404, #[]⟩, ⟨25, 420, 404, #[]⟩, ⟨25, 422, 404, #[]⟩, ⟨25, 424, 404, #[]⟩, ⟨25, 426, 404, #[]⟩, ⟨25, 428, 404, #[]⟩, ⟨25, 430, 404, #[]⟩, ⟨25, 432, 404, #[]⟩, ⟨25, 434, 404, #[]⟩, ⟨25, 436, 404, #[]⟩, ⟨25, 438, 404, #[]⟩, ⟨25, 440, 404, #[]⟩, ⟨25, 442, 404, #[]⟩, ⟨25, 444, 404, #[]⟩, ⟨25, 446, 404, #[]⟩, ⟨25, 448, 404, #[]⟩, ⟨25, 450, 404, #[]⟩, ⟨25, 452, 404, #[]⟩, ⟨25, 454, 404, #[]⟩, ⟨25, 456, 404, #[]⟩, ⟨25, 458, 404, #[]⟩, ⟨25, 460, 404, #[]⟩, ⟨24, 462, 392, #[]⟩, ⟨25, 464, 404, #[]⟩, ⟨25, 465, 404, #[]⟩, ⟨25, 466, 404, #[]⟩, ⟨25, 467, 404, #[]⟩, ⟨25, 468, 404, #[]⟩, ⟨25, 469, 404, #[]⟩, ⟨25, 470, 404, #[]⟩, ⟨25, 471, 404, #[]⟩, ⟨25, 472, 404, #[]⟩, ⟨25, 473, 404, #[]⟩, ⟨25, 474, 404, #[]⟩, ⟨25, 475, 404, #[]⟩, ⟨25, 476, 404, #[]⟩, ⟨25, 477, 404, #[]⟩, ⟨25, 478, 404, #[]⟩, ⟨25, 479, 404, #[]⟩, ⟨25, 480, 404, #[]⟩, ⟨25, 481, 404, #[]⟩, ⟨25, 482, 404, #[]⟩, ⟨25, 484, 404, #[]⟩, ⟨25, 485, 404, #[]⟩, ⟨25, 486, 404, #[]⟩, ⟨25, 487, 404, #[]⟩, ⟨25, 488, 404, #[]⟩, ⟨25, 489, 22, #[]⟩, ⟨25, 490, 22, #[]⟩, ⟨25, 492, 22, #[]⟩, ⟨25, 493, 22, #[]⟩, ⟨25, 495, 22, #[]⟩, ⟨25, 496, 22, #[]⟩, ⟨25, 497, 392, #[]⟩, ⟨25, 498, 392, #[]⟩, ⟨25, 499, 392, #[]⟩, ⟨18, 21, 22, #[]⟩, ⟨26, 501, 502, #[]⟩, ⟨25, 505, 392, #[]⟩, ⟨25, 506, 392, #[]⟩, ⟨4120, 284, 285, #[]⟩])
  fields := #[⟨"MIN_RADIX", .int, 25, 0, 0⟩, ⟨"MAX_RADIX", .int, 25, 1, 0⟩, ⟨"MIN_VALUE", .char, 25, 2, 0⟩, ⟨"MAX_VALUE", .char, 25, 3, 0⟩, ⟨"TYPE", (.object "java/lang/Class"), 25, 4, 0⟩, ⟨"UNASSIGNED", .byte, 25, 5, 0⟩, ⟨"UPPERCASE_LETTER", .byte, 25, 6, 0⟩, ⟨"LOWERCASE_LETTER", .byte, 25, 7, 0⟩, ⟨"TITLECASE_LETTER", .byte, 25, 8, 0⟩, ⟨"MODIFIER_LETTER", .byte, 25, 9, 0⟩, ⟨"OTHER_LETTER", .byte, 25, 10, 0⟩, ⟨"NON_SPACING_MARK", .byte, 25, 11, 0⟩, ⟨"ENCLOSING_MARK", .byte, 25, 12, 0⟩, ⟨"COMBINING_SPACING_MARK", .byte, 25, 13, 0⟩, ⟨"DECIMAL_DIGIT_NUMBER", .byte, 25, 14, 0⟩, ⟨"LETTER_NUMBER", .byte, 25, 15, 0⟩, ⟨"OTHER_NUMBER", .byte, 25, 16, 0⟩, ⟨"SPACE_SEPARATOR", .byte, 25, 17, 0⟩, ⟨"LINE_SEPARATOR", .byte, 25, 18, 0⟩, ⟨"PARAGRAPH_SEPARATOR", .byte, 25, 19, 0⟩, ⟨"CONTROL", .byte, 25, 20, 0⟩, ⟨"FORMAT", .byte, 25, 21, 0⟩, ⟨"PRIVATE_USE", .byte, 25, 22, 0⟩, ⟨"SURROGATE", .byte, 25, 23, 0⟩, ⟨"DASH_PUNCTUATION", .byte, 25, 24, 0⟩, ⟨"START_PUNCTUATION", .byte, 25, 25, 0⟩, ⟨"END_PUNCTUATION", .byte, 25, 26, 0⟩, ⟨"CONNECTOR_PUNCTUATION", .byte, 25, 27, 0⟩, ⟨"OTHER_PUNCTUATION", .byte, 25, 28, 0⟩, ⟨"MATH_SYMBOL", .byte, 25, 29, 0⟩, ⟨"CURRENCY_SYMBOL", .byte, 25, 30, 0⟩, ⟨"MODIFIER_SYMBOL", .byte, 25, 31, 0⟩, ⟨"OTHER_SYMBOL", .byte, 25, 32, 0⟩, ⟨"INITIAL_QUOTE_PUNCTUATION", .byte, 25, 33, 0⟩, ⟨"FINAL_QUOTE_PUNCTUATION", .byte, 25, 34, 0⟩, ⟨"ERROR", .int, 24, 35, 0⟩, ⟨"DIRECTIONALITY_UNDEFINED", .byte, 25, 36, 0⟩, ⟨"DIRECTIONALITY_LEFT_TO_RIGHT", .byte, 25, 37, 0⟩, ⟨"DIRECTIONALITY_RIGHT_TO_LEFT", .byte, 25, 38, 0⟩, ⟨"DIRECTIONALITY_RIGHT_TO_LEFT_ARABIC", .byte, 25, 39, 0⟩, ⟨"DIRECTIONALITY_EUROPEAN_NUMBER", .byte, 25, 40, 0⟩, ⟨"DIRECTIONALITY_EUROPEAN_NUMBER_SEPARATOR", .byte, 25, 41, 0⟩, ⟨"DIRECTIONALITY_EUROPEAN_NUMBER_TERMINATOR", .byte, 25, 42, 0⟩, ⟨"DIRECTIONALITY_ARABIC_NUMBER", .byte, 25, 43, 0⟩, ⟨"DIRECTIONALITY_COMMON_NUMBER_SEPARATOR", .byte, 25, 44, 0⟩, ⟨"DIRECTIONALITY_NONSPACING_MARK", .byte, 25, 45, 0⟩, ⟨"DIRECTIONALITY_BOUNDARY_NEUTRAL", .byte, 25, 46, 0⟩, ⟨"DIRECTIONALITY_PARAGRAPH_SEPARATOR", .byte, 25, 47, 0⟩, ⟨"DIRECTIONALITY_SEGMENT_SEPARATOR", .byte, 25, 48, 0⟩, ⟨"DIRECTIONALITY_WHITESPACE", .byte, 25, 49, 0⟩, ⟨"DIRECTIONALITY_OTHER_NEUTRALS", .byte, 25, 50, 0⟩, ⟨"DIRECTIONALITY_LEFT_TO_RIGHT_EMBEDDING", .byte, 25, 51, 0⟩, ⟨"DIRECTIONALITY_LEFT_TO_RIGHT_OVERRIDE", .byte, 25, 52, 0⟩, ⟨"DIRECTIONALITY_RIGHT_TO_LEFT_EMBEDDING", .byte, 25, 53, 0⟩, ⟨"DIRECTIONALITY_RIGHT_TO_LEFT_OVERRIDE", .byte, 25, 54, 0⟩, ⟨"DIRECTIONALITY_POP_DIRECTIONAL_FORMAT", .byte, 25, 55, 0⟩, ⟨"DIRECTIONALITY_LEFT_TO_RIGHT_ISOLATE", .byte, 25, 56, 0⟩, ⟨"DIRECTIONALITY_RIGHT_TO_LEFT_ISOLATE", .byte, 25, 57, 0⟩, ⟨"DIRECTIONALITY_FIRST_STRONG_ISOLATE", .byte, 25, 58, 0⟩, ⟨"DIRECTIONALITY_POP_DIRECTIONAL_ISOLATE", .byte, 25, 59, 0⟩, ⟨"MIN_HIGH_SURROGATE", .char, 25, 60, 0⟩, ⟨"MAX_HIGH_SURROGATE", .char, 25, 61, 0⟩, ⟨"MIN_LOW_SURROGATE", .char, 25, 62, 0⟩, ⟨"MAX_LOW_SURROGATE", .char, 25, 63, 0⟩, ⟨"MIN_SURROGATE", .char, 25, 64, 0⟩, ⟨"MAX_SURROGATE", .char, 25, 65, 0⟩, ⟨"MIN_SUPPLEMENTARY_CODE_POINT", .int, 25, 66, 0⟩, ⟨"MIN_CODE_POINT", .int, 25, 67, 0⟩, ⟨"MAX_CODE_POINT", .int, 25, 68, 0⟩, ⟨"value", .char, 18, 0, 0⟩, ⟨"serialVersionUID", .long, 26, 69, 0⟩, ⟨"SIZE", .int, 25, 70, 0⟩, ⟨"BYTES", .int, 25, 71, 0⟩, ⟨"$assertionsDisabled", .boolean, 4120, 72, 0⟩]
  methods := #[k18m0, k18m1]
  instanceTypes := #[.char]
  staticTypes := #[.int, .int, .char, .char, (.object "java/lang/Class"), .byte, .byte, .byte, .byte, .byte, .byte, .byte, .byte, .byte, .byte, .byte, .byte, .byte, .byte, .byte, .byte, .byte, .byte, .byte, .byte, .byte, .byte, .byte, .byte, .byte, .byte, .byte, .byte, .byte, .byte, .int, .byte, .byte, .byte, .byte, .byte, .byte, .byte, .byte, .byte, .byte, .byte, .byte, .byte, .byte, .byte, .byte, .byte, .byte, .byte, .byte, .byte, .byte, .byte, .byte, .char, .char, .char, .char, .char, .char, .int, .int, .int, .long, .int, .int, .boolean]
  resolved := Array.replicate 604 none
  statics := none }

def pool19 : Array CpInfo := pool [(2, .class_ 4), (1, u "java/lang/Object"), (0, u "<init>"), (0, u "()V"), (1, .class_ 10), (1, u "java/lang/System"), (0, u "allowSecurityManager"), (0, u "I"), (16, u "cons"), (0, u "Ljava/io/Console;"), (77, .class_ 110), (1, u "java/lang/System$CallersHolder"), (43, u "initialErrStream"), (0, u "Ljava/io/PrintStream;"), (19, u "security"), (0, u "Ljava/lang/SecurityManager;"), (31, .class_ 209), (0, u "java/lang/System$1"), (7, u "props"), (0, u "Ljava/util/Properties;"), (2, u "lineSeparator"), (0, u "Ljava/lang/String;"), (96, .class_ 321), (1, u "java/lang/System$LoggerFinder"), (5, .class_ 328), (0, u "java/lang/System$Logger"), (67, u "err"), (2, u "out"), (91, u "notSupportedJnuEncoding"), (15, u "in"), (17, u "initialIn"), (0, u "Ljava/io/InputStream;"), (35, u "bootLayer"), (0, u "Ljava/lang/ModuleLayer;"), (99, .class_ 664), (0, u "java/lang/System$2"), (9, u "NEVER"), (2, u "MAYBE"), (49, u "arraycopy"), (0, u "(Ljava/lang/Object;ILjava/lang/Object;II)V"), (72, .class_ 802), (0, u "java/lang/System$Logger$Level")] 31

def k19m0 : Method := { name := "<init>", desc := "()V", sig := { parameters := [], returnType := none }, accessFlags := 2, code := none }
def k19m1 : Method := { name := "arraycopy", desc := "(Ljava/lang/Object;ILjava/lang/Object;II)V", sig := { parameters := [(.object "java/lang/Object"), .int, (.object "java/lang/Object"), .int, .int], returnType := none }, accessFlags := 265, code := none }
/-- java/lang/System -/
def k19 : Class := { plain "java/lang/System" (some 0) with
  accessFlags := 49
  interfaces := #[]
  cf := some (fileOf pool19 8 #[.nestMembers #[319, 327, 801, 108, 663, 208]] #[⟨2, 5, 6, #[]⟩, ⟨265, 727, 728, #[]⟩] 49 2 #[] #[⟨25, 507, 526, #[]⟩, ⟨25, 399, 155, #[]⟩, ⟨25, 396, 155, #[]⟩, ⟨10, 525, 526, #[]⟩, ⟨26, 674, 12, #[]⟩, ⟨26, 677, 12, #[]⟩, ⟨10, 11, 12, #[]⟩, ⟨74, 175, 176, #[]⟩, ⟨10, 491, 222, #[]⟩, ⟨74, 29, 30, #[]⟩, ⟨74, 154, 155, #[]⟩, ⟨10, 217, 218, #[]⟩, ⟨10, 221, 222, #[]⟩, ⟨8, 562, 563, #[]⟩])
  fields := #[⟨"in", (.object "java/io/InputStream"), 25, 0, 0⟩, ⟨"out", (.object "java/io/PrintStream"), 25, 1, 0⟩, ⟨"err", (.object "java/io/PrintStream"), 25, 2, 0⟩, ⟨"initialIn", (.object "java/io/InputStream"), 10, 3, 0⟩, ⟨"NEVER", .int, 26, 4, 0⟩, ⟨"MAYBE", .int, 26, 5, 0⟩, ⟨"allowSecurityManager", .int, 10, 6, 0⟩, ⟨"security", (.object "java/lang/SecurityManager"), 74, 7, 0⟩, ⟨"notSupportedJnuEncoding", (.object "java/lang/String"), 10, 8, 0⟩, ⟨"cons", (.object "java/io/Console"), 74, 9, 0⟩, ⟨"initialErrStream", (.object "java/io/PrintStream"), 74, 10, 0⟩, ⟨"props", (.object "java/util/Properties"), 10, 11, 0⟩, ⟨"lineSeparator", (.object "java/lang/String"), 10, 12, 0⟩, ⟨"bootLayer", (.object "java/lang/ModuleLayer"), 8, 13, 0⟩]
  methods := #[k19m0, k19m1]
  instanceTypes := #[]
  staticTypes := #[(.object "java/io/InputStream"), (.object "java/io/PrintStream"), (.object "java/io/PrintStream"), (.object "java/io/InputStream"), .int, .int, .int, (.object "java/lang/SecurityManager"), (.object "java/lang/String"), (.object "java/io/Console"), (.object "java/io/PrintStream"), (.object "java/util/Properties"), (.object "java/lang/String"), (.object "java/lang/ModuleLayer")]
  resolved := Array.replicate 834 none
  statics := none }

def pool20 : Array CpInfo := pool [(9, u "<init>"), (6, .class_ 18), (1, u "java/lang/Object"), (0, u "()V"), (1, .class_ 23), (1, u "jdk/internal/util/ArraysSupport"), (0, u "LOG2_ARRAY_LONG_INDEX_SCALE"), (0, u "I"), (2, u "U"), (0, u "Ljdk/internal/misc/Unsafe;"), (8, u "BIG_ENDIAN"), (0, u "Z"), (8, u "LOG2_BYTE_BIT_SIZE"), (4, u "LOG2_ARRAY_INT_INDEX_SCALE"), (54, u "JLA"), (0, u "Ljdk/internal/access/JavaLangAccess;"), (11, u "LOG2_ARRAY_BOOLEAN_INDEX_SCALE"), (9, u "LOG2_ARRAY_BYTE_INDEX_SCALE"), (5, u "LOG2_ARRAY_CHAR_INDEX_SCALE"), (5, u "LOG2_ARRAY_SHORT_INDEX_SCALE"), (18, u "LOG2_ARRAY_FLOAT_INDEX_SCALE"), (24, u "LOG2_ARRAY_DOUBLE_INDEX_SCALE"), (89, u "T_BOOLEAN"), (2, u "T_CHAR"), (1, u "T_FLOAT"), (1, u "T_DOUBLE"), (1, u "T_BYTE"), (1, u "T_SHORT"), (1, u "T_INT"), (1, u "T_LONG"), (1, u "SOFT_MAX_ARRAY_LENGTH")] 83

def k20m0 : Method := { name := "<init>", desc := "()V", sig := { parameters := [], returnType := none }, accessFlags := 2, code := none }
/-- jdk/internal/util/ArraysSupport -/
def k20 : Class := { plain "jdk/internal/util/ArraysSupport" (some 0) with
  accessFlags := 33
  interfaces := #[]
  cf := some (fileOf pool20 21 #[] #[⟨2, 9, 19, #[]⟩] 33 16 #[] #[⟨24, 28, 29, #[]⟩, ⟨26, 38, 39, #[]⟩, ⟨25, 121, 25, #[]⟩, ⟨25, 131, 25, #[]⟩, ⟨25, 137, 25, #[]⟩, ⟨25, 143, 25, #[]⟩, ⟨25, 53, 25, #[]⟩, ⟨25, 24, 25, #[]⟩, ⟨25, 162, 25, #[]⟩, ⟨25, 187, 25, #[]⟩, ⟨26, 48, 25, #[]⟩, ⟨25, 277, 25, #[]⟩, ⟨25, 280, 25, #[]⟩, ⟨25, 282, 25, #[]⟩, ⟨25, 284, 25, #[]⟩, ⟨25, 286, 25, #[]⟩, ⟨25, 288, 25, #[]⟩, ⟨25, 290, 25, #[]⟩, ⟨25, 292, 25, #[]⟩, ⟨26, 108, 109, #[]⟩, ⟨25, 294, 25, #[]⟩])
  fields := #[⟨"U", (.object "jdk/internal/misc/Unsafe"), 24, 0, 0⟩, ⟨"BIG_ENDIAN", .boolean, 26, 1, 0⟩, ⟨"LOG2_ARRAY_BOOLEAN_INDEX_SCALE", .int, 25, 2, 0⟩, ⟨"LOG2_ARRAY_BYTE_INDEX_SCALE", .int, 25, 3, 0⟩, ⟨"LOG2_ARRAY_CHAR_INDEX_SCALE", .int, 25, 4, 0⟩, ⟨"LOG2_ARRAY_SHORT_INDEX_SCALE", .int, 25, 5, 0⟩, ⟨"LOG2_ARRAY_INT_INDEX_SCALE", .int, 25, 6, 0⟩, ⟨"LOG2_ARRAY_LONG_INDEX_SCALE", .int, 25, 7, 0⟩, ⟨"LOG2_ARRAY_FLOAT_INDEX_SCALE", .int, 25, 8, 0⟩, ⟨"LOG2_ARRAY_DOUBLE_INDEX_SCALE", .int, 25, 9, 0⟩, ⟨"LOG2_BYTE_BIT_SIZE", .int, 26, 10, 0⟩, ⟨"T_BOOLEAN", .int, 25, 11, 0⟩, ⟨"T_CHAR", .int, 25, 12, 0⟩, ⟨"T_FLOAT", .int, 25, 13, 0⟩, ⟨"T_DOUBLE", .int, 25, 14, 0⟩, ⟨"T_BYTE", .int, 25, 15, 0⟩, ⟨"T_SHORT", .int, 25, 16, 0⟩, ⟨"T_INT", .int, 25, 17, 0⟩, ⟨"T_LONG", .int, 25, 18, 0⟩, ⟨"JLA", (.object "jdk/internal/access/JavaLangAccess"), 26, 19, 0⟩, ⟨"SOFT_MAX_ARRAY_LENGTH", .int, 25, 20, 0⟩]
  methods := #[k20m0]
  instanceTypes := #[]
  staticTypes := #[(.object "jdk/internal/misc/Unsafe"), .boolean, .int, .int, .int, .int, .int, .int, .int, .int, .int, .int, .int, .int, .int, .int, .int, .int, .int, (.object "jdk/internal/access/JavaLangAccess"), .int]
  resolved := Array.replicate 378 none
  statics := none }

/-- the primitive boolean -/
def k21 : Class := { plain "boolean" none with kind := .primitive 'Z', accessFlags := 0x411 }
/-- [Z -/
def k22 : Class := { plain "[Z" (some 0) with kind := .array 21 .boolean, interfaces := #[17, 2], accessFlags := 1041 }

/-- the primitive byte -/
def k23 : Class := { plain "byte" none with kind := .primitive 'B', accessFlags := 0x411 }
/-- [B -/
def k24 : Class := { plain "[B" (some 0) with kind := .array 23 .byte, interfaces := #[17, 2], accessFlags := 1041 }

/-- the primitive char -/
def k25 : Class := { plain "char" none with kind := .primitive 'C', accessFlags := 0x411 }
/-- [C -/
def k26 : Class := { plain "[C" (some 0) with kind := .array 25 .char, interfaces := #[17, 2], accessFlags := 1041 }

/-- the primitive int -/
def k27 : Class := { plain "int" none with kind := .primitive 'I', accessFlags := 0x411 }
/-- [I -/
def k28 : Class := { plain "[I" (some 0) with kind := .array 27 .int, interfaces := #[17, 2], accessFlags := 1041 }

def heap : Heap := #[{ cls := 7, slots := #[.long 0, .int 1, .null, .int 0, .null, .int 0, .int 0], vm := .statics 7 },
  { cls := 8, slots := #[.int 0, .int 8, .int 0, .int 1], vm := .statics 8 },
  { cls := 15, slots := #[.null, .null, .null], vm := .statics 15 }]
def classes : Array Class := #[k0, k1, k2, k3, k4, k5, k6, k7, k8, k9, k10, k11, k12, k13, k14, k15, k16, k17, k18, k19, k20, k21, k22, k23, k24, k25, k26, k27, k28]
def interned : List (Array UInt16 × Addr) := []
def slotsUsed : Nat := 14
def theMethod : MethodId := ⟨1, 1⟩
def args0 : Array Value := #[.int 5, .int 5, .int 5, .int 5, .int 5]
def aboutOver (below : List Frame) : State where
  vm := { classes := classes, interned := interned.toArray }
  heap := heap
  slotsUsed := slotsUsed
  threads := #[{ frames := .invoking theMethod args0 :: below }]
def below0 : List Frame := [.native { method := ⟨0, 0⟩, args := #[] }]
def about1 : State := aboutOver below0
def p0 : Program := .bare "" "" ""
def e0 : Env := launch0.env 0 0 0
theorem w_frames : about1.frames = Frame.invoking theMethod args0 :: below0 := rfl
set_option maxRecDepth 65536 in
theorem w_args : argsFit about1.vm theMethod args0 = true := by decide +kernel
set_option maxRecDepth 65536 in
theorem w_heap : heapFits about1 = true := by decide +kernel
set_option maxRecDepth 65536 in
theorem w_runnable : about1.curStatus? = some .runnable := by decide +kernel
set_option maxRecDepth 65536 in
theorem w_alone : about1.alone = true := by decide +kernel
set_option maxRecDepth 65536 in
theorem w_named : about1.methodNamed? x = some theMethod := by decide +kernel
set_option maxRecDepth 65536 in
theorem w_hears : about1.hears theMethod below0 = true := by decide +kernel
set_option maxRecDepth 65536 in
theorem w_ripe : about1.ripe theMethod args0 below0 = true := by decide +kernel
theorem w_running : about1.status = .running := rfl
set_option maxRecDepth 65536 in
theorem w_room : about1.hasRoom e0.platform room_1 = true :=
  launch0.hasRoom_least _ room_1 (by decide +kernel) (by decide +kernel) (by decide +kernel) (by decide +kernel) (by decide +kernel) (by decide +kernel)
theorem allAtoms_all (ts : List Jvm.Cond) (a : Array Jvm.Value) (st : Jvm.State) : (allAtoms ts).before a st = ts.all (fun c => c.before a st) := by
  induction ts with
  | nil => rfl
  | cons c t ih =>
    show (Jvm.Cond.and c (allAtoms t)).before a st = _
    rw [Jvm.Cond.before_and, ih, List.all_cons]
def words1 : List Jvm.Cond := Jvm.Cond.code x code maxLocals ret :: tables_1
/-- a 'code' word, met by the world's own term for the bytes: nothing is compared byte by byte -/
theorem code_word {y : MethodName} {bytes : ByteArray} {mx : Nat} {rt : Option FieldType} {a : Array Value} {s : State} {m : MethodId} {meth : Method} {c : Code} (h1 : s.methodNamed? y = some m) (h2 : s.vm.method? m = some meth) (h3 : meth.code = some c) (h4 : c.code = bytes)
    (h5 : (c.maxLocals == mx && c.exceptionTable.isEmpty && decide (c.maxStack ≤ mostOperands) && decide (meth.sig.returnType = rt) && !meth.locks && decide (parseMethodDescriptor y.desc = some meth.sig)) = true) : (Jvm.Cond.code y bytes mx rt).before a s = true := by
  simp only [Bool.and_eq_true, beq_iff_eq, Bool.not_eq_true', decide_eq_true_eq] at h5
  obtain ⟨⟨⟨⟨⟨g1, g2⟩, g3⟩, g4⟩, g5⟩, g6⟩ := h5
  simp [Cond.before, Cond.holds, Cond.value, h1, h2, h3, h4, g1, g2, g3, g4, g5, g6]
def isCode : Jvm.Cond → Bool
  | .code _ _ _ _ => true
  | _ => false
theorem all_split {L : List Jvm.Cond} {P : Jvm.Cond → Bool} (h1 : L.all (fun c => isCode c || P c) = true) (h2 : ∀ c ∈ L.filter isCode, P c = true) : L.all P = true := by
  refine List.all_eq_true.mpr fun c hc => ?_
  have h := List.all_eq_true.mp h1 c hc
  rcases Bool.eq_false_or_eq_true (isCode c) with hi | hi
  · exact h2 c (List.mem_filter.mpr ⟨hc, hi⟩)
  · simpa [hi] using h
set_option maxRecDepth 65536 in
theorem w_c0 : (Jvm.Cond.code x code maxLocals ret).before args0 about1 = true := code_word (m := ⟨1, 1⟩) (meth := k1m1) (c := k1c1) (by decide +kernel) rfl rfl rfl (by decide +kernel)
set_option maxRecDepth 65536 in
theorem w_c1 : (Jvm.Cond.code mN72 method_3_code (2 : Nat) (Option.some Jvm.ClassFile.FieldType.char)).before args0 about1 = true := code_word (m := ⟨1, 2⟩) (meth := k1m2) (c := k1c2) (by decide +kernel) rfl rfl rfl (by decide +kernel)
set_option maxRecDepth 65536 in
theorem w_c2 : (Jvm.Cond.code mN17 jdk_42_method_3_code (2 : Nat) (Option.none : Option Jvm.ClassFile.FieldType)).before args0 about1 = true := code_word (m := ⟨7, 1⟩) (meth := k7m1) (c := k7c1) (by decide +kernel) rfl rfl rfl (by decide +kernel)
set_option maxRecDepth 65536 in
theorem w_c3 : (Jvm.Cond.code mN16 jdk_42_method_149_code (6 : Nat) (Option.none : Option Jvm.ClassFile.FieldType)).before args0 about1 = true := code_word (m := ⟨7, 6⟩) (meth := k7m6) (c := k7c6) (by decide +kernel) rfl rfl rfl (by decide +kernel)
set_option maxRecDepth 65536 in
theorem w_c4 : (Jvm.Cond.code (⟨"java/lang/Object", "<init>", "()V"⟩ : Jvm.MethodName) object_method_1_code (1 : Nat) (Option.none : Option Jvm.ClassFile.FieldType)).before args0 about1 = true := code_word (m := ⟨0, 0⟩) (meth := k0m0) (c := k0c0) (by decide +kernel) rfl rfl rfl (by decide +kernel)
set_option maxRecDepth 65536 in
theorem w_c5 : (Jvm.Cond.code mN14 jdk_52_method_16_code (6 : Nat) (Option.some (Jvm.ClassFile.FieldType.array Jvm.ClassFile.FieldType.byte))).before args0 about1 = true := code_word (m := ⟨8, 8⟩) (meth := k8m8) (c := k8c8) (by decide +kernel) rfl rfl rfl (by decide +kernel)
set_option maxRecDepth 65536 in
theorem w_c6 : (Jvm.Cond.code mN10 jdk_52_method_21_code (7 : Nat) (Option.some Jvm.ClassFile.FieldType.int)).before args0 about1 = true := code_word (m := ⟨8, 10⟩) (meth := k8m10) (c := k8c10) (by decide +kernel) rfl rfl rfl (by decide +kernel)
set_option maxRecDepth 65536 in
theorem w_c7 : (Jvm.Cond.code mN15 jdk_52_method_15_code (2 : Nat) (Option.some Jvm.ClassFile.FieldType.byte)).before args0 about1 = true := code_word (m := ⟨8, 7⟩) (meth := k8m7) (c := k8c7) (by decide +kernel) rfl rfl rfl (by decide +kernel)
set_option maxRecDepth 65536 in
theorem w_c8 : (Jvm.Cond.code mN62 prog_10_method_2_code (5 : Nat) (Option.some (Jvm.ClassFile.FieldType.object "java/lang/String"))).before args0 about1 = true := code_word (m := ⟨9, 1⟩) (meth := k9m1) (c := k9c1) (by decide +kernel) rfl rfl rfl (by decide +kernel)
set_option maxRecDepth 65536 in
theorem w_c9 : (Jvm.Cond.code mN60 jdk_29_method_65_code (2 : Nat) (Option.some Jvm.ClassFile.FieldType.int)).before args0 about1 = true := code_word (m := ⟨10, 1⟩) (meth := k10m1) (c := k10c1) (by decide +kernel) rfl rfl rfl (by decide +kernel)
set_option maxRecDepth 65536 in
theorem w_c10 : (Jvm.Cond.code mN59 prog_10_method_3_code (4 : Nat) (Option.some Jvm.ClassFile.FieldType.int)).before args0 about1 = true := code_word (m := ⟨9, 2⟩) (meth := k9m2) (c := k9c2) (by decide +kernel) rfl rfl rfl (by decide +kernel)
set_option maxRecDepth 65536 in
theorem w_c11 : (Jvm.Cond.code mN19 jdk_67_method_2_code (2 : Nat) (Option.none : Option Jvm.ClassFile.FieldType)).before args0 about1 = true := code_word (m := ⟨13, 1⟩) (meth := k13m1) (c := k13c1) (by decide +kernel) rfl rfl rfl (by decide +kernel)
set_option maxRecDepth 65536 in
theorem w_c12 : (Jvm.Cond.code mN18 jdk_68_method_2_code (2 : Nat) (Option.none : Option Jvm.ClassFile.FieldType)).before args0 about1 = true := code_word (m := ⟨12, 1⟩) (meth := k12m1) (c := k12c1) (by decide +kernel) rfl rfl rfl (by decide +kernel)
set_option maxRecDepth 65536 in
theorem w_c13 : (Jvm.Cond.code mN58 prog_10_method_5_code (3 : Nat) (Option.some Jvm.ClassFile.FieldType.int)).before args0 about1 = true := code_word (m := ⟨9, 4⟩) (meth := k9m4) (c := k9c4) (by decide +kernel) rfl rfl rfl (by decide +kernel)
set_option maxRecDepth 65536 in
theorem w_c14 : (Jvm.Cond.code mN43 jdk_42_method_54_code (1 : Nat) (Option.some Jvm.ClassFile.FieldType.int)).before args0 about1 = true := code_word (m := ⟨7, 3⟩) (meth := k7m3) (c := k7c3) (by decide +kernel) rfl rfl rfl (by decide +kernel)
set_option maxRecDepth 65536 in
theorem w_c15 : (Jvm.Cond.code mN42 jdk_42_method_152_code (1 : Nat) (Option.some Jvm.ClassFile.FieldType.byte)).before args0 about1 = true := code_word (m := ⟨7, 8⟩) (meth := k7m8) (c := k7c8) (by decide +kernel) rfl rfl rfl (by decide +kernel)
set_option maxRecDepth 65536 in
theorem w_c16 : (Jvm.Cond.code mN9 jdk_42_method_56_code (2 : Nat) (Option.some Jvm.ClassFile.FieldType.char)).before args0 about1 = true := code_word (m := ⟨7, 4⟩) (meth := k7m4) (c := k7c4) (by decide +kernel) rfl rfl rfl (by decide +kernel)
set_option maxRecDepth 65536 in
theorem w_c17 : (Jvm.Cond.code mN2 jdk_42_method_154_code (1 : Nat) (Option.some Jvm.ClassFile.FieldType.boolean)).before args0 about1 = true := code_word (m := ⟨7, 9⟩) (meth := k7m9) (c := k7c9) (by decide +kernel) rfl rfl rfl (by decide +kernel)
set_option maxRecDepth 65536 in
theorem w_c18 : (Jvm.Cond.code mN8 jdk_43_method_2_code (2 : Nat) (Option.some Jvm.ClassFile.FieldType.char)).before args0 about1 = true := code_word (m := ⟨14, 1⟩) (meth := k14m1) (c := k14c1) (by decide +kernel) rfl rfl rfl (by decide +kernel)
set_option maxRecDepth 65536 in
theorem w_c19 : (Jvm.Cond.code mN4 jdk_42_method_155_code (2 : Nat) (Option.none : Option Jvm.ClassFile.FieldType)).before args0 about1 = true := code_word (m := ⟨7, 10⟩) (meth := k7m10) (c := k7c10) (by decide +kernel) rfl rfl rfl (by decide +kernel)
set_option maxRecDepth 65536 in
theorem w_c20 : (Jvm.Cond.code mN3 jdk_41_method_11_code (3 : Nat) (Option.some Jvm.ClassFile.FieldType.int)).before args0 about1 = true := code_word (m := ⟨15, 1⟩) (meth := k15m1) (c := k15c1) (by decide +kernel) rfl rfl rfl (by decide +kernel)
set_option maxRecDepth 65536 in
theorem w_c21 : (Jvm.Cond.code mN55 prog_10_method_6_code (1 : Nat) (Option.some Jvm.ClassFile.FieldType.boolean)).before args0 about1 = true := code_word (m := ⟨9, 5⟩) (meth := k9m5) (c := k9c5) (by decide +kernel) rfl rfl rfl (by decide +kernel)
set_option maxRecDepth 65536 in
theorem w_c22 : (Jvm.Cond.code mN24 jdk_67_method_93_code (1 : Nat) (Option.some Jvm.ClassFile.FieldType.int)).before args0 about1 = true := code_word (m := ⟨13, 7⟩) (meth := k13m7) (c := k13c7) (by decide +kernel) rfl rfl rfl (by decide +kernel)
set_option maxRecDepth 65536 in
theorem w_c23 : (Jvm.Cond.code mN23 jdk_68_method_6_code (1 : Nat) (Option.some Jvm.ClassFile.FieldType.int)).before args0 about1 = true := code_word (m := ⟨12, 2⟩) (meth := k12m2) (c := k12c2) (by decide +kernel) rfl rfl rfl (by decide +kernel)
set_option maxRecDepth 65536 in
theorem w_c24 : (Jvm.Cond.code mN34 jdk_67_method_14_code (2 : Nat) (Option.some (Jvm.ClassFile.FieldType.object "java/lang/StringBuilder"))).before args0 about1 = true := code_word (m := ⟨13, 2⟩) (meth := k13m2) (c := k13c2) (by decide +kernel) rfl rfl rfl (by decide +kernel)
set_option maxRecDepth 65536 in
theorem w_c25 : (Jvm.Cond.code mN33 jdk_68_method_31_code (2 : Nat) (Option.some (Jvm.ClassFile.FieldType.object "java/lang/AbstractStringBuilder"))).before args0 about1 = true := code_word (m := ⟨12, 7⟩) (meth := k12m7) (c := k12c7) (by decide +kernel) rfl rfl rfl (by decide +kernel)
set_option maxRecDepth 65536 in
theorem w_c26 : (Jvm.Cond.code mN21 jdk_68_method_9_code (3 : Nat) (Option.none : Option Jvm.ClassFile.FieldType)).before args0 about1 = true := code_word (m := ⟨12, 3⟩) (meth := k12m3) (c := k12c3) (by decide +kernel) rfl rfl rfl (by decide +kernel)
set_option maxRecDepth 65536 in
theorem w_c27 : (Jvm.Cond.code mN20 jdk_68_method_68_code (1 : Nat) (Option.some Jvm.ClassFile.FieldType.boolean)).before args0 about1 = true := code_word (m := ⟨12, 10⟩) (meth := k12m10) (c := k12c10) (by decide +kernel) rfl rfl rfl (by decide +kernel)
set_option maxRecDepth 65536 in
theorem w_c28 : (Jvm.Cond.code mN22 jdk_43_method_3_code (1 : Nat) (Option.some Jvm.ClassFile.FieldType.boolean)).before args0 about1 = true := code_word (m := ⟨14, 2⟩) (meth := k14m2) (c := k14c2) (by decide +kernel) rfl rfl rfl (by decide +kernel)
set_option maxRecDepth 65536 in
theorem w_c29 : (Jvm.Cond.code mN54 jdk_67_method_42_code (1 : Nat) (Option.some (Jvm.ClassFile.FieldType.object "java/lang/String"))).before args0 about1 = true := code_word (m := ⟨13, 4⟩) (meth := k13m4) (c := k13c4) (by decide +kernel) rfl rfl rfl (by decide +kernel)
set_option maxRecDepth 65536 in
theorem w_c30 : (Jvm.Cond.code mN53 jdk_42_method_53_code (2 : Nat) (Option.none : Option Jvm.ClassFile.FieldType)).before args0 about1 = true := code_word (m := ⟨7, 2⟩) (meth := k7m2) (c := k7c2) (by decide +kernel) rfl rfl rfl (by decide +kernel)
set_option maxRecDepth 65536 in
theorem w_c31 : (Jvm.Cond.code mN52 jdk_42_method_150_code (5 : Nat) (Option.none : Option Jvm.ClassFile.FieldType)).before args0 about1 = true := code_word (m := ⟨7, 7⟩) (meth := k7m7) (c := k7c7) (by decide +kernel) rfl rfl rfl (by decide +kernel)
set_option maxRecDepth 65536 in
theorem w_c32 : (Jvm.Cond.code mN25 jdk_68_method_64_code (1 : Nat) (Option.some (Jvm.ClassFile.FieldType.array Jvm.ClassFile.FieldType.byte))).before args0 about1 = true := code_word (m := ⟨12, 9⟩) (meth := k12m9) (c := k12c9) (by decide +kernel) rfl rfl rfl (by decide +kernel)
set_option maxRecDepth 65536 in
theorem w_c33 : (Jvm.Cond.code mN49 jdk_65_method_132_code (3 : Nat) (Option.some (Jvm.ClassFile.FieldType.array Jvm.ClassFile.FieldType.byte))).before args0 about1 = true := code_word (m := ⟨16, 2⟩) (meth := k16m2) (c := k16c2) (by decide +kernel) rfl rfl rfl (by decide +kernel)
set_option maxRecDepth 65536 in
theorem w_c34 : (Jvm.Cond.code mN63 method_4_code (1 : Nat) (Option.some Jvm.ClassFile.FieldType.boolean)).before args0 about1 = true := code_word (m := ⟨1, 3⟩) (meth := k1m3) (c := k1c3) (by decide +kernel) rfl rfl rfl (by decide +kernel)
set_option maxRecDepth 65536 in
theorem w_c35 : (Jvm.Cond.code mN65 method_9_code (5 : Nat) (Option.some Jvm.ClassFile.FieldType.boolean)).before args0 about1 = true := code_word (m := ⟨1, 8⟩) (meth := k1m8) (c := k1c8) (by decide +kernel) rfl rfl rfl (by decide +kernel)
set_option maxRecDepth 65536 in
theorem w_c36 : (Jvm.Cond.code mN66 method_10_code (5 : Nat) (Option.some Jvm.ClassFile.FieldType.int)).before args0 about1 = true := code_word (m := ⟨1, 9⟩) (meth := k1m9) (c := k1c9) (by decide +kernel) rfl rfl rfl (by decide +kernel)
set_option maxRecDepth 65536 in
theorem w_c37 : (Jvm.Cond.code mN64 method_6_code (3 : Nat) (Option.some Jvm.ClassFile.FieldType.boolean)).before args0 about1 = true := code_word (m := ⟨1, 5⟩) (meth := k1m5) (c := k1c5) (by decide +kernel) rfl rfl rfl (by decide +kernel)
set_option maxRecDepth 65536 in
theorem w_c38 : (Jvm.Cond.code mN61 prog_10_method_4_code (4 : Nat) (Option.none : Option Jvm.ClassFile.FieldType)).before args0 about1 = true := code_word (m := ⟨9, 3⟩) (meth := k9m3) (c := k9c3) (by decide +kernel) rfl rfl rfl (by decide +kernel)
set_option maxRecDepth 65536 in
theorem w_c39 : (Jvm.Cond.code mN46 jdk_67_method_38_code (3 : Nat) (Option.some Jvm.ClassFile.FieldType.int)).before args0 about1 = true := code_word (m := ⟨13, 3⟩) (meth := k13m3) (c := k13c3) (by decide +kernel) rfl rfl rfl (by decide +kernel)
set_option maxRecDepth 65536 in
theorem w_c40 : (Jvm.Cond.code mN45 jdk_68_method_59_code (3 : Nat) (Option.some Jvm.ClassFile.FieldType.int)).before args0 about1 = true := code_word (m := ⟨12, 8⟩) (meth := k12m8) (c := k12c8) (by decide +kernel) rfl rfl rfl (by decide +kernel)
set_option maxRecDepth 65536 in
theorem w_c41 : (Jvm.Cond.code mN44 jdk_42_method_90_code (9 : Nat) (Option.some Jvm.ClassFile.FieldType.int)).before args0 about1 = true := code_word (m := ⟨7, 5⟩) (meth := k7m5) (c := k7c5) (by decide +kernel) rfl rfl rfl (by decide +kernel)
set_option maxRecDepth 65536 in
theorem w_c42 : (Jvm.Cond.code mN40 jdk_43_method_26_code (12 : Nat) (Option.some Jvm.ClassFile.FieldType.int)).before args0 about1 = true := code_word (m := ⟨14, 3⟩) (meth := k14m3) (c := k14c3) (by decide +kernel) rfl rfl rfl (by decide +kernel)
set_option maxRecDepth 65536 in
theorem w_c43 : (Jvm.Cond.code mN39 jdk_67_method_88_code (2 : Nat) (Option.some Jvm.ClassFile.FieldType.char)).before args0 about1 = true := code_word (m := ⟨13, 5⟩) (meth := k13m5) (c := k13c5) (by decide +kernel) rfl rfl rfl (by decide +kernel)
set_option maxRecDepth 65536 in
theorem w_c44 : (Jvm.Cond.code mN38 jdk_68_method_14_code (5 : Nat) (Option.some Jvm.ClassFile.FieldType.char)).before args0 about1 = true := code_word (m := ⟨12, 6⟩) (meth := k12m6) (c := k12c6) (by decide +kernel) rfl rfl rfl (by decide +kernel)
set_option maxRecDepth 65536 in
theorem w_c45 : (Jvm.Cond.code mN37 jdk_29_method_69_code (2 : Nat) (Option.some Jvm.ClassFile.FieldType.int)).before args0 about1 = true := code_word (m := ⟨10, 2⟩) (meth := k10m2) (c := k10c2) (by decide +kernel) rfl rfl rfl (by decide +kernel)
set_option maxRecDepth 65536 in
theorem w_c46 : (Jvm.Cond.code mN57 jdk_89_method_14_code (1 : Nat) (Option.some Jvm.ClassFile.FieldType.boolean)).before args0 about1 = true := code_word (m := ⟨18, 0⟩) (meth := k18m0) (c := k18c0) (by decide +kernel) rfl rfl rfl (by decide +kernel)
set_option maxRecDepth 65536 in
theorem w_c47 : (Jvm.Cond.code mN36 jdk_67_method_89_code (2 : Nat) (Option.none : Option Jvm.ClassFile.FieldType)).before args0 about1 = true := code_word (m := ⟨13, 6⟩) (meth := k13m6) (c := k13c6) (by decide +kernel) rfl rfl rfl (by decide +kernel)
set_option maxRecDepth 65536 in
theorem w_c48 : (Jvm.Cond.code mN35 jdk_68_method_13_code (2 : Nat) (Option.none : Option Jvm.ClassFile.FieldType)).before args0 about1 = true := code_word (m := ⟨12, 5⟩) (meth := k12m5) (c := k12c5) (by decide +kernel) rfl rfl rfl (by decide +kernel)
set_option maxRecDepth 65536 in
theorem w_c49 : (Jvm.Cond.code mN32 jdk_68_method_11_code (2 : Nat) (Option.none : Option Jvm.ClassFile.FieldType)).before args0 about1 = true := code_word (m := ⟨12, 4⟩) (meth := k12m4) (c := k12c4) (by decide +kernel) rfl rfl rfl (by decide +kernel)
set_option maxRecDepth 65536 in
theorem w_c50 : (Jvm.Cond.code mN12 jdk_52_method_2_code (1 : Nat) (Option.some (Jvm.ClassFile.FieldType.array Jvm.ClassFile.FieldType.byte))).before args0 about1 = true := code_word (m := ⟨8, 1⟩) (meth := k8m1) (c := k8c1) (by decide +kernel) rfl rfl rfl (by decide +kernel)
set_option maxRecDepth 65536 in
theorem w_c51 : (Jvm.Cond.code mN11 jdk_52_method_3_code (1 : Nat) (Option.some Jvm.ClassFile.FieldType.int)).before args0 about1 = true := code_word (m := ⟨8, 2⟩) (meth := k8m2) (c := k8c2) (by decide +kernel) rfl rfl rfl (by decide +kernel)
set_option maxRecDepth 65536 in
theorem w_c52 : (Jvm.Cond.code mN31 jdk_43_method_50_code (5 : Nat) (Option.none : Option Jvm.ClassFile.FieldType)).before args0 about1 = true := code_word (m := ⟨14, 4⟩) (meth := k14m4) (c := k14c4) (by decide +kernel) rfl rfl rfl (by decide +kernel)
set_option maxRecDepth 65536 in
theorem w_c53 : (Jvm.Cond.code mN30 jdk_52_method_86_code (6 : Nat) (Option.none : Option Jvm.ClassFile.FieldType)).before args0 about1 = true := code_word (m := ⟨8, 14⟩) (meth := k8m14) (c := k8c14) (by decide +kernel) rfl rfl rfl (by decide +kernel)
set_option maxRecDepth 65536 in
theorem w_c54 : (Jvm.Cond.code mN29 jdk_52_method_94_code (3 : Nat) (Option.none : Option Jvm.ClassFile.FieldType)).before args0 about1 = true := code_word (m := ⟨8, 17⟩) (meth := k8m17) (c := k8c17) (by decide +kernel) rfl rfl rfl (by decide +kernel)
set_option maxRecDepth 65536 in
theorem w_c55 : (Jvm.Cond.code mN5 jdk_52_method_6_code (1 : Nat) (Option.some Jvm.ClassFile.FieldType.int)).before args0 about1 = true := code_word (m := ⟨8, 5⟩) (meth := k8m5) (c := k8c5) (by decide +kernel) rfl rfl rfl (by decide +kernel)
set_option maxRecDepth 65536 in
theorem w_c56 : (Jvm.Cond.code mN28 jdk_42_method_157_code (3 : Nat) (Option.some Jvm.ClassFile.FieldType.int)).before args0 about1 = true := code_word (m := ⟨7, 11⟩) (meth := k7m11) (c := k7c11) (by decide +kernel) rfl rfl rfl (by decide +kernel)
set_option maxRecDepth 65536 in
theorem w_c57 : (Jvm.Cond.code mN27 jdk_41_method_13_code (4 : Nat) (Option.some Jvm.ClassFile.FieldType.int)).before args0 about1 = true := code_word (m := ⟨15, 2⟩) (meth := k15m2) (c := k15c2) (by decide +kernel) rfl rfl rfl (by decide +kernel)
set_option maxRecDepth 65536 in
theorem w_c58 : (Jvm.Cond.code mN1 jdk_52_method_4_code (3 : Nat) (Option.none : Option Jvm.ClassFile.FieldType)).before args0 about1 = true := code_word (m := ⟨8, 3⟩) (meth := k8m3) (c := k8c3) (by decide +kernel) rfl rfl rfl (by decide +kernel)
set_option maxRecDepth 65536 in
theorem w_c59 : (Jvm.Cond.code mN26 jdk_52_method_71_code (3 : Nat) (Option.none : Option Jvm.ClassFile.FieldType)).before args0 about1 = true := code_word (m := ⟨8, 12⟩) (meth := k8m12) (c := k8c12) (by decide +kernel) rfl rfl rfl (by decide +kernel)
set_option maxRecDepth 65536 in
theorem w_c60 : (Jvm.Cond.code mN6 jdk_52_method_91_code (2 : Nat) (Option.none : Option Jvm.ClassFile.FieldType)).before args0 about1 = true := code_word (m := ⟨8, 16⟩) (meth := k8m16) (c := k8c16) (by decide +kernel) rfl rfl rfl (by decide +kernel)
set_option maxRecDepth 65536 in
theorem w_c61 : (Jvm.Cond.code mN51 jdk_52_method_17_code (6 : Nat) (Option.some (Jvm.ClassFile.FieldType.array Jvm.ClassFile.FieldType.byte))).before args0 about1 = true := code_word (m := ⟨8, 9⟩) (meth := k8m9) (c := k8c9) (by decide +kernel) rfl rfl rfl (by decide +kernel)
set_option maxRecDepth 65536 in
theorem w_c62 : (Jvm.Cond.code mN50 jdk_52_method_22_code (7 : Nat) (Option.some Jvm.ClassFile.FieldType.int)).before args0 about1 = true := code_word (m := ⟨8, 11⟩) (meth := k8m11) (c := k8c11) (by decide +kernel) rfl rfl rfl (by decide +kernel)
set_option maxRecDepth 65536 in
theorem w_c63 : (Jvm.Cond.code mN0 jdk_52_method_5_code (2 : Nat) (Option.some Jvm.ClassFile.FieldType.char)).before args0 about1 = true := code_word (m := ⟨8, 4⟩) (meth := k8m4) (c := k8c4) (by decide +kernel) rfl rfl rfl (by decide +kernel)
set_option maxRecDepth 65536 in
theorem w_c64 : (Jvm.Cond.code mN67 method_11_code (7 : Nat) (Option.some Jvm.ClassFile.FieldType.int)).before args0 about1 = true := code_word (m := ⟨1, 10⟩) (meth := k1m10) (c := k1c10) (by decide +kernel) rfl rfl rfl (by decide +kernel)
set_option maxRecDepth 65536 in
theorem w_c65 : (Jvm.Cond.code mN68 method_12_code (7 : Nat) (Option.some Jvm.ClassFile.FieldType.boolean)).before args0 about1 = true := code_word (m := ⟨1, 11⟩) (meth := k1m11) (c := k1c11) (by decide +kernel) rfl rfl rfl (by decide +kernel)
set_option maxRecDepth 65536 in
theorem w_c66 : (Jvm.Cond.code mN7 jdk_52_method_83_code (2 : Nat) (Option.some Jvm.ClassFile.FieldType.char)).before args0 about1 = true := code_word (m := ⟨8, 13⟩) (meth := k8m13) (c := k8c13) (by decide +kernel) rfl rfl rfl (by decide +kernel)
set_option maxRecDepth 65536 in
theorem w_c67 : (Jvm.Cond.code mN70 method_5_code (3 : Nat) (Option.some Jvm.ClassFile.FieldType.char)).before args0 about1 = true := code_word (m := ⟨1, 4⟩) (meth := k1m4) (c := k1c4) (by decide +kernel) rfl rfl rfl (by decide +kernel)
set_option maxRecDepth 65536 in
theorem w_c68 : (Jvm.Cond.code mN56 jdk_89_method_15_code (1 : Nat) (Option.some Jvm.ClassFile.FieldType.boolean)).before args0 about1 = true := code_word (m := ⟨18, 1⟩) (meth := k18m1) (c := k18c1) (by decide +kernel) rfl rfl rfl (by decide +kernel)
set_option maxRecDepth 65536 in
theorem w_c69 : (Jvm.Cond.code mN48 jdk_65_method_133_code (5 : Nat) (Option.some (Jvm.ClassFile.FieldType.array Jvm.ClassFile.FieldType.byte))).before args0 about1 = true := code_word (m := ⟨16, 3⟩) (meth := k16m3) (c := k16c3) (by decide +kernel) rfl rfl rfl (by decide +kernel)
set_option maxRecDepth 65536 in
theorem w_c70 : (Jvm.Cond.code mN47 jdk_65_method_131_code (2 : Nat) (Option.none : Option Jvm.ClassFile.FieldType)).before args0 about1 = true := code_word (m := ⟨16, 1⟩) (meth := k16m1) (c := k16c1) (by decide +kernel) rfl rfl rfl (by decide +kernel)
set_option maxRecDepth 65536 in
theorem w_c71 : (Jvm.Cond.code mN71 method_8_code (5 : Nat) (Option.some Jvm.ClassFile.FieldType.int)).before args0 about1 = true := code_word (m := ⟨1, 7⟩) (meth := k1m7) (c := k1c7) (by decide +kernel) rfl rfl rfl (by decide +kernel)
set_option maxRecDepth 65536 in
theorem w_c72 : (Jvm.Cond.code mN69 method_7_code (6 : Nat) (Option.some Jvm.ClassFile.FieldType.int)).before args0 about1 = true := code_word (m := ⟨1, 6⟩) (meth := k1m6) (c := k1c6) (by decide +kernel) rfl rfl rfl (by decide +kernel)
set_option maxRecDepth 65536 in
theorem w_c73 : (Jvm.Cond.code mN13 jdk_52_method_14_code (5 : Nat) (Option.some (Jvm.ClassFile.FieldType.array Jvm.ClassFile.FieldType.byte))).before args0 about1 = true := code_word (m := ⟨8, 6⟩) (meth := k8m6) (c := k8c6) (by decide +kernel) rfl rfl rfl (by decide +kernel)
set_option maxRecDepth 65536 in
theorem w_c74 : (Jvm.Cond.code mN41 jdk_52_method_87_code (12 : Nat) (Option.some Jvm.ClassFile.FieldType.int)).before args0 about1 = true := code_word (m := ⟨8, 15⟩) (meth := k8m15) (c := k8c15) (by decide +kernel) rfl rfl rfl (by decide +kernel)
def codes1 : List Jvm.Cond := [Jvm.Cond.code x code maxLocals ret, Jvm.Cond.code mN72 method_3_code (2 : Nat) (Option.some Jvm.ClassFile.FieldType.char), Jvm.Cond.code mN17 jdk_42_method_3_code (2 : Nat) (Option.none : Option Jvm.ClassFile.FieldType), Jvm.Cond.code mN16 jdk_42_method_149_code (6 : Nat) (Option.none : Option Jvm.ClassFile.FieldType), Jvm.Cond.code (⟨"java/lang/Object", "<init>", "()V"⟩ : Jvm.MethodName) object_method_1_code (1 : Nat) (Option.none : Option Jvm.ClassFile.FieldType), Jvm.Cond.code mN14 jdk_52_method_16_code (6 : Nat) (Option.some (Jvm.ClassFile.FieldType.array Jvm.ClassFile.FieldType.byte)), Jvm.Cond.code mN10 jdk_52_method_21_code (7 : Nat) (Option.some Jvm.ClassFile.FieldType.int), Jvm.Cond.code mN15 jdk_52_method_15_code (2 : Nat) (Option.some Jvm.ClassFile.FieldType.byte), Jvm.Cond.code mN62 prog_10_method_2_code (5 : Nat) (Option.some (Jvm.ClassFile.FieldType.object "java/lang/String")), Jvm.Cond.code mN60 jdk_29_method_65_code (2 : Nat) (Option.some Jvm.ClassFile.FieldType.int), Jvm.Cond.code mN59 prog_10_method_3_code (4 : Nat) (Option.some Jvm.ClassFile.FieldType.int), Jvm.Cond.code mN19 jdk_67_method_2_code (2 : Nat) (Option.none : Option Jvm.ClassFile.FieldType), Jvm.Cond.code mN18 jdk_68_method_2_code (2 : Nat) (Option.none : Option Jvm.ClassFile.FieldType), Jvm.Cond.code mN58 prog_10_method_5_code (3 : Nat) (Option.some Jvm.ClassFile.FieldType.int), Jvm.Cond.code mN43 jdk_42_method_54_code (1 : Nat) (Option.some Jvm.ClassFile.FieldType.int), Jvm.Cond.code mN42 jdk_42_method_152_code (1 : Nat) (Option.some Jvm.ClassFile.FieldType.byte), Jvm.Cond.code mN9 jdk_42_method_56_code (2 : Nat) (Option.some Jvm.ClassFile.FieldType.char), Jvm.Cond.code mN2 jdk_42_method_154_code (1 : Nat) (Option.some Jvm.ClassFile.FieldType.boolean), Jvm.Cond.code mN8 jdk_43_method_2_code (2 : Nat) (Option.some Jvm.ClassFile.FieldType.char), Jvm.Cond.code mN4 jdk_42_method_155_code (2 : Nat) (Option.none : Option Jvm.ClassFile.FieldType), Jvm.Cond.code mN3 jdk_41_method_11_code (3 : Nat) (Option.some Jvm.ClassFile.FieldType.int), Jvm.Cond.code mN55 prog_10_method_6_code (1 : Nat) (Option.some Jvm.ClassFile.FieldType.boolean), Jvm.Cond.code mN24 jdk_67_method_93_code (1 : Nat) (Option.some Jvm.ClassFile.FieldType.int), Jvm.Cond.code mN23 jdk_68_method_6_code (1 : Nat) (Option.some Jvm.ClassFile.FieldType.int), Jvm.Cond.code mN34 jdk_67_method_14_code (2 : Nat) (Option.some (Jvm.ClassFile.FieldType.object "java/lang/StringBuilder")), Jvm.Cond.code mN33 jdk_68_method_31_code (2 : Nat) (Option.some (Jvm.ClassFile.FieldType.object "java/lang/AbstractStringBuilder")), Jvm.Cond.code mN21 jdk_68_method_9_code (3 : Nat) (Option.none : Option Jvm.ClassFile.FieldType), Jvm.Cond.code mN20 jdk_68_method_68_code (1 : Nat) (Option.some Jvm.ClassFile.FieldType.boolean), Jvm.Cond.code mN22 jdk_43_method_3_code (1 : Nat) (Option.some Jvm.ClassFile.FieldType.boolean), Jvm.Cond.code mN54 jdk_67_method_42_code (1 : Nat) (Option.some (Jvm.ClassFile.FieldType.object "java/lang/String")), Jvm.Cond.code mN53 jdk_42_method_53_code (2 : Nat) (Option.none : Option Jvm.ClassFile.FieldType), Jvm.Cond.code mN52 jdk_42_method_150_code (5 : Nat) (Option.none : Option Jvm.ClassFile.FieldType), Jvm.Cond.code mN25 jdk_68_method_64_code (1 : Nat) (Option.some (Jvm.ClassFile.FieldType.array Jvm.ClassFile.FieldType.byte)), Jvm.Cond.code mN49 jdk_65_method_132_code (3 : Nat) (Option.some (Jvm.ClassFile.FieldType.array Jvm.ClassFile.FieldType.byte)), Jvm.Cond.code mN63 method_4_code (1 : Nat) (Option.some Jvm.ClassFile.FieldType.boolean), Jvm.Cond.code mN65 method_9_code (5 : Nat) (Option.some Jvm.ClassFile.FieldType.boolean), Jvm.Cond.code mN66 method_10_code (5 : Nat) (Option.some Jvm.ClassFile.FieldType.int), Jvm.Cond.code mN64 method_6_code (3 : Nat) (Option.some Jvm.ClassFile.FieldType.boolean), Jvm.Cond.code mN61 prog_10_method_4_code (4 : Nat) (Option.none : Option Jvm.ClassFile.FieldType), Jvm.Cond.code mN46 jdk_67_method_38_code (3 : Nat) (Option.some Jvm.ClassFile.FieldType.int), Jvm.Cond.code mN45 jdk_68_method_59_code (3 : Nat) (Option.some Jvm.ClassFile.FieldType.int), Jvm.Cond.code mN44 jdk_42_method_90_code (9 : Nat) (Option.some Jvm.ClassFile.FieldType.int), Jvm.Cond.code mN40 jdk_43_method_26_code (12 : Nat) (Option.some Jvm.ClassFile.FieldType.int), Jvm.Cond.code mN39 jdk_67_method_88_code (2 : Nat) (Option.some Jvm.ClassFile.FieldType.char), Jvm.Cond.code mN38 jdk_68_method_14_code (5 : Nat) (Option.some Jvm.ClassFile.FieldType.char), Jvm.Cond.code mN37 jdk_29_method_69_code (2 : Nat) (Option.some Jvm.ClassFile.FieldType.int), Jvm.Cond.code mN57 jdk_89_method_14_code (1 : Nat) (Option.some Jvm.ClassFile.FieldType.boolean), Jvm.Cond.code mN36 jdk_67_method_89_code (2 : Nat) (Option.none : Option Jvm.ClassFile.FieldType), Jvm.Cond.code mN35 jdk_68_method_13_code (2 : Nat) (Option.none : Option Jvm.ClassFile.FieldType), Jvm.Cond.code mN32 jdk_68_method_11_code (2 : Nat) (Option.none : Option Jvm.ClassFile.FieldType), Jvm.Cond.code mN12 jdk_52_method_2_code (1 : Nat) (Option.some (Jvm.ClassFile.FieldType.array Jvm.ClassFile.FieldType.byte)), Jvm.Cond.code mN11 jdk_52_method_3_code (1 : Nat) (Option.some Jvm.ClassFile.FieldType.int), Jvm.Cond.code mN31 jdk_43_method_50_code (5 : Nat) (Option.none : Option Jvm.ClassFile.FieldType), Jvm.Cond.code mN30 jdk_52_method_86_code (6 : Nat) (Option.none : Option Jvm.ClassFile.FieldType), Jvm.Cond.code mN29 jdk_52_method_94_code (3 : Nat) (Option.none : Option Jvm.ClassFile.FieldType), Jvm.Cond.code mN5 jdk_52_method_6_code (1 : Nat) (Option.some Jvm.ClassFile.FieldType.int), Jvm.Cond.code mN28 jdk_42_method_157_code (3 : Nat) (Option.some Jvm.ClassFile.FieldType.int), Jvm.Cond.code mN27 jdk_41_method_13_code (4 : Nat) (Option.some Jvm.ClassFile.FieldType.int), Jvm.Cond.code mN1 jdk_52_method_4_code (3 : Nat) (Option.none : Option Jvm.ClassFile.FieldType), Jvm.Cond.code mN26 jdk_52_method_71_code (3 : Nat) (Option.none : Option Jvm.ClassFile.FieldType), Jvm.Cond.code mN6 jdk_52_method_91_code (2 : Nat) (Option.none : Option Jvm.ClassFile.FieldType), Jvm.Cond.code mN51 jdk_52_method_17_code (6 : Nat) (Option.some (Jvm.ClassFile.FieldType.array Jvm.ClassFile.FieldType.byte)), Jvm.Cond.code mN50 jdk_52_method_22_code (7 : Nat) (Option.some Jvm.ClassFile.FieldType.int), Jvm.Cond.code mN0 jdk_52_method_5_code (2 : Nat) (Option.some Jvm.ClassFile.FieldType.char), Jvm.Cond.code mN67 method_11_code (7 : Nat) (Option.some Jvm.ClassFile.FieldType.int), Jvm.Cond.code mN68 method_12_code (7 : Nat) (Option.some Jvm.ClassFile.FieldType.boolean), Jvm.Cond.code mN7 jdk_52_method_83_code (2 : Nat) (Option.some Jvm.ClassFile.FieldType.char), Jvm.Cond.code mN70 method_5_code (3 : Nat) (Option.some Jvm.ClassFile.FieldType.char), Jvm.Cond.code mN56 jdk_89_method_15_code (1 : Nat) (Option.some Jvm.ClassFile.FieldType.boolean), Jvm.Cond.code mN48 jdk_65_method_133_code (5 : Nat) (Option.some (Jvm.ClassFile.FieldType.array Jvm.ClassFile.FieldType.byte)), Jvm.Cond.code mN47 jdk_65_method_131_code (2 : Nat) (Option.none : Option Jvm.ClassFile.FieldType), Jvm.Cond.code mN71 method_8_code (5 : Nat) (Option.some Jvm.ClassFile.FieldType.int), Jvm.Cond.code mN69 method_7_code (6 : Nat) (Option.some Jvm.ClassFile.FieldType.int), Jvm.Cond.code mN13 jdk_52_method_14_code (5 : Nat) (Option.some (Jvm.ClassFile.FieldType.array Jvm.ClassFile.FieldType.byte)), Jvm.Cond.code mN41 jdk_52_method_87_code (12 : Nat) (Option.some Jvm.ClassFile.FieldType.int)]
set_option maxRecDepth 65536 in
theorem codes_eq : words1.filter isCode = codes1 := rfl
theorem w_codes : ∀ c ∈ words1.filter isCode, c.before args0 about1 = true := by
  rw [codes_eq]
  intro c hc
  simp only [codes1, List.mem_cons, List.not_mem_nil, or_false] at hc
  rcases hc with rfl | rfl | rfl | rfl | rfl | rfl | rfl | rfl | rfl | rfl | rfl | rfl | rfl | rfl | rfl | rfl | rfl | rfl | rfl | rfl | rfl | rfl | rfl | rfl | rfl | rfl | rfl | rfl | rfl | rfl | rfl | rfl | rfl | rfl | rfl | rfl | rfl | rfl | rfl | rfl | rfl | rfl | rfl | rfl | rfl | rfl | rfl | rfl | rfl | rfl | rfl | rfl | rfl | rfl | rfl | rfl | rfl | rfl | rfl | rfl | rfl | rfl | rfl | rfl | rfl | rfl | rfl | rfl | rfl | rfl | rfl | rfl | rfl | rfl | rfl
  · exact w_c0
  · exact w_c1
  · exact w_c2
  · exact w_c3
  · exact w_c4
  · exact w_c5
  · exact w_c6
  · exact w_c7
  · exact w_c8
  · exact w_c9
  · exact w_c10
  · exact w_c11
  · exact w_c12
  · exact w_c13
  · exact w_c14
  · exact w_c15
  · exact w_c16
  · exact w_c17
  · exact w_c18
  · exact w_c19
  · exact w_c20
  · exact w_c21
  · exact w_c22
  · exact w_c23
  · exact w_c24
  · exact w_c25
  · exact w_c26
  · exact w_c27
  · exact w_c28
  · exact w_c29
  · exact w_c30
  · exact w_c31
  · exact w_c32
  · exact w_c33
  · exact w_c34
  · exact w_c35
  · exact w_c36
  · exact w_c37
  · exact w_c38
  · exact w_c39
  · exact w_c40
  · exact w_c41
  · exact w_c42
  · exact w_c43
  · exact w_c44
  · exact w_c45
  · exact w_c46
  · exact w_c47
  · exact w_c48
  · exact w_c49
  · exact w_c50
  · exact w_c51
  · exact w_c52
  · exact w_c53
  · exact w_c54
  · exact w_c55
  · exact w_c56
  · exact w_c57
  · exact w_c58
  · exact w_c59
  · exact w_c60
  · exact w_c61
  · exact w_c62
  · exact w_c63
  · exact w_c64
  · exact w_c65
  · exact w_c66
  · exact w_c67
  · exact w_c68
  · exact w_c69
  · exact w_c70
  · exact w_c71
  · exact w_c72
  · exact w_c73
  · exact w_c74
set_option maxRecDepth 65536 in
theorem w_t1 : (words1.take 24).all (fun c => isCode c || c.before args0 about1) = true := by decide +kernel
set_option maxRecDepth 65536 in
theorem w_t2 : ((words1.drop 24).take 24).all (fun c => isCode c || c.before args0 about1) = true := by decide +kernel
set_option maxRecDepth 65536 in
theorem w_t3 : (((words1.drop 24).drop 24).take 24).all (fun c => isCode c || c.before args0 about1) = true := by decide +kernel
set_option maxRecDepth 65536 in
theorem w_t4 : ((((words1.drop 24).drop 24).drop 24).take 24).all (fun c => isCode c || c.before args0 about1) = true := by decide +kernel
set_option maxRecDepth 65536 in
theorem w_t5 : (((((words1.drop 24).drop 24).drop 24).drop 24).take 24).all (fun c => isCode c || c.before args0 about1) = true := by decide +kernel
set_option maxRecDepth 65536 in
theorem w_t6 : ((((((words1.drop 24).drop 24).drop 24).drop 24).drop 24).take 24).all (fun c => isCode c || c.before args0 about1) = true := by decide +kernel
set_option maxRecDepth 65536 in
theorem w_t7 : (((((((words1.drop 24).drop 24).drop 24).drop 24).drop 24).drop 24).take 24).all (fun c => isCode c || c.before args0 about1) = true := by decide +kernel
set_option maxRecDepth 65536 in
theorem w_t8 : ((((((((words1.drop 24).drop 24).drop 24).drop 24).drop 24).drop 24).drop 24).take 24).all (fun c => isCode c || c.before args0 about1) = true := by decide +kernel
set_option maxRecDepth 65536 in
theorem w_t9 : (((((((((words1.drop 24).drop 24).drop 24).drop 24).drop 24).drop 24).drop 24).drop 24).take 24).all (fun c => isCode c || c.before args0 about1) = true := by decide +kernel
set_option maxRecDepth 65536 in
theorem w_t10 : ((((((((((words1.drop 24).drop 24).drop 24).drop 24).drop 24).drop 24).drop 24).drop 24).drop 24).take 24).all (fun c => isCode c || c.before args0 about1) = true := by decide +kernel
set_option maxRecDepth 65536 in
theorem w_t11 : (((((((((((words1.drop 24).drop 24).drop 24).drop 24).drop 24).drop 24).drop 24).drop 24).drop 24).drop 24).take 24).all (fun c => isCode c || c.before args0 about1) = true := by decide +kernel
set_option maxRecDepth 65536 in
theorem w_t12 : ((((((((((((words1.drop 24).drop 24).drop 24).drop 24).drop 24).drop 24).drop 24).drop 24).drop 24).drop 24).drop 24).take 24).all (fun c => isCode c || c.before args0 about1) = true := by decide +kernel
set_option maxRecDepth 65536 in
theorem w_t13 : (((((((((((((words1.drop 24).drop 24).drop 24).drop 24).drop 24).drop 24).drop 24).drop 24).drop 24).drop 24).drop 24).drop 24).take 24).all (fun c => isCode c || c.before args0 about1) = true := by decide +kernel
set_option maxRecDepth 65536 in
theorem w_t14 : ((((((((((((((words1.drop 24).drop 24).drop 24).drop 24).drop 24).drop 24).drop 24).drop 24).drop 24).drop 24).drop 24).drop 24).drop 24).take 24).all (fun c => isCode c || c.before args0 about1) = true := by decide +kernel
set_option maxRecDepth 65536 in
theorem w_t15 : ((((((((((((((words1.drop 24).drop 24).drop 24).drop 24).drop 24).drop 24).drop 24).drop 24).drop 24).drop 24).drop 24).drop 24).drop 24).drop 24).all (fun c => isCode c || c.before args0 about1) = true := by decide +kernel
theorem w_tables : (allAtoms (Jvm.Cond.code x code maxLocals ret :: tables_1)).before args0 about1 = true := by
  rw [allAtoms_all]
  show words1.all (fun c => c.before args0 about1) = true
  refine all_split ?_ w_codes
  rw [← List.take_append_drop 24 words1, List.all_append, w_t1, ← List.take_append_drop 24 (words1.drop 24), List.all_append, w_t2, ← List.take_append_drop 24 ((words1.drop 24).drop 24), List.all_append, w_t3, ← List.take_append_drop 24 (((words1.drop 24).drop 24).drop 24), List.all_append, w_t4, ← List.take_append_drop 24 ((((words1.drop 24).drop 24).drop 24).drop 24), List.all_append, w_t5, ← List.take_append_drop 24 (((((words1.drop 24).drop 24).drop 24).drop 24).drop 24), List.all_append, w_t6, ← List.take_append_drop 24 ((((((words1.drop 24).drop 24).drop 24).drop 24).drop 24).drop 24), List.all_append, w_t7, ← List.take_append_drop 24 (((((((words1.drop 24).drop 24).drop 24).drop 24).drop 24).drop 24).drop 24), List.all_append, w_t8, ← List.take_append_drop 24 ((((((((words1.drop 24).drop 24).drop 24).drop 24).drop 24).drop 24).drop 24).drop 24), List.all_append, w_t9, ← List.take_append_drop 24 (((((((((words1.drop 24).drop 24).drop 24).drop 24).drop 24).drop 24).drop 24).drop 24).drop 24), List.all_append, w_t10, ← List.take_append_drop 24 ((((((((((words1.drop 24).drop 24).drop 24).drop 24).drop 24).drop 24).drop 24).drop 24).drop 24).drop 24), List.all_append, w_t11, ← List.take_append_drop 24 (((((((((((words1.drop 24).drop 24).drop 24).drop 24).drop 24).drop 24).drop 24).drop 24).drop 24).drop 24).drop 24), List.all_append, w_t12, ← List.take_append_drop 24 ((((((((((((words1.drop 24).drop 24).drop 24).drop 24).drop 24).drop 24).drop 24).drop 24).drop 24).drop 24).drop 24).drop 24), List.all_append, w_t13, ← List.take_append_drop 24 (((((((((((((words1.drop 24).drop 24).drop 24).drop 24).drop 24).drop 24).drop 24).drop 24).drop 24).drop 24).drop 24).drop 24).drop 24), List.all_append, w_t14, w_t15]
  rfl
set_option maxRecDepth 65536 in
theorem w_rest : rest_1_c.before args0 about1 = true := by decide +kernel
set_option maxRecDepth 65536 in
theorem w_case : (Jvm.Cond.and given_1 narrow_1).before args0 about1 = true := by decide +kernel
set_option maxRecDepth 65536 in
theorem w_consts : constsHeld consts_1 about1 := Jvm.Lit.constsHeldB_iff.mp (by decide +kernel)
theorem w_applies : (headSpec (Jvm.Cond.code x code maxLocals ret :: tables_1) room_1).applies x e0.platform about1 = true :=
  (Spec.applies_iff w_frames).mpr ⟨w_running, w_runnable, w_alone, w_named, w_hears, w_ripe, w_room, w_tables⟩
theorem atStart : AtStart classFile x code maxLocals ret World_1 tables_1 room_1 Calls_1 rest_1 Pre_1 launch0 p0 e0 about1 theMethod args0 below0 :=
  ⟨lists_1, trivial, launch0.admits_env _ _ _, launch0.least_env, fairChoices_fair.cas, fairChoices_fair.clock, w_frames, w_args, w_heap, w_applies, ⟨w_consts, trivial⟩, w_rest, w_case⟩
end start1
theorem witness_1 : WitnessClaimed_1 := ⟨start1.p0, start1.e0, start1.about1, start1.theMethod, start1.args0, start1.below0, start1.atStart⟩
end Jvm.Pilot.@@N@@
