import JvmDerived
import JvmDerived.Pilot.@@N@@Statement
import JvmDerived.Pilot.@@N@@Code
set_option linter.unusedVariables false
set_option linter.unusedSimpArgs false
namespace Jvm.RoadKit
open Sem ClassFile Op Lib Jvm.Stand Jvm.Free Jvm.LawKit
section New
variable {p : Program} {l : Launch} {e : Env} {R : Room} {s : State} {m : MethodId} {args : Array Value} {below : List Frame} {meth : Method} {c : Code} {T : State} {locs : List Loc} {cells slots : Nat}
theorem retI (X : Stand p l e R s m args below meth c T locs cells slots) (hx : p.tables.exec = Jvm.exec) {pc : Nat} {Ls : Array Slot} {z : Int32} {rest : List Value} (hret : meth.sig.returnType = some .int) (hd : decode c.code pc = .ok (.ireturn, 1)) {fs : List Frame}
    (hl : ∀ (f : JFrame) (acts : List Action), f.method = m → f.locked = none → f.entered = [] → (doReturn e (T.setTop f) acts (some (.int z))).1 = T.setFrames fs) : Steps p.tables e below (T.setTop (mkF m pc Ls (.int z :: rest))) (T.setFrames fs) := by
  have hm' : T.vm.method? m = some meth := X.method'
  have hn : narrow .int (.int z) = .int z := rfl
  show Steps p.tables e below (T.setTop { method := m, pc := pc, locals := Ls, stack := _ :: rest, locked := none }) _
  jvm_step X.here [X.here.top, hx, hd, hm', hret, hn]
  first | (intro acts; rw [hl _ acts rfl rfl rfl]) | rw [hl _ _ rfl rfl rfl]
  exact Steps.refl _
end New
end Jvm.RoadKit
/- laws to paste: narrow_ch, Road.wide_lo, Road.wide_hi, Road.low_at, Road.codOf, pair_says, lo8_mask, shr0, shr1 (cut by pick.py; bodies as the Statement names them) -/
namespace Jvm.Pilot.@@N@@
namespace StrChars
open Jvm Sem ClassFile Op Lib Jvm.Stand Jvm.Free.XT Jvm.Free.ALB Jvm.Free.JM Jvm.Free
open Jvm.Lib.Cold (StaticIs)
/-- a char array whose places are chars -/
def Ch (a : Addr) (A : Cell) (U : State) : Prop := Arr .char a A U ∧ Typed .char A
theorem Ch.mv {a : Addr} {A : Cell} {U U' : State} (h : Ch a A U) (hal : U.vm.Alike U'.vm) (hh : U'.heap = U.heap) : Ch a A U' := ⟨h.1.mv hal hh, h.2⟩
theorem Ch.keep {a : Addr} {A : Cell} {U U' : State} (h : Ch a A U) (hal : U.vm.Alike U'.vm) (hk : U'.heap[a]? = some A) : Ch a A U' := ⟨h.1.keep hal hk, h.2⟩
/-- what place i of a char[]'s cell holds -/
def cv (A : Cell) (i : Nat) : Int32 := match A.slots[i]? with | some (.int x) => x | _ => 0
theorem Ch.get {a : Addr} {A : Cell} {U : State} (h : Ch a A U) {i : Nat} (hi : i < A.slots.size) : A.slots[i]? = some (.int (cv A i)) := by
  have e := Array.getElem?_eq_getElem hi
  have f := h.2 i _ e
  unfold cv; rw [e]
  generalize A.slots[i] = v at f
  cases v <;> simp [fits] at f ⊢
/-- the byte that i2b leaves of a char -/
def lo8 (x : Int32) : Int32 := x.toInt8.toInt32
theorem fits_lo8 (y : Int32) : fits .byte (.int (lo8 y)) = true := by
  have h1 := y.toInt8.le_toInt
  have h2 := y.toInt8.toInt_lt
  simp only [lo8, fits, Bool.and_eq_true, decide_eq_true_eq, Int32.le_iff_toInt_le, Int8.toInt_toInt32, show (-128 : Int32).toInt = -128 from by decide, show (127 : Int32).toInt = 127 from by decide]
  omega
/-- A' is A but that each place j of lo .. hi - 1 holds f j -/
def Laid (A A' : Cell) (lo hi : Nat) (f : Nat → Value) : Prop := A'.cls = A.cls ∧ A'.vm = A.vm ∧ A'.slots.size = A.slots.size ∧ ∀ i, A'.slots[i]? = if lo ≤ i ∧ i < hi then some (f i) else A.slots[i]?
theorem Laid.zero (A : Cell) (lo : Nat) (f : Nat → Value) : Laid A A lo (lo + 0) f := ⟨rfl, rfl, rfl, fun i => by rw [if_neg (by omega)]⟩
theorem Laid.step {A Ak : Cell} {lo k : Nat} {f : Nat → Value} {v : Value} (h : Laid A Ak lo k f) (hlo : lo ≤ k) (hk : k < Ak.slots.size) (hv : v = f k) : Laid A (Ak.setSlot k v) lo (k + 1) f := by
  refine ⟨h.1, h.2.1, by simpa [Cell.setSlot] using h.2.2.1, fun i => ?_⟩
  by_cases e : k = i
  · subst e; rw [Cell.slots_setSlot_self v hk, if_pos (by omega), hv]
  · rw [Cell.slots_setSlot_ne v e, h.2.2.2 i]
    by_cases q : lo ≤ i ∧ i < k
    · rw [if_pos q, if_pos (by omega)]
    · rw [if_neg q, if_neg (by omega)]
def U16 : String := "java/lang/StringUTF16"
namespace Cmp5
def yN : MethodName := ⟨"java/lang/StringUTF16", "compress", "([CI[BII)I"⟩
abbrev yB : ByteArray := jdk_52_method_21_code
theorem d0 : decode yB 0 = .ok (.iconst 0, 1) := by decide +kernel
theorem d1 : decode yB 1 = .ok (.istore 5, 2) := by decide +kernel
theorem d3 : decode yB 3 = .ok (.iload 5, 2) := by decide +kernel
theorem d5 : decode yB 5 = .ok (.iload 4, 2) := by decide +kernel
theorem d7 : decode yB 7 = .ok (.if_icmp (.ge) 37, 3) := by decide +kernel
theorem d10 : decode yB 10 = .ok (.aload_n 0, 1) := by decide +kernel
theorem d11 : decode yB 11 = .ok (.iload_n 1, 1) := by decide +kernel
theorem d12 : decode yB 12 = .ok (.caload, 1) := by decide +kernel
theorem d13 : decode yB 13 = .ok (.istore 6, 2) := by decide +kernel
theorem d15 : decode yB 15 = .ok (.iload 6, 2) := by decide +kernel
theorem d17 : decode yB 17 = .ok (.sipush 255, 3) := by decide +kernel
theorem d20 : decode yB 20 = .ok (.if_icmp (.le) 6, 3) := by decide +kernel
theorem d26 : decode yB 26 = .ok (.aload_n 2, 1) := by decide +kernel
theorem d27 : decode yB 27 = .ok (.iload_n 3, 1) := by decide +kernel
theorem d28 : decode yB 28 = .ok (.iload 6, 2) := by decide +kernel
theorem d30 : decode yB 30 = .ok (.i2b, 1) := by decide +kernel
theorem d31 : decode yB 31 = .ok (.bastore, 1) := by decide +kernel
theorem d32 : decode yB 32 = .ok (.iinc 1 1, 3) := by decide +kernel
theorem d35 : decode yB 35 = .ok (.iinc 3 1, 3) := by decide +kernel
theorem d38 : decode yB 38 = .ok (.iinc 5 1, 3) := by decide +kernel
theorem d41 : decode yB 41 = .ok (.goto (-38), 3) := by decide +kernel
theorem d44 : decode yB 44 = .ok (.iload 4, 2) := by decide +kernel
theorem d46 : decode yB 46 = .ok (.ireturn, 1) := by decide +kernel
def site : List Cond := []
def tab : Cond := tabOf yN yB 7 (some .int) site
def P (b : Addr) (A : Cell) (d : Addr) (B : Cell) (o q len : Nat) (args : Array Value) (s : State) : Prop := args = #[.ref b, .int (Int32.ofNat o), .ref d, .int (Int32.ofNat q), .int (Int32.ofNat len)] ∧ Ch b A s ∧ Arr .byte d B s ∧ b ≠ d ∧ o + len ≤ A.slots.size ∧ q + len ≤ B.slots.size ∧ ∀ i, i < len → ¬ 255 < cv A (o + i)
def E (b : Addr) (A : Cell) (d : Addr) (B : Cell) (o q len : Nat) (r : Option Value) (s u : State) : Prop := r = some (.int (Int32.ofNat len)) ∧ ∃ B', Put d B' s u ∧ Laid B B' q (q + len) (fun j => Value.int (lo8 (cv A (o + (j - q)))))
/-- no char of the range above 255: len; the places written hold each char's low byte -/
theorem law (l : Launch) (b : Addr) (A : Cell) (d : Addr) (B : Cell) (o q len : Nat) : Law l yN 5 5 0 0 yB 7 (some .int) site (P b A d B o q len) (E b A d B o q len) (copyLocs d q len) 0 0 := by
  refine Law.of_walk (plainFor_of_name (by decide +kernel)) (by decide +kernel) (by decide +kernel) (by decide) (fun _ _ h => by rw [h.1]; rfl) (fun _ U U' hal hh h => ⟨h.1, h.2.1.mv hal hh, h.2.2.1.mv hal hh, h.2.2.2⟩) (fun r U U' V V' h1 hal h2 h => ⟨h.1, h.2.elim fun B' q => ⟨B', q.1.mv h1 h2, q.2⟩⟩) ?_
  intro p e s m args below meth c s₁ X0 hexec hbytes hml hret hlk hnm hown hh0 W hP
  obtain ⟨rfl, hA, hB, hne, l1, l2, hp⟩ := hP
  have c1 : Steps p.tables e below (s₁.setTop (entryFrame m #[.ref b, .int (Int32.ofNat o), .ref d, .int (Int32.ofNat q), .int (Int32.ofNat len)] 7)) (s₁.setTop (mkF m 0 #[.val (.ref b), .val (.int (Int32.ofNat o)), .val (.ref d), .val (.int (Int32.ofNat q)), .val (.int (Int32.ofNat len)), .unset, .unset] [])) := entry rfl
  have hA0 := hA.1.mv X0.warmed.alike hh0
  have hB0 := hB.mv X0.warmed.alike hh0
  have a31 := hA.1.2.2.2
  have c2 : Steps p.tables e below (s₁.setTop (entryFrame m #[.ref b, .int (Int32.ofNat o), .ref d, .int (Int32.ofNat q), .int (Int32.ofNat len)] 7)) (s₁.setTop (mkF m 3 #[.val (.ref b), .val (.int (Int32.ofNat o)), .val (.ref d), .val (.int (Int32.ofNat q)), .val (.int (Int32.ofNat len)), .val (.int 0), .unset] [])) := c1.trans (by
    refine iconstV X0.here hexec rfl 0 (hb hbytes d0) (by decide) ?_
    refine XS.istore X0.here hexec rfl (hb hbytes d1) rfl rfl ?_
    exact Steps.refl _)
  have loop : ∀ (r i : Nat), i + r = len → ∀ (z : Slot), (z = .unset ∨ ∃ w, z = .val w ∧ w.category = 1) → ∀ (Tl : State) (Bk : Cell), Stand p l e { frames := 0, locals := 0, cells := 0, slots := 0 } s m #[.ref b, .int (Int32.ofNat o), .ref d, .int (Int32.ofNat q), .int (Int32.ofNat len)] below meth c Tl ([] ++ copyLocs d q i) 0 0 → Put d Bk s₁ Tl → Laid B Bk q (q + i) (fun j => Value.int (lo8 (cv A (o + (j - q))))) →
      Steps p.tables e below (s₁.setTop (entryFrame m #[.ref b, .int (Int32.ofNat o), .ref d, .int (Int32.ofNat q), .int (Int32.ofNat len)] 7)) (Tl.setTop (mkF m 3 #[.val (.ref b), .val (.int (Int32.ofNat (o + i))), .val (.ref d), .val (.int (Int32.ofNat (q + i))), .val (.int (Int32.ofNat len)), .val (.int (Int32.ofNat i)), z] [])) → ∃ (T' : State) (B' : Cell) (z' : Slot), Stand p l e { frames := 0, locals := 0, cells := 0, slots := 0 } s m #[.ref b, .int (Int32.ofNat o), .ref d, .int (Int32.ofNat q), .int (Int32.ofNat len)] below meth c T' ([] ++ copyLocs d q len) 0 0 ∧ Put d B' s₁ T' ∧ Laid B B' q (q + len) (fun j => Value.int (lo8 (cv A (o + (j - q))))) ∧
      Steps p.tables e below (s₁.setTop (entryFrame m #[.ref b, .int (Int32.ofNat o), .ref d, .int (Int32.ofNat q), .int (Int32.ofNat len)] 7)) (T'.setTop (mkF m 3 #[.val (.ref b), .val (.int (Int32.ofNat (o + len))), .val (.ref d), .val (.int (Int32.ofNat (q + len))), .val (.int (Int32.ofNat len)), .val (.int (Int32.ofNat len)), z'] [])) := by
    intro r
    induction r with
    | zero =>
      intro i hi z hz Tl Bk Xl pl fl cl
      have hil : i = len := by omega
      rw [hil] at Xl fl cl
      exact ⟨Tl, Bk, z, Xl, pl, fl, cl⟩
    | succ r ih =>
      intro i hi z hz Tl Bk Xl pl fl cl
      have all := X0.warmed.alike.symm.trans Xl.warmed.alike
      have hAl := hA0.keep all (pl.other hne hA0.1)
      have hBk := hB0.like all pl.1 fl.1 fl.2.1 fl.2.2.1
      have hlt : q + i < Bk.slots.size := by rw [fl.2.2.1]; omega
      have c3 : Steps p.tables e below (s₁.setTop (entryFrame m #[.ref b, .int (Int32.ofNat o), .ref d, .int (Int32.ofNat q), .int (Int32.ofNat len)] 7)) (Tl.setTop (mkF m 12 #[.val (.ref b), .val (.int (Int32.ofNat (o + i))), .val (.ref d), .val (.int (Int32.ofNat (q + i))), .val (.int (Int32.ofNat len)), .val (.int (Int32.ofNat i)), z] [.int (Int32.ofNat (o + i)), .ref b])) := cl.trans (by
        refine XS.iload Xl.here hexec rfl (hb hbytes d3) rfl ?_
        refine XS.iload Xl.here hexec rfl (hb hbytes d5) rfl ?_
        refine XS.icmpNo Xl.here hexec rfl (hb hbytes d7) rfl (ii_ge_f (lt32 (by omega) (by omega))) ?_
        refine XS.aloadN Xl.here hexec rfl (hb hbytes d10) rfl rfl ?_
        refine XS.iloadN Xl.here hexec rfl (hb hbytes d11) rfl ?_
        exact Steps.refl _)
      have c4 : Steps p.tables e below (s₁.setTop (entryFrame m #[.ref b, .int (Int32.ofNat o), .ref d, .int (Int32.ofNat q), .int (Int32.ofNat len)] 7)) (Tl.setTop (mkF m 13 #[.val (.ref b), .val (.int (Int32.ofNat (o + i))), .val (.ref d), .val (.int (Int32.ofNat (q + i))), .val (.int (Int32.ofNat len)), .val (.int (Int32.ofNat i)), z] [.int (cv A (o + i))])) := c3.trans (by
        refine Xl.aget hexec hAl rfl (hA.get (i := o + i) (by omega)) rfl rfl (hb hbytes d12) ?_
        exact Steps.refl _)
      have c5 : Steps p.tables e below (s₁.setTop (entryFrame m #[.ref b, .int (Int32.ofNat o), .ref d, .int (Int32.ofNat q), .int (Int32.ofNat len)] 7)) (Tl.setTop (mkF m 15 #[.val (.ref b), .val (.int (Int32.ofNat (o + i))), .val (.ref d), .val (.int (Int32.ofNat (q + i))), .val (.int (Int32.ofNat len)), .val (.int (Int32.ofNat i)), .val (.int (cv A (o + i)))] [])) := c4.trans (by
        refine XS.istoreS Xl.here hexec rfl (hb hbytes d13) rfl rfl hz ?_
        exact Steps.refl _)
      have c6 : Steps p.tables e below (s₁.setTop (entryFrame m #[.ref b, .int (Int32.ofNat o), .ref d, .int (Int32.ofNat q), .int (Int32.ofNat len)] 7)) (Tl.setTop (mkF m 31 #[.val (.ref b), .val (.int (Int32.ofNat (o + i))), .val (.ref d), .val (.int (Int32.ofNat (q + i))), .val (.int (Int32.ofNat len)), .val (.int (Int32.ofNat i)), .val (.int (cv A (o + i)))] [.int (lo8 (cv A (o + i))), .int (Int32.ofNat (q + i)), .ref d])) := c5.trans (by
        refine XS.iload Xl.here hexec rfl (hb hbytes d15) rfl ?_
        refine sipushV Xl.here hexec rfl 255 (hb hbytes d17) (by decide) ?_
        refine XS.icmpYes Xl.here hexec rfl (pc0 := 20) rfl (hb hbytes d20) rfl (ii_le_t (hp i (by omega))) (by decide) rfl ?_
        refine XS.aloadN Xl.here hexec rfl (hb hbytes d26) rfl rfl ?_
        refine XS.iloadN Xl.here hexec rfl (hb hbytes d27) rfl ?_
        refine XS.iload Xl.here hexec rfl (hb hbytes d28) rfl ?_
        refine i2b Xl.here hexec rfl (hb hbytes d30) rfl ?_
        exact Steps.refl _)
      obtain ⟨T7, X7, p7, st7⟩ := Xl.aput hexec hBk rfl hlt rfl (fits_lo8 (cv A (o + i))) (g := (mkF m 31 #[.val (.ref b), .val (.int (Int32.ofNat (o + i))), .val (.ref d), .val (.int (Int32.ofNat (q + i))), .val (.int (Int32.ofNat len)), .val (.int (Int32.ofNat i)), .val (.int (cv A (o + i)))] [.int (lo8 (cv A (o + i))), .int (Int32.ofNat (q + i)), .ref d])) rfl (rest := []) rfl (hb hbytes d31)
      have c8 : Steps p.tables e below (s₁.setTop (entryFrame m #[.ref b, .int (Int32.ofNat o), .ref d, .int (Int32.ofNat q), .int (Int32.ofNat len)] 7)) (T7.setTop (mkF m 32 #[.val (.ref b), .val (.int (Int32.ofNat (o + i))), .val (.ref d), .val (.int (Int32.ofNat (q + i))), .val (.int (Int32.ofNat len)), .val (.int (Int32.ofNat i)), .val (.int (cv A (o + i)))] [])) := c6.trans (st7 _ (Steps.refl _))
      have c9 : Steps p.tables e below (s₁.setTop (entryFrame m #[.ref b, .int (Int32.ofNat o), .ref d, .int (Int32.ofNat q), .int (Int32.ofNat len)] 7)) (T7.setTop (mkF m 3 #[.val (.ref b), .val (.int (Int32.ofNat (o + i) + 1)), .val (.ref d), .val (.int (Int32.ofNat (q + i) + 1)), .val (.int (Int32.ofNat len)), .val (.int (Int32.ofNat i + 1)), .val (.int (cv A (o + i)))] [])) := c8.trans (by
        refine iincV X7.here hexec rfl 1 (hb hbytes d32) (by decide) rfl rfl ?_
        refine iincV X7.here hexec rfl 1 (hb hbytes d35) (by decide) rfl rfl ?_
        refine iincV X7.here hexec rfl 1 (hb hbytes d38) (by decide) rfl rfl ?_
        refine XS.goto X7.here hexec rfl (pc0 := 41) rfl (hb hbytes d41) (by decide) rfl ?_
        exact Steps.refl _)
      have c10 : Steps p.tables e below (s₁.setTop (entryFrame m #[.ref b, .int (Int32.ofNat o), .ref d, .int (Int32.ofNat q), .int (Int32.ofNat len)] 7)) (T7.setTop (mkF m 3 #[.val (.ref b), .val (.int (Int32.ofNat (o + (i + 1)))), .val (.ref d), .val (.int (Int32.ofNat (q + (i + 1)))), .val (.int (Int32.ofNat len)), .val (.int (Int32.ofNat (i + 1))), .val (.int (cv A (o + i)))] [])) := by
        have := c9
        rw [succ32, succ32, succ32] at this
        exact this
      exact ih (i + 1) (by omega) _ (Or.inr ⟨_, rfl, rfl⟩) T7 _ (by rw [copyLocs_step, ← List.append_assoc]; exact X7) (pl.trans p7) (fl.step (by omega) hlt (by simp)) c10
  obtain ⟨T9, B9, z9, X9, p9, f9, g9⟩ := loop len 0 (by omega) .unset (Or.inl rfl) s₁ B (by simpa [copyLocs] using X0) ⟨hB0.1, fun _ _ => rfl, rfl⟩ (Laid.zero _ _ _) c2
  have c11 : Steps p.tables e below (s₁.setTop (entryFrame m #[.ref b, .int (Int32.ofNat o), .ref d, .int (Int32.ofNat q), .int (Int32.ofNat len)] 7)) (T9.setTop (mkF m 46 #[.val (.ref b), .val (.int (Int32.ofNat (o + len))), .val (.ref d), .val (.int (Int32.ofNat (q + len))), .val (.int (Int32.ofNat len)), .val (.int (Int32.ofNat len)), z9] [.int (Int32.ofNat len)])) := g9.trans (by
    refine XS.iload X9.here hexec rfl (hb hbytes d3) rfl ?_
    refine XS.iload X9.here hexec rfl (hb hbytes d5) rfl ?_
    refine XS.icmpYes X9.here hexec rfl (pc0 := 7) rfl (hb hbytes d7) rfl (ii_ge_t (nlt32 (by omega) (Nat.le_refl _))) (by decide) rfl ?_
    refine XS.iload X9.here hexec rfl (hb hbytes d44) rfl ?_
    exact Steps.refl _)
  exact ⟨T9, some (.int (Int32.ofNat len)), _, _, _, X9, by simp, rfl, rfl, (fun h => by cases h), ⟨rfl, B9, p9.from hh0, f9⟩, fun fs hl => c11.trans (X9.ireturnOut hexec hret rfl (Or.inl rfl) (hb hbytes d46) hl)⟩
end Cmp5
namespace Cmp3
def yN : MethodName := ⟨"java/lang/StringUTF16", "compress", "([CII)[B"⟩
abbrev yB : ByteArray := jdk_52_method_16_code
theorem d0 : decode yB 0 = .ok (.iload_n 2, 1) := by decide +kernel
theorem d1 : decode yB 1 = .ok (.newarray .byte, 2) := by decide +kernel
theorem d3 : decode yB 3 = .ok (.astore_n 3, 1) := by decide +kernel
theorem d4 : decode yB 4 = .ok (.aload_n 0, 1) := by decide +kernel
theorem d5 : decode yB 5 = .ok (.iload_n 1, 1) := by decide +kernel
theorem d6 : decode yB 6 = .ok (.aload_n 3, 1) := by decide +kernel
theorem d7 : decode yB 7 = .ok (.iconst 0, 1) := by decide +kernel
theorem d8 : decode yB 8 = .ok (.iload_n 2, 1) := by decide +kernel
theorem d9 : decode yB 9 = .ok (.invokestatic 115, 3) := by decide +kernel
theorem d12 : decode yB 12 = .ok (.istore 4, 2) := by decide +kernel
theorem d14 : decode yB 14 = .ok (.iload 4, 2) := by decide +kernel
theorem d16 : decode yB 16 = .ok (.iload_n 2, 1) := by decide +kernel
theorem d17 : decode yB 17 = .ok (.if_icmp (.eq) 40, 3) := by decide +kernel
theorem d57 : decode yB 57 = .ok (.aload_n 3, 1) := by decide +kernel
theorem d58 : decode yB 58 = .ok (.areturn, 1) := by decide +kernel
def site : List Cond := [.arrayClass .byte, Cmp5.tab] ++ staticW U16 115 Cmp5.yN
def tab : Cond := tabOf yN yB 6 (some (.array .byte)) site
def P (b : Addr) (A : Cell) (o len : Nat) (args : Array Value) (s : State) : Prop := args = #[.ref b, .int (Int32.ofNat o), .int (Int32.ofNat len)] ∧ Ch b A s ∧ o + len ≤ A.slots.size ∧ len ≤ 536870912 ∧ ∀ i, i < len → ¬ 255 < cv A (o + i)
def E (b : Addr) (A : Cell) (o len : Nat) (r : Option Value) (s u : State) : Prop := NewArr .byte "[B" len (fun j => .int (lo8 (cv A (o + j)))) r s u ∧ u.heap.size = s.heap.size + 1
/-- no char of the range above 255: a new byte[] of their low bytes -/
theorem law (l : Launch) (b : Addr) (A : Cell) (o len : Nat) : Law l yN 3 3 1 18 yB 6 (some (.array .byte)) site (P b A o len) (E b A o len) [] 1 len := by
  refine Law.of_walk (plainFor_of_name (by decide +kernel)) (by decide +kernel) (by decide +kernel) (by decide) (fun _ _ h => by rw [h.1]; rfl) (fun _ U U' hal hh h => ⟨h.1, h.2.1.mv hal hh, h.2.2⟩) (fun r U U' V V' h1 hal h2 h => ⟨NewArr.mv r U U' V V' h1 hal h2 h.1, by rw [h1, h2]; exact h.2⟩) ?_
  intro p e s m args below meth c s₁ X0 hexec hbytes hml hret hlk hnm hown hh0 W hP
  obtain ⟨rfl, hA, l1, l2, hp⟩ := hP
  have a31 := hA.1.2.2.2
  have c1 : Steps p.tables e below (s₁.setTop (entryFrame m #[.ref b, .int (Int32.ofNat o), .int (Int32.ofNat len)] 6)) (s₁.setTop (mkF m 0 #[.val (.ref b), .val (.int (Int32.ofNat o)), .val (.int (Int32.ofNat len)), .unset, .unset, .unset] [])) := entry rfl
  have c2 : Steps p.tables e below (s₁.setTop (entryFrame m #[.ref b, .int (Int32.ofNat o), .int (Int32.ofNat len)] 6)) (s₁.setTop (mkF m 1 #[.val (.ref b), .val (.int (Int32.ofNat o)), .val (.int (Int32.ofNat len)), .unset, .unset, .unset] [.int (Int32.ofNat len)])) := c1.trans (by
    refine XS.iloadN X0.here hexec rfl (hb hbytes d0) rfl ?_
    exact Steps.refl _)
  obtain ⟨T3, B3, X3, ba3, bs3, bv3, bh3, bf3, st3⟩ := X0.anew hexec (atype := .byte) (wk W (.arrayClass .byte)) rfl (by show len * 1 ≤ _; omega) (by omega) (g := (mkF m 1 #[.val (.ref b), .val (.int (Int32.ofNat o)), .val (.int (Int32.ofNat len)), .unset, .unset, .unset] [.int (Int32.ofNat len)])) rfl (hb hbytes d1) (rest := []) rfl (Nat.le_refl _) (by show 0 + len ≤ len; omega)
  rw [hh0] at ba3 st3
  have kp3 : XT.Kept s T3 := (XT.Kept.of_eq hh0).push bh3
  have hA3 := hA.keep X3.warmed.alike (kp3 _ _ hA.1.1)
  have hne : b ≠ s.heap.size := hA.1.ne
  have c4 : Steps p.tables e below (s₁.setTop (entryFrame m #[.ref b, .int (Int32.ofNat o), .int (Int32.ofNat len)] 6)) (T3.setTop (mkF m 3 #[.val (.ref b), .val (.int (Int32.ofNat o)), .val (.int (Int32.ofNat len)), .unset, .unset, .unset] [.ref s.heap.size])) := c2.trans (st3 _ (Steps.refl _))
  have c5 : Steps p.tables e below (s₁.setTop (entryFrame m #[.ref b, .int (Int32.ofNat o), .int (Int32.ofNat len)] 6)) (T3.setTop (mkF m 9 #[.val (.ref b), .val (.int (Int32.ofNat o)), .val (.int (Int32.ofNat len)), .val (.ref s.heap.size), .unset, .unset] [.int (Int32.ofNat len), .int 0, .ref s.heap.size, .int (Int32.ofNat o), .ref b])) := c4.trans (by
    refine XS.astoreN X3.here hexec rfl (hb hbytes d3) rfl rfl rfl ?_
    refine XS.aloadN X3.here hexec rfl (hb hbytes d4) rfl rfl ?_
    refine XS.iloadN X3.here hexec rfl (hb hbytes d5) rfl ?_
    refine XS.aloadN X3.here hexec rfl (hb hbytes d6) rfl rfl ?_
    refine iconstV X3.here hexec rfl 0 (hb hbytes d7) (by decide) ?_
    refine XS.iloadN X3.here hexec rfl (hb hbytes d8) rfl ?_
    exact Steps.refl _)
  obtain ⟨v6, T6, X6, E6, g6⟩ := X3.callS hexec (Cmp5.law l b A s.heap.size B3 o 0 len) hown (wks W (staticW U16 115 Cmp5.yN)) (wk W Cmp5.tab) (W := 0) (Nat.le_of_ble_eq_true rfl) (Nat.le_of_ble_eq_true rfl) (Nat.le_refl _) (by show 0 + len + 0 ≤ len; omega) (g := (mkF m 9 #[.val (.ref b), .val (.int (Int32.ofNat o)), .val (.int (Int32.ofNat len)), .val (.ref s.heap.size), .unset, .unset] [.int (Int32.ofNat len), .int (Int32.ofNat 0), .ref s.heap.size, .int (Int32.ofNat o), .ref b])) rfl (by rw [hml]; rfl) c5 (argsL := [.ref b, .int (Int32.ofNat o), .ref s.heap.size, .int (Int32.ofNat 0), .int (Int32.ofNat len)]) (rest := []) rfl rfl (by show 2 * 0 + 0 ≤ _; decide) (hb hbytes d9) (⟨rfl, hA3, ba3, hne, l1, by rw [bs3]; simp, hp⟩)
  obtain ⟨rfl, B6, p6, f6⟩ := E6
  have c7 : Steps p.tables e below (s₁.setTop (entryFrame m #[.ref b, .int (Int32.ofNat o), .int (Int32.ofNat len)] 6)) (T6.setTop (mkF m 12 #[.val (.ref b), .val (.int (Int32.ofNat o)), .val (.int (Int32.ofNat len)), .val (.ref s.heap.size), .unset, .unset] [.int (Int32.ofNat len)])) := g6
  have c8 : Steps p.tables e below (s₁.setTop (entryFrame m #[.ref b, .int (Int32.ofNat o), .int (Int32.ofNat len)] 6)) (T6.setTop (mkF m 58 #[.val (.ref b), .val (.int (Int32.ofNat o)), .val (.int (Int32.ofNat len)), .val (.ref s.heap.size), .val (.int (Int32.ofNat len)), .unset] [.ref s.heap.size])) := c7.trans (by
    refine XS.istore X6.here hexec rfl (hb hbytes d12) rfl rfl ?_
    refine XS.iload X6.here hexec rfl (hb hbytes d14) rfl ?_
    refine XS.iloadN X6.here hexec rfl (hb hbytes d16) rfl ?_
    refine XS.icmpYes X6.here hexec rfl (pc0 := 17) rfl (hb hbytes d17) rfl (ii_eq_t rfl) (by decide) rfl ?_
    refine XS.aloadN X6.here hexec rfl (hb hbytes d57) rfl rfl ?_
    exact Steps.refl _)
  have X8 := X6.wide (L' := []) (cells' := 1) (slots' := len) (fun x hx hlt => by
    simp only [List.nil_append, copyLocs, List.mem_map, List.mem_range] at hx
    obtain ⟨i, -, rfl⟩ := hx
    exact absurd hlt (Nat.lt_irrefl _)) (Nat.le_refl _) (by omega)
  exact ⟨T6, some (.ref s.heap.size), _, _, _, X8, rfl, rfl, rfl, (fun h => by cases h), ⟨⟨rfl, B6, ba3.like (X3.warmed.alike.symm.trans X6.warmed.alike) p6.1 f6.1 f6.2.1 f6.2.2.1, f6.2.1.trans bv3, by rw [X6.warmed.alike.findClass, f6.1]; exact bf3, by rw [f6.2.2.1, bs3]; simp, fun j hj => by rw [f6.2.2.2 j, if_pos (by omega)]; rfl, kp3.put p6 (Nat.le_refl _)⟩, by rw [p6.2.2, bh3, hh0]; simp⟩, fun fs hl => c8.trans (X8.areturnOut hexec rfl hret rfl (hb hbytes d58) hl)⟩
end Cmp3
namespace CodL
def yN : MethodName := ⟨"java/lang/StringUTF16", "coderFromArrayLen", "([BI)B"⟩
abbrev yB : ByteArray := jdk_52_method_15_code
theorem d0 : decode yB 0 = .ok (.iload_n 1, 1) := by decide +kernel
theorem d1 : decode yB 1 = .ok (.aload_n 0, 1) := by decide +kernel
theorem d2 : decode yB 2 = .ok (.arraylength, 1) := by decide +kernel
theorem d3 : decode yB 3 = .ok (.isub, 1) := by decide +kernel
theorem d4 : decode yB 4 = .ok (.bipush 31, 2) := by decide +kernel
theorem d6 : decode yB 6 = .ok (.iushr, 1) := by decide +kernel
theorem d7 : decode yB 7 = .ok (.i2b, 1) := by decide +kernel
theorem d8 : decode yB 8 = .ok (.ireturn, 1) := by decide +kernel
def site : List Cond := []
def tab : Cond := tabOf yN yB 2 (some .byte) site
def P (d : Addr) (B : Cell) (args : Array Value) (s : State) : Prop := args = #[.ref d, .int (Int32.ofNat B.slots.size)] ∧ Arr .byte d B s
def E (r : Option Value) (s u : State) : Prop := XT.PureE (some (.int 0)) r s u
/-- an array as long as the number of chars: LATIN1 -/
theorem law (l : Launch) (d : Addr) (B : Cell) : Law l yN 2 2 0 0 yB 2 (some .byte) site (P d B) E [] 0 0 := by
  refine Law.of_walk (plainFor_of_name (by decide +kernel)) (by decide +kernel) (by decide +kernel) (by decide) (fun _ _ h => by rw [h.1]; rfl) (fun _ U U' hal hh h => ⟨h.1, h.2.mv hal hh⟩) (fun r U U' V V' h1 hal h2 h => XT.PureE.mv r U U' V V' h1 hal h2 h) ?_
  intro p e s m args below meth c s₁ X0 hexec hbytes hml hret hlk hnm hown hh0 W hP
  obtain ⟨rfl, hB⟩ := hP
  have hB0 := hB.mv X0.warmed.alike hh0
  have c1 : Steps p.tables e below (s₁.setTop (entryFrame m #[.ref d, .int (Int32.ofNat B.slots.size)] 2)) (s₁.setTop (mkF m 0 #[.val (.ref d), .val (.int (Int32.ofNat B.slots.size))] [])) := entry rfl
  have c2 : Steps p.tables e below (s₁.setTop (entryFrame m #[.ref d, .int (Int32.ofNat B.slots.size)] 2)) (s₁.setTop (mkF m 2 #[.val (.ref d), .val (.int (Int32.ofNat B.slots.size))] [.ref d, .int (Int32.ofNat B.slots.size)])) := c1.trans (by
    refine XS.iloadN X0.here hexec rfl (hb hbytes d0) rfl ?_
    refine XS.aloadN X0.here hexec rfl (hb hbytes d1) rfl rfl ?_
    exact Steps.refl _)
  have c3 : Steps p.tables e below (s₁.setTop (entryFrame m #[.ref d, .int (Int32.ofNat B.slots.size)] 2)) (s₁.setTop (mkF m 8 #[.val (.ref d), .val (.int (Int32.ofNat B.slots.size))] [.int (lo8 (ushr (Int32.ofNat B.slots.size - Int32.ofNat B.slots.size) 31))])) := c2.trans (by
    refine X0.alen hexec hB0 rfl rfl (hb hbytes d2) ?_
    refine XS.isub X0.here hexec rfl (hb hbytes d3) rfl ?_
    refine bipushV X0.here hexec rfl 31 (hb hbytes d4) (by decide) ?_
    refine iushr X0.here hexec rfl (hb hbytes d6) rfl ?_
    refine i2b X0.here hexec rfl (hb hbytes d7) rfl ?_
    exact Steps.refl _)
  have e0 : lo8 (ushr (Int32.ofNat B.slots.size - Int32.ofNat B.slots.size) 31) = 0 := by rw [Int32.sub_self]; decide
  rw [e0] at c3
  exact ⟨s₁, some (.int 0), _, _, _, X0, rfl, rfl, rfl, (fun h => by cases h), ⟨rfl, hh0⟩, fun fs hl => c3.trans (X0.ireturnOut hexec hret rfl (Or.inr (Or.inr (Or.inl rfl))) (hb hbytes d8) hl)⟩
end CodL
/-- the String at a is Latin-1 over a new byte[] (the heap's one new cell): the low bytes of the len chars of A from o on; every cell but a is kept -/
def Got (a : Addr) (D : Cell) (fV fC : Field) (A : Cell) (o len : Nat) (r : Option Value) (s u : State) : Prop := r = none ∧ ∃ D' V : Cell, Blank "java/lang/String" a D' u ∧ Same D D' [fV.slot, fC.slot] ∧ D'.slots[fV.slot]? = some (.ref s.heap.size) ∧ D'.slots[fC.slot]? = some (.int 0) ∧ Arr .byte s.heap.size V u ∧ V.vm = .none ∧ u.vm.findClass "[B" = some V.cls ∧ V.slots.size = len ∧ (∀ j, j < len → V.slots[j]? = some (.int (lo8 (cv A (o + j))))) ∧ (∀ (y : Addr) (c : Cell), y ≠ a → s.heap[y]? = some c → u.heap[y]? = some c) ∧ u.heap.size = s.heap.size + 1
theorem Got.mv {a : Addr} {D A : Cell} {fV fC : Field} {o len : Nat} : ∀ r (U U' V V' : State), U'.heap = U.heap → V.vm.Alike V'.vm → V'.heap = V.heap → Got a D fV fC A o len r U V → Got a D fV fC A o len r U' V' :=
  fun r U U' V V' h1 hal h2 ⟨e0, D', X, a1, a2, a3, a4, a5, a6, a7, a8, a9, a10, a11⟩ => ⟨e0, D', X, a1.mv hal h2, a2, by rw [h1]; exact a3, a4, by rw [h1]; exact a5.mv hal h2, a6, by rw [hal.findClass]; exact a7, a8, a9, by rw [h1, h2]; exact a10, by rw [h1, h2]; exact a11⟩
namespace New4
def yN : MethodName := ⟨"java/lang/String", "<init>", "([CIILjava/lang/Void;)V"⟩
abbrev yB : ByteArray := jdk_42_method_149_code
theorem d0 : decode yB 0 = .ok (.aload_n 0, 1) := by decide +kernel
theorem d1 : decode yB 1 = .ok (.invokespecial 1, 3) := by decide +kernel
theorem d4 : decode yB 4 = .ok (.iload_n 3, 1) := by decide +kernel
theorem d5 : decode yB 5 = .ok (.ifCond (.ne) 22, 3) := by decide +kernel
theorem d27 : decode yB 27 = .ok (.getstatic 38, 3) := by decide +kernel
theorem d30 : decode yB 30 = .ok (.ifCond (.eq) 28, 3) := by decide +kernel
theorem d33 : decode yB 33 = .ok (.aload_n 1, 1) := by decide +kernel
theorem d34 : decode yB 34 = .ok (.iload_n 2, 1) := by decide +kernel
theorem d35 : decode yB 35 = .ok (.iload_n 3, 1) := by decide +kernel
theorem d36 : decode yB 36 = .ok (.invokestatic 177, 3) := by decide +kernel
theorem d39 : decode yB 39 = .ok (.astore 5, 2) := by decide +kernel
theorem d41 : decode yB 41 = .ok (.aload_n 0, 1) := by decide +kernel
theorem d42 : decode yB 42 = .ok (.aload 5, 2) := by decide +kernel
theorem d44 : decode yB 44 = .ok (.iload_n 3, 1) := by decide +kernel
theorem d45 : decode yB 45 = .ok (.invokestatic 47, 3) := by decide +kernel
theorem d48 : decode yB 48 = .ok (.putfield 15, 3) := by decide +kernel
theorem d51 : decode yB 51 = .ok (.aload_n 0, 1) := by decide +kernel
theorem d52 : decode yB 52 = .ok (.aload 5, 2) := by decide +kernel
theorem d54 : decode yB 54 = .ok (.putfield 9, 3) := by decide +kernel
theorem d57 : decode yB 57 = .ok (.return_, 1) := by decide +kernel
def site : List Cond := [.fieldLink "java/lang/String" 38 "java/lang/String" "COMPACT_STRINGS" "Z", Cmp3.tab, CodL.tab, .laysFinal "java/lang/String" "java/lang/String" "value" "[B", .fieldLink "java/lang/String" 9 "java/lang/String" "value" "[B", .laysFinal "java/lang/String" "java/lang/String" "coder" "B", .fieldLink "java/lang/String" 15 "java/lang/String" "coder" "B"] ++ objW "java/lang/String" 1 ++ staticW "java/lang/String" 177 Cmp3.yN ++ staticW "java/lang/String" 47 CodL.yN
def tab : Cond := tabOf yN yB 6 none site
def P (a : Addr) (D : Cell) (fV fC : Field) (b : Addr) (A : Cell) (z : Int32) (o len : Nat) (args : Array Value) (s : State) : Prop := args = #[.ref a, .ref b, .int (Int32.ofNat o), .int (Int32.ofNat len), .null] ∧ Blank "java/lang/String" a D s ∧ Found "java/lang/String" "value" "[B" fV s ∧ Found "java/lang/String" "coder" "B" fC s ∧ Ch b A s ∧ StaticIs s "java/lang/String" "COMPACT_STRINGS" "Z" (.int z) ∧ ¬ z = 0 ∧ 0 < len ∧ o + len ≤ A.slots.size ∧ len ≤ 536870912 ∧ ∀ i, i < len → ¬ 255 < cv A (o + i)
def E (a : Addr) (D : Cell) (fV fC : Field) (A : Cell) (o len : Nat) (r : Option Value) (s u : State) : Prop := Got a D fV fC A o len r s u
/-- len > 0, no char of the range above 255: a Latin-1 String of their low bytes -/
theorem law (l : Launch) (a : Addr) (D : Cell) (fV fC : Field) (b : Addr) (A : Cell) (z : Int32) (o len : Nat) : Law l yN 5 4 2 35 yB 6 none site (P a D fV fC b A z o len) (E a D fV fC A o len) [⟨a, fC.slot⟩, ⟨a, fV.slot⟩] 1 len := by
  refine Law.of_walk (plainFor_of_name (by decide +kernel)) (by decide +kernel) (by decide +kernel) (by decide) (fun _ _ h => by rw [h.1]; rfl) (fun _ U U' hal hh h => ⟨h.1, h.2.1.mv hal hh, h.2.2.1.al hal, h.2.2.2.1.al hal, h.2.2.2.2.1.mv hal hh, h.2.2.2.2.2.1.there hal hh, h.2.2.2.2.2.2⟩) (fun r U U' V V' h1 hal h2 h => Got.mv r U U' V V' h1 hal h2 h) ?_
  intro p e s m args below meth c s₁ X0 hexec hbytes hml hret hlk hnm hown hh0 W hP
  obtain ⟨rfl, hB, f1, f2, hA, s1, hz, l0, l1, l2, hp⟩ := hP
  have a31 := hA.1.2.2.2
  have c1 : Steps p.tables e below (s₁.setTop (entryFrame m #[.ref a, .ref b, .int (Int32.ofNat o), .int (Int32.ofNat len), .null] 6)) (s₁.setTop (mkF m 0 #[.val (.ref a), .val (.ref b), .val (.int (Int32.ofNat o)), .val (.int (Int32.ofNat len)), .val .null, .unset] [])) := entry rfl
  have c2 : Steps p.tables e below (s₁.setTop (entryFrame m #[.ref a, .ref b, .int (Int32.ofNat o), .int (Int32.ofNat len), .null] 6)) (s₁.setTop (mkF m 1 #[.val (.ref a), .val (.ref b), .val (.int (Int32.ofNat o)), .val (.int (Int32.ofNat len)), .val .null, .unset] [.ref a])) := c1.trans (by
    refine XS.aloadN X0.here hexec rfl (hb hbytes d0) rfl rfl ?_
    exact Steps.refl _)
  obtain ⟨T3, X3, q3, st3⟩ := X0.oinit hexec hown (wks W (objW "java/lang/String" 1)) (g := (mkF m 1 #[.val (.ref a), .val (.ref b), .val (.int (Int32.ofNat o)), .val (.int (Int32.ofNat len)), .val .null, .unset] [.ref a])) rfl (by rw [hml]; rfl) (rest := []) rfl (hb hbytes d1) (W := 0) (by show 2 * 0 + 0 ≤ _; decide) (Nat.le_of_ble_eq_true rfl) (Nat.le_of_ble_eq_true rfl)
  have hh3 := q3.trans hh0
  have c4 : Steps p.tables e below (s₁.setTop (entryFrame m #[.ref a, .ref b, .int (Int32.ofNat o), .int (Int32.ofNat len), .null] 6)) (T3.setTop (mkF m 27 #[.val (.ref a), .val (.ref b), .val (.int (Int32.ofNat o)), .val (.int (Int32.ofNat len)), .val .null, .unset] [])) := (c2.trans (st3 _ (Steps.refl _))).trans (by
    refine XS.iloadN X3.here hexec rfl (hb hbytes d4) rfl ?_
    refine XS.ifYes X3.here hexec rfl (pc0 := 5) rfl (hb hbytes d5) rfl (i0_ne_t (nz32 (by omega) l0)) (by decide) rfl ?_
    exact Steps.refl _)
  obtain ⟨T5, X5, q5, st5⟩ := X3.sget hexec hown (wk W (.fieldLink "java/lang/String" 38 "java/lang/String" "COMPACT_STRINGS" "Z")) s1 (fun _ _ h => by rw [hh3]; exact h) (g := (mkF m 27 #[.val (.ref a), .val (.ref b), .val (.int (Int32.ofNat o)), .val (.int (Int32.ofNat len)), .val .null, .unset] [])) rfl (hb hbytes d27)
  have hh5 := q5.trans hh3
  have c6 : Steps p.tables e below (s₁.setTop (entryFrame m #[.ref a, .ref b, .int (Int32.ofNat o), .int (Int32.ofNat len), .null] 6)) (T5.setTop (mkF m 30 #[.val (.ref a), .val (.ref b), .val (.int (Int32.ofNat o)), .val (.int (Int32.ofNat len)), .val .null, .unset] [.int z])) := c4.trans (st5 _ (Steps.refl _))
  have c7 : Steps p.tables e below (s₁.setTop (entryFrame m #[.ref a, .ref b, .int (Int32.ofNat o), .int (Int32.ofNat len), .null] 6)) (T5.setTop (mkF m 36 #[.val (.ref a), .val (.ref b), .val (.int (Int32.ofNat o)), .val (.int (Int32.ofNat len)), .val .null, .unset] [.int (Int32.ofNat len), .int (Int32.ofNat o), .ref b])) := c6.trans (by
    refine XS.ifNo X5.here hexec rfl (hb hbytes d30) rfl (i0_eq_f hz) ?_
    refine XS.aloadN X5.here hexec rfl (hb hbytes d33) rfl rfl ?_
    refine XS.iloadN X5.here hexec rfl (hb hbytes d34) rfl ?_
    refine XS.iloadN X5.here hexec rfl (hb hbytes d35) rfl ?_
    exact Steps.refl _)
  obtain ⟨v8, T8, X8, E8, g8⟩ := X5.callS hexec (Cmp3.law l b A o len) hown (wks W (staticW "java/lang/String" 177 Cmp3.yN)) (wk W Cmp3.tab) (W := 0) (Nat.le_of_ble_eq_true rfl) (Nat.le_of_ble_eq_true rfl) (Nat.le_refl _) (by show 0 + len ≤ len; omega) (g := (mkF m 36 #[.val (.ref a), .val (.ref b), .val (.int (Int32.ofNat o)), .val (.int (Int32.ofNat len)), .val .null, .unset] [.int (Int32.ofNat len), .int (Int32.ofNat o), .ref b])) rfl (by rw [hml]; rfl) c7 (argsL := [.ref b, .int (Int32.ofNat o), .int (Int32.ofNat len)]) (rest := []) rfl rfl (by show 2 * 0 + 0 ≤ _; decide) (hb hbytes d36) (⟨rfl, hA.mv X5.warmed.alike hh5, l1, l2, hp⟩)
  obtain ⟨e8, z8⟩ := E8
  obtain ⟨rfl, N, n1, n2, n3, n4, n5, n6⟩ := NewArr.mv _ T5 s _ _ hh5.symm (Vm.Alike.refl _) rfl e8
  rw [hh5] at z8
  have hB1 := hB.keep X8.warmed.alike (n6 _ _ hB.1)
  have hne : s.heap.size ≠ a := (Nat.ne_of_lt (Array.getElem?_eq_some_iff.mp hB.1).1).symm
  have c9 : Steps p.tables e below (s₁.setTop (entryFrame m #[.ref a, .ref b, .int (Int32.ofNat o), .int (Int32.ofNat len), .null] 6)) (T8.setTop (mkF m 39 #[.val (.ref a), .val (.ref b), .val (.int (Int32.ofNat o)), .val (.int (Int32.ofNat len)), .val .null, .unset] [.ref s.heap.size])) := g8
  have c10 : Steps p.tables e below (s₁.setTop (entryFrame m #[.ref a, .ref b, .int (Int32.ofNat o), .int (Int32.ofNat len), .null] 6)) (T8.setTop (mkF m 45 #[.val (.ref a), .val (.ref b), .val (.int (Int32.ofNat o)), .val (.int (Int32.ofNat len)), .val .null, .val (.ref s.heap.size)] [.int (Int32.ofNat N.slots.size), .ref s.heap.size, .ref a])) := by
    have hc : Steps p.tables e below (s₁.setTop (entryFrame m #[.ref a, .ref b, .int (Int32.ofNat o), .int (Int32.ofNat len), .null] 6)) (T8.setTop (mkF m 45 #[.val (.ref a), .val (.ref b), .val (.int (Int32.ofNat o)), .val (.int (Int32.ofNat len)), .val .null, .val (.ref s.heap.size)] [.int (Int32.ofNat len), .ref s.heap.size, .ref a])) := c9.trans (by
      refine XS.astore X8.here hexec rfl (hb hbytes d39) rfl rfl rfl ?_
      refine XS.aloadN X8.here hexec rfl (hb hbytes d41) rfl rfl ?_
      refine XS.aload X8.here hexec rfl (hb hbytes d42) rfl rfl ?_
      refine XS.iloadN X8.here hexec rfl (hb hbytes d44) rfl ?_
      exact Steps.refl _)
    rw [n4]; exact hc
  obtain ⟨v11, T11, X11, E11, g11⟩ := X8.callS hexec (CodL.law l s.heap.size N) hown (wks W (staticW "java/lang/String" 47 CodL.yN)) (wk W CodL.tab) (W := 1) (Nat.le_of_ble_eq_true rfl) (Nat.le_of_ble_eq_true rfl) (Nat.le_refl _) (by show 0 + len + 0 ≤ len; omega) (g := (mkF m 45 #[.val (.ref a), .val (.ref b), .val (.int (Int32.ofNat o)), .val (.int (Int32.ofNat len)), .val .null, .val (.ref s.heap.size)] [.int (Int32.ofNat N.slots.size), .ref s.heap.size, .ref a])) rfl (by rw [hml]; rfl) c10 (argsL := [.ref s.heap.size, .int (Int32.ofNat N.slots.size)]) (rest := [.ref a]) rfl rfl (by show 2 * 0 + (1 + 0) ≤ _; decide) (hb hbytes d45) (⟨rfl, n1⟩)
  obtain ⟨rfl, q11⟩ := E11
  have hB11 := hB1.mv (X8.warmed.alike.symm.trans X11.warmed.alike) q11
  have c12 : Steps p.tables e below (s₁.setTop (entryFrame m #[.ref a, .ref b, .int (Int32.ofNat o), .int (Int32.ofNat len), .null] 6)) (T11.setTop (mkF m 48 #[.val (.ref a), .val (.ref b), .val (.int (Int32.ofNat o)), .val (.int (Int32.ofNat len)), .val .null, .val (.ref s.heap.size)] [.int 0, .ref a])) := g11
  obtain ⟨T13, X13, p13, bl13, sl13, st13⟩ := X11.finit hexec hown (wk W (.fieldLink "java/lang/String" 15 "java/lang/String" "coder" "B")) (Or.inr ⟨_, (wk W (.laysFinal "java/lang/String" "java/lang/String" "coder" "B"))⟩) (Or.inl ⟨rfl, hnm⟩) f2 (Or.inl rfl) hB11 (t := .byte) (by decide +kernel) rfl (g := (mkF m 48 #[.val (.ref a), .val (.ref b), .val (.int (Int32.ofNat o)), .val (.int (Int32.ofNat len)), .val .null, .val (.ref s.heap.size)] [.int 0, .ref a])) rfl (rest := []) rfl (hb hbytes d48)
  have c14 : Steps p.tables e below (s₁.setTop (entryFrame m #[.ref a, .ref b, .int (Int32.ofNat o), .int (Int32.ofNat len), .null] 6)) (T13.setTop (mkF m 54 #[.val (.ref a), .val (.ref b), .val (.int (Int32.ofNat o)), .val (.int (Int32.ofNat len)), .val .null, .val (.ref s.heap.size)] [.ref s.heap.size, .ref a])) := (c12.trans (st13 _ (Steps.refl _))).trans (by
    refine XS.aloadN X13.here hexec rfl (hb hbytes d51) rfl rfl ?_
    refine XS.aload X13.here hexec rfl (hb hbytes d52) rfl rfl ?_
    exact Steps.refl _)
  obtain ⟨T15, X15, p15, bl15, sl15, st15⟩ := X13.finit hexec hown (wk W (.fieldLink "java/lang/String" 9 "java/lang/String" "value" "[B")) (Or.inr ⟨_, (wk W (.laysFinal "java/lang/String" "java/lang/String" "value" "[B"))⟩) (Or.inl ⟨rfl, hnm⟩) f1 (Or.inl rfl) bl13 (t := (.array .byte)) (by decide +kernel) rfl (g := (mkF m 54 #[.val (.ref a), .val (.ref b), .val (.int (Int32.ofNat o)), .val (.int (Int32.ofNat len)), .val .null, .val (.ref s.heap.size)] [.ref s.heap.size, .ref a])) rfl (rest := []) rfl (hb hbytes d54)
  have c16 : Steps p.tables e below (s₁.setTop (entryFrame m #[.ref a, .ref b, .int (Int32.ofNat o), .int (Int32.ofNat len), .null] 6)) (T15.setTop (mkF m 57 #[.val (.ref a), .val (.ref b), .val (.int (Int32.ofNat o)), .val (.int (Int32.ofNat len)), .val .null, .val (.ref s.heap.size)] [])) := c14.trans (st15 _ (Steps.refl _))
  have ap := apart (Or.inr ⟨_, (wk W (.laysFinal "java/lang/String" "java/lang/String" "value" "[B"))⟩) (Or.inr ⟨_, (wk W (.laysFinal "java/lang/String" "java/lang/String" "coder" "B"))⟩) f1 f2 (t₁ := .array .byte) (t₂ := .byte) (by decide +kernel) (by decide +kernel) (by decide)
  have al := X8.warmed.alike.symm.trans X15.warmed.alike
  have n7 : T11.heap[s.heap.size]? = some N := by rw [q11]; exact n1.1
  exact ⟨T15, none, _, _, _, X15, by simp, rfl, by omega, (fun _ => rfl), ⟨rfl, _, N, bl15, ((Same.refl D _).set _ (by simp)).set _ (by simp), sl15, (Cell.slots_setSlot_ne _ ap).trans sl13, n1.keep al (p15.other hne (p13.other hne n7)), n2, by rw [al.findClass]; exact n3, n4, n5, fun y c h1 h2 => p15.other h1 (p13.other h1 (by rw [q11]; exact n6 y c h2)), by rw [p15.2.2, p13.2.2, q11]; exact z8⟩, fun fs hl => c16.trans (X15.returnOut hexec hret (hb hbytes d57) hl)⟩
end New4
namespace New1
def yN : MethodName := ⟨"java/lang/String", "<init>", "([C)V"⟩
abbrev yB : ByteArray := jdk_42_method_3_code
theorem d0 : decode yB 0 = .ok (.aload_n 0, 1) := by decide +kernel
theorem d1 : decode yB 1 = .ok (.aload_n 1, 1) := by decide +kernel
theorem d2 : decode yB 2 = .ok (.iconst 0, 1) := by decide +kernel
theorem d3 : decode yB 3 = .ok (.aload_n 1, 1) := by decide +kernel
theorem d4 : decode yB 4 = .ok (.arraylength, 1) := by decide +kernel
theorem d5 : decode yB 5 = .ok (.aconst_null, 1) := by decide +kernel
theorem d6 : decode yB 6 = .ok (.invokespecial 27, 3) := by decide +kernel
theorem d9 : decode yB 9 = .ok (.return_, 1) := by decide +kernel
def site : List Cond := [New4.tab] ++ initW "java/lang/String" 27 New4.yN
def tab : Cond := tabOf yN yB 2 none site
def P (a : Addr) (D : Cell) (fV fC : Field) (b : Addr) (A : Cell) (z : Int32) (args : Array Value) (s : State) : Prop := args = #[.ref a, .ref b] ∧ Blank "java/lang/String" a D s ∧ Found "java/lang/String" "value" "[B" fV s ∧ Found "java/lang/String" "coder" "B" fC s ∧ Ch b A s ∧ StaticIs s "java/lang/String" "COMPACT_STRINGS" "Z" (.int z) ∧ ¬ z = 0 ∧ 0 < A.slots.size ∧ A.slots.size ≤ 536870912 ∧ ∀ i, i < A.slots.size → ¬ 255 < cv A i
def E (a : Addr) (D : Cell) (fV fC : Field) (A : Cell) (r : Option Value) (s u : State) : Prop := Got a D fV fC A 0 A.slots.size r s u
/-- new String(chars), not empty, no char above 255: a Latin-1 String of their low bytes -/
theorem law (l : Launch) (a : Addr) (D : Cell) (fV fC : Field) (b : Addr) (A : Cell) (z : Int32) : Law l yN 2 1 3 52 yB 2 none site (P a D fV fC b A z) (E a D fV fC A) [⟨a, fC.slot⟩, ⟨a, fV.slot⟩] 1 A.slots.size := by
  refine Law.of_walk (plainFor_of_name (by decide +kernel)) (by decide +kernel) (by decide +kernel) (by decide) (fun _ _ h => by rw [h.1]; rfl) (fun _ U U' hal hh h => ⟨h.1, h.2.1.mv hal hh, h.2.2.1.al hal, h.2.2.2.1.al hal, h.2.2.2.2.1.mv hal hh, h.2.2.2.2.2.1.there hal hh, h.2.2.2.2.2.2⟩) (fun r U U' V V' h1 hal h2 h => Got.mv r U U' V V' h1 hal h2 h) ?_
  intro p e s m args below meth c s₁ X0 hexec hbytes hml hret hlk hnm hown hh0 W hP
  obtain ⟨rfl, hB, f1, f2, hA, s1, hz, l0, l2, hp⟩ := hP
  have c1 : Steps p.tables e below (s₁.setTop (entryFrame m #[.ref a, .ref b] 2)) (s₁.setTop (mkF m 0 #[.val (.ref a), .val (.ref b)] [])) := entry rfl
  have c2 : Steps p.tables e below (s₁.setTop (entryFrame m #[.ref a, .ref b] 2)) (s₁.setTop (mkF m 6 #[.val (.ref a), .val (.ref b)] [.null, .int (Int32.ofNat A.slots.size), .int 0, .ref b, .ref a])) := c1.trans (by
    refine XS.aloadN X0.here hexec rfl (hb hbytes d0) rfl rfl ?_
    refine XS.aloadN X0.here hexec rfl (hb hbytes d1) rfl rfl ?_
    refine iconstV X0.here hexec rfl 0 (hb hbytes d2) (by decide) ?_
    refine XS.aloadN X0.here hexec rfl (hb hbytes d3) rfl rfl ?_
    refine X0.alen hexec (hA.1.mv X0.warmed.alike hh0) rfl rfl (hb hbytes d4) ?_
    refine XS.aconstNull X0.here hexec rfl (hb hbytes d5) ?_
    exact Steps.refl _)
  obtain ⟨v3, T3, X3, E3, g3⟩ := X0.callN hexec (New4.law l a D fV fC b A z 0 A.slots.size) rfl hown (wks W (initW "java/lang/String" 27 New4.yN)) (W New4.tab (by simp only [site, List.mem_cons, List.mem_append, true_or, or_true])) (W := 0) (Nat.le_of_ble_eq_true rfl) (Nat.le_of_ble_eq_true rfl) (Nat.le_refl _) (by show 0 + A.slots.size ≤ A.slots.size; omega) (g := (mkF m 6 #[.val (.ref a), .val (.ref b)] [.null, .int (Int32.ofNat A.slots.size), .int (Int32.ofNat 0), .ref b, .ref a])) rfl (by rw [hml]; rfl) c2 (argsL := [.ref b, .int (Int32.ofNat 0), .int (Int32.ofNat A.slots.size), .null]) (rest := []) rfl rfl (by show 2 * 0 + 0 ≤ _; decide) (hb hbytes d6) (⟨rfl, hB.mv X0.warmed.alike hh0, f1.al X0.warmed.alike, f2.al X0.warmed.alike, hA.mv X0.warmed.alike hh0, s1.there X0.warmed.alike hh0, hz, l0, by omega, l2, fun i hi => by rw [Nat.zero_add]; exact hp i hi⟩)
  have e0 := Got.mv _ s₁ s _ _ hh0.symm (Vm.Alike.refl _) rfl E3
  obtain rfl := e0.1
  have c4 : Steps p.tables e below (s₁.setTop (entryFrame m #[.ref a, .ref b] 2)) (T3.setTop (mkF m 9 #[.val (.ref a), .val (.ref b)] [])) := g3
  exact ⟨T3, none, _, _, _, X3, by simp, rfl, by omega, (fun _ => rfl), e0, fun fs hl => c4.trans (X3.returnOut hexec hret (hb hbytes d9) hl)⟩
theorem pays {l : Launch} {R : Room} {p : Program} {e : Env} {below : List Frame} {s : State} {sargs : Array Value} {len W : Nat} (a : Addr) (D : Cell) (fV fC : Field) (b : Addr) (A : Cell) (z : Int32) (htab : tab.before sargs s = true) (hfr : 4 ≤ R.frames) (hlo : W + 65 ≤ R.locals) :
    Back l R p e below s sargs yN len W (fun A₁ a₁ => A₁.cells + 1 ≤ R.cells ∧ A₁.slots + A.slots.size ≤ R.slots ∧ P a D fV fC b A z a₁ A₁.U) (fun A₁ _ v₁ B₁ => E a D fV fC A v₁ A₁.U B₁.U ∧ B₁.locs = A₁.locs ++ [⟨a, fC.slot⟩, ⟨a, fV.slot⟩] ∧ B₁.cells = A₁.cells + 1 ∧ B₁.slots = A₁.slots + A.slots.size) :=
  (law l a D fV fC b A z).pays htab hfr (by omega)
end New1
/-- the byte, read back as charAt reads it, is the char -/
theorem lo8_mask {x : Int32} (h0 : ¬ x < 0) (h1 : ¬ 255 < x) : lo8 x &&& 255 = x := by
  have t : ∀ k : Fin 256, lo8 (Int32.ofNat k.val) &&& 255 = Int32.ofNat k.val := by decide +kernel
  rw [Int32.lt_iff_toInt_lt] at h0 h1
  have e0 : (0 : Int32).toInt = 0 := rfl
  have e1 : (255 : Int32).toInt = 255 := rfl
  obtain ⟨k, hk⟩ : ∃ k : Nat, x.toInt = k := ⟨x.toInt.toNat, by omega⟩
  have hx : x = Int32.ofNat k := Int32.toInt_inj.mp (by rw [hk, Int32.toInt_ofNat_small (by omega)])
  rw [hx]
  exact t ⟨k, by omega⟩
end StrChars
namespace StrChars.Road
open Jvm Sem ClassFile Op Lib Jvm.Stand Jvm.Free Jvm.Free.XT
open Jvm.Lib.Cold (StaticIs)
abbrev ST : String := "java/lang/String"
/-- every table word that New1's law asks, flat -/
abbrev words : List Jvm.Cond := [.code New1.yN New1.yB 2 none, .initialized ST, .methodLink ST 27 New4.yN, .instanceMethod New4.yN,
  .code New4.yN New4.yB 6 none, .fieldLink ST 38 ST "COMPACT_STRINGS" "Z", .laysFinal ST ST "value" "[B", .fieldLink ST 9 ST "value" "[B", .laysFinal ST ST "coder" "B", .fieldLink ST 15 ST "coder" "B",
  .methodLink ST 1 Lib.objectInit, .instanceMethod Lib.objectInit, .code Lib.objectInit ⟨#[0xb1]⟩ 1 none, .methodLink ST 177 Cmp3.yN, .static Cmp3.yN, .methodLink ST 47 CodL.yN, .static CodL.yN,
  .code Cmp3.yN Cmp3.yB 6 (some (.array .byte)), .initialized U16, .arrayClass .byte, .methodLink U16 115 Cmp5.yN, .static Cmp5.yN, .code Cmp5.yN Cmp5.yB 7 (some .int), .code CodL.yN CodL.yB 2 (some .byte)]
theorem tab_of {a : Array Value} {s : State} (h : ∀ w ∈ words, w.before a s = true) : New1.tab.before a s = true := by
  have h5 : Cmp5.tab.before a s = true := unparts (wk h (.code Cmp5.yN Cmp5.yB 7 (some .int))) (wks h (.initialized Cmp5.yN.cls :: Cmp5.site))
  have hc : CodL.tab.before a s = true := unparts (wk h (.code CodL.yN CodL.yB 2 (some .byte))) (wks h (.initialized CodL.yN.cls :: CodL.site))
  have q5 : ∀ w ∈ Cmp5.tab :: words, w.before a s = true := fun w hw => (List.mem_cons.mp hw).elim (fun e => e ▸ h5) (h w)
  have h3 : Cmp3.tab.before a s = true := unparts (wk q5 (.code Cmp3.yN Cmp3.yB 6 (some (.array .byte)))) (wks q5 (.initialized Cmp3.yN.cls :: Cmp3.site))
  have q3 : ∀ w ∈ Cmp3.tab :: CodL.tab :: words, w.before a s = true := fun w hw => (List.mem_cons.mp hw).elim (fun e => e ▸ h3) fun hw => (List.mem_cons.mp hw).elim (fun e => e ▸ hc) (h w)
  have h4 : New4.tab.before a s = true := unparts (wk q3 (.code New4.yN New4.yB 6 none)) (wks q3 (.initialized New4.yN.cls :: New4.site))
  have q4 : ∀ w ∈ New4.tab :: words, w.before a s = true := fun w hw => (List.mem_cons.mp hw).elim (fun e => e ▸ h4) (h w)
  exact unparts (wk q4 (.code New1.yN New1.yB 2 none)) (wks q4 (.initialized New1.yN.cls :: New1.site))
/-- the words ride from the start Z to the walk's own state -/
theorem moved {Z s : State} {a0 args : Array Value} (hZ : Z.Warmed39 s.vm) (hw : ∀ d ∈ words, d.before a0 Z = true) : ∀ d ∈ words, d.before args s = true := fun d hd => by
  have q := hw d hd
  have t : ∀ d ∈ words, d = .arrayClass .byte ∨ (d.onTables && d.keepsFace) = true := by decide +kernel
  rcases t d hd with rfl | t
  · exact RoadKit.mvA hZ q
  · exact RoadKit.mv hZ q t
/-- WHAT COMES BACK, over the tables of the start Z: h the heap at the call, h' behind it -/
def Q (Z : State) (x : Addr) (A : Cell) (h : Heap) (v : Option Value) (h' : Heap) (L : List Loc) : Prop := v = none ∧ (∀ y ∈ L, y.base = x) ∧ RoadKit.Keep h h' [x] ∧ h'.size = h.size + 1 ∧ RoadKit.Exa Z h' x ST ∧ RoadKit.Fld Z h' x ST "value" "[B" (.ref h.size) ∧ RoadKit.Fld Z h' x ST "coder" "B" (.int 0) ∧
  (∃ V : Cell, RoadKit.Arr Z h' h.size V .byte ∧ V.vm = .none ∧ Z.vm.findClass "[B" = some V.cls ∧ V.slots.size = A.slots.size ∧ ∀ j, j < A.slots.size → V.slots[j]? = some (.int (lo8 (cv A j)))) ∧
  ∀ (O n d : String) (w : Value), RoadKit.Fld Z h x O n d w → RoadKit.slotOf Z O n d ≠ RoadKit.slotOf Z ST "value" "[B" → RoadKit.slotOf Z O n d ≠ RoadKit.slotOf Z ST "coder" "B" → RoadKit.Fld Z h' x O n d w
/-- **new String(chars) AT A CALL, IN THE ROAD'S FORM**: for specialBack behind newO: x the fresh String, b the char[] with the cell A -/
theorem back {p : Program} {l : Launch} {e : Env} {R : Room} {s : State} {args : Array Value} {below : List Frame} {len W : Nat} {Z : State} {a0 : Array Value} {h : Heap} (hZ : Z.Warmed39 s.vm) (hw : ∀ d ∈ words, d.before a0 Z = true) {kI : Nat} (wi : (Jvm.Cond.instantiable ST kI).before a0 Z = true)
    {x b : Addr} {A : Cell} {z : Int32} {v0 c0 : Value} (E : RoadKit.Exa Z h x ST) (V : RoadKit.Fld Z h x ST "value" "[B" v0) (C : RoadKit.Fld Z h x ST "coder" "B" c0) (K : RoadKit.Arr Z h b A .char) (hty : Typed .char A) (S : RoadKit.Sta Z h ST "COMPACT_STRINGS" "Z" (.int z)) (hz : ¬ z = 0)
    (l0 : 0 < A.slots.size) (l2 : A.slots.size ≤ 536870912) (hp : ∀ i, i < A.slots.size → ¬ 255 < cv A i) (hfr : 4 ≤ R.frames) (hlo : W + 65 ≤ R.locals) :
    Back l R p e below s args New1.yN len W (fun P a => a = #[.ref x, .ref b] ∧ P.U.heap = h ∧ P.cells + 1 ≤ R.cells ∧ P.slots + A.slots.size ≤ R.slots)
      (fun P _ v B => ∃ L, Q Z x A h v B.U.heap L ∧ B.locs = P.locs ++ L ∧ B.cells = P.cells + 1 ∧ B.slots = P.slots + A.slots.size) := by
  intro m meth c P g ig mk a X hg hsize hdg hW hn hp'
  obtain ⟨rfl, rfl, r1, r2⟩ := hp'
  have al : Z.vm.Alike P.U.vm := hZ.alike.trans X.warmed.alike
  obtain ⟨D, cfV, kV, iV, fV, hD, gV, stV, knV, obV, asV, slV⟩ := id V
  obtain ⟨D', cfC, kC, iC, fC, hD', gC, stC, -, -, asC, slC⟩ := id C
  cases hD.symm.trans hD'
  obtain ⟨D2, kD, e1, e2, e3, e4, e5⟩ := id E
  cases hD.symm.trans e1
  obtain ⟨c2, k2, i1, i2, i3, -⟩ := Cond.instantiable_spec wi
  cases e2.symm.trans i1
  cases e3.symm.trans i2
  obtain ⟨kU, u1, u2⟩ := al.2.2 _ _ e3
  have hB : Blank ST x D P.U := ⟨hD, ⟨knV, fun q hq => by rw [hq] at obV; cases obV⟩, by rw [al.findClass]; exact e2, kU, u1, by rw [u2]; exact i3, by rw [u2]; exact e5 i3⟩
  have F1 : Found ST "value" "[B" fV P.U := ⟨SBG.found_only al ⟨cfV, kV, iV, gV⟩, stV⟩
  have F2 : Found ST "coder" "B" fC P.U := ⟨SBG.found_only al ⟨cfC, kC, iC, gC⟩, stC⟩
  have hA : Ch b A P.U := ⟨⟨K.1, State.isArrayOf_alike al K.2.1, K.2.2, by omega⟩, hty⟩
  have hS : StaticIs P.U ST "COMPACT_STRINGS" "Z" (.int z) := by
    obtain ⟨cfS, iS, kS, fS, st, cS, t1, t2, t3, t4, t5, t6, t7⟩ := S
    exact StaticIs.there (s := { Z with heap := P.U.heap }) ⟨cfS, iS, kS, fS, st, cS, t1, t2, t3, t4, t5, (fun q => by rw [q] at t6; cases t6), t7⟩ al rfl
  obtain ⟨v, B, X', ⟨⟨hv, E', V', q1, q2, q3, q4, q5, q6, q7, q8, q9, q10, q11⟩, hl, hc, hs⟩, st⟩ := New1.pays x D fV fC b A z (tab_of (moved hZ hw)) hfr hlo m meth c P g ig mk _ X hg hsize hdg hW hn ⟨r1, r2, rfl, hB, F1, F2, hA, hS, hz, l0, l2, hp⟩
  have al' : Z.vm.Alike B.U.vm := hZ.alike.trans X'.warmed.alike
  have hsz : E'.slots.size = D.slots.size := by
    obtain ⟨-, -, -, kB, w1, w2, w3⟩ := q1
    obtain ⟨kB', y1, y2⟩ := al'.2.2 _ _ e3
    rw [q2.2.1] at w1
    cases w1.symm.trans y1
    rw [w3, e5 i3, y2]
  refine ⟨v, B, X', ⟨_, ⟨hv, ?_, ⟨by omega, fun y cy hy hn' => q10 y cy (by simpa using hn') hy, fun y cy hy => ?_⟩, q11, ⟨E', _, q1.1, by rw [q2.2.1]; exact e2, by rw [q2.2.1]; exact e3, by rw [q2.1]; exact obV, fun _ => by rw [hsz]; exact e5 i3⟩,
    ⟨E', cfV, kV, iV, fV, q1.1, gV, stV, by rw [q2.1]; exact knV, by rw [q2.1]; exact obV, by rw [q2.2.1]; exact asV, q3⟩, ⟨E', cfC, kC, iC, fC, q1.1, gC, stC, by rw [q2.1]; exact knV, by rw [q2.1]; exact obV, by rw [q2.2.1]; exact asC, q4⟩,
    ⟨V', ⟨q5.1, State.isArrayOf_alike al'.symm q5.2.1, q5.2.2.1⟩, q6, by rw [← al'.findClass]; exact q7, q8, fun j hj => by have := q9 j hj; rwa [Nat.zero_add] at this⟩, fun O n d w F n1 n2 => ?_⟩, hl, hc, hs⟩, st⟩
  · intro y hy
    simp only [List.mem_cons, List.not_mem_nil, or_false] at hy
    rcases hy with rfl | rfl <;> rfl
  · by_cases q : y = x
    · subst q
      cases hD.symm.trans hy
      exact ⟨E', q1.1, q2.2.1, q2.1, hsz⟩
    · exact ⟨cy, q10 y cy q hy, rfl, rfl, rfl⟩
  · obtain ⟨D3, cf, k, i, f, g1, g2, g3, g4, g5, g6, g7⟩ := F
    cases hD.symm.trans g1
    simp only [RoadKit.slotOf, g2, gV, gC, Option.map_some, Option.getD_some] at n1 n2
    exact ⟨E', cf, k, i, f, q1.1, g2, g3, by rw [q2.1]; exact g4, by rw [q2.1]; exact g5, by rw [q2.2.1]; exact g6, by rw [q2.2.2 f.slot (by simp [n1, n2])]; exact g7⟩
end StrChars.Road
namespace StrChars.Road
open Jvm Sem ClassFile Op Lib Jvm.Stand Jvm.Free Jvm.Free.XT
/-- WHAT COMES BACK, the byte[] as a list of values -/
def QA (Z : State) (x : Addr) (zn : Int32) (cs : List Int32) (h : Heap) (v : Option Value) (h' : Heap) (L : List Loc) : Prop := v = none ∧ (∀ y ∈ L, y.base = x) ∧ RoadKit.Keep h h' [x] ∧ h'.size = h.size + 1 ∧ RoadKit.Exa Z h' x ST ∧ RoadKit.Fld Z h' x ST "value" "[B" (.ref h.size) ∧ RoadKit.Fld Z h' x ST "coder" "B" (.int 0) ∧
  (∃ kb, Z.vm.findClass "[B" = some kb ∧ RoadKit.Arv Z h' h.size kb .byte zn (cs.map fun c => .int (lo8 c)) (.int 0)) ∧
  ∀ (O n d : String) (w : Value), RoadKit.Fld Z h x O n d w → RoadKit.slotOf Z O n d ≠ RoadKit.slotOf Z ST "value" "[B" → RoadKit.slotOf Z O n d ≠ RoadKit.slotOf Z ST "coder" "B" → RoadKit.Fld Z h' x O n d w
/-- **new String(chars) AT A CALL, THE ARRAYS AS LISTS**: the char[] at b holds cs, not empty, no char above 255 -/
theorem backArv {p : Program} {l : Launch} {e : Env} {R : Room} {s : State} {args : Array Value} {below : List Frame} {len W : Nat} {Z : State} {a0 : Array Value} {h : Heap} (hZ : Z.Warmed39 s.vm) (hw : ∀ d ∈ words, d.before a0 Z = true) {kI : Nat} (wi : (Jvm.Cond.instantiable ST kI).before a0 Z = true)
    {x b : Addr} {k : ClassId} {zn z : Int32} {cs : List Int32} {dv v0 c0 : Value} (E : RoadKit.Exa Z h x ST) (V : RoadKit.Fld Z h x ST "value" "[B" v0) (C : RoadKit.Fld Z h x ST "coder" "B" c0) (K : RoadKit.Arv Z h b k .char zn (cs.map Value.int) dv) (S : RoadKit.Sta Z h ST "COMPACT_STRINGS" "Z" (.int z)) (hz : ¬ z = 0)
    (hlen : zn.toNatClampNeg = cs.length) (h0 : 0 < cs.length) (hbig : cs.length ≤ 536870912) (hall : ∀ c ∈ cs, ¬ 255 < c) (hfr : 4 ≤ R.frames) (hlo : W + 65 ≤ R.locals) :
    Back l R p e below s args New1.yN len W (fun P a => a = #[.ref x, .ref b] ∧ P.U.heap = h ∧ P.cells + 1 ≤ R.cells ∧ P.slots + cs.length ≤ R.slots)
      (fun P _ v B => ∃ L, QA Z x zn cs h v B.U.heap L ∧ B.locs = P.locs ++ L ∧ B.cells = P.cells + 1 ∧ B.slots = P.slots + cs.length) := by
  obtain ⟨A, K1, K2, K3, K4, K5, K6⟩ := K
  have e : A.slots.size = cs.length := K3.trans hlen
  have hat : ∀ (i : Nat) (hi : i < cs.length), A.slots[i]? = some (.int cs[i]) := fun i hi => by rw [K5 i (by omega)]; simp [List.getD_eq_getElem?_getD, hi]
  have hcv : ∀ (i : Nat) (hi : i < cs.length), cv A i = cs[i] := fun i hi => by unfold cv; rw [hat i hi]
  have hty : Typed .char A := fun i v hv => by
    have hi : i < A.slots.size := (Array.getElem?_eq_some_iff.mp hv).1
    have q := K5 i hi
    rw [hv] at q
    rw [Option.some.inj q]
    exact K6 i hi
  refine Back.mono (back hZ hw wi E V C K1 hty S hz (by omega) (by omega) (fun i hi => by rw [hcv i (by omega)]; exact hall _ (List.getElem_mem _)) hfr hlo) (fun P a hp => ⟨hp.1, hp.2.1, hp.2.2.1, by rw [e]; exact hp.2.2.2⟩) (fun P a v B hp hq => ?_)
  obtain ⟨L, ⟨q1, q2, q3, q4, q5, q6, q7, ⟨V', v1, v2, v3, v4, v5⟩, q9⟩, hl, hc, hs⟩ := hq
  refine ⟨L, ⟨q1, q2, q3, q4, q5, q6, q7, ⟨V'.cls, v3, V', v1, rfl, by rw [v4, e, hlen], K4, fun i hi => ?_, fun i hi => ?_⟩, q9⟩, hl, hc, by rw [hs, e]⟩
  · have hi' : i < cs.length := by omega
    rw [v5 i (by omega), hcv i hi']; simp [List.getD_eq_getElem?_getD, hi']
  · have hi' : i < cs.length := by omega
    simp only [List.getD_eq_getElem?_getD, List.getElem?_map, List.getElem?_eq_getElem hi', Option.map_some, Option.getD_some]
    exact fits_lo8 _
end StrChars.Road
namespace StrChars.Road
open Jvm Sem ClassFile Op Lib Jvm.Stand Jvm.Free Jvm.Free.XT
/-- WHAT COMES BACK, in the writer's own shape -/
def QV (Z : State) (x : Addr) (N : Int32) (bs : List Int32) (h : Heap) (n0 : Nat) (v : Option Value) (h' : Heap) (L : List Loc) : Prop := v = none ∧ RoadKit.Fr n0 L ∧ RoadKit.Keep h h' [x] ∧ RoadKit.Exa Z h' x ST ∧ RoadKit.Fld Z h' x ST "coder" "B" (.int 0) ∧
  ∃ (t : Addr) (kb : ClassId), n0 ≤ t ∧ h.size ≤ t ∧ ¬ t = x ∧ RoadKit.Fld Z h' x ST "value" "[B" (.ref t) ∧ RoadKit.Arv Z h' t kb .byte N (bs.map Value.int) (.int 0)
/-- **new String(chars) AT A CALL, FOR THE WRITER**: a char[] of n known ints, each 0 to 255 -/
theorem backV {p : Program} {l : Launch} {e : Env} {R : Room} {s : State} {args : Array Value} {below : List Frame} {len W : Nat} {Z : State} {a0 : Array Value} {h : Heap} (hZ : Z.Warmed39 s.vm) (hw : ∀ d ∈ words, d.before a0 Z = true) {kI : Nat} (wi : (Jvm.Cond.instantiable ST kI).before a0 Z = true)
    {x b : Addr} {kC : ClassId} {cs bs : List Int32} {d v0 c0 : Value} {z N : Int32} {n n0 : Nat} (hx0 : n0 ≤ x) (hh0 : n0 ≤ h.size) (E : RoadKit.Exa Z h x ST) (V : RoadKit.Fld Z h x ST "value" "[B" v0) (C : RoadKit.Fld Z h x ST "coder" "B" c0) (K : RoadKit.Arv Z h b kC .char N (cs.map Value.int) d) (S : RoadKit.Sta Z h ST "COMPACT_STRINGS" "Z" (.int z)) (hz : ¬ z = 0)
    (hn : cs.length = n) (hN : N = Int32.ofNat n) (l0 : 0 < n) (l2 : n ≤ 4000) (hp : ∀ c ∈ cs, ¬ c < 0 ∧ ¬ (255 : Int32) < c) (hb : bs = cs.map (fun c => c.toInt8.toInt32)) (hfr : 4 ≤ R.frames) (hlo : W + 65 ≤ R.locals) :
    Back l R p e below s args (⟨"java/lang/String", "<init>", "([C)V"⟩ : MethodName) len W (fun P a => a = #[.ref x, .ref b] ∧ P.U.heap = h ∧ P.cells + 1 ≤ R.cells ∧ P.slots + n ≤ R.slots)
      (fun P _ v B => ∃ L, QV Z x N bs h n0 v B.U.heap L ∧ B.locs = P.locs ++ L ∧ B.cells = P.cells + 1 ∧ B.slots = P.slots + n) := by
  subst hn hN hb
  refine Back.mono (backArv hZ hw wi E V C K S hz (n32 (by omega)) l0 (by omega) (fun c hc => (hp c hc).2) hfr hlo) (fun P a hp => hp) (fun P a v B hp hq => ?_)
  obtain ⟨L, ⟨q1, q2, q3, q4, q5, q6, q7, ⟨kb, v1, v2⟩, q9⟩, hl, hc, hs⟩ := hq
  exact ⟨L, ⟨q1, fun y hy => by rw [q2 y hy]; exact hx0, q3, q5, q7, h.size, kb, hh0, Nat.le_refl _, Nat.ne_of_gt E.lt, q6, by rw [List.map_map]; exact v2⟩, hl, hc, hs⟩
end StrChars.Road
namespace StrChars
open Jvm Sem ClassFile Op Lib Jvm.Stand Jvm.Free.XT Jvm.Free.ALB Jvm.Free.JM Jvm.Free
open Jvm.Lib.Cold (StaticIs)
def hi8 (x : Int32) : Int32 := lo8 (x >>> ((8 : Int32) &&& 31))
/-- what StringUTF16.getChar makes of two bytes -/
def pairCh (u v : Int32) : Int32 := (((u &&& 255) <<< ((0 : Int32) &&& 31)) ||| ((v &&& 255) <<< ((8 : Int32) &&& 31))).toUInt32.toUInt16.toUInt32.toInt32
theorem shr0 (c : Int32) : c >>> ((0 : Int32) &&& 31) = c := by
  have e : ((0 : Int32) &&& 31) = 0 := by decide
  rw [e]
  apply Int32.toBitVec_inj.mp
  rw [Int32.toBitVec_shiftRight]
  have e1 : ((0 : Int32).toBitVec.smod 32) = 0#32 := by decide
  rw [e1, BitVec.sshiftRight_eq']
  exact BitVec.sshiftRight_zero
theorem lo8_and (x : Int32) : (lo8 x &&& 255).toBitVec.toNat = x.toBitVec.toNat % 256 := by
  have h : (lo8 x).toBitVec = (x.toBitVec.signExtend 8).signExtend 32 := by rw [lo8, Int8.toBitVec_toInt32, Int32.toBitVec_toInt8]
  rw [Int32.toBitVec_and, BitVec.toNat_and, h]
  have e : ((x.toBitVec.signExtend 8).signExtend 32).toNat % 256 = x.toBitVec.toNat % 256 := by
    rw [BitVec.toNat_signExtend]
    have hlt := x.toBitVec.isLt
    simp only [BitVec.toNat_setWidth, BitVec.toNat_signExtend]
    split <;> split <;> omega
  rw [← e]
  exact Nat.and_two_pow_sub_one_eq_mod _ 8
theorem pair_says {c : Int32} (h0 : ¬ c < 0) (h1 : ¬ 65535 < c) : pairCh (lo8 c) (hi8 c) = c := by
  rw [Int32.lt_iff_toInt_lt] at h0 h1
  have e0 : (0 : Int32).toInt = 0 := rfl
  have e1 : (65535 : Int32).toInt = 65535 := rfl
  have hc : c.toInt = c.toBitVec.toNat := by
    have := c.toBitVec.isLt
    have e : c.toInt = c.toBitVec.toInt := rfl
    rw [e] at h0 h1
    rw [e]
    rw [BitVec.toInt_eq_toNat_cond] at h0 h1 ⊢
    split at h0 <;> split <;> omega
  have hn : c.toBitVec.toNat < 65536 := by omega
  have a1 := lo8_and c
  have a2 : (hi8 c &&& 255).toBitVec.toNat = c.toBitVec.toNat / 256 := by
    rw [hi8, lo8_and]
    have e : ((8 : Int32) &&& 31) = 8 := by decide
    rw [e, Int32.toBitVec_shiftRight]
    have e2 : ((8 : Int32).toBitVec.smod 32) = 8#32 := by decide
    rw [e2, BitVec.sshiftRight_eq', BitVec.toNat_sshiftRight_of_msb_false (by rw [BitVec.msb_eq_false_iff_two_mul_lt]; omega)]
    show c.toBitVec.toNat >>> 8 % 256 = _
    rw [Nat.shiftRight_eq_div_pow]
    omega
  unfold pairCh
  apply Int32.toBitVec_inj.mp
  apply BitVec.eq_of_toNat_eq
  have f0 : ((0 : Int32) &&& 31) = 0 := by decide
  have f8 : ((8 : Int32) &&& 31) = 8 := by decide
  rw [f0, f8]
  have g : (((lo8 c &&& 255) <<< (0 : Int32)) ||| ((hi8 c &&& 255) <<< (8 : Int32))).toBitVec.toNat = c.toBitVec.toNat := by
    rw [Int32.toBitVec_or, Int32.toBitVec_shiftLeft, Int32.toBitVec_shiftLeft]
    have s0 : ((0 : Int32).toBitVec.smod 32) = 0#32 := by decide
    have s8 : ((8 : Int32).toBitVec.smod 32) = 8#32 := by decide
    rw [s0, s8, BitVec.toNat_or]
    simp only [BitVec.shiftLeft_eq', BitVec.toNat_shiftLeft, a1, a2]
    show (c.toBitVec.toNat % 256) <<< 0 % 2 ^ 32 ||| (c.toBitVec.toNat / 256) <<< 8 % 2 ^ 32 = _
    rw [Nat.shiftLeft_zero, Nat.mod_eq_of_lt (show c.toBitVec.toNat % 256 < 2 ^ 32 by omega), Nat.mod_eq_of_lt (show (c.toBitVec.toNat / 256) <<< 8 < 2 ^ 32 by rw [Nat.shiftLeft_eq]; omega), Nat.or_comm, ← Nat.shiftLeft_add_eq_or_of_lt (by omega), Nat.shiftLeft_eq]
    omega
  show BitVec.toNat (((((lo8 c &&& 255) <<< (0 : Int32)) ||| ((hi8 c &&& 255) <<< (8 : Int32))).toBitVec.setWidth 16).setWidth 32) = _
  rw [BitVec.toNat_setWidth, BitVec.toNat_setWidth, g]
  omega
end StrChars
namespace StrChars
open Jvm Sem ClassFile Op Lib Jvm.Stand Jvm.Free.XT Jvm.Free.ALB Jvm.Free.JM Jvm.Free
open Jvm.Lib.Cold (StaticIs)
theorem shr1 {n : Nat} (h : 2 * n < 2 ^ 31) : Int32.ofNat (2 * n) >>> ((1 : Int32) &&& 31) = Int32.ofNat n := by
  have e : ((1 : Int32) &&& 31) = 1 := by decide
  rw [e]
  apply Int32.toBitVec_inj.mp
  rw [Int32.toBitVec_shiftRight]
  have e1 : ((1 : Int32).toBitVec.smod 32) = 1#32 := by decide
  have hm : (BitVec.ofNat 32 (2 * n)).toNat = 2 * n := by rw [BitVec.toNat_ofNat, Nat.mod_eq_of_lt (by omega)]
  rw [e1, BitVec.sshiftRight_eq']
  apply BitVec.eq_of_toNat_eq
  show ((BitVec.ofNat 32 (2 * n)).sshiftRight 1).toNat = (BitVec.ofNat 32 n).toNat
  rw [BitVec.toNat_sshiftRight_of_msb_false (by rw [BitVec.msb_eq_false_iff_two_mul_lt, hm]; omega), hm, BitVec.toNat_ofNat, Nat.shiftRight_eq_div_pow]
  omega
theorem narrow_ch {c : Int32} (h0 : ¬ c < 0) (h1 : ¬ 65535 < c) : narrow .char (.int c) = .int c := by
  have q : narrow .char (.int (pairCh (lo8 c) (hi8 c))) = .int (pairCh (lo8 c) (hi8 c)) := narrow_c _
  rwa [pair_says h0 h1] at q
end StrChars
namespace StrChars.Road
open Jvm Sem ClassFile Op Lib Jvm.Stand Jvm.Free Jvm.Free.XT
open Jvm.Lib.Cold (StaticIs)
/-- the bytes of the chars cs, low before high -/
def wideBytes : List Int32 → List Value
  | [] => []
  | c :: cs => .int (lo8 c) :: .int (hi8 c) :: wideBytes cs
theorem wide_lo (d : Value) : ∀ (cs : List Int32) (j : Nat), j < cs.length → (wideBytes cs).getD (2 * j) d = .int (lo8 (cs.getD j 0))
  | [], j, h => absurd h (Nat.not_lt_zero j)
  | c :: cs, 0, _ => rfl
  | c :: cs, j + 1, h => by
    have q := wide_lo d cs j (by simpa using h)
    rw [show 2 * (j + 1) = 2 * j + 1 + 1 from by omega]
    simpa [wideBytes] using q
theorem wide_hi (d : Value) : ∀ (cs : List Int32) (j : Nat), j < cs.length → (wideBytes cs).getD (2 * j + 1) d = .int (hi8 (cs.getD j 0))
  | [], j, h => absurd h (Nat.not_lt_zero j)
  | c :: cs, 0, _ => rfl
  | c :: cs, j + 1, h => by
    have q := wide_hi d cs j (by simpa using h)
    rw [show 2 * (j + 1) + 1 = 2 * j + 1 + 1 + 1 from by omega]
    simpa [wideBytes] using q
theorem low_at (d : Value) (cs : List Int32) (j : Nat) (h : j < cs.length) : (cs.map fun c => Value.int (lo8 c)).getD j d = .int (lo8 (cs.getD j 0)) := by
  simp [List.getD_eq_getElem?_getD, h]
/-- an array of N2 bytes vs codes the chars cs by the coder cd -/
def CodA (cs : List Int32) (cd N2 : Int32) (vs : List Value) : Prop := (cd = 0 ∧ N2 = Int32.ofNat cs.length ∧ vs = (cs.map fun c => Value.int (lo8 c)) ∧ ∀ c ∈ cs, ¬ 255 < c) ∨ (cd = 1 ∧ N2 = Int32.ofNat (2 * cs.length) ∧ vs = wideBytes cs ∧ ∃ c ∈ cs, 255 < c)
end StrChars.Road
namespace StrChars.Road
open Jvm Sem ClassFile Op Lib Jvm.Stand Jvm.Free Jvm.Free.XT
open Jvm.Lib.Cold (StaticIs)
/-- what backV says of its String, as the contracts of this text ask it: cs's low bytes, coder 0 -/
theorem codOf {cs : List Int32} {n : Nat} (hn : cs.length = n) (hb : ∀ c ∈ cs, ¬ 255 < c) : CodA cs 0 (Int32.ofNat n) ((cs.map lo8).map Value.int) := Or.inl ⟨rfl, by rw [hn], by simp [List.map_map, Function.comp_def], hb⟩
end StrChars.Road
end Jvm.Pilot.@@N@@
namespace Jvm.Pilot.@@N@@
open Jvm Jvm.ClassFile Sem Op Lib Jvm.Free Jvm.Stand Jvm.LawKit Jvm.RoadKit Bundle Jvm.Pilot.@@N@@.Jvm.D
section Own
variable {p : Program} {l : Launch} {e : Env} {R : Room} {s : State} {m : MethodId} {args : Array Value} {below : List Frame} {meth : Method} {c : Code} {T T' : State} {locs : List Loc} {cells slots : Nat} {G : Outcome → State → Prop} {g g' : JFrame}
/-- from here the walk ends, and ends as G says -/
def OwnGoes (p : Program) (e : Env) (below : List Frame) (G : Outcome → State → Prop) (T : State) (g : JFrame) : Prop := ∃ s₂ o, Steps p.tables e below (T.setTop g) s₂ ∧ s₂.status = .running ∧ Ended s₂ below o ∧ G o s₂
abbrev vI (x : Int32) : Slot := .val (.int x)
abbrev vU : Slot := .unset
theorem own_w {d : Jvm.Cond} {a0 : Array Value} {Z : State} (hw : ∀ d ∈ tables_1, d.before a0 Z = true) (i : Nat) (h : tables_1[i]? = some d) : d.before a0 Z = true := hw _ (List.mem_of_getElem? h)
abbrev vR (a : Addr) : Slot := .val (.ref a)
abbrev OwnG (p : Program) (e : Env) (b : List Frame) (T : State) (m : MethodId) (pc : Nat) (L : Array Slot) (S : List Value) (t : State) : Prop := Steps p.tables e b (T.setTop (mkF m pc L S)) t
theorem OwnGoes.step (h : ∀ t, Steps p.tables e below (T'.setTop g') t → Steps p.tables e below (T.setTop g) t) (k : OwnGoes p e below G T' g') : OwnGoes p e below G T g := by
  obtain ⟨s2, o, h1, r⟩ := k
  exact ⟨s2, o, h _ h1, r⟩
theorem OwnGoes.tr (h : Steps p.tables e below (T.setTop g) (T'.setTop g')) (k : OwnGoes p e below G T' g') : OwnGoes p e below G T g := by
  obtain ⟨s2, o, h1, r⟩ := k
  exact ⟨s2, o, h.trans h1, r⟩
theorem own_leave (X : Stand p l e R s m args below meth c T locs cells slots) (hlk : meth.locks = false) {v : Option Value} (hv : meth.sig.returnType = none → v = none)
    (hret : ∀ fs, (∀ (f : JFrame) (acts : List Action), f.method = m → f.locked = none → f.entered = [] → (doReturn e (T.setTop f) acts v).1 = T.setFrames fs) → Steps p.tables e below (T.setTop g) (T.setFrames fs))
    {k n : Nat} (hc : cells ≤ k) (hs : slots ≤ n) {Q : Option Value → Heap → List Loc → Prop} (hQ : Q v T.heap locs) :
    OwnGoes p e below (fun o U' => ∃ v L, o = .returned v ∧ Q v U'.heap L ∧ FrameEnd s o U' L k n) T g := by
  obtain ⟨fs, hr, hrun, hended, hW, hsame⟩ := X.leave (v := v) hv hlk
  exact ⟨_, _, hret fs hr, hrun, hended, v, locs, rfl, hQ, ⟨_, rfl⟩, hW, hsame.mono hc hs⟩
theorem own_leaveW {Z : State} {EL : List (String × Nat)} {vm1 : Vm} (X : Stand p l e R (s.setVm vm1) m args below meth c T locs cells slots) {n1 : Nat} (hS : s.Since vm1 n1) (hn : n1 ≤ T.heap.size) (hlk : meth.locks = false) {v : Option Value} (hv : meth.sig.returnType = none → v = none)
    (hret : ∀ fs, (∀ (f : JFrame) (acts : List Action), f.method = m → f.locked = none → f.entered = [] → (doReturn e (T.setTop f) acts v).1 = T.setFrames fs) → Steps p.tables e below (T.setTop g) (T.setFrames fs))
    {k n : Nat} (hc : cells ≤ k) (hs : slots ≤ n) {Q : Option Value → Heap → List Loc → Prop} (hR : CHr Z EL s.vm s.heap T.vm T.heap) (hQ : Q v T.heap locs) :
    OwnGoes p e below (fun o U' => ∃ v L, o = .returned v ∧ Q v U'.heap L ∧ CHr Z EL s.vm s.heap U'.vm U'.heap ∧ ReturnedEndW s o U' L k n) T g := by
  obtain ⟨fs, hr, hrun, hended, a1, a2, a3, a4⟩ := X.leaveW hS hn (v := v) hv hlk
  exact ⟨_, _, hret fs hr, hrun, hended, v, locs, rfl, hQ, hR, a1, a2, a3, a4.mono hc hs⟩
theorem own_arv_ty {Z : State} {h : Heap} {a b : Addr} {k k' : ClassId} {ty ty' : FieldType} {n n' : Int32} {vs vs' : List Value} {d d' : Value} (A : Arv Z h a k ty n vs d) (B : Arv Z h b k' ty' n' vs' d') (q : ty ≠ ty') : a ≠ b := fun e => by
  subst e
  obtain ⟨c1, ⟨a1, ⟨-, k1, a2, c1', a3⟩, -⟩, -⟩ := A
  obtain ⟨c2, ⟨b1, ⟨-, k2, b2, c2', b3⟩, -⟩, -⟩ := B
  cases a1.symm.trans b1
  cases a2.symm.trans b2
  have := a3.symm.trans b3
  injection this with _ e
  exact q e
theorem own_nar2_char (x : Int32) : nar .char (nar .char x) = nar .char x := by simp only [nar, UInt32.toUInt32_toInt32, UInt16.toUInt16_toUInt32]
theorem own_nar2_byte (x : Int32) : nar .byte (nar .byte x) = nar .byte x := by simp [nar]
theorem own_nar2_boolean (x : Int32) : nar .boolean (nar .boolean x) = nar .boolean x := by simp [nar, Int32.and_assoc]
theorem own_toInt32_lt (x y : Int32) : x < y ↔ x.toInt < y.toInt := Int32.lt_iff_toInt_lt
theorem own_lat255 (x : Int32) : ¬ nar .char (x &&& (255 : Int32)) < 0 ∧ ¬ (255 : Int32) < nar .char (x &&& (255 : Int32)) := by
  have t : ∀ k : Fin 256, ¬ nar .char (Int32.ofNat k.val) < 0 ∧ ¬ (255 : Int32) < nar .char (Int32.ofNat k.val) := by decide +kernel
  have h : (x &&& 255).toBitVec.toNat < 256 := by
    simp only [Int32.toBitVec_and, BitVec.toNat_and]
    exact Nat.lt_succ_of_le Nat.and_le_right
  have e : (x &&& 255) = Int32.ofNat (x &&& 255).toBitVec.toNat := by
    apply Int32.toBitVec_inj.mp
    show _ = BitVec.ofNat 32 _
    rw [BitVec.ofNat_toNat]; simp
  rw [e]
  exact t ⟨_, h⟩
theorem own_nar_lat {x : Int32} (h : ¬ x < 0 ∧ ¬ (255 : Int32) < x) : nar .char x = x := by
  have h1 : ∀ k : Fin 256, nar .char (Int32.ofNat k.val) = Int32.ofNat k.val := by decide +kernel
  obtain ⟨a, b⟩ := h
  rw [Int32.lt_iff_toInt_lt] at a b
  have e1 : (0 : Int32).toInt = 0 := rfl
  have e2 : (255 : Int32).toInt = 255 := rfl
  have e : x = Int32.ofNat x.toInt.toNat := by
    apply Int32.toInt_inj.mp
    rw [Int32.toInt_ofNat_of_lt (by omega)]
    omega
  rw [e]
  exact h1 ⟨x.toInt.toNat, by omega⟩
theorem own_up (cs : List Int32) (h : ∀ c ∈ cs, ¬ c < 0 ∧ ¬ (255 : Int32) < c) : ∀ c ∈ cs, ¬ c < 0 ∧ ¬ (65535 : Int32) < c := fun c hc => ⟨(h c hc).1, fun q => (h c hc).2 (by rw [Int32.lt_iff_toInt_lt] at q ⊢; have e1 : (65535 : Int32).toInt = 65535 := rfl; have e2 : (255 : Int32).toInt = 255 := rfl; omega)⟩
end Own
theorem own_mk {s : State} {vm1 : Vm} {n : Nat} (hS : s.Since vm1 n) (h : s.vm.MethodsKnown) : vm1.MethodsKnown := Vm.MethodsKnown.alikeC hS.1.alike h
theorem own_fk {s : State} {vm1 : Vm} {n : Nat} {fs : List Frame} (hS : s.Since vm1 n) (h : s.vm.FramesKnown fs) : vm1.FramesKnown fs := Vm.FramesKnown.alikeC hS.1.alike h
theorem own_ths {Z : State} {n0 : Nat} {h : Heap} (O : Old Z n0 h) : ThS Z h := fun st k cl cell _ _ _ q _ => O.2.2 st cell q
theorem own_mem0 {P : Int32 → Prop} : ∀ c ∈ ([] : List Int32), P c := fun _ h => nomatch h
theorem own_memS {P : Int32 → Prop} {x : Int32} {L : List Int32} (h : P x) (r : ∀ c ∈ L, P c) : ∀ c ∈ x :: L, P c := fun c q => by
  rcases List.mem_cons.mp q with rfl | q
  · exact h
  · exact r c q
theorem own_safe_null {Z : State} {EL : List (String × Nat)} {vm : Vm} {h : Heap} {a : Addr} {a0 : Array Value} {n : Nat} (hal : Z.vm.Alike vm) (wi : (Jvm.Cond.instantiable "java/lang/String" n).before a0 Z = true) (E : Exa Z h a "java/lang/String") (F : Fld Z h a "java/lang/String" "value" "[B" .null) : Safe Z EL vm h a := fun B => by
  obtain ⟨cell, k, e1, e2, e3, -, -⟩ := E
  obtain ⟨p, -, u, b, -, q, -, G, rfl | rfl⟩ := B
  · obtain ⟨cS, ⟨⟨s1, -, -, ⟨cv, kv, iv, s4, -⟩, -, -, -, s8, -⟩, -⟩, -⟩ := G
    obtain ⟨c2, cf, k2, i2, f2, g1, g2, -, -, -, -, g7⟩ := F
    obtain ⟨kv', z4⟩ := ff_back (U := Wst Z vm h) hal s4
    cases g2.symm.trans z4
    cases (show h[q.sa]? = some q.sC from s1).symm.trans g1
    rw [s8] at g7
    cases g7
  · have hd : h[q.sd]? = some q.SA := G.hd
    cases hd.symm.trans e1
    obtain ⟨cS, -, -, f, -⟩ := G
    have f' : vm.findClass "[B" = some q.SA.cls := f
    rw [hal.findClass] at f'
    obtain ⟨k1, q1, q2⟩ := Vm.findClass_spec f'
    obtain ⟨k2, q3, q4⟩ := Vm.findClass_spec e2
    cases q1.symm.trans q3
    exact absurd (q2.symm.trans q4) (by decide)
theorem own_ins_keep {Z : State} {h h' : Heap} {a : Addr} {C : String} {ws : List Addr} (F : Ins Z h a C true) (K : Keep h h' ws) : Ins Z h' a C true := by
  obtain ⟨c, cT, h1, h2, h3⟩ := F
  obtain ⟨c', q1, q2, q3, -⟩ := K.2.2 _ _ h1
  exact ⟨c', cT, q1, h2, by rw [q2, q3]; exact h3⟩
abbrev mN0 : MethodName := (⟨"java/lang/StringUTF16", "getChar", "([BI)C"⟩ : MethodName)
abbrev mN1 : MethodName := (⟨"java/lang/StringUTF16", "putChar", "([BII)V"⟩ : MethodName)
abbrev mN2 : MethodName := (⟨"java/lang/StringUTF16", "compress", "([CI[BII)I"⟩ : MethodName)
abbrev mN3 : MethodName := (⟨"java/lang/StringUTF16", "newBytesLength", "(I)I"⟩ : MethodName)
abbrev mN4 : MethodName := (⟨"java/lang/StringUTF16", "newBytesFor", "(I)[B"⟩ : MethodName)
abbrev mN5 : MethodName := (⟨"java/lang/StringUTF16", "toBytes", "([CII)[B"⟩ : MethodName)
abbrev mN6 : MethodName := (⟨"java/lang/StringUTF16", "compress", "([CII)[B"⟩ : MethodName)
abbrev mN7 : MethodName := (⟨"java/lang/StringUTF16", "coderFromArrayLen", "([BI)B"⟩ : MethodName)
abbrev mN8 : MethodName := (⟨"java/lang/String", "<init>", "([CIILjava/lang/Void;)V"⟩ : MethodName)
abbrev mN9 : MethodName := (⟨"java/lang/String", "<init>", "([C)V"⟩ : MethodName)
abbrev mN10 : MethodName := (⟨"java/lang/String", "isLatin1", "()Z"⟩ : MethodName)
abbrev mN11 : MethodName := (⟨"jdk/internal/util/Preconditions", "checkIndex", "(IILjava/util/function/BiFunction;)I"⟩ : MethodName)
abbrev mN12 : MethodName := (⟨"java/lang/String", "checkIndex", "(II)V"⟩ : MethodName)
abbrev mN13 : MethodName := (⟨"java/lang/StringUTF16", "length", "([B)I"⟩ : MethodName)
abbrev mN14 : MethodName := (⟨"java/lang/StringUTF16", "checkIndex", "(I[B)V"⟩ : MethodName)
abbrev mN15 : MethodName := (⟨"java/lang/StringUTF16", "charAt", "([BI)C"⟩ : MethodName)
abbrev mN16 : MethodName := (⟨"java/lang/StringLatin1", "charAt", "([BI)C"⟩ : MethodName)
abbrev mN17 : MethodName := (⟨"java/lang/String", "charAt", "(I)C"⟩ : MethodName)
abbrev mN18 : MethodName := (⟨"java/lang/String", "coder", "()B"⟩ : MethodName)
abbrev mN19 : MethodName := (⟨"java/lang/String", "length", "()I"⟩ : MethodName)
abbrev mN20 : MethodName := (⟨"java/lang/String", "isEmpty", "()Z"⟩ : MethodName)
abbrev mN21 : MethodName := (⟨"io/holdfast/cli/HttpHeadIsTargetPinLaw", "ch", "(I)C"⟩ : MethodName)
abbrev mN22 : MethodName := (⟨"io/holdfast/cli/HttpHeadIsTargetPinLaw", "ok", "(C)Z"⟩ : MethodName)
abbrev mN23 : MethodName := (⟨"io/holdfast/cli/HttpHeadIsTargetPinLaw", "str", "(ICCCC)Ljava/lang/String;"⟩ : MethodName)
abbrev mN24 : MethodName := (⟨"io/holdfast/cli/HttpHead", "isTarget", "(Ljava/lang/String;)Z"⟩ : MethodName)
/-- the bytes vs (N of them, coder cd) spell the chars cs -/
def OwnStr (cs : List Int32) (cd N : Int32) (vs : List Value) : Prop := StrChars.Road.CodA cs cd N vs ∧ (∀ c ∈ cs, ¬ c < 0 ∧ ¬ (65535 : Int32) < c) ∧ cs.length ≤ 4000
theorem own_str_lat {cs : List Int32} {n : Nat} (hn : cs.length = n) (l2 : n ≤ 4000) (h : ∀ c ∈ cs, ¬ c < 0 ∧ ¬ (255 : Int32) < c) : OwnStr cs 0 (Int32.ofNat n) ((cs.map (fun c => c.toInt8.toInt32)).map Value.int) := ⟨StrChars.Road.codOf hn (fun x hx => (h x hx).2), own_up _ h, by omega⟩

theorem own_str_wide {cs : List Int32} {n : Nat} (hn : cs.length = n) (l2 : n ≤ 4000) (h : ∀ c ∈ cs, ¬ c < 0 ∧ ¬ (65535 : Int32) < c) (hx : ∃ c ∈ cs, (255 : Int32) < c) : OwnStr cs 1 (Int32.ofNat (2 * n)) (StrChars.Road.wideBytes cs) := ⟨Or.inr ⟨rfl, by rw [hn], rfl, hx⟩, h, by omega⟩
def OwnAt (N : Int32) (vs : List Value) (j v : Int32) : Prop := (¬ j < 0 ∧ j < N) ∧ vs.getD j.toNatClampNeg (.int 0) = .int v
/-- the two bytes at i spell c -/
def OwnGet (N : Int32) (vs : List Value) (i c : Int32) : Prop := ∃ v0 v1 : Int32, OwnAt N vs (i <<< ((1 : Int32) &&& 31)) v0 ∧ OwnAt N vs ((i <<< ((1 : Int32) &&& 31)) + (1 : Int32)) v1 ∧ (nar .char (((v0 &&& (255 : Int32)) <<< ((0 : Int32) &&& 31)) ||| ((v1 &&& (255 : Int32)) <<< ((8 : Int32) &&& 31)))) = c ∧ nar .char c = c
theorem own_nar_w {c : Int32} (h : ¬ c < 0 ∧ ¬ (65535 : Int32) < c) : nar .char c = c := by
  have q := StrChars.narrow_ch h.1 h.2
  injection q
theorem own_pair {c : Int32} (h : ¬ c < 0 ∧ ¬ (65535 : Int32) < c) : (nar .char ((((nar .byte c) &&& (255 : Int32)) <<< ((0 : Int32) &&& 31)) ||| (((nar .byte (c >>> ((8 : Int32) &&& 31))) &&& (255 : Int32)) <<< ((8 : Int32) &&& 31)))) = c := StrChars.pair_says h.1 h.2
theorem own_wide (x : Int32) : ¬ nar .char x < 0 ∧ ¬ (65535 : Int32) < nar .char x := by
  have e : (nar .char x).toInt = ((x.toUInt32.toUInt16.toNat : Nat) : Int) := by
    show (x.toUInt32.toUInt16.toUInt32.toInt32).toInt = _
    have hb : x.toUInt32.toUInt16.toNat < 65536 := x.toUInt32.toUInt16.toBitVec.isLt
    have e1 : (x.toUInt32.toUInt16.toUInt32.toInt32) = Int32.ofNat x.toUInt32.toUInt16.toNat := by
      apply Int32.toBitVec_inj.mp
      apply BitVec.eq_of_toNat_eq
      have z : x.toUInt32.toNat = x.toBitVec.toNat := rfl
      simp
      omega
    rw [e1, Int32.toInt_ofNat_of_lt (by omega)]
  have hb : x.toUInt32.toUInt16.toNat < 65536 := x.toUInt32.toUInt16.toBitVec.isLt
  have e0 : (0 : Int32).toInt = 0 := rfl
  have e2 : (65535 : Int32).toInt = 65535 := rfl
  constructor
  · rw [Int32.lt_iff_toInt_lt]; omega
  · rw [Int32.lt_iff_toInt_lt]; omega
def OwnPut (N : Int32) (vs : List Value) (i : Int32) (na : Nat) : Prop := ((¬ (i <<< ((1 : Int32) &&& 31)) < 0 ∧ (i <<< ((1 : Int32) &&& 31)) < N) ∧ (i <<< ((1 : Int32) &&& 31)).toNatClampNeg = na ∧ na < vs.length) ∧ ((¬ ((i <<< ((1 : Int32) &&& 31)) + (1 : Int32)) < 0 ∧ ((i <<< ((1 : Int32) &&& 31)) + (1 : Int32)) < N) ∧ ((i <<< ((1 : Int32) &&& 31)) + (1 : Int32)).toNatClampNeg = na + 1 ∧ na + 1 < vs.length)
def OwnL (N : Int32) (vs : List Value) (i c : Int32) : Prop := ∃ v : Int32, (¬ i < 0 ∧ i < N) ∧ vs.getD i.toNatClampNeg (.int 0) = .int v ∧ (nar .char (v &&& (255 : Int32))) = c ∧ nar .char c = c
def OwnCh (cd N : Int32) (vs : List Value) (i c : Int32) : Prop := (cd = 0 ∧ OwnL N vs i c) ∨ (cd = 1 ∧ (¬ i < 0 ∧ i < (N >>> ((1 : Int32) &&& 31))) ∧ OwnGet N vs i c)

theorem own_get {cs : List Int32} {N : Int32} {vs : List Value} (h : OwnStr cs 1 N vs) {j : Nat} (hj : j < cs.length) {c : Int32} (hc : cs.getD j 0 = c) : OwnGet N vs (Int32.ofNat j) c := by
  obtain ⟨h1, h2, h3⟩ := h
  have hr : ¬ c < 0 ∧ ¬ (65535 : Int32) < c := by
    have e : cs.getD j 0 = cs[j] := by simp [List.getD_eq_getElem?_getD, hj]
    rw [← hc, e]; exact h2 _ (List.getElem_mem _)
  rcases h1 with ⟨q, -⟩ | ⟨-, rfl, rfl, -⟩
  · exact absurd q (by decide)
  · have ej : (Int32.ofNat j).toInt = (j : Int) := Int32.toInt_ofNat_of_lt (by omega)
    have es : (Int32.ofNat j) <<< ((1 : Int32) &&& 31) = Int32.ofNat (2 * j) := by
      have e : ((1 : Int32) &&& 31) = 1 := by decide
      rw [e]
      apply Int32.toBitVec_inj.mp
      rw [Int32.toBitVec_shiftLeft]
      have e1 : ((1 : Int32).toBitVec.smod 32) = 1#32 := by decide
      rw [e1]
      apply BitVec.eq_of_toNat_eq
      show ((BitVec.ofNat 32 j) <<< (1#32)).toNat = (BitVec.ofNat 32 (2 * j)).toNat
      simp [BitVec.toNat_ofNat, Nat.shiftLeft_eq]
      omega
    have es1 : (Int32.ofNat (2 * j)) + 1 = Int32.ofNat (2 * j + 1) := by
      apply Int32.toBitVec_inj.mp
      apply BitVec.eq_of_toNat_eq
      show ((BitVec.ofNat 32 (2 * j)) + 1#32).toNat = (BitVec.ofNat 32 (2 * j + 1)).toNat
      simp [BitVec.toNat_ofNat, BitVec.toNat_add]
    have a0 : ∀ k : Nat, k < 2 * cs.length → (¬ Int32.ofNat k < 0 ∧ Int32.ofNat k < Int32.ofNat (2 * cs.length)) ∧ (Int32.ofNat k).toNatClampNeg = k := by
      intro k hk
      have ek : (Int32.ofNat k).toInt = (k : Int) := Int32.toInt_ofNat_of_lt (by omega)
      have el : (Int32.ofNat (2 * cs.length)).toInt = ((2 * cs.length : Nat) : Int) := Int32.toInt_ofNat_of_lt (by omega)
      have e0 : (0 : Int32).toInt = 0 := rfl
      refine ⟨⟨?_, ?_⟩, ?_⟩
      · rw [Int32.lt_iff_toInt_lt]; omega
      · rw [Int32.lt_iff_toInt_lt]; omega
      · simp only [Int32.toNatClampNeg]; omega
    refine ⟨StrChars.lo8 c, StrChars.hi8 c, ?_, ?_, StrChars.pair_says hr.1 hr.2, own_nar_w hr⟩
    · rw [es]
      refine ⟨(a0 _ (by omega)).1, ?_⟩
      rw [(a0 _ (by omega)).2, StrChars.Road.wide_lo _ cs j hj, hc]
    · rw [es, es1]
      refine ⟨(a0 _ (by omega)).1, ?_⟩
      rw [(a0 _ (by omega)).2, StrChars.Road.wide_hi _ cs j hj, hc]
theorem own_ch {cs : List Int32} {cd N : Int32} {vs : List Value} (h : OwnStr cs cd N vs) {j : Nat} (hj : j < cs.length) {c : Int32} (hc : cs.getD j 0 = c) : OwnCh cd N vs (Int32.ofNat j) c := by
  have ho := h
  obtain ⟨h1, h2, h3⟩ := h
  have e : cs.getD j 0 = cs[j] := by simp [List.getD_eq_getElem?_getD, hj]
  have hr : ¬ c < 0 ∧ ¬ (65535 : Int32) < c := by rw [← hc, e]; exact h2 _ (List.getElem_mem _)
  have ej : (Int32.ofNat j).toInt = (j : Int) := Int32.toInt_ofNat_of_lt (by omega)
  have e0 : (0 : Int32).toInt = 0 := rfl
  have hj0 : ¬ Int32.ofNat j < 0 := by rw [Int32.lt_iff_toInt_lt]; omega
  rcases h1 with ⟨rfl, rfl, rfl, hl⟩ | ⟨rfl, rfl, rfl, hx⟩
  · have hc2 : ¬ 255 < c := by rw [← hc, e]; exact hl _ (List.getElem_mem _)
    have el : (Int32.ofNat cs.length).toInt = ((cs.length : Nat) : Int) := Int32.toInt_ofNat_of_lt (by omega)
    have et : (Int32.ofNat j).toNatClampNeg = j := by simp only [Int32.toNatClampNeg]; omega
    refine Or.inl ⟨rfl, StrChars.lo8 c, ⟨hj0, by rw [Int32.lt_iff_toInt_lt]; omega⟩, ?_, ?_, own_nar_w hr⟩
    · rw [et, StrChars.Road.low_at _ cs j hj, hc]
    · rw [StrChars.lo8_mask hr.1 hc2, own_nar_w hr]
  · refine Or.inr ⟨rfl, ⟨hj0, ?_⟩, own_get ho hj hc⟩
    rw [StrChars.shr1 (by omega), Int32.lt_iff_toInt_lt]
    have el : (Int32.ofNat cs.length).toInt = ((cs.length : Nat) : Int) := Int32.toInt_ofNat_of_lt (by omega)
    omega
def OwnLen (cd N n : Int32) : Prop := (N >>> (cd &&& 31)) = n ∧ nar .byte cd = cd
theorem own_len {cs : List Int32} {cd N : Int32} {vs : List Value} (h : OwnStr cs cd N vs) {n : Nat} (hn : cs.length = n) : OwnLen cd N (Int32.ofNat n) := by
  subst hn
  obtain ⟨h1, h2, h3⟩ := h
  rcases h1 with ⟨rfl, rfl, -⟩ | ⟨rfl, rfl, -⟩
  · exact ⟨StrChars.shr0 _, by decide⟩
  · exact ⟨StrChars.shr1 (by omega), by decide⟩
theorem own_nz {cs : List Int32} {cd N : Int32} {vs : List Value} (h : OwnStr cs cd N vs) (hn : 0 < cs.length) : ¬ (N = (0 : Int32)) := fun q => by
  obtain ⟨h1, h2, h3⟩ := h
  have e0 : (0 : Int32).toInt = 0 := rfl
  rcases h1 with ⟨-, rfl, -⟩ | ⟨-, rfl, -⟩
  · have := congrArg Int32.toInt q; rw [Int32.toInt_ofNat_of_lt (by omega)] at this; omega
  · have := congrArg Int32.toInt q; rw [Int32.toInt_ofNat_of_lt (by omega)] at this; omega
theorem own_eq_int {s : State} {args : Array Value} {t : Term} {k : Int32} (h : (Cond.eq t (Term.int k)).value args s none s [] = some true) : t.eval args s none [] s = some (.int k) := by
  simp [Cond.value, Term.eval] at h
  cases hq : t.eval args s none [] s with
  | none => simp [hq] at h
  | some v => cases v <;> simp [hq] at h ⊢; exact h
theorem ef_u16get (m : MethodId) (x0 : Addr) (x1 : Int32) : entryFrame m #[(.ref x0), (.int x1)] 2 = mkF m 0 #[vR x0, vI x1] [] := by
  first | (simp [entryFrame, mkF, argsToLocals, Value.category]; done) | rfl
def Q_u16get (Z : State) (tb1 : Addr) (kb1 : ClassId) (nB1 : Int32) (vs1 : List Value) (i1 : Int32) (c1 : Int32) (h0 : Heap) (n0 : Nat) (v : Option Value) (h : Heap) (L : List Loc) : Prop := v = some (.int c1) ∧ Fr n0 L ∧ h = h0
def OwnCx (Z : State) (a0 : Array Value) (wG1 : Int32) (wG3 : Value) : Prop := (Sta Z Z.heap "java/lang/String" "COMPACT_STRINGS" "Z" (.int wG1)) ∧ (¬ (wG1 = (0 : Int32))) ∧ (Sta Z Z.heap "jdk/internal/util/Preconditions" "SIOOBE_FORMATTER" "Ljava/util/function/BiFunction;" wG3) ∧ (wG3.isRef = true) ∧ (∀ a ∈ Bundle.stringAtoms, a.before a0 Z = true) ∧ (Sta Z Z.heap "java/lang/StringUTF16" "$assertionsDisabled" "Z" (.int 1)) ∧ (Sta Z Z.heap "java/lang/StringUTF16" "HI_BYTE_SHIFT" "I" (.int 0)) ∧ (Sta Z Z.heap "java/lang/StringUTF16" "LO_BYTE_SHIFT" "I" (.int 8))
theorem pn_68381282 : plainName "java/lang/StringUTF16" = true := by first | (simp [plainName, overriddenIn]; done) | decide +kernel
theorem d0_0 : decode jdk_52_method_5_code 0 = .ok (.getstatic 44, 3) := by decide +kernel
theorem d0_3 : decode jdk_52_method_5_code 3 = .ok (.ifCond .ne 25, 3) := by decide +kernel
theorem d0_28 : decode jdk_52_method_5_code 28 = .ok (.iload_n 1, 1) := by decide +kernel
theorem d0_29 : decode jdk_52_method_5_code 29 = .ok (.iconst 1, 1) := by decide +kernel
theorem d0_30 : decode jdk_52_method_5_code 30 = .ok (.ishl, 1) := by decide +kernel
theorem d0_31 : decode jdk_52_method_5_code 31 = .ok (.istore_n 1, 1) := by decide +kernel
theorem d0_32 : decode jdk_52_method_5_code 32 = .ok (.aload_n 0, 1) := by decide +kernel
theorem d0_33 : decode jdk_52_method_5_code 33 = .ok (.iload_n 1, 1) := by decide +kernel
theorem d0_34 : decode jdk_52_method_5_code 34 = .ok (.iinc 1 1, 3) := by decide +kernel
theorem d0_37 : decode jdk_52_method_5_code 37 = .ok (.baload, 1) := by decide +kernel
theorem d0_38 : decode jdk_52_method_5_code 38 = .ok (.sipush 255, 3) := by decide +kernel
theorem d0_41 : decode jdk_52_method_5_code 41 = .ok (.iand, 1) := by decide +kernel
theorem d0_42 : decode jdk_52_method_5_code 42 = .ok (.getstatic 59, 3) := by decide +kernel
theorem d0_45 : decode jdk_52_method_5_code 45 = .ok (.ishl, 1) := by decide +kernel
theorem d0_46 : decode jdk_52_method_5_code 46 = .ok (.aload_n 0, 1) := by decide +kernel
theorem d0_47 : decode jdk_52_method_5_code 47 = .ok (.iload_n 1, 1) := by decide +kernel
theorem d0_48 : decode jdk_52_method_5_code 48 = .ok (.baload, 1) := by decide +kernel
theorem d0_49 : decode jdk_52_method_5_code 49 = .ok (.sipush 255, 3) := by decide +kernel
theorem d0_52 : decode jdk_52_method_5_code 52 = .ok (.iand, 1) := by decide +kernel
theorem d0_53 : decode jdk_52_method_5_code 53 = .ok (.getstatic 63, 3) := by decide +kernel
theorem d0_56 : decode jdk_52_method_5_code 56 = .ok (.ishl, 1) := by decide +kernel
theorem d0_57 : decode jdk_52_method_5_code 57 = .ok (.ior, 1) := by decide +kernel
theorem d0_58 : decode jdk_52_method_5_code 58 = .ok (.i2c, 1) := by decide +kernel
theorem d0_59 : decode jdk_52_method_5_code 59 = .ok (.ireturn, 1) := by decide +kernel
set_option maxRecDepth 65536 in
set_option maxHeartbeats 40000000 in
theorem rm_u16get (l : Launch) (Z : State) (a0 : Array Value) (hw : ∀ d ∈ tables_1, d.before a0 Z = true) (ws : List Jvm.Cond) (wG1 : Int32) (wG3 : Value) (cx : OwnCx Z a0 wG1 wG3) (hEL : EW Z a0 consts_1) (h0 : Heap) (n0 : Nat) (X00 : Old Z n0 h0) (tb1 : Addr) (kb1 : ClassId) (nB1 : Int32) (vs1 : List Value) (i1 : Int32) (c1 : Int32) (f0 : Arv Z h0 tb1 kb1 .byte nB1 vs1 (.int 0)) (hg : OwnGet nB1 vs1 i1 c1) :
    MetFree l mN0 (head1 (Jvm.Cond.code mN0 jdk_52_method_5_code 2 (some .char) :: ws) ({ frames := 0, cells := 0, slots := 0, locals := 0 } : Room)) (fun a U => a = #[(.ref tb1), (.int i1)] ∧ Z.Warmed39 U.vm ∧ U.heap = h0) (fun _ _ _ _ _ => True) (fun _ U o U' => ∃ v L, o = .returned v ∧ Q_u16get Z tb1 kb1 nB1 vs1 i1 c1 h0 n0 v U'.heap L ∧ FrameEnd U o U' L ({ frames := 0, cells := 0, slots := 0, locals := 0 } : Room).cells ({ frames := 0, cells := 0, slots := 0, locals := 0 } : Room).slots) := by
  refine MetFree.of_bodySF (plainFor_of_name pn_68381282) hisR ?_
  intro p e s m args below meth c s₁ Bd hml0 hP hK
  obtain ⟨rfl, hZ, hh⟩ := hP
  obtain ⟨wO2, wP5, wO4, wrG3, hstr, wUA, wUH, wUL⟩ := id cx
  have hx := Bd.exec
  have hby := Bd.bytes
  have hlk := Bd.notSynchronized
  have hml : c.maxLocals = 2 := hml0
  have hown : s.vm.findClass "java/lang/StringUTF16" = some m.cls := findClass_of_methodNamed Bd.named
  have hnm := (name_of_methodNamed Bd.named Bd.method).1
  have X0 : Stand p l e ({ frames := 0, cells := 0, slots := 0, locals := 0 } : Room) s m #[(.ref tb1), (.int i1)] below meth c s₁ [] 0 0 := Stand.of_body Bd
  have e0 : s₁.heap = h0 := by rw [← hh, Bd.state]; rfl
  have N0 := Fr.nil n0
  have Z0 : n0 ≤ h0.size := X00.1 ▸ X00.2.1
  have K0 : Keep h0 h0 ([] : List Addr) := Keep.refl _ _
  show OwnGoes p e below (fun o U' => ∃ v L, o = .returned v ∧ Q_u16get Z tb1 kb1 nB1 vs1 i1 c1 h0 n0 v U'.heap L ∧ FrameEnd s o U' L ({ frames := 0, cells := 0, slots := 0, locals := 0 } : Room).cells ({ frames := 0, cells := 0, slots := 0, locals := 0 } : Room).slots) s₁ (entryFrame m #[(.ref tb1), (.int i1)] 2)
  refine OwnGoes.step (T' := s₁) (g' := (mkF m 0 #[vR tb1, vI i1] [])) (fun tgt kgo => castTop (ef_u16get m tb1 i1) kgo) ?_
  obtain ⟨v0, v1, ha0, ha1, hp, hn⟩ := hg
  obtain ⟨T1, X1, e1, st1⟩ := getS2 X0 hx hZ hown (host := "") (Or.inl (own_w hw 100 rfl)) Via.refl e0 (wUA.ext X00.2) (g := (mkF m 0 #[vR tb1, vI i1] [])) rfl (hb hby d0_0)
  refine OwnGoes.step (T' := T1) (g' := (mkF m 3 #[vR tb1, vI i1] [(.int 1)])) st1 ?_
  refine OwnGoes.step (T' := T1) (g' := (mkF m 42 #[vR tb1, vI ((i1 <<< ((1 : Int32) &&& 31)) + (1 : Int32))] [(.int (v0 &&& (255 : Int32)))])) (fun tgt kgo => ?_) ?_
  · refine XS.ifYes X1.here hx rfl (pc0 := 3) (pc' := 28) rfl (hb hby d0_3) rfl ((if0 _ _).trans (feq (by decide : ¬ ((1 : Int32) = (0 : Int32)))).2) (by decide) (by decide) ?_
    show OwnG p e below T1 m 28 #[vR tb1, vI i1] [] tgt
    refine XS.iloadN X1.here hx rfl (hb hby d0_28) rfl ?_
    show OwnG p e below T1 m 29 #[vR tb1, vI i1] [(.int i1)] tgt
    refine XS.iconst X1.here hx rfl (hb hby d0_29) ?_
    show OwnG p e below T1 m 30 #[vR tb1, vI i1] [(.int 1), (.int i1)] tgt
    refine XS.ishl X1.here hx rfl (hb hby d0_30) rfl ?_
    show OwnG p e below T1 m 31 #[vR tb1, vI i1] [(.int (i1 <<< ((1 : Int32) &&& 31)))] tgt
    refine XS.istoreN X1.here hx rfl (hb hby d0_31) rfl (l' := #[vR tb1, vI (i1 <<< ((1 : Int32) &&& 31))]) rfl ?_
    show OwnG p e below T1 m 32 #[vR tb1, vI (i1 <<< ((1 : Int32) &&& 31))] [] tgt
    refine XS.aloadN X1.here hx rfl (hb hby d0_32) rfl rfl ?_
    show OwnG p e below T1 m 33 #[vR tb1, vI (i1 <<< ((1 : Int32) &&& 31))] [(.ref tb1)] tgt
    refine XS.iloadN X1.here hx rfl (hb hby d0_33) rfl ?_
    show OwnG p e below T1 m 34 #[vR tb1, vI (i1 <<< ((1 : Int32) &&& 31))] [(.int (i1 <<< ((1 : Int32) &&& 31))), (.ref tb1)] tgt
    refine XS.iinc X1.here hx rfl (hb hby d0_34) rfl (l' := #[vR tb1, vI ((i1 <<< ((1 : Int32) &&& 31)) + (1 : Int32))]) rfl ?_
    show OwnG p e below T1 m 37 #[vR tb1, vI ((i1 <<< ((1 : Int32) &&& 31)) + (1 : Int32))] [(.int (i1 <<< ((1 : Int32) &&& 31))), (.ref tb1)] tgt
    obtain ⟨cl2, Ar2, q2, S2, M2, H2, G2⟩ := f0
    refine X1.baloadBytes hx (j := (i1 <<< ((1 : Int32) &&& 31))) (v := (.int v0)) (by rw [e1]; exact Ar2.1) (State.isArrayOf_alike hZ.alike Ar2.2.1) Ar2.2.2 (inb_of S2 ha0.1) (Has.at H2 (inb_of S2 ha0.1) ha0.2) (g := (mkF m 37 #[vR tb1, vI ((i1 <<< ((1 : Int32) &&& 31)) + (1 : Int32))] [(.int (i1 <<< ((1 : Int32) &&& 31))), (.ref tb1)])) rfl rfl (hb hby d0_37) _ ?_
    show OwnG p e below T1 m 38 #[vR tb1, vI ((i1 <<< ((1 : Int32) &&& 31)) + (1 : Int32))] [(.int v0)] tgt
    refine XS.sipush X1.here hx rfl (hb hby d0_38) ?_
    show OwnG p e below T1 m 41 #[vR tb1, vI ((i1 <<< ((1 : Int32) &&& 31)) + (1 : Int32))] [(.int 255), (.int v0)] tgt
    refine XS.iand X1.here hx rfl (hb hby d0_41) rfl ?_
    exact kgo
  obtain ⟨T3, X3, e3, st3⟩ := getS2 X1 hx hZ hown (host := "") (Or.inl (own_w hw 101 rfl)) Via.refl e1 (wUH.ext X00.2) (g := (mkF m 42 #[vR tb1, vI ((i1 <<< ((1 : Int32) &&& 31)) + (1 : Int32))] [(.int (v0 &&& (255 : Int32)))])) rfl (hb hby d0_42)
  refine OwnGoes.step (T' := T3) (g' := (mkF m 45 #[vR tb1, vI ((i1 <<< ((1 : Int32) &&& 31)) + (1 : Int32))] [(.int 0), (.int (v0 &&& (255 : Int32)))])) st3 ?_
  refine OwnGoes.step (T' := T3) (g' := (mkF m 53 #[vR tb1, vI ((i1 <<< ((1 : Int32) &&& 31)) + (1 : Int32))] [(.int (v1 &&& (255 : Int32))), (.int ((v0 &&& (255 : Int32)) <<< ((0 : Int32) &&& 31)))])) (fun tgt kgo => ?_) ?_
  · refine XS.ishl X3.here hx rfl (hb hby d0_45) rfl ?_
    show OwnG p e below T3 m 46 #[vR tb1, vI ((i1 <<< ((1 : Int32) &&& 31)) + (1 : Int32))] [(.int ((v0 &&& (255 : Int32)) <<< ((0 : Int32) &&& 31)))] tgt
    refine XS.aloadN X3.here hx rfl (hb hby d0_46) rfl rfl ?_
    show OwnG p e below T3 m 47 #[vR tb1, vI ((i1 <<< ((1 : Int32) &&& 31)) + (1 : Int32))] [(.ref tb1), (.int ((v0 &&& (255 : Int32)) <<< ((0 : Int32) &&& 31)))] tgt
    refine XS.iloadN X3.here hx rfl (hb hby d0_47) rfl ?_
    show OwnG p e below T3 m 48 #[vR tb1, vI ((i1 <<< ((1 : Int32) &&& 31)) + (1 : Int32))] [(.int ((i1 <<< ((1 : Int32) &&& 31)) + (1 : Int32))), (.ref tb1), (.int ((v0 &&& (255 : Int32)) <<< ((0 : Int32) &&& 31)))] tgt
    obtain ⟨cl4, Ar4, q4, S4, M4, H4, G4⟩ := f0
    refine X3.baloadBytes hx (j := ((i1 <<< ((1 : Int32) &&& 31)) + (1 : Int32))) (v := (.int v1)) (by rw [e3]; exact Ar4.1) (State.isArrayOf_alike hZ.alike Ar4.2.1) Ar4.2.2 (inb_of S4 ha1.1) (Has.at H4 (inb_of S4 ha1.1) ha1.2) (g := (mkF m 48 #[vR tb1, vI ((i1 <<< ((1 : Int32) &&& 31)) + (1 : Int32))] [(.int ((i1 <<< ((1 : Int32) &&& 31)) + (1 : Int32))), (.ref tb1), (.int ((v0 &&& (255 : Int32)) <<< ((0 : Int32) &&& 31)))])) rfl rfl (hb hby d0_48) _ ?_
    show OwnG p e below T3 m 49 #[vR tb1, vI ((i1 <<< ((1 : Int32) &&& 31)) + (1 : Int32))] [(.int v1), (.int ((v0 &&& (255 : Int32)) <<< ((0 : Int32) &&& 31)))] tgt
    refine XS.sipush X3.here hx rfl (hb hby d0_49) ?_
    show OwnG p e below T3 m 52 #[vR tb1, vI ((i1 <<< ((1 : Int32) &&& 31)) + (1 : Int32))] [(.int 255), (.int v1), (.int ((v0 &&& (255 : Int32)) <<< ((0 : Int32) &&& 31)))] tgt
    refine XS.iand X3.here hx rfl (hb hby d0_52) rfl ?_
    exact kgo
  obtain ⟨T5, X5, e5, st5⟩ := getS2 X3 hx hZ hown (host := "") (Or.inl (own_w hw 102 rfl)) Via.refl e3 (wUL.ext X00.2) (g := (mkF m 53 #[vR tb1, vI ((i1 <<< ((1 : Int32) &&& 31)) + (1 : Int32))] [(.int (v1 &&& (255 : Int32))), (.int ((v0 &&& (255 : Int32)) <<< ((0 : Int32) &&& 31)))])) rfl (hb hby d0_53)
  refine OwnGoes.step (T' := T5) (g' := (mkF m 56 #[vR tb1, vI ((i1 <<< ((1 : Int32) &&& 31)) + (1 : Int32))] [(.int 8), (.int (v1 &&& (255 : Int32))), (.int ((v0 &&& (255 : Int32)) <<< ((0 : Int32) &&& 31)))])) st5 ?_
  refine OwnGoes.step (T' := T5) (g' := (mkF m 59 #[vR tb1, vI ((i1 <<< ((1 : Int32) &&& 31)) + (1 : Int32))] [(.int (nar .char (((v0 &&& (255 : Int32)) <<< ((0 : Int32) &&& 31)) ||| ((v1 &&& (255 : Int32)) <<< ((8 : Int32) &&& 31)))))])) (fun tgt kgo => ?_) ?_
  · refine XS.ishl X5.here hx rfl (hb hby d0_56) rfl ?_
    show OwnG p e below T5 m 57 #[vR tb1, vI ((i1 <<< ((1 : Int32) &&& 31)) + (1 : Int32))] [(.int ((v1 &&& (255 : Int32)) <<< ((8 : Int32) &&& 31))), (.int ((v0 &&& (255 : Int32)) <<< ((0 : Int32) &&& 31)))] tgt
    refine XS.ior X5.here hx rfl (hb hby d0_57) rfl ?_
    show OwnG p e below T5 m 58 #[vR tb1, vI ((i1 <<< ((1 : Int32) &&& 31)) + (1 : Int32))] [(.int (((v0 &&& (255 : Int32)) <<< ((0 : Int32) &&& 31)) ||| ((v1 &&& (255 : Int32)) <<< ((8 : Int32) &&& 31))))] tgt
    refine XS.i2c X5.here hx rfl (hb hby d0_58) rfl ?_
    exact kgo
  refine OwnGoes.step (T' := T5) (g' := (mkF m 59 #[vR tb1, vI ((i1 <<< ((1 : Int32) &&& 31)) + (1 : Int32))] [(.int c1)])) (fun tgt kgo => castTop (by rw [hp]) kgo) ?_
  refine own_leave X5 hlk (v := some (.int c1)) (fun h => by rw [Bd.returns] at h; cases h) (fun fs hr => retN X5 hx (t := .char) Bd.returns (by simp) (hb hby d0_59) (by rw [hn]; exact hr)) (by decide) (by decide) ?_
  show Q_u16get Z tb1 kb1 nB1 vs1 i1 c1 h0 n0 _ T5.heap _
  rw [e5]
  exact ⟨rfl, N0, rfl⟩
theorem ef_u16put (m : MethodId) (x0 : Addr) (x1 : Int32) (x2 : Int32) : entryFrame m #[(.ref x0), (.int x1), (.int x2)] 3 = mkF m 0 #[vR x0, vI x1, vI x2] [] := by
  first | (simp [entryFrame, mkF, argsToLocals, Value.category]; done) | rfl
def Q_u16put (Z : State) (tb1 : Addr) (kb1 : ClassId) (nB1 : Int32) (vs1 : List Value) (i1 : Int32) (c1 : Int32) (na : Nat) (h0 : Heap) (n0 : Nat) (v : Option Value) (h : Heap) (L : List Loc) : Prop := v = none ∧ Fr n0 L ∧ Keep h0 h ([tb1] : List Addr) ∧ Arv Z h tb1 kb1 .byte nB1 ((vs1.set na (.int (nar .byte c1))).set (na + 1) (.int (nar .byte (c1 >>> ((8 : Int32) &&& 31))))) (.int 0)
theorem d1_0 : decode jdk_52_method_4_code 0 = .ok (.getstatic 44, 3) := by decide +kernel
theorem d1_3 : decode jdk_52_method_4_code 3 = .ok (.ifCond .ne 25, 3) := by decide +kernel
theorem d1_28 : decode jdk_52_method_4_code 28 = .ok (.iload_n 1, 1) := by decide +kernel
theorem d1_29 : decode jdk_52_method_4_code 29 = .ok (.iconst 1, 1) := by decide +kernel
theorem d1_30 : decode jdk_52_method_4_code 30 = .ok (.ishl, 1) := by decide +kernel
theorem d1_31 : decode jdk_52_method_4_code 31 = .ok (.istore_n 1, 1) := by decide +kernel
theorem d1_32 : decode jdk_52_method_4_code 32 = .ok (.aload_n 0, 1) := by decide +kernel
theorem d1_33 : decode jdk_52_method_4_code 33 = .ok (.iload_n 1, 1) := by decide +kernel
theorem d1_34 : decode jdk_52_method_4_code 34 = .ok (.iinc 1 1, 3) := by decide +kernel
theorem d1_37 : decode jdk_52_method_4_code 37 = .ok (.iload_n 2, 1) := by decide +kernel
theorem d1_38 : decode jdk_52_method_4_code 38 = .ok (.getstatic 59, 3) := by decide +kernel
theorem d1_41 : decode jdk_52_method_4_code 41 = .ok (.ishr, 1) := by decide +kernel
theorem d1_42 : decode jdk_52_method_4_code 42 = .ok (.i2b, 1) := by decide +kernel
theorem d1_43 : decode jdk_52_method_4_code 43 = .ok (.bastore, 1) := by decide +kernel
theorem d1_44 : decode jdk_52_method_4_code 44 = .ok (.aload_n 0, 1) := by decide +kernel
theorem d1_45 : decode jdk_52_method_4_code 45 = .ok (.iload_n 1, 1) := by decide +kernel
theorem d1_46 : decode jdk_52_method_4_code 46 = .ok (.iload_n 2, 1) := by decide +kernel
theorem d1_47 : decode jdk_52_method_4_code 47 = .ok (.getstatic 63, 3) := by decide +kernel
theorem d1_50 : decode jdk_52_method_4_code 50 = .ok (.ishr, 1) := by decide +kernel
theorem d1_51 : decode jdk_52_method_4_code 51 = .ok (.i2b, 1) := by decide +kernel
theorem d1_52 : decode jdk_52_method_4_code 52 = .ok (.bastore, 1) := by decide +kernel
theorem d1_53 : decode jdk_52_method_4_code 53 = .ok (.return_, 1) := by decide +kernel
set_option maxRecDepth 65536 in
set_option maxHeartbeats 40000000 in
theorem rm_u16put (l : Launch) (Z : State) (a0 : Array Value) (hw : ∀ d ∈ tables_1, d.before a0 Z = true) (ws : List Jvm.Cond) (wG1 : Int32) (wG3 : Value) (cx : OwnCx Z a0 wG1 wG3) (hEL : EW Z a0 consts_1) (h0 : Heap) (n0 : Nat) (X00 : Old Z n0 h0) (tb1 : Addr) (kb1 : ClassId) (nB1 : Int32) (vs1 : List Value) (i1 : Int32) (c1 : Int32) (na : Nat) (f0 : Arv Z h0 tb1 kb1 .byte nB1 vs1 (.int 0)) (f1 : n0 ≤ tb1) (hput : OwnPut nB1 vs1 i1 na) :
    MetFree l mN1 (head1 (Jvm.Cond.code mN1 jdk_52_method_4_code 3 none :: ws) ({ frames := 0, cells := 0, slots := 0, locals := 0 } : Room)) (fun a U => a = #[(.ref tb1), (.int i1), (.int c1)] ∧ Z.Warmed39 U.vm ∧ U.heap = h0) (fun _ _ _ _ _ => True) (fun _ U o U' => ∃ v L, o = .returned v ∧ Q_u16put Z tb1 kb1 nB1 vs1 i1 c1 na h0 n0 v U'.heap L ∧ FrameEnd U o U' L ({ frames := 0, cells := 0, slots := 0, locals := 0 } : Room).cells ({ frames := 0, cells := 0, slots := 0, locals := 0 } : Room).slots) := by
  refine MetFree.of_bodySF (plainFor_of_name pn_68381282) hisR ?_
  intro p e s m args below meth c s₁ Bd hml0 hP hK
  obtain ⟨rfl, hZ, hh⟩ := hP
  obtain ⟨wO2, wP5, wO4, wrG3, hstr, wUA, wUH, wUL⟩ := id cx
  have hx := Bd.exec
  have hby := Bd.bytes
  have hlk := Bd.notSynchronized
  have hml : c.maxLocals = 3 := hml0
  have hown : s.vm.findClass "java/lang/StringUTF16" = some m.cls := findClass_of_methodNamed Bd.named
  have hnm := (name_of_methodNamed Bd.named Bd.method).1
  have X0 : Stand p l e ({ frames := 0, cells := 0, slots := 0, locals := 0 } : Room) s m #[(.ref tb1), (.int i1), (.int c1)] below meth c s₁ [] 0 0 := Stand.of_body Bd
  have e0 : s₁.heap = h0 := by rw [← hh, Bd.state]; rfl
  have N0 := Fr.nil n0
  have Z0 : n0 ≤ h0.size := X00.1 ▸ X00.2.1
  have K0 : Keep h0 h0 ([tb1] : List Addr) := Keep.refl _ _
  show OwnGoes p e below (fun o U' => ∃ v L, o = .returned v ∧ Q_u16put Z tb1 kb1 nB1 vs1 i1 c1 na h0 n0 v U'.heap L ∧ FrameEnd s o U' L ({ frames := 0, cells := 0, slots := 0, locals := 0 } : Room).cells ({ frames := 0, cells := 0, slots := 0, locals := 0 } : Room).slots) s₁ (entryFrame m #[(.ref tb1), (.int i1), (.int c1)] 3)
  refine OwnGoes.step (T' := s₁) (g' := (mkF m 0 #[vR tb1, vI i1, vI c1] [])) (fun tgt kgo => castTop (ef_u16put m tb1 i1 c1) kgo) ?_
  obtain ⟨T1, X1, e1, st1⟩ := getS2 X0 hx hZ hown (host := "") (Or.inl (own_w hw 100 rfl)) Via.refl e0 (wUA.ext X00.2) (g := (mkF m 0 #[vR tb1, vI i1, vI c1] [])) rfl (hb hby d1_0)
  refine OwnGoes.step (T' := T1) (g' := (mkF m 3 #[vR tb1, vI i1, vI c1] [(.int 1)])) st1 ?_
  refine OwnGoes.step (T' := T1) (g' := (mkF m 38 #[vR tb1, vI ((i1 <<< ((1 : Int32) &&& 31)) + (1 : Int32)), vI c1] [(.int c1), (.int (i1 <<< ((1 : Int32) &&& 31))), (.ref tb1)])) (fun tgt kgo => ?_) ?_
  · refine XS.ifYes X1.here hx rfl (pc0 := 3) (pc' := 28) rfl (hb hby d1_3) rfl ((if0 _ _).trans (feq (by decide : ¬ ((1 : Int32) = (0 : Int32)))).2) (by decide) (by decide) ?_
    show OwnG p e below T1 m 28 #[vR tb1, vI i1, vI c1] [] tgt
    refine XS.iloadN X1.here hx rfl (hb hby d1_28) rfl ?_
    show OwnG p e below T1 m 29 #[vR tb1, vI i1, vI c1] [(.int i1)] tgt
    refine XS.iconst X1.here hx rfl (hb hby d1_29) ?_
    show OwnG p e below T1 m 30 #[vR tb1, vI i1, vI c1] [(.int 1), (.int i1)] tgt
    refine XS.ishl X1.here hx rfl (hb hby d1_30) rfl ?_
    show OwnG p e below T1 m 31 #[vR tb1, vI i1, vI c1] [(.int (i1 <<< ((1 : Int32) &&& 31)))] tgt
    refine XS.istoreN X1.here hx rfl (hb hby d1_31) rfl (l' := #[vR tb1, vI (i1 <<< ((1 : Int32) &&& 31)), vI c1]) rfl ?_
    show OwnG p e below T1 m 32 #[vR tb1, vI (i1 <<< ((1 : Int32) &&& 31)), vI c1] [] tgt
    refine XS.aloadN X1.here hx rfl (hb hby d1_32) rfl rfl ?_
    show OwnG p e below T1 m 33 #[vR tb1, vI (i1 <<< ((1 : Int32) &&& 31)), vI c1] [(.ref tb1)] tgt
    refine XS.iloadN X1.here hx rfl (hb hby d1_33) rfl ?_
    show OwnG p e below T1 m 34 #[vR tb1, vI (i1 <<< ((1 : Int32) &&& 31)), vI c1] [(.int (i1 <<< ((1 : Int32) &&& 31))), (.ref tb1)] tgt
    refine XS.iinc X1.here hx rfl (hb hby d1_34) rfl (l' := #[vR tb1, vI ((i1 <<< ((1 : Int32) &&& 31)) + (1 : Int32)), vI c1]) rfl ?_
    show OwnG p e below T1 m 37 #[vR tb1, vI ((i1 <<< ((1 : Int32) &&& 31)) + (1 : Int32)), vI c1] [(.int (i1 <<< ((1 : Int32) &&& 31))), (.ref tb1)] tgt
    refine XS.iloadN X1.here hx rfl (hb hby d1_37) rfl ?_
    exact kgo
  obtain ⟨T2, X2, e2, st2⟩ := getS2 X1 hx hZ hown (host := "") (Or.inl (own_w hw 101 rfl)) Via.refl e1 (wUH.ext X00.2) (g := (mkF m 38 #[vR tb1, vI ((i1 <<< ((1 : Int32) &&& 31)) + (1 : Int32)), vI c1] [(.int c1), (.int (i1 <<< ((1 : Int32) &&& 31))), (.ref tb1)])) rfl (hb hby d1_38)
  refine OwnGoes.step (T' := T2) (g' := (mkF m 41 #[vR tb1, vI ((i1 <<< ((1 : Int32) &&& 31)) + (1 : Int32)), vI c1] [(.int 0), (.int c1), (.int (i1 <<< ((1 : Int32) &&& 31))), (.ref tb1)])) st2 ?_
  refine OwnGoes.step (T' := T2) (g' := (mkF m 42 #[vR tb1, vI ((i1 <<< ((1 : Int32) &&& 31)) + (1 : Int32)), vI c1] [(.int (c1 >>> ((0 : Int32) &&& 31))), (.int (i1 <<< ((1 : Int32) &&& 31))), (.ref tb1)])) (fun tgt kgo => ?_) ?_
  · refine XS.ishr X2.here hx rfl (hb hby d1_41) rfl ?_
    exact kgo
  refine OwnGoes.step (T' := T2) (g' := (mkF m 42 #[vR tb1, vI ((i1 <<< ((1 : Int32) &&& 31)) + (1 : Int32)), vI c1] [(.int c1), (.int (i1 <<< ((1 : Int32) &&& 31))), (.ref tb1)])) (fun tgt kgo => castTop (by rw [(StrChars.shr0 c1)]) kgo) ?_
  refine OwnGoes.step (T' := T2) (g' := (mkF m 43 #[vR tb1, vI ((i1 <<< ((1 : Int32) &&& 31)) + (1 : Int32)), vI c1] [(.int (nar .byte c1)), (.int (i1 <<< ((1 : Int32) &&& 31))), (.ref tb1)])) (fun tgt kgo => ?_) ?_
  · refine XS.i2b X2.here hx rfl (hb hby d1_42) rfl ?_
    exact kgo
  obtain ⟨cl3, Ar3, q3, S3, M3, H3, G3⟩ := id f0
  obtain ⟨T3, h3, X3, e3, W3, st3⟩ := stB X2 hx hZ e2 Ar3 (j := (i1 <<< ((1 : Int32) &&& 31))) (inb_of S3 hput.1.1) (g := (mkF m 43 #[vR tb1, vI ((i1 <<< ((1 : Int32) &&& 31)) + (1 : Int32)), vI c1] [(.int (nar .byte c1)), (.int (i1 <<< ((1 : Int32) &&& 31))), (.ref tb1)])) rfl rfl (hb hby d1_43)
  refine OwnGoes.step (T' := T3) (g' := (mkF m 44 #[vR tb1, vI ((i1 <<< ((1 : Int32) &&& 31)) + (1 : Int32)), vI c1] [])) st3 ?_
  have V3 : Arv Z h3 tb1 kb1 .byte nB1 (vs1.set na (.int (nar .byte (nar .byte c1)))) (.int 0) := Arv.set Ar3 q3 S3 M3 H3 G3 (fits_nar_byte _) W3 _ hput.1.2.1 hput.1.2.2
  rw [own_nar2_byte] at V3
  have V3' : Arv Z h3 tb1 kb1 .byte nB1 (vs1.set na (.int (nar .byte c1))) (.int 0) := V3
  have Ol3 := X00.wr W3 f1
  have K3 : Keep h0 h3 ([tb1] : List Addr) := K0.wr W3 (Or.inl (List.mem_of_getElem? (i := 0) rfl))
  have N3 := Fr.snoc X3 N0 f1
  refine OwnGoes.step (T' := T3) (g' := (mkF m 47 #[vR tb1, vI ((i1 <<< ((1 : Int32) &&& 31)) + (1 : Int32)), vI c1] [(.int c1), (.int ((i1 <<< ((1 : Int32) &&& 31)) + (1 : Int32))), (.ref tb1)])) (fun tgt kgo => ?_) ?_
  · refine XS.aloadN X3.here hx rfl (hb hby d1_44) rfl rfl ?_
    show OwnG p e below T3 m 45 #[vR tb1, vI ((i1 <<< ((1 : Int32) &&& 31)) + (1 : Int32)), vI c1] [(.ref tb1)] tgt
    refine XS.iloadN X3.here hx rfl (hb hby d1_45) rfl ?_
    show OwnG p e below T3 m 46 #[vR tb1, vI ((i1 <<< ((1 : Int32) &&& 31)) + (1 : Int32)), vI c1] [(.int ((i1 <<< ((1 : Int32) &&& 31)) + (1 : Int32))), (.ref tb1)] tgt
    refine XS.iloadN X3.here hx rfl (hb hby d1_46) rfl ?_
    exact kgo
  obtain ⟨T4, X4, e4, st4⟩ := getS2 X3 hx hZ hown (host := "") (Or.inl (own_w hw 102 rfl)) Via.refl e3 (wUL.ext Ol3.2) (g := (mkF m 47 #[vR tb1, vI ((i1 <<< ((1 : Int32) &&& 31)) + (1 : Int32)), vI c1] [(.int c1), (.int ((i1 <<< ((1 : Int32) &&& 31)) + (1 : Int32))), (.ref tb1)])) rfl (hb hby d1_47)
  refine OwnGoes.step (T' := T4) (g' := (mkF m 50 #[vR tb1, vI ((i1 <<< ((1 : Int32) &&& 31)) + (1 : Int32)), vI c1] [(.int 8), (.int c1), (.int ((i1 <<< ((1 : Int32) &&& 31)) + (1 : Int32))), (.ref tb1)])) st4 ?_
  refine OwnGoes.step (T' := T4) (g' := (mkF m 52 #[vR tb1, vI ((i1 <<< ((1 : Int32) &&& 31)) + (1 : Int32)), vI c1] [(.int (nar .byte (c1 >>> ((8 : Int32) &&& 31)))), (.int ((i1 <<< ((1 : Int32) &&& 31)) + (1 : Int32))), (.ref tb1)])) (fun tgt kgo => ?_) ?_
  · refine XS.ishr X4.here hx rfl (hb hby d1_50) rfl ?_
    show OwnG p e below T4 m 51 #[vR tb1, vI ((i1 <<< ((1 : Int32) &&& 31)) + (1 : Int32)), vI c1] [(.int (c1 >>> ((8 : Int32) &&& 31))), (.int ((i1 <<< ((1 : Int32) &&& 31)) + (1 : Int32))), (.ref tb1)] tgt
    refine XS.i2b X4.here hx rfl (hb hby d1_51) rfl ?_
    exact kgo
  obtain ⟨cl5, Ar5, q5, S5, M5, H5, G5⟩ := id V3'
  obtain ⟨T5, h5, X5, e5, W5, st5⟩ := stB X4 hx hZ e4 Ar5 (j := ((i1 <<< ((1 : Int32) &&& 31)) + (1 : Int32))) (inb_of S5 hput.2.1) (g := (mkF m 52 #[vR tb1, vI ((i1 <<< ((1 : Int32) &&& 31)) + (1 : Int32)), vI c1] [(.int (nar .byte (c1 >>> ((8 : Int32) &&& 31)))), (.int ((i1 <<< ((1 : Int32) &&& 31)) + (1 : Int32))), (.ref tb1)])) rfl rfl (hb hby d1_52)
  refine OwnGoes.step (T' := T5) (g' := (mkF m 53 #[vR tb1, vI ((i1 <<< ((1 : Int32) &&& 31)) + (1 : Int32)), vI c1] [])) st5 ?_
  have V5 : Arv Z h5 tb1 kb1 .byte nB1 ((vs1.set na (.int (nar .byte c1))).set (na + 1) (.int (nar .byte (nar .byte (c1 >>> ((8 : Int32) &&& 31)))))) (.int 0) := Arv.set Ar5 q5 S5 M5 H5 G5 (fits_nar_byte _) W5 _ hput.2.2.1 (by rw [List.length_set]; exact hput.2.2.2)
  rw [own_nar2_byte] at V5
  have V5' : Arv Z h5 tb1 kb1 .byte nB1 ((vs1.set na (.int (nar .byte c1))).set (na + 1) (.int (nar .byte (c1 >>> ((8 : Int32) &&& 31))))) (.int 0) := V5
  have Ol5 := Ol3.wr W5 f1
  have K5 : Keep h0 h5 ([tb1] : List Addr) := K3.wr W5 (Or.inl (List.mem_of_getElem? (i := 0) rfl))
  have N5 := Fr.snoc X5 N3 f1
  refine own_leave X5 hlk (v := none) (fun _ => rfl) (fun fs hr => X5.returnOut hx Bd.returns (hb hby d1_53) hr) (by decide) (by decide) ?_
  show Q_u16put Z tb1 kb1 nB1 vs1 i1 c1 na h0 n0 _ T5.heap _
  rw [e5]
  exact ⟨rfl, N5, K5, V5'⟩
theorem ef_c5_1 (m : MethodId) (x0 : Addr) (x2 : Addr) : entryFrame m #[(.ref x0), (.int 0), (.ref x2), (.int 0), (.int 1)] 7 = mkF m 0 #[vR x0, vI 0, vR x2, vI 0, vI 1, vU, vU] [] := by
  first | (simp [entryFrame, mkF, argsToLocals, Value.category]; done) | rfl
def Q_c5_1 (Z : State) (ab1 : Addr) (tb1 : Addr) (kc : ClassId) (kb1 : ClassId) (c1 : Int32) (h0 : Heap) (n0 : Nat) (v : Option Value) (h : Heap) (L : List Loc) : Prop := ∃ (r : Int32), ∃ (vs : List Value), v = some (.int r) ∧ Fr n0 L ∧ Keep h0 h ([tb1] : List Addr) ∧ Arv Z h tb1 kb1 .byte (1 : Int32) vs (.int 0) ∧ ((r = (1 : Int32) ∧ vs = [(.int (nar .byte c1))] ∧ ¬ ((255 : Int32) < c1)) ∨ (r = (0 : Int32) ∧ (255 : Int32) < c1))
theorem d2_0 : decode jdk_52_method_21_code 0 = .ok (.iconst 0, 1) := by decide +kernel
theorem d2_1 : decode jdk_52_method_21_code 1 = .ok (.istore 5, 2) := by decide +kernel
theorem d2_3 : decode jdk_52_method_21_code 3 = .ok (.iload 5, 2) := by decide +kernel
theorem d2_5 : decode jdk_52_method_21_code 5 = .ok (.iload 4, 2) := by decide +kernel
theorem d2_7 : decode jdk_52_method_21_code 7 = .ok (.if_icmp .ge 37, 3) := by decide +kernel
theorem d2_10 : decode jdk_52_method_21_code 10 = .ok (.aload_n 0, 1) := by decide +kernel
theorem d2_11 : decode jdk_52_method_21_code 11 = .ok (.iload_n 1, 1) := by decide +kernel
theorem d2_12 : decode jdk_52_method_21_code 12 = .ok (.caload, 1) := by decide +kernel
theorem d2_13 : decode jdk_52_method_21_code 13 = .ok (.istore 6, 2) := by decide +kernel
theorem d2_15 : decode jdk_52_method_21_code 15 = .ok (.iload 6, 2) := by decide +kernel
theorem d2_17 : decode jdk_52_method_21_code 17 = .ok (.sipush 255, 3) := by decide +kernel
theorem d2_20 : decode jdk_52_method_21_code 20 = .ok (.if_icmp .le 6, 3) := by decide +kernel
theorem d2_23 : decode jdk_52_method_21_code 23 = .ok (.iload 5, 2) := by decide +kernel
theorem d2_25 : decode jdk_52_method_21_code 25 = .ok (.ireturn, 1) := by decide +kernel
theorem d2_26 : decode jdk_52_method_21_code 26 = .ok (.aload_n 2, 1) := by decide +kernel
theorem d2_27 : decode jdk_52_method_21_code 27 = .ok (.iload_n 3, 1) := by decide +kernel
theorem d2_28 : decode jdk_52_method_21_code 28 = .ok (.iload 6, 2) := by decide +kernel
theorem d2_30 : decode jdk_52_method_21_code 30 = .ok (.i2b, 1) := by decide +kernel
theorem d2_31 : decode jdk_52_method_21_code 31 = .ok (.bastore, 1) := by decide +kernel
theorem d2_32 : decode jdk_52_method_21_code 32 = .ok (.iinc 1 1, 3) := by decide +kernel
theorem d2_35 : decode jdk_52_method_21_code 35 = .ok (.iinc 3 1, 3) := by decide +kernel
theorem d2_38 : decode jdk_52_method_21_code 38 = .ok (.iinc 5 1, 3) := by decide +kernel
theorem d2_41 : decode jdk_52_method_21_code 41 = .ok (.goto (-38), 3) := by decide +kernel
theorem d2_44 : decode jdk_52_method_21_code 44 = .ok (.iload 4, 2) := by decide +kernel
theorem d2_46 : decode jdk_52_method_21_code 46 = .ok (.ireturn, 1) := by decide +kernel
set_option maxRecDepth 65536 in
set_option maxHeartbeats 40000000 in
theorem rm_c5_1 (l : Launch) (Z : State) (a0 : Array Value) (hw : ∀ d ∈ tables_1, d.before a0 Z = true) (ws : List Jvm.Cond) (wG1 : Int32) (wG3 : Value) (cx : OwnCx Z a0 wG1 wG3) (hEL : EW Z a0 consts_1) (h0 : Heap) (n0 : Nat) (X00 : Old Z n0 h0) (ab1 : Addr) (tb1 : Addr) (kc : ClassId) (kb1 : ClassId) (c1 : Int32) (f0 : Arv Z h0 ab1 kc .char (1 : Int32) [(.int c1)] (.int 0)) (f1 : Arv Z h0 tb1 kb1 .byte (1 : Int32) [(.int 0)] (.int 0)) (f2 : n0 ≤ tb1) :
    MetFree l mN2 (head1 (Jvm.Cond.code mN2 jdk_52_method_21_code 7 (some .int) :: ws) ({ frames := 0, cells := 0, slots := 0, locals := 0 } : Room)) (fun a U => a = #[(.ref ab1), (.int 0), (.ref tb1), (.int 0), (.int 1)] ∧ Z.Warmed39 U.vm ∧ U.heap = h0) (fun _ _ _ _ _ => True) (fun _ U o U' => ∃ v L, o = .returned v ∧ Q_c5_1 Z ab1 tb1 kc kb1 c1 h0 n0 v U'.heap L ∧ FrameEnd U o U' L ({ frames := 0, cells := 0, slots := 0, locals := 0 } : Room).cells ({ frames := 0, cells := 0, slots := 0, locals := 0 } : Room).slots) := by
  refine MetFree.of_bodySF (plainFor_of_name pn_68381282) hisR ?_
  intro p e s m args below meth c s₁ Bd hml0 hP hK
  obtain ⟨rfl, hZ, hh⟩ := hP
  obtain ⟨wO2, wP5, wO4, wrG3, hstr, wUA, wUH, wUL⟩ := id cx
  have hx := Bd.exec
  have hby := Bd.bytes
  have hlk := Bd.notSynchronized
  have hml : c.maxLocals = 7 := hml0
  have hown : s.vm.findClass "java/lang/StringUTF16" = some m.cls := findClass_of_methodNamed Bd.named
  have hnm := (name_of_methodNamed Bd.named Bd.method).1
  have X0 : Stand p l e ({ frames := 0, cells := 0, slots := 0, locals := 0 } : Room) s m #[(.ref ab1), (.int 0), (.ref tb1), (.int 0), (.int 1)] below meth c s₁ [] 0 0 := Stand.of_body Bd
  have e0 : s₁.heap = h0 := by rw [← hh, Bd.state]; rfl
  have N0 := Fr.nil n0
  have Z0 : n0 ≤ h0.size := X00.1 ▸ X00.2.1
  have K0 : Keep h0 h0 ([tb1] : List Addr) := Keep.refl _ _
  show OwnGoes p e below (fun o U' => ∃ v L, o = .returned v ∧ Q_c5_1 Z ab1 tb1 kc kb1 c1 h0 n0 v U'.heap L ∧ FrameEnd s o U' L ({ frames := 0, cells := 0, slots := 0, locals := 0 } : Room).cells ({ frames := 0, cells := 0, slots := 0, locals := 0 } : Room).slots) s₁ (entryFrame m #[(.ref ab1), (.int 0), (.ref tb1), (.int 0), (.int 1)] 7)
  refine OwnGoes.step (T' := s₁) (g' := (mkF m 0 #[vR ab1, vI 0, vR tb1, vI 0, vI 1, vU, vU] [])) (fun tgt kgo => castTop (ef_c5_1 m ab1 tb1) kgo) ?_
  refine OwnGoes.step (T' := s₁) (g' := (mkF m 20 #[vR ab1, vI 0, vR tb1, vI 0, vI 1, vI 0, vI c1] [(.int 255), (.int c1)])) (fun tgt kgo => ?_) ?_
  · refine XS.iconst X0.here hx rfl (hb hby d2_0) ?_
    show OwnG p e below s₁ m 1 #[vR ab1, vI 0, vR tb1, vI 0, vI 1, vU, vU] [(.int 0)] tgt
    refine XS.istore X0.here hx rfl (hb hby d2_1) rfl (l' := #[vR ab1, vI 0, vR tb1, vI 0, vI 1, vI 0, vU]) rfl ?_
    show OwnG p e below s₁ m 3 #[vR ab1, vI 0, vR tb1, vI 0, vI 1, vI 0, vU] [] tgt
    refine XS.iload X0.here hx rfl (hb hby d2_3) rfl ?_
    show OwnG p e below s₁ m 5 #[vR ab1, vI 0, vR tb1, vI 0, vI 1, vI 0, vU] [(.int 0)] tgt
    refine XS.iload X0.here hx rfl (hb hby d2_5) rfl ?_
    show OwnG p e below s₁ m 7 #[vR ab1, vI 0, vR tb1, vI 0, vI 1, vI 0, vU] [(.int 1), (.int 0)] tgt
    refine XS.icmpNo X0.here hx rfl (hb hby d2_7) rfl (tlt (by decide : (0 : Int32) < (1 : Int32))).2.1 ?_
    show OwnG p e below s₁ m 10 #[vR ab1, vI 0, vR tb1, vI 0, vI 1, vI 0, vU] [] tgt
    refine XS.aloadN X0.here hx rfl (hb hby d2_10) rfl rfl ?_
    show OwnG p e below s₁ m 11 #[vR ab1, vI 0, vR tb1, vI 0, vI 1, vI 0, vU] [(.ref ab1)] tgt
    refine XS.iloadN X0.here hx rfl (hb hby d2_11) rfl ?_
    show OwnG p e below s₁ m 12 #[vR ab1, vI 0, vR tb1, vI 0, vI 1, vI 0, vU] [(.int 0), (.ref ab1)] tgt
    obtain ⟨cl1, Ar1, q1, S1, M1, H1, G1⟩ := f0
    refine X0.caload hx (j := (0 : Int32)) (v := (.int c1)) (by rw [e0]; exact Ar1.1) (State.isArrayOf_alike hZ.alike Ar1.2.1) Ar1.2.2 (inb_of S1 ⟨by decide, by decide⟩) (Has.at H1 (inb_of S1 ⟨by decide, by decide⟩) rfl) (g := (mkF m 12 #[vR ab1, vI 0, vR tb1, vI 0, vI 1, vI 0, vU] [(.int 0), (.ref ab1)])) rfl rfl (hb hby d2_12) _ ?_
    show OwnG p e below s₁ m 13 #[vR ab1, vI 0, vR tb1, vI 0, vI 1, vI 0, vU] [(.int c1)] tgt
    refine XS.istore X0.here hx rfl (hb hby d2_13) rfl (l' := #[vR ab1, vI 0, vR tb1, vI 0, vI 1, vI 0, vI c1]) rfl ?_
    show OwnG p e below s₁ m 15 #[vR ab1, vI 0, vR tb1, vI 0, vI 1, vI 0, vI c1] [] tgt
    refine XS.iload X0.here hx rfl (hb hby d2_15) rfl ?_
    show OwnG p e below s₁ m 17 #[vR ab1, vI 0, vR tb1, vI 0, vI 1, vI 0, vI c1] [(.int c1)] tgt
    refine XS.sipush X0.here hx rfl (hb hby d2_17) ?_
    exact kgo
  by_cases cc2 : (255 : Int32) < c1
  · skip
    refine OwnGoes.step (T' := s₁) (g' := (mkF m 25 #[vR ab1, vI 0, vR tb1, vI 0, vI 1, vI 0, vI c1] [(.int 0)])) (fun tgt kgo => ?_) ?_
    · refine XS.icmpNo X0.here hx rfl (hb hby d2_20) rfl (tlt cc2).2.2.2 ?_
      show OwnG p e below s₁ m 23 #[vR ab1, vI 0, vR tb1, vI 0, vI 1, vI 0, vI c1] [] tgt
      refine XS.iload X0.here hx rfl (hb hby d2_23) rfl ?_
      exact kgo
    refine own_leave X0 hlk (v := some (.int 0)) (fun h => by rw [Bd.returns] at h; cases h) (fun fs hr => retI X0 hx Bd.returns (hb hby d2_25) hr) (by decide) (by decide) ?_
    show Q_c5_1 Z ab1 tb1 kc kb1 c1 h0 n0 _ s₁.heap _
    rw [e0]
    exact ⟨(0 : Int32), [(.int 0)], rfl, N0, K0, f1, (Or.inr ⟨rfl, cc2⟩)⟩
  refine OwnGoes.step (T' := s₁) (g' := (mkF m 31 #[vR ab1, vI 0, vR tb1, vI 0, vI 1, vI 0, vI c1] [(.int (nar .byte c1)), (.int 0), (.ref tb1)])) (fun tgt kgo => ?_) ?_
  · refine XS.icmpYes X0.here hx rfl (pc0 := 20) (pc' := 26) rfl (hb hby d2_20) rfl (flt cc2).2.2.2 (by decide) (by decide) ?_
    show OwnG p e below s₁ m 26 #[vR ab1, vI 0, vR tb1, vI 0, vI 1, vI 0, vI c1] [] tgt
    refine XS.aloadN X0.here hx rfl (hb hby d2_26) rfl rfl ?_
    show OwnG p e below s₁ m 27 #[vR ab1, vI 0, vR tb1, vI 0, vI 1, vI 0, vI c1] [(.ref tb1)] tgt
    refine XS.iloadN X0.here hx rfl (hb hby d2_27) rfl ?_
    show OwnG p e below s₁ m 28 #[vR ab1, vI 0, vR tb1, vI 0, vI 1, vI 0, vI c1] [(.int 0), (.ref tb1)] tgt
    refine XS.iload X0.here hx rfl (hb hby d2_28) rfl ?_
    show OwnG p e below s₁ m 30 #[vR ab1, vI 0, vR tb1, vI 0, vI 1, vI 0, vI c1] [(.int c1), (.int 0), (.ref tb1)] tgt
    refine XS.i2b X0.here hx rfl (hb hby d2_30) rfl ?_
    exact kgo
  obtain ⟨cl4, Ar4, q4, S4, M4, H4, G4⟩ := id f1
  obtain ⟨T4, h4, X4, e4, W4, st4⟩ := stB X0 hx hZ e0 Ar4 (j := (0 : Int32)) (inb_of S4 ⟨by decide, by decide⟩) (g := (mkF m 31 #[vR ab1, vI 0, vR tb1, vI 0, vI 1, vI 0, vI c1] [(.int (nar .byte c1)), (.int 0), (.ref tb1)])) rfl rfl (hb hby d2_31)
  refine OwnGoes.step (T' := T4) (g' := (mkF m 32 #[vR ab1, vI 0, vR tb1, vI 0, vI 1, vI 0, vI c1] [])) st4 ?_
  have V4 : Arv Z h4 tb1 kb1 .byte (1 : Int32) [(.int (nar .byte (nar .byte c1)))] (.int 0) := Arv.set Ar4 q4 S4 M4 H4 G4 (fits_nar_byte _) W4 0 rfl (Nat.le_of_ble_eq_true rfl)
  rw [own_nar2_byte] at V4
  have V4' : Arv Z h4 tb1 kb1 .byte (1 : Int32) [(.int (nar .byte c1))] (.int 0) := V4
  have F4_1 := f0.other W4 (own_arv_ty f0 f1 (by decide))
  have Ol4 := X00.wr W4 f2
  have K4 : Keep h0 h4 ([tb1] : List Addr) := K0.wr W4 (Or.inl (List.mem_of_getElem? (i := 0) rfl))
  have N4 := Fr.snoc X4 N0 f2
  refine OwnGoes.step (T' := T4) (g' := (mkF m 46 #[vR ab1, vI 1, vR tb1, vI 1, vI 1, vI 1, vI c1] [(.int 1)])) (fun tgt kgo => ?_) ?_
  · refine XS.iinc X4.here hx rfl (hb hby d2_32) rfl (l' := #[vR ab1, vI 1, vR tb1, vI 0, vI 1, vI 0, vI c1]) rfl ?_
    show OwnG p e below T4 m 35 #[vR ab1, vI 1, vR tb1, vI 0, vI 1, vI 0, vI c1] [] tgt
    refine XS.iinc X4.here hx rfl (hb hby d2_35) rfl (l' := #[vR ab1, vI 1, vR tb1, vI 1, vI 1, vI 0, vI c1]) rfl ?_
    show OwnG p e below T4 m 38 #[vR ab1, vI 1, vR tb1, vI 1, vI 1, vI 0, vI c1] [] tgt
    refine XS.iinc X4.here hx rfl (hb hby d2_38) rfl (l' := #[vR ab1, vI 1, vR tb1, vI 1, vI 1, vI 1, vI c1]) rfl ?_
    show OwnG p e below T4 m 41 #[vR ab1, vI 1, vR tb1, vI 1, vI 1, vI 1, vI c1] [] tgt
    refine XS.goto X4.here hx rfl (pc0 := 41) (pc' := 3) rfl (hb hby d2_41) (by decide) (by decide) ?_
    show OwnG p e below T4 m 3 #[vR ab1, vI 1, vR tb1, vI 1, vI 1, vI 1, vI c1] [] tgt
    refine XS.iload X4.here hx rfl (hb hby d2_3) rfl ?_
    show OwnG p e below T4 m 5 #[vR ab1, vI 1, vR tb1, vI 1, vI 1, vI 1, vI c1] [(.int 1)] tgt
    refine XS.iload X4.here hx rfl (hb hby d2_5) rfl ?_
    show OwnG p e below T4 m 7 #[vR ab1, vI 1, vR tb1, vI 1, vI 1, vI 1, vI c1] [(.int 1), (.int 1)] tgt
    refine XS.icmpYes X4.here hx rfl (pc0 := 7) (pc' := 44) rfl (hb hby d2_7) rfl (flt (by decide : ¬ ((1 : Int32) < (1 : Int32)))).2.1 (by decide) (by decide) ?_
    show OwnG p e below T4 m 44 #[vR ab1, vI 1, vR tb1, vI 1, vI 1, vI 1, vI c1] [] tgt
    refine XS.iload X4.here hx rfl (hb hby d2_44) rfl ?_
    exact kgo
  refine own_leave X4 hlk (v := some (.int 1)) (fun h => by rw [Bd.returns] at h; cases h) (fun fs hr => retI X4 hx Bd.returns (hb hby d2_46) hr) (by decide) (by decide) ?_
  show Q_c5_1 Z ab1 tb1 kc kb1 c1 h0 n0 _ T4.heap _
  rw [e4]
  exact ⟨(1 : Int32), [(.int (nar .byte c1))], rfl, N4, K4, V4', (Or.inl ⟨rfl, rfl, cc2⟩)⟩
theorem ef_nbl_1 (m : MethodId)  : entryFrame m #[(.int 1)] 1 = mkF m 0 #[vI 1] [] := by
  first | (simp [entryFrame, mkF, argsToLocals, Value.category]; done) | rfl
def Q_nbl_1 (Z : State)  (h0 : Heap) (n0 : Nat) (v : Option Value) (h : Heap) (L : List Loc) : Prop := v = some (.int 2) ∧ Fr n0 L ∧ h = h0
theorem d3_0 : decode jdk_52_method_3_code 0 = .ok (.iload_n 0, 1) := by decide +kernel
theorem d3_1 : decode jdk_52_method_3_code 1 = .ok (.ifCond .ge 11, 3) := by decide +kernel
theorem d3_12 : decode jdk_52_method_3_code 12 = .ok (.iload_n 0, 1) := by decide +kernel
theorem d3_13 : decode jdk_52_method_3_code 13 = .ok (.ldc 20, 2) := by decide +kernel
theorem d3_15 : decode jdk_52_method_3_code 15 = .ok (.if_icmp .lt 40, 3) := by decide +kernel
theorem d3_55 : decode jdk_52_method_3_code 55 = .ok (.iload_n 0, 1) := by decide +kernel
theorem d3_56 : decode jdk_52_method_3_code 56 = .ok (.iconst 1, 1) := by decide +kernel
theorem d3_57 : decode jdk_52_method_3_code 57 = .ok (.ishl, 1) := by decide +kernel
theorem d3_58 : decode jdk_52_method_3_code 58 = .ok (.ireturn, 1) := by decide +kernel
set_option maxRecDepth 65536 in
set_option maxHeartbeats 40000000 in
theorem rm_nbl_1 (l : Launch) (Z : State) (a0 : Array Value) (hw : ∀ d ∈ tables_1, d.before a0 Z = true) (ws : List Jvm.Cond) (wG1 : Int32) (wG3 : Value) (cx : OwnCx Z a0 wG1 wG3) (hEL : EW Z a0 consts_1) (h0 : Heap) (n0 : Nat) (X00 : Old Z n0 h0)  :
    MetFree l mN3 (head1 (Jvm.Cond.code mN3 jdk_52_method_3_code 1 (some .int) :: ws) ({ frames := 0, cells := 0, slots := 0, locals := 0 } : Room)) (fun a U => a = #[(.int 1)] ∧ Z.Warmed39 U.vm ∧ U.heap = h0) (fun _ _ _ _ _ => True) (fun _ U o U' => ∃ v L, o = .returned v ∧ Q_nbl_1 Z  h0 n0 v U'.heap L ∧ FrameEnd U o U' L ({ frames := 0, cells := 0, slots := 0, locals := 0 } : Room).cells ({ frames := 0, cells := 0, slots := 0, locals := 0 } : Room).slots) := by
  refine MetFree.of_bodySF (plainFor_of_name pn_68381282) hisR ?_
  intro p e s m args below meth c s₁ Bd hml0 hP hK
  obtain ⟨rfl, hZ, hh⟩ := hP
  obtain ⟨wO2, wP5, wO4, wrG3, hstr, wUA, wUH, wUL⟩ := id cx
  have hx := Bd.exec
  have hby := Bd.bytes
  have hlk := Bd.notSynchronized
  have hml : c.maxLocals = 1 := hml0
  have hown : s.vm.findClass "java/lang/StringUTF16" = some m.cls := findClass_of_methodNamed Bd.named
  have hnm := (name_of_methodNamed Bd.named Bd.method).1
  have X0 : Stand p l e ({ frames := 0, cells := 0, slots := 0, locals := 0 } : Room) s m #[(.int 1)] below meth c s₁ [] 0 0 := Stand.of_body Bd
  have e0 : s₁.heap = h0 := by rw [← hh, Bd.state]; rfl
  have N0 := Fr.nil n0
  have Z0 : n0 ≤ h0.size := X00.1 ▸ X00.2.1
  have K0 : Keep h0 h0 ([] : List Addr) := Keep.refl _ _
  show OwnGoes p e below (fun o U' => ∃ v L, o = .returned v ∧ Q_nbl_1 Z  h0 n0 v U'.heap L ∧ FrameEnd s o U' L ({ frames := 0, cells := 0, slots := 0, locals := 0 } : Room).cells ({ frames := 0, cells := 0, slots := 0, locals := 0 } : Room).slots) s₁ (entryFrame m #[(.int 1)] 1)
  refine OwnGoes.step (T' := s₁) (g' := (mkF m 0 #[vI 1] [])) (fun tgt kgo => castTop (ef_nbl_1 m ) kgo) ?_
  refine OwnGoes.step (T' := s₁) (g' := (mkF m 58 #[vI 1] [(.int 2)])) (fun tgt kgo => ?_) ?_
  · refine XS.iloadN X0.here hx rfl (hb hby d3_0) rfl ?_
    show OwnG p e below s₁ m 1 #[vI 1] [(.int 1)] tgt
    refine XS.ifYes X0.here hx rfl (pc0 := 1) (pc' := 12) rfl (hb hby d3_1) rfl ((if0 _ _).trans (flt (by decide : ¬ ((1 : Int32) < (0 : Int32)))).2.1) (by decide) (by decide) ?_
    show OwnG p e below s₁ m 12 #[vI 1] [] tgt
    refine XS.iloadN X0.here hx rfl (hb hby d3_12) rfl ?_
    show OwnG p e below s₁ m 13 #[vI 1] [(.int 1)] tgt
    refine X0.ldcInt hx hown (mvT hZ (own_w hw 96 rfl)) (g := (mkF m 13 #[vI 1] [(.int 1)])) rfl (hb hby d3_13) _ ?_
    show OwnG p e below s₁ m 15 #[vI 1] [(.int 1073741823), (.int 1)] tgt
    refine XS.icmpYes X0.here hx rfl (pc0 := 15) (pc' := 55) rfl (hb hby d3_15) rfl (tlt (by decide : (1 : Int32) < (1073741823 : Int32))).1 (by decide) (by decide) ?_
    show OwnG p e below s₁ m 55 #[vI 1] [] tgt
    refine XS.iloadN X0.here hx rfl (hb hby d3_55) rfl ?_
    show OwnG p e below s₁ m 56 #[vI 1] [(.int 1)] tgt
    refine XS.iconst X0.here hx rfl (hb hby d3_56) ?_
    show OwnG p e below s₁ m 57 #[vI 1] [(.int 1), (.int 1)] tgt
    refine XS.ishl X0.here hx rfl (hb hby d3_57) rfl ?_
    exact kgo
  refine own_leave X0 hlk (v := some (.int 2)) (fun h => by rw [Bd.returns] at h; cases h) (fun fs hr => retI X0 hx Bd.returns (hb hby d3_58) hr) (by decide) (by decide) ?_
  show Q_nbl_1 Z  h0 n0 _ s₁.heap _
  rw [e0]
  exact ⟨rfl, N0, rfl⟩
theorem ef_nbf_1 (m : MethodId)  : entryFrame m #[(.int 1)] 1 = mkF m 0 #[vI 1] [] := by
  first | (simp [entryFrame, mkF, argsToLocals, Value.category]; done) | rfl
def Q_nbf_1 (Z : State)  (h0 : Heap) (n0 : Nat) (v : Option Value) (h : Heap) (L : List Loc) : Prop := ∃ (t : Addr), ∃ (k : ClassId), v = some (.ref t) ∧ Fr n0 L ∧ Keep h0 h ([] : List Addr) ∧ h0.size ≤ t ∧ Arv Z h t k .byte (2 : Int32) [(.int 0), (.int 0)] (.int 0)
theorem d4_0 : decode jdk_52_method_2_code 0 = .ok (.iload_n 0, 1) := by decide +kernel
theorem d4_1 : decode jdk_52_method_2_code 1 = .ok (.invokestatic 11, 3) := by decide +kernel
theorem pd_92649053 : parseMethodDescriptor "(I)I" = some ⟨[.int], some .int⟩ := by decide +kernel
theorem d4_4 : decode jdk_52_method_2_code 4 = .ok (.newarray .byte, 2) := by decide +kernel
theorem d4_6 : decode jdk_52_method_2_code 6 = .ok (.areturn, 1) := by decide +kernel
set_option maxRecDepth 65536 in
set_option maxHeartbeats 40000000 in
theorem rm_nbf_1 (l : Launch) (Z : State) (a0 : Array Value) (hw : ∀ d ∈ tables_1, d.before a0 Z = true) (ws : List Jvm.Cond) (wG1 : Int32) (wG3 : Value) (cx : OwnCx Z a0 wG1 wG3) (hEL : EW Z a0 consts_1) (h0 : Heap) (n0 : Nat) (X00 : Old Z n0 h0)  :
    MetFree l mN4 (head1 (Jvm.Cond.code mN4 jdk_52_method_2_code 1 (some (.array .byte)) :: ws) ({ frames := 1, cells := 1, slots := 2, locals := 12 } : Room)) (fun a U => a = #[(.int 1)] ∧ Z.Warmed39 U.vm ∧ U.heap = h0) (fun _ _ _ _ _ => True) (fun _ U o U' => ∃ v L, o = .returned v ∧ Q_nbf_1 Z  h0 n0 v U'.heap L ∧ FrameEnd U o U' L ({ frames := 1, cells := 1, slots := 2, locals := 12 } : Room).cells ({ frames := 1, cells := 1, slots := 2, locals := 12 } : Room).slots) := by
  refine MetFree.of_bodySF (plainFor_of_name pn_68381282) hisR ?_
  intro p e s m args below meth c s₁ Bd hml0 hP hK
  obtain ⟨rfl, hZ, hh⟩ := hP
  obtain ⟨wO2, wP5, wO4, wrG3, hstr, wUA, wUH, wUL⟩ := id cx
  have hx := Bd.exec
  have hby := Bd.bytes
  have hlk := Bd.notSynchronized
  have hml : c.maxLocals = 1 := hml0
  have hown : s.vm.findClass "java/lang/StringUTF16" = some m.cls := findClass_of_methodNamed Bd.named
  have hnm := (name_of_methodNamed Bd.named Bd.method).1
  have X0 : Stand p l e ({ frames := 1, cells := 1, slots := 2, locals := 12 } : Room) s m #[(.int 1)] below meth c s₁ [] 0 0 := Stand.of_body Bd
  have e0 : s₁.heap = h0 := by rw [← hh, Bd.state]; rfl
  have N0 := Fr.nil n0
  have Z0 : n0 ≤ h0.size := X00.1 ▸ X00.2.1
  have K0 : Keep h0 h0 ([] : List Addr) := Keep.refl _ _
  show OwnGoes p e below (fun o U' => ∃ v L, o = .returned v ∧ Q_nbf_1 Z  h0 n0 v U'.heap L ∧ FrameEnd s o U' L ({ frames := 1, cells := 1, slots := 2, locals := 12 } : Room).cells ({ frames := 1, cells := 1, slots := 2, locals := 12 } : Room).slots) s₁ (entryFrame m #[(.int 1)] 1)
  refine OwnGoes.step (T' := s₁) (g' := (mkF m 0 #[vI 1] [])) (fun tgt kgo => castTop (ef_nbf_1 m ) kgo) ?_
  refine OwnGoes.step (T' := s₁) (g' := (mkF m 1 #[vI 1] [(.int 1)])) (fun tgt kgo => ?_) ?_
  · refine XS.iloadN X0.here hx rfl (hb hby d4_0) rfl ?_
    exact kgo
  obtain ⟨_, _, ⟨T1, L1, k1, n1⟩, -, X1, ⟨Lc1, hQ1, l1, y1, z1⟩, st1⟩ := Jvm.LawKit.callS X0 hx (y := mN3) hown (mvT hZ (own_w hw 93 rfl)) (mvT hZ (own_w hw 94 rfl)) (mvT hZ (own_w hw 43 rfl)) (mvT hZ (own_w hw 95 rfl)) (by decide) (backOf (W := 0) (rm_nbl_1 l Z a0 hw [] wG1 wG3 cx hEL h0 n0 X00 ) hZ (own_w hw 95 rfl) (own_w hw 43 rfl) (by decide) (by decide)) (g := (mkF m 1 #[vI 1] [(.int 1)])) rfl (by rw [hml]; rfl) (argsL := [(.int 1)]) (rest := []) (lenOf pd_92649053 rfl) rfl (Nat.le_of_eq rfl) (hb hby d4_1) (fun _ _ => ⟨rfl, e0, (by decide : 0 + 0 ≤ _), (by decide : 0 + 0 ≤ _)⟩)
  dsimp only [Pt.U, Pt.locs, Pt.cells, Pt.slots] at X1 l1 y1 z1 st1 hQ1
  subst l1 y1 z1
  obtain ⟨rfl, Nq1, eq1⟩ := hQ1
  refine OwnGoes.step (T' := T1) (g' := (mkF m 4 #[vI 1] [(.int 2)])) st1 ?_
  have N1 := Fr.app N0 Nq1
  obtain ⟨T2, h2, k2, X2, e2, E2, A2, st2⟩ := newP X1 hx hZ (own_w hw 24 rfl) eq1 (g := (mkF m 4 #[vI 1] [(.int 2)])) rfl (hb hby d4_4) rfl (by decide) (cap := 2) (by decide) (by decide) (by decide) (by decide)
  obtain ⟨b2, g2⟩ : ∃ z, z = h0.size := ⟨_, rfl⟩
  rw [← g2] at A2 st2
  refine OwnGoes.step (T' := T2) (g' := (mkF m 6 #[vI 1] [(.ref b2)])) st2 ?_
  have V2 : Arv Z h2 b2 k2 .byte (2 : Int32) [(.int 0), (.int 0)] (.int 0) := (Arv.new A2 (by decide)).pad (pad_rep [] (.int 0) 2)
  have g_b2 : n0 ≤ b2 := Nat.le_trans (Nat.le_trans Z0 K0.1) (Nat.le_of_eq g2.symm)
  have s_b2 : h0.size ≤ b2 := Nat.le_trans K0.1 (Nat.le_of_eq g2.symm)
  have Ol2 := X00.ext E2
  have K2 : Keep h0 h2 ([] : List Addr) := K0.ext E2
  have hret : ∀ fs, (∀ (f : JFrame) (acts : List Action), f.method = m → f.locked = none → f.entered = [] → (doReturn e (T2.setTop f) acts (some (.ref b2))).1 = T2.setFrames fs) → Steps p.tables e below (T2.setTop (mkF m 6 #[vI 1] [(.ref b2)])) (T2.setFrames fs) := by
    intro fs hr
    jvm_step X2.here [X2.here.top, hx, (hb hby d4_6), X2.method', Bd.returns, Value.isRef, FieldType.isReference]
    first | (intro acts; rw [hr _ acts rfl rfl rfl]) | rw [hr _ _ rfl rfl rfl]
    exact Steps.refl _
  refine own_leave X2 hlk (v := some (.ref b2)) (fun h => by rw [Bd.returns] at h; cases h) hret (by decide) (by decide) ?_
  show Q_nbf_1 Z  h0 n0 _ T2.heap _
  rw [e2]
  exact ⟨b2, k2, rfl, N1, K2, s_b2, V2⟩
theorem ef_tob_1 (m : MethodId) (x0 : Addr) : entryFrame m #[(.ref x0), (.int 0), (.int 1)] 5 = mkF m 0 #[vR x0, vI 0, vI 1, vU, vU] [] := by
  first | (simp [entryFrame, mkF, argsToLocals, Value.category]; done) | rfl
def Q_tob_1 (Z : State) (ab1 : Addr) (kc : ClassId) (c1 : Int32) (h0 : Heap) (n0 : Nat) (v : Option Value) (h : Heap) (L : List Loc) : Prop := ∃ (t : Addr), ∃ (k : ClassId), v = some (.ref t) ∧ Fr n0 L ∧ Keep h0 h ([] : List Addr) ∧ h0.size ≤ t ∧ Arv Z h t k .byte (2 : Int32) [(.int (nar .byte c1)), (.int (nar .byte (c1 >>> ((8 : Int32) &&& 31))))] (.int 0)
theorem d5_0 : decode jdk_52_method_14_code 0 = .ok (.iload_n 2, 1) := by decide +kernel
theorem d5_1 : decode jdk_52_method_14_code 1 = .ok (.invokestatic 107, 3) := by decide +kernel
theorem pd_63641379 : parseMethodDescriptor "(I)[B" = some ⟨[.int], some (.array .byte)⟩ := by decide +kernel
theorem d5_4 : decode jdk_52_method_14_code 4 = .ok (.astore_n 3, 1) := by decide +kernel
theorem d5_5 : decode jdk_52_method_14_code 5 = .ok (.iconst 0, 1) := by decide +kernel
theorem d5_6 : decode jdk_52_method_14_code 6 = .ok (.istore 4, 2) := by decide +kernel
theorem d5_8 : decode jdk_52_method_14_code 8 = .ok (.iload 4, 2) := by decide +kernel
theorem d5_10 : decode jdk_52_method_14_code 10 = .ok (.iload_n 2, 1) := by decide +kernel
theorem d5_11 : decode jdk_52_method_14_code 11 = .ok (.if_icmp .ge 21, 3) := by decide +kernel
theorem d5_14 : decode jdk_52_method_14_code 14 = .ok (.aload_n 3, 1) := by decide +kernel
theorem d5_15 : decode jdk_52_method_14_code 15 = .ok (.iload 4, 2) := by decide +kernel
theorem d5_17 : decode jdk_52_method_14_code 17 = .ok (.aload_n 0, 1) := by decide +kernel
theorem d5_18 : decode jdk_52_method_14_code 18 = .ok (.iload_n 1, 1) := by decide +kernel
theorem d5_19 : decode jdk_52_method_14_code 19 = .ok (.caload, 1) := by decide +kernel
theorem d5_20 : decode jdk_52_method_14_code 20 = .ok (.invokestatic 111, 3) := by decide +kernel
theorem pd_52952394 : parseMethodDescriptor "([BII)V" = some ⟨[(.array .byte), .int, .int], none⟩ := by decide +kernel
theorem d5_23 : decode jdk_52_method_14_code 23 = .ok (.iinc 1 1, 3) := by decide +kernel
theorem d5_26 : decode jdk_52_method_14_code 26 = .ok (.iinc 4 1, 3) := by decide +kernel
theorem d5_29 : decode jdk_52_method_14_code 29 = .ok (.goto (-21), 3) := by decide +kernel
theorem d5_32 : decode jdk_52_method_14_code 32 = .ok (.aload_n 3, 1) := by decide +kernel
theorem d5_33 : decode jdk_52_method_14_code 33 = .ok (.areturn, 1) := by decide +kernel
set_option maxRecDepth 65536 in
set_option maxHeartbeats 40000000 in
theorem rm_tob_1 (l : Launch) (Z : State) (a0 : Array Value) (hw : ∀ d ∈ tables_1, d.before a0 Z = true) (ws : List Jvm.Cond) (wG1 : Int32) (wG3 : Value) (cx : OwnCx Z a0 wG1 wG3) (hEL : EW Z a0 consts_1) (h0 : Heap) (n0 : Nat) (X00 : Old Z n0 h0) (ab1 : Addr) (kc : ClassId) (c1 : Int32) (f0 : Arv Z h0 ab1 kc .char (1 : Int32) [(.int c1)] (.int 0)) :
    MetFree l mN5 (head1 (Jvm.Cond.code mN5 jdk_52_method_14_code 5 (some (.array .byte)) :: ws) ({ frames := 2, cells := 1, slots := 2, locals := 24 } : Room)) (fun a U => a = #[(.ref ab1), (.int 0), (.int 1)] ∧ Z.Warmed39 U.vm ∧ U.heap = h0) (fun _ _ _ _ _ => True) (fun _ U o U' => ∃ v L, o = .returned v ∧ Q_tob_1 Z ab1 kc c1 h0 n0 v U'.heap L ∧ FrameEnd U o U' L ({ frames := 2, cells := 1, slots := 2, locals := 24 } : Room).cells ({ frames := 2, cells := 1, slots := 2, locals := 24 } : Room).slots) := by
  refine MetFree.of_bodySF (plainFor_of_name pn_68381282) hisR ?_
  intro p e s m args below meth c s₁ Bd hml0 hP hK
  obtain ⟨rfl, hZ, hh⟩ := hP
  obtain ⟨wO2, wP5, wO4, wrG3, hstr, wUA, wUH, wUL⟩ := id cx
  have hx := Bd.exec
  have hby := Bd.bytes
  have hlk := Bd.notSynchronized
  have hml : c.maxLocals = 5 := hml0
  have hown : s.vm.findClass "java/lang/StringUTF16" = some m.cls := findClass_of_methodNamed Bd.named
  have hnm := (name_of_methodNamed Bd.named Bd.method).1
  have X0 : Stand p l e ({ frames := 2, cells := 1, slots := 2, locals := 24 } : Room) s m #[(.ref ab1), (.int 0), (.int 1)] below meth c s₁ [] 0 0 := Stand.of_body Bd
  have e0 : s₁.heap = h0 := by rw [← hh, Bd.state]; rfl
  have N0 := Fr.nil n0
  have Z0 : n0 ≤ h0.size := X00.1 ▸ X00.2.1
  have K0 : Keep h0 h0 ([] : List Addr) := Keep.refl _ _
  show OwnGoes p e below (fun o U' => ∃ v L, o = .returned v ∧ Q_tob_1 Z ab1 kc c1 h0 n0 v U'.heap L ∧ FrameEnd s o U' L ({ frames := 2, cells := 1, slots := 2, locals := 24 } : Room).cells ({ frames := 2, cells := 1, slots := 2, locals := 24 } : Room).slots) s₁ (entryFrame m #[(.ref ab1), (.int 0), (.int 1)] 5)
  refine OwnGoes.step (T' := s₁) (g' := (mkF m 0 #[vR ab1, vI 0, vI 1, vU, vU] [])) (fun tgt kgo => castTop (ef_tob_1 m ab1) kgo) ?_
  refine OwnGoes.step (T' := s₁) (g' := (mkF m 1 #[vR ab1, vI 0, vI 1, vU, vU] [(.int 1)])) (fun tgt kgo => ?_) ?_
  · refine XS.iloadN X0.here hx rfl (hb hby d5_0) rfl ?_
    exact kgo
  obtain ⟨_, _, ⟨T1, L1, k1, n1⟩, -, X1, ⟨Lc1, hQ1, l1, y1, z1⟩, st1⟩ := Jvm.LawKit.callS X0 hx (y := mN4) hown (mvT hZ (own_w hw 90 rfl)) (mvT hZ (own_w hw 91 rfl)) (mvT hZ (own_w hw 43 rfl)) (mvT hZ (own_w hw 92 rfl)) (by decide) (backOf (W := 0) (rm_nbf_1 l Z a0 hw [] wG1 wG3 cx hEL h0 n0 X00 ) hZ (own_w hw 92 rfl) (own_w hw 43 rfl) (by decide) (by decide)) (g := (mkF m 1 #[vR ab1, vI 0, vI 1, vU, vU] [(.int 1)])) rfl (by rw [hml]; rfl) (argsL := [(.int 1)]) (rest := []) (lenOf pd_63641379 rfl) rfl (Nat.le_of_eq rfl) (hb hby d5_1) (fun _ _ => ⟨rfl, e0, (by decide : 0 + 1 ≤ _), (by decide : 0 + 2 ≤ _)⟩)
  dsimp only [Pt.U, Pt.locs, Pt.cells, Pt.slots] at X1 l1 y1 z1 st1 hQ1
  subst l1 y1 z1
  obtain ⟨t_1, k_1, rfl, Nq1, Kq1, zq1_0, fq1_0⟩ := hQ1
  refine OwnGoes.step (T' := T1) (g' := (mkF m 4 #[vR ab1, vI 0, vI 1, vU, vU] [(.ref t_1)])) st1 ?_
  have N1 := Fr.app N0 Nq1
  have ne_ab1_t_1 : ab1 ≠ t_1 := Nat.ne_of_lt (Nat.lt_of_lt_of_le f0.lt zq1_0)
  have g_t_1 : n0 ≤ t_1 := Nat.le_trans (Nat.le_trans Z0 K0.1) zq1_0
  have s_t_1 : h0.size ≤ t_1 := Nat.le_trans K0.1 zq1_0
  have F1_1 := f0.keep Kq1 nin0
  have Ol1 := X00.keep Kq1 all0
  have K1 : Keep h0 T1.heap ([] : List Addr) := K0.trans Kq1 all0
  refine OwnGoes.step (T' := T1) (g' := (mkF m 20 #[vR ab1, vI 0, vI 1, vR t_1, vI 0] [(.int c1), (.int 0), (.ref t_1)])) (fun tgt kgo => ?_) ?_
  · refine XS.astoreN X1.here hx rfl (hb hby d5_4) rfl rfl (l' := #[vR ab1, vI 0, vI 1, vR t_1, vU]) rfl ?_
    show OwnG p e below T1 m 5 #[vR ab1, vI 0, vI 1, vR t_1, vU] [] tgt
    refine XS.iconst X1.here hx rfl (hb hby d5_5) ?_
    show OwnG p e below T1 m 6 #[vR ab1, vI 0, vI 1, vR t_1, vU] [(.int 0)] tgt
    refine XS.istore X1.here hx rfl (hb hby d5_6) rfl (l' := #[vR ab1, vI 0, vI 1, vR t_1, vI 0]) rfl ?_
    show OwnG p e below T1 m 8 #[vR ab1, vI 0, vI 1, vR t_1, vI 0] [] tgt
    refine XS.iload X1.here hx rfl (hb hby d5_8) rfl ?_
    show OwnG p e below T1 m 10 #[vR ab1, vI 0, vI 1, vR t_1, vI 0] [(.int 0)] tgt
    refine XS.iloadN X1.here hx rfl (hb hby d5_10) rfl ?_
    show OwnG p e below T1 m 11 #[vR ab1, vI 0, vI 1, vR t_1, vI 0] [(.int 1), (.int 0)] tgt
    refine XS.icmpNo X1.here hx rfl (hb hby d5_11) rfl (tlt (by decide : (0 : Int32) < (1 : Int32))).2.1 ?_
    show OwnG p e below T1 m 14 #[vR ab1, vI 0, vI 1, vR t_1, vI 0] [] tgt
    refine XS.aloadN X1.here hx rfl (hb hby d5_14) rfl rfl ?_
    show OwnG p e below T1 m 15 #[vR ab1, vI 0, vI 1, vR t_1, vI 0] [(.ref t_1)] tgt
    refine XS.iload X1.here hx rfl (hb hby d5_15) rfl ?_
    show OwnG p e below T1 m 17 #[vR ab1, vI 0, vI 1, vR t_1, vI 0] [(.int 0), (.ref t_1)] tgt
    refine XS.aloadN X1.here hx rfl (hb hby d5_17) rfl rfl ?_
    show OwnG p e below T1 m 18 #[vR ab1, vI 0, vI 1, vR t_1, vI 0] [(.ref ab1), (.int 0), (.ref t_1)] tgt
    refine XS.iloadN X1.here hx rfl (hb hby d5_18) rfl ?_
    show OwnG p e below T1 m 19 #[vR ab1, vI 0, vI 1, vR t_1, vI 0] [(.int 0), (.ref ab1), (.int 0), (.ref t_1)] tgt
    obtain ⟨cl2, Ar2, q2, S2, M2, H2, G2⟩ := F1_1
    refine X1.caload hx (j := (0 : Int32)) (v := (.int c1)) Ar2.1 (State.isArrayOf_alike hZ.alike Ar2.2.1) Ar2.2.2 (inb_of S2 ⟨by decide, by decide⟩) (Has.at H2 (inb_of S2 ⟨by decide, by decide⟩) rfl) (g := (mkF m 19 #[vR ab1, vI 0, vI 1, vR t_1, vI 0] [(.int 0), (.ref ab1), (.int 0), (.ref t_1)])) rfl rfl (hb hby d5_19) _ ?_
    exact kgo
  obtain ⟨_, _, ⟨T3, L3, k3, n3⟩, -, X3, ⟨Lc3, hQ3, l3, y3, z3⟩, st3⟩ := Jvm.LawKit.callS X1 hx (y := mN1) hown (mvT hZ (own_w hw 97 rfl)) (mvT hZ (own_w hw 98 rfl)) (mvT hZ (own_w hw 43 rfl)) (mvT hZ (own_w hw 99 rfl)) (by decide) (backOf (W := 0) (rm_u16put l Z a0 hw [] wG1 wG3 cx hEL T1.heap n0 Ol1 t_1 k_1 (2 : Int32) [(.int 0), (.int 0)] (0 : Int32) c1 0 fq1_0 g_t_1 ⟨⟨⟨by decide, by decide⟩, rfl, Nat.le_of_ble_eq_true rfl⟩, ⟨⟨by decide, by decide⟩, rfl, Nat.le_of_ble_eq_true rfl⟩⟩) hZ (own_w hw 99 rfl) (own_w hw 43 rfl) (by decide) (by decide)) (g := (mkF m 20 #[vR ab1, vI 0, vI 1, vR t_1, vI 0] [(.int c1), (.int 0), (.ref t_1)])) rfl (by rw [hml]; rfl) (argsL := [(.ref t_1), (.int 0), (.int c1)]) (rest := []) (lenOf pd_52952394 rfl) rfl (Nat.le_of_eq rfl) (hb hby d5_20) (fun _ _ => ⟨rfl, rfl, (by decide : 1 + 0 ≤ _), (by decide : 2 + 0 ≤ _)⟩)
  dsimp only [Pt.U, Pt.locs, Pt.cells, Pt.slots] at X3 l3 y3 z3 st3 hQ3
  subst l3 y3 z3
  obtain ⟨rfl, Nq3, Kq3, fq3_0⟩ := hQ3
  refine OwnGoes.step (T' := T3) (g' := (mkF m 23 #[vR ab1, vI 0, vI 1, vR t_1, vI 0] [])) st3 ?_
  have N3 := Fr.app N1 Nq3
  have F3_2 := F1_1.keep Kq3 (ninS ne_ab1_t_1 nin0)
  have Ol3 := Ol1.keep Kq3 (allS g_t_1 all0)
  have K3 : Keep h0 T3.heap ([] : List Addr) := K1.trans Kq3 (allS (Or.inr s_t_1) all0)
  have Vp4 : Arv Z T3.heap t_1 k_1 .byte (2 : Int32) [(.int (nar .byte c1)), (.int (nar .byte (c1 >>> ((8 : Int32) &&& 31))))] (.int 0) := fq3_0
  refine OwnGoes.step (T' := T3) (g' := (mkF m 33 #[vR ab1, vI 1, vI 1, vR t_1, vI 1] [(.ref t_1)])) (fun tgt kgo => ?_) ?_
  · refine XS.iinc X3.here hx rfl (hb hby d5_23) rfl (l' := #[vR ab1, vI 1, vI 1, vR t_1, vI 0]) rfl ?_
    show OwnG p e below T3 m 26 #[vR ab1, vI 1, vI 1, vR t_1, vI 0] [] tgt
    refine XS.iinc X3.here hx rfl (hb hby d5_26) rfl (l' := #[vR ab1, vI 1, vI 1, vR t_1, vI 1]) rfl ?_
    show OwnG p e below T3 m 29 #[vR ab1, vI 1, vI 1, vR t_1, vI 1] [] tgt
    refine XS.goto X3.here hx rfl (pc0 := 29) (pc' := 8) rfl (hb hby d5_29) (by decide) (by decide) ?_
    show OwnG p e below T3 m 8 #[vR ab1, vI 1, vI 1, vR t_1, vI 1] [] tgt
    refine XS.iload X3.here hx rfl (hb hby d5_8) rfl ?_
    show OwnG p e below T3 m 10 #[vR ab1, vI 1, vI 1, vR t_1, vI 1] [(.int 1)] tgt
    refine XS.iloadN X3.here hx rfl (hb hby d5_10) rfl ?_
    show OwnG p e below T3 m 11 #[vR ab1, vI 1, vI 1, vR t_1, vI 1] [(.int 1), (.int 1)] tgt
    refine XS.icmpYes X3.here hx rfl (pc0 := 11) (pc' := 32) rfl (hb hby d5_11) rfl (flt (by decide : ¬ ((1 : Int32) < (1 : Int32)))).2.1 (by decide) (by decide) ?_
    show OwnG p e below T3 m 32 #[vR ab1, vI 1, vI 1, vR t_1, vI 1] [] tgt
    refine XS.aloadN X3.here hx rfl (hb hby d5_32) rfl rfl ?_
    exact kgo
  have hret : ∀ fs, (∀ (f : JFrame) (acts : List Action), f.method = m → f.locked = none → f.entered = [] → (doReturn e (T3.setTop f) acts (some (.ref t_1))).1 = T3.setFrames fs) → Steps p.tables e below (T3.setTop (mkF m 33 #[vR ab1, vI 1, vI 1, vR t_1, vI 1] [(.ref t_1)])) (T3.setFrames fs) := by
    intro fs hr
    jvm_step X3.here [X3.here.top, hx, (hb hby d5_33), X3.method', Bd.returns, Value.isRef, FieldType.isReference]
    first | (intro acts; rw [hr _ acts rfl rfl rfl]) | rw [hr _ _ rfl rfl rfl]
    exact Steps.refl _
  refine own_leave X3 hlk (v := some (.ref t_1)) (fun h => by rw [Bd.returns] at h; cases h) hret (by decide) (by decide) ?_
  show Q_tob_1 Z ab1 kc c1 h0 n0 _ T3.heap _
  exact ⟨t_1, k_1, rfl, N3, K3, s_t_1, Vp4⟩
theorem ef_c3_1 (m : MethodId) (x0 : Addr) : entryFrame m #[(.ref x0), (.int 0), (.int 1)] 6 = mkF m 0 #[vR x0, vI 0, vI 1, vU, vU, vU] [] := by
  first | (simp [entryFrame, mkF, argsToLocals, Value.category]; done) | rfl
def Q_c3_1 (Z : State) (ab1 : Addr) (kc : ClassId) (c1 : Int32) (h0 : Heap) (n0 : Nat) (v : Option Value) (h : Heap) (L : List Loc) : Prop := ∃ (t : Addr), ∃ (k : ClassId), ∃ (N : Int32), ∃ (vs : List Value), ∃ (cd : Int32), v = some (.ref t) ∧ Fr n0 L ∧ Keep h0 h ([] : List Addr) ∧ h0.size ≤ t ∧ Arv Z h t k .byte N vs (.int 0) ∧ ((N = (1 : Int32) ∧ cd = (0 : Int32) ∧ OwnStr ([c1] : List Int32) cd N vs) ∨ (N = (2 : Int32) ∧ cd = (1 : Int32) ∧ OwnStr ([c1] : List Int32) cd N vs))
theorem d6_0 : decode jdk_52_method_16_code 0 = .ok (.iload_n 2, 1) := by decide +kernel
theorem d6_1 : decode jdk_52_method_16_code 1 = .ok (.newarray .byte, 2) := by decide +kernel
theorem d6_3 : decode jdk_52_method_16_code 3 = .ok (.astore_n 3, 1) := by decide +kernel
theorem d6_4 : decode jdk_52_method_16_code 4 = .ok (.aload_n 0, 1) := by decide +kernel
theorem d6_5 : decode jdk_52_method_16_code 5 = .ok (.iload_n 1, 1) := by decide +kernel
theorem d6_6 : decode jdk_52_method_16_code 6 = .ok (.aload_n 3, 1) := by decide +kernel
theorem d6_7 : decode jdk_52_method_16_code 7 = .ok (.iconst 0, 1) := by decide +kernel
theorem d6_8 : decode jdk_52_method_16_code 8 = .ok (.iload_n 2, 1) := by decide +kernel
theorem d6_9 : decode jdk_52_method_16_code 9 = .ok (.invokestatic 115, 3) := by decide +kernel
theorem pd_51558503 : parseMethodDescriptor "([CI[BII)I" = some ⟨[(.array .char), .int, (.array .byte), .int, .int], some .int⟩ := by decide +kernel
theorem d6_12 : decode jdk_52_method_16_code 12 = .ok (.istore 4, 2) := by decide +kernel
theorem d6_14 : decode jdk_52_method_16_code 14 = .ok (.iload 4, 2) := by decide +kernel
theorem d6_16 : decode jdk_52_method_16_code 16 = .ok (.iload_n 2, 1) := by decide +kernel
theorem d6_17 : decode jdk_52_method_16_code 17 = .ok (.if_icmp .eq 40, 3) := by decide +kernel
theorem d6_57 : decode jdk_52_method_16_code 57 = .ok (.aload_n 3, 1) := by decide +kernel
theorem d6_58 : decode jdk_52_method_16_code 58 = .ok (.areturn, 1) := by decide +kernel
theorem d6_20 : decode jdk_52_method_16_code 20 = .ok (.aload_n 0, 1) := by decide +kernel
theorem d6_21 : decode jdk_52_method_16_code 21 = .ok (.iload_n 1, 1) := by decide +kernel
theorem d6_22 : decode jdk_52_method_16_code 22 = .ok (.iload_n 2, 1) := by decide +kernel
theorem d6_23 : decode jdk_52_method_16_code 23 = .ok (.invokestatic 119, 3) := by decide +kernel
theorem pd_23256262 : parseMethodDescriptor "([CII)[B" = some ⟨[(.array .char), .int, .int], some (.array .byte)⟩ := by decide +kernel
theorem d6_26 : decode jdk_52_method_16_code 26 = .ok (.astore 5, 2) := by decide +kernel
theorem d6_28 : decode jdk_52_method_16_code 28 = .ok (.aload 5, 2) := by decide +kernel
theorem d6_30 : decode jdk_52_method_16_code 30 = .ok (.iload 4, 2) := by decide +kernel
theorem d6_32 : decode jdk_52_method_16_code 32 = .ok (.invokestatic 71, 3) := by decide +kernel
theorem pd_30427418 : parseMethodDescriptor "([BI)C" = some ⟨[(.array .byte), .int], some .char⟩ := by decide +kernel
theorem d6_35 : decode jdk_52_method_16_code 35 = .ok (.sipush 255, 3) := by decide +kernel
theorem d6_38 : decode jdk_52_method_16_code 38 = .ok (.if_icmp .gt 16, 3) := by decide +kernel
theorem d6_54 : decode jdk_52_method_16_code 54 = .ok (.aload 5, 2) := by decide +kernel
theorem d6_56 : decode jdk_52_method_16_code 56 = .ok (.areturn, 1) := by decide +kernel
set_option maxRecDepth 65536 in
set_option maxHeartbeats 40000000 in
theorem rm_c3_1 (l : Launch) (Z : State) (a0 : Array Value) (hw : ∀ d ∈ tables_1, d.before a0 Z = true) (ws : List Jvm.Cond) (wG1 : Int32) (wG3 : Value) (cx : OwnCx Z a0 wG1 wG3) (hEL : EW Z a0 consts_1) (h0 : Heap) (n0 : Nat) (X00 : Old Z n0 h0) (ab1 : Addr) (kc : ClassId) (c1 : Int32) (f0 : Arv Z h0 ab1 kc .char (1 : Int32) [(.int c1)] (.int 0)) (hw1 : ¬ c1 < 0 ∧ ¬ (65535 : Int32) < c1) :
    MetFree l mN6 (head1 (Jvm.Cond.code mN6 jdk_52_method_16_code 6 (some (.array .byte)) :: ws) ({ frames := 3, cells := 2, slots := 3, locals := 40 } : Room)) (fun a U => a = #[(.ref ab1), (.int 0), (.int 1)] ∧ Z.Warmed39 U.vm ∧ U.heap = h0) (fun _ _ _ _ _ => True) (fun _ U o U' => ∃ v L, o = .returned v ∧ Q_c3_1 Z ab1 kc c1 h0 n0 v U'.heap L ∧ FrameEnd U o U' L ({ frames := 3, cells := 2, slots := 3, locals := 40 } : Room).cells ({ frames := 3, cells := 2, slots := 3, locals := 40 } : Room).slots) := by
  refine MetFree.of_bodySF (plainFor_of_name pn_68381282) hisR ?_
  intro p e s m args below meth c s₁ Bd hml0 hP hK
  obtain ⟨rfl, hZ, hh⟩ := hP
  obtain ⟨wO2, wP5, wO4, wrG3, hstr, wUA, wUH, wUL⟩ := id cx
  have hx := Bd.exec
  have hby := Bd.bytes
  have hlk := Bd.notSynchronized
  have hml : c.maxLocals = 6 := hml0
  have hown : s.vm.findClass "java/lang/StringUTF16" = some m.cls := findClass_of_methodNamed Bd.named
  have hnm := (name_of_methodNamed Bd.named Bd.method).1
  have X0 : Stand p l e ({ frames := 3, cells := 2, slots := 3, locals := 40 } : Room) s m #[(.ref ab1), (.int 0), (.int 1)] below meth c s₁ [] 0 0 := Stand.of_body Bd
  have e0 : s₁.heap = h0 := by rw [← hh, Bd.state]; rfl
  have N0 := Fr.nil n0
  have Z0 : n0 ≤ h0.size := X00.1 ▸ X00.2.1
  have K0 : Keep h0 h0 ([] : List Addr) := Keep.refl _ _
  show OwnGoes p e below (fun o U' => ∃ v L, o = .returned v ∧ Q_c3_1 Z ab1 kc c1 h0 n0 v U'.heap L ∧ FrameEnd s o U' L ({ frames := 3, cells := 2, slots := 3, locals := 40 } : Room).cells ({ frames := 3, cells := 2, slots := 3, locals := 40 } : Room).slots) s₁ (entryFrame m #[(.ref ab1), (.int 0), (.int 1)] 6)
  refine OwnGoes.step (T' := s₁) (g' := (mkF m 0 #[vR ab1, vI 0, vI 1, vU, vU, vU] [])) (fun tgt kgo => castTop (ef_c3_1 m ab1) kgo) ?_
  refine OwnGoes.step (T' := s₁) (g' := (mkF m 1 #[vR ab1, vI 0, vI 1, vU, vU, vU] [(.int 1)])) (fun tgt kgo => ?_) ?_
  · refine XS.iloadN X0.here hx rfl (hb hby d6_0) rfl ?_
    exact kgo
  obtain ⟨T1, h1, k1, X1, e1, E1, A1, st1⟩ := newP X0 hx hZ (own_w hw 24 rfl) e0 (g := (mkF m 1 #[vR ab1, vI 0, vI 1, vU, vU, vU] [(.int 1)])) rfl (hb hby d6_1) rfl (by decide) (cap := 1) (by decide) (by decide) (by decide) (by decide)
  obtain ⟨b1, g1⟩ : ∃ z, z = h0.size := ⟨_, rfl⟩
  rw [← g1] at A1 st1
  refine OwnGoes.step (T' := T1) (g' := (mkF m 3 #[vR ab1, vI 0, vI 1, vU, vU, vU] [(.ref b1)])) st1 ?_
  have V1 : Arv Z h1 b1 k1 .byte (1 : Int32) [(.int 0)] (.int 0) := (Arv.new A1 (by decide)).pad (pad_rep [] (.int 0) 1)
  have ne_ab1_b1 : ab1 ≠ b1 := Nat.ne_of_lt (Nat.lt_of_lt_of_le f0.lt (Nat.le_of_eq g1.symm))
  have g_b1 : n0 ≤ b1 := Nat.le_trans (Nat.le_trans Z0 K0.1) (Nat.le_of_eq g1.symm)
  have s_b1 : h0.size ≤ b1 := Nat.le_trans K0.1 (Nat.le_of_eq g1.symm)
  have F1_1 := f0.ext E1
  have Ol1 := X00.ext E1
  have K1 : Keep h0 h1 ([] : List Addr) := K0.ext E1
  refine OwnGoes.step (T' := T1) (g' := (mkF m 9 #[vR ab1, vI 0, vI 1, vR b1, vU, vU] [(.int 1), (.int 0), (.ref b1), (.int 0), (.ref ab1)])) (fun tgt kgo => ?_) ?_
  · refine XS.astoreN X1.here hx rfl (hb hby d6_3) rfl rfl (l' := #[vR ab1, vI 0, vI 1, vR b1, vU, vU]) rfl ?_
    show OwnG p e below T1 m 4 #[vR ab1, vI 0, vI 1, vR b1, vU, vU] [] tgt
    refine XS.aloadN X1.here hx rfl (hb hby d6_4) rfl rfl ?_
    show OwnG p e below T1 m 5 #[vR ab1, vI 0, vI 1, vR b1, vU, vU] [(.ref ab1)] tgt
    refine XS.iloadN X1.here hx rfl (hb hby d6_5) rfl ?_
    show OwnG p e below T1 m 6 #[vR ab1, vI 0, vI 1, vR b1, vU, vU] [(.int 0), (.ref ab1)] tgt
    refine XS.aloadN X1.here hx rfl (hb hby d6_6) rfl rfl ?_
    show OwnG p e below T1 m 7 #[vR ab1, vI 0, vI 1, vR b1, vU, vU] [(.ref b1), (.int 0), (.ref ab1)] tgt
    refine XS.iconst X1.here hx rfl (hb hby d6_7) ?_
    show OwnG p e below T1 m 8 #[vR ab1, vI 0, vI 1, vR b1, vU, vU] [(.int 0), (.ref b1), (.int 0), (.ref ab1)] tgt
    refine XS.iloadN X1.here hx rfl (hb hby d6_8) rfl ?_
    exact kgo
  obtain ⟨_, _, ⟨T2, L2, k2, n2⟩, -, X2, ⟨Lc2, hQ2, l2, y2, z2⟩, st2⟩ := Jvm.LawKit.callS X1 hx (y := mN2) hown (mvT hZ (own_w hw 45 rfl)) (mvT hZ (own_w hw 46 rfl)) (mvT hZ (own_w hw 43 rfl)) (mvT hZ (own_w hw 47 rfl)) (by decide) (backOf (W := 0) (rm_c5_1 l Z a0 hw [] wG1 wG3 cx hEL h1 n0 Ol1 ab1 b1 kc k1 c1 F1_1 V1 g_b1) hZ (own_w hw 47 rfl) (own_w hw 43 rfl) (by decide) (by decide)) (g := (mkF m 9 #[vR ab1, vI 0, vI 1, vR b1, vU, vU] [(.int 1), (.int 0), (.ref b1), (.int 0), (.ref ab1)])) rfl (by rw [hml]; rfl) (argsL := [(.ref ab1), (.int 0), (.ref b1), (.int 0), (.int 1)]) (rest := []) (lenOf pd_51558503 rfl) rfl (Nat.le_of_eq rfl) (hb hby d6_9) (fun _ _ => ⟨rfl, e1, (by decide : 1 + 0 ≤ _), (by decide : 1 + 0 ≤ _)⟩)
  dsimp only [Pt.U, Pt.locs, Pt.cells, Pt.slots] at X2 l2 y2 z2 st2 hQ2
  subst l2 y2 z2
  obtain ⟨r_2, vs_2, rfl, Nq2, Kq2, fq2_0, pq2_0⟩ := hQ2
  refine OwnGoes.step (T' := T2) (g' := (mkF m 12 #[vR ab1, vI 0, vI 1, vR b1, vU, vU] [(.int r_2)])) st2 ?_
  have N2 := Fr.app N0 Nq2
  have F2_2 := F1_1.keep Kq2 (ninS ne_ab1_b1 nin0)
  have Ol2 := Ol1.keep Kq2 (allS g_b1 all0)
  have K2 : Keep h0 T2.heap ([] : List Addr) := K1.trans Kq2 (allS (Or.inr s_b1) all0)
  refine OwnGoes.step (T' := T2) (g' := (mkF m 14 #[vR ab1, vI 0, vI 1, vR b1, vI r_2, vU] [])) (fun tgt kgo => ?_) ?_
  · refine XS.istore X2.here hx rfl (hb hby d6_12) rfl (l' := #[vR ab1, vI 0, vI 1, vR b1, vI r_2, vU]) rfl ?_
    exact kgo
  rcases pq2_0 with ⟨rfl, rfl, hl0⟩ | ⟨rfl, hbig⟩
  · skip
    refine OwnGoes.step (T' := T2) (g' := (mkF m 58 #[vR ab1, vI 0, vI 1, vR b1, vI 1, vU] [(.ref b1)])) (fun tgt kgo => ?_) ?_
    · refine XS.iload X2.here hx rfl (hb hby d6_14) rfl ?_
      show OwnG p e below T2 m 16 #[vR ab1, vI 0, vI 1, vR b1, vI 1, vU] [(.int 1)] tgt
      refine XS.iloadN X2.here hx rfl (hb hby d6_16) rfl ?_
      show OwnG p e below T2 m 17 #[vR ab1, vI 0, vI 1, vR b1, vI 1, vU] [(.int 1), (.int 1)] tgt
      refine XS.icmpYes X2.here hx rfl (pc0 := 17) (pc' := 57) rfl (hb hby d6_17) rfl (teq (by decide : (1 : Int32) = (1 : Int32))).1 (by decide) (by decide) ?_
      show OwnG p e below T2 m 57 #[vR ab1, vI 0, vI 1, vR b1, vI 1, vU] [] tgt
      refine XS.aloadN X2.here hx rfl (hb hby d6_57) rfl rfl ?_
      exact kgo
    have hret : ∀ fs, (∀ (f : JFrame) (acts : List Action), f.method = m → f.locked = none → f.entered = [] → (doReturn e (T2.setTop f) acts (some (.ref b1))).1 = T2.setFrames fs) → Steps p.tables e below (T2.setTop (mkF m 58 #[vR ab1, vI 0, vI 1, vR b1, vI 1, vU] [(.ref b1)])) (T2.setFrames fs) := by
      intro fs hr
      jvm_step X2.here [X2.here.top, hx, (hb hby d6_58), X2.method', Bd.returns, Value.isRef, FieldType.isReference]
      first | (intro acts; rw [hr _ acts rfl rfl rfl]) | rw [hr _ _ rfl rfl rfl]
      exact Steps.refl _
    refine own_leave X2 hlk (v := some (.ref b1)) (fun h => by rw [Bd.returns] at h; cases h) hret (by decide) (by decide) ?_
    show Q_c3_1 Z ab1 kc c1 h0 n0 _ T2.heap _
    exact ⟨b1, k1, (1 : Int32), [(.int (nar .byte c1))], (0 : Int32), rfl, N2, K2, s_b1, fq2_0, (Or.inl ⟨rfl, rfl, own_str_lat (cs := ([c1] : List Int32)) (n := 1) rfl (by decide) (own_memS ⟨hw1.1, hl0⟩ own_mem0)⟩)⟩
  refine OwnGoes.step (T' := T2) (g' := (mkF m 23 #[vR ab1, vI 0, vI 1, vR b1, vI 0, vU] [(.int 1), (.int 0), (.ref ab1)])) (fun tgt kgo => ?_) ?_
  · refine XS.iload X2.here hx rfl (hb hby d6_14) rfl ?_
    show OwnG p e below T2 m 16 #[vR ab1, vI 0, vI 1, vR b1, vI 0, vU] [(.int 0)] tgt
    refine XS.iloadN X2.here hx rfl (hb hby d6_16) rfl ?_
    show OwnG p e below T2 m 17 #[vR ab1, vI 0, vI 1, vR b1, vI 0, vU] [(.int 1), (.int 0)] tgt
    refine XS.icmpNo X2.here hx rfl (hb hby d6_17) rfl (feq (by decide : ¬ ((0 : Int32) = (1 : Int32)))).1 ?_
    show OwnG p e below T2 m 20 #[vR ab1, vI 0, vI 1, vR b1, vI 0, vU] [] tgt
    refine XS.aloadN X2.here hx rfl (hb hby d6_20) rfl rfl ?_
    show OwnG p e below T2 m 21 #[vR ab1, vI 0, vI 1, vR b1, vI 0, vU] [(.ref ab1)] tgt
    refine XS.iloadN X2.here hx rfl (hb hby d6_21) rfl ?_
    show OwnG p e below T2 m 22 #[vR ab1, vI 0, vI 1, vR b1, vI 0, vU] [(.int 0), (.ref ab1)] tgt
    refine XS.iloadN X2.here hx rfl (hb hby d6_22) rfl ?_
    exact kgo
  obtain ⟨_, _, ⟨T4, L4, k4, n4⟩, -, X4, ⟨Lc4, hQ4, l4, y4, z4⟩, st4⟩ := Jvm.LawKit.callS X2 hx (y := mN5) hown (mvT hZ (own_w hw 87 rfl)) (mvT hZ (own_w hw 88 rfl)) (mvT hZ (own_w hw 43 rfl)) (mvT hZ (own_w hw 89 rfl)) (by decide) (backOf (W := 0) (rm_tob_1 l Z a0 hw [] wG1 wG3 cx hEL T2.heap n0 Ol2 ab1 kc c1 F2_2) hZ (own_w hw 89 rfl) (own_w hw 43 rfl) (by decide) (by decide)) (g := (mkF m 23 #[vR ab1, vI 0, vI 1, vR b1, vI 0, vU] [(.int 1), (.int 0), (.ref ab1)])) rfl (by rw [hml]; rfl) (argsL := [(.ref ab1), (.int 0), (.int 1)]) (rest := []) (lenOf pd_23256262 rfl) rfl (Nat.le_of_eq rfl) (hb hby d6_23) (fun _ _ => ⟨rfl, rfl, (by decide : 1 + 1 ≤ _), (by decide : 1 + 2 ≤ _)⟩)
  dsimp only [Pt.U, Pt.locs, Pt.cells, Pt.slots] at X4 l4 y4 z4 st4 hQ4
  subst l4 y4 z4
  obtain ⟨t_4, k_4, rfl, Nq4, Kq4, zq4_0, fq4_0⟩ := hQ4
  refine OwnGoes.step (T' := T4) (g' := (mkF m 26 #[vR ab1, vI 0, vI 1, vR b1, vI 0, vU] [(.ref t_4)])) st4 ?_
  have N4 := Fr.app N2 Nq4
  have ne_ab1_t_4 : ab1 ≠ t_4 := Nat.ne_of_lt (Nat.lt_of_lt_of_le F2_2.lt zq4_0)
  have ne_b1_t_4 : b1 ≠ t_4 := Nat.ne_of_lt (Nat.lt_of_lt_of_le fq2_0.lt zq4_0)
  have g_t_4 : n0 ≤ t_4 := Nat.le_trans (Nat.le_trans Z0 K2.1) zq4_0
  have s_t_4 : h0.size ≤ t_4 := Nat.le_trans K2.1 zq4_0
  have F4_3 := F2_2.keep Kq4 nin0
  have F4_4 := fq2_0.keep Kq4 nin0
  have Ol4 := Ol2.keep Kq4 all0
  have K4 : Keep h0 T4.heap ([] : List Addr) := K2.trans Kq4 all0
  refine OwnGoes.step (T' := T4) (g' := (mkF m 32 #[vR ab1, vI 0, vI 1, vR b1, vI 0, vR t_4] [(.int 0), (.ref t_4)])) (fun tgt kgo => ?_) ?_
  · refine XS.astore X4.here hx rfl (hb hby d6_26) rfl rfl (l' := #[vR ab1, vI 0, vI 1, vR b1, vI 0, vR t_4]) rfl ?_
    show OwnG p e below T4 m 28 #[vR ab1, vI 0, vI 1, vR b1, vI 0, vR t_4] [] tgt
    refine XS.aload X4.here hx rfl (hb hby d6_28) rfl rfl ?_
    show OwnG p e below T4 m 30 #[vR ab1, vI 0, vI 1, vR b1, vI 0, vR t_4] [(.ref t_4)] tgt
    refine XS.iload X4.here hx rfl (hb hby d6_30) rfl ?_
    exact kgo
  obtain ⟨_, _, ⟨T5, L5, k5, n5⟩, -, X5, ⟨Lc5, hQ5, l5, y5, z5⟩, st5⟩ := Jvm.LawKit.callS X4 hx (y := mN0) hown (mvT hZ (own_w hw 103 rfl)) (mvT hZ (own_w hw 104 rfl)) (mvT hZ (own_w hw 43 rfl)) (mvT hZ (own_w hw 105 rfl)) (by decide) (backOf (W := 0) (rm_u16get l Z a0 hw [] wG1 wG3 cx hEL T4.heap n0 Ol4 t_4 k_4 (2 : Int32) [(.int (nar .byte c1)), (.int (nar .byte (c1 >>> ((8 : Int32) &&& 31))))] (0 : Int32) c1 fq4_0 ⟨_, _, ⟨⟨by decide, by decide⟩, rfl⟩, ⟨⟨by decide, by decide⟩, rfl⟩, own_pair hw1, own_nar_w hw1⟩) hZ (own_w hw 105 rfl) (own_w hw 43 rfl) (by decide) (by decide)) (g := (mkF m 32 #[vR ab1, vI 0, vI 1, vR b1, vI 0, vR t_4] [(.int 0), (.ref t_4)])) rfl (by rw [hml]; rfl) (argsL := [(.ref t_4), (.int 0)]) (rest := []) (lenOf pd_30427418 rfl) rfl (Nat.le_of_eq rfl) (hb hby d6_32) (fun _ _ => ⟨rfl, rfl, (by decide : 2 + 0 ≤ _), (by decide : 3 + 0 ≤ _)⟩)
  dsimp only [Pt.U, Pt.locs, Pt.cells, Pt.slots] at X5 l5 y5 z5 st5 hQ5
  subst l5 y5 z5
  obtain ⟨rfl, Nq5, eq5⟩ := hQ5
  refine OwnGoes.step (T' := T5) (g' := (mkF m 35 #[vR ab1, vI 0, vI 1, vR b1, vI 0, vR t_4] [(.int c1)])) st5 ?_
  have N5 := Fr.app N4 Nq5
  refine OwnGoes.step (T' := T5) (g' := (mkF m 56 #[vR ab1, vI 0, vI 1, vR b1, vI 0, vR t_4] [(.ref t_4)])) (fun tgt kgo => ?_) ?_
  · refine XS.sipush X5.here hx rfl (hb hby d6_35) ?_
    show OwnG p e below T5 m 38 #[vR ab1, vI 0, vI 1, vR b1, vI 0, vR t_4] [(.int 255), (.int c1)] tgt
    refine XS.icmpYes X5.here hx rfl (pc0 := 38) (pc' := 54) rfl (hb hby d6_38) rfl (tlt hbig).2.2.1 (by decide) (by decide) ?_
    show OwnG p e below T5 m 54 #[vR ab1, vI 0, vI 1, vR b1, vI 0, vR t_4] [] tgt
    refine XS.aload X5.here hx rfl (hb hby d6_54) rfl rfl ?_
    exact kgo
  have hret : ∀ fs, (∀ (f : JFrame) (acts : List Action), f.method = m → f.locked = none → f.entered = [] → (doReturn e (T5.setTop f) acts (some (.ref t_4))).1 = T5.setFrames fs) → Steps p.tables e below (T5.setTop (mkF m 56 #[vR ab1, vI 0, vI 1, vR b1, vI 0, vR t_4] [(.ref t_4)])) (T5.setFrames fs) := by
    intro fs hr
    jvm_step X5.here [X5.here.top, hx, (hb hby d6_56), X5.method', Bd.returns, Value.isRef, FieldType.isReference]
    first | (intro acts; rw [hr _ acts rfl rfl rfl]) | rw [hr _ _ rfl rfl rfl]
    exact Steps.refl _
  refine own_leave X5 hlk (v := some (.ref t_4)) (fun h => by rw [Bd.returns] at h; cases h) hret (by decide) (by decide) ?_
  show Q_c3_1 Z ab1 kc c1 h0 n0 _ T5.heap _
  rw [eq5]
  exact ⟨t_4, k_4, (2 : Int32), [(.int (nar .byte c1)), (.int (nar .byte (c1 >>> ((8 : Int32) &&& 31))))], (1 : Int32), rfl, N5, K4, s_t_4, fq4_0, (Or.inr ⟨rfl, rfl, own_str_wide (cs := ([c1] : List Int32)) (n := 1) rfl (by decide) (own_memS hw1 own_mem0) ⟨_, List.mem_of_getElem? (i := 0) rfl, hbig⟩⟩)⟩
theorem ef_cfl_1_1 (m : MethodId) (x0 : Addr) : entryFrame m #[(.ref x0), (.int 1)] 2 = mkF m 0 #[vR x0, vI 1] [] := by
  first | (simp [entryFrame, mkF, argsToLocals, Value.category]; done) | rfl
def Q_cfl_1_1 (Z : State) (tb1 : Addr) (kb1 : ClassId) (vs1 : List Value) (h0 : Heap) (n0 : Nat) (v : Option Value) (h : Heap) (L : List Loc) : Prop := v = some (.int 0) ∧ Fr n0 L ∧ h = h0
theorem d7_0 : decode jdk_52_method_15_code 0 = .ok (.iload_n 1, 1) := by decide +kernel
theorem d7_1 : decode jdk_52_method_15_code 1 = .ok (.aload_n 0, 1) := by decide +kernel
theorem d7_2 : decode jdk_52_method_15_code 2 = .ok (.arraylength, 1) := by decide +kernel
theorem d7_3 : decode jdk_52_method_15_code 3 = .ok (.isub, 1) := by decide +kernel
theorem d7_4 : decode jdk_52_method_15_code 4 = .ok (.bipush 31, 2) := by decide +kernel
theorem d7_6 : decode jdk_52_method_15_code 6 = .ok (.iushr, 1) := by decide +kernel
theorem d7_7 : decode jdk_52_method_15_code 7 = .ok (.i2b, 1) := by decide +kernel
theorem d7_8 : decode jdk_52_method_15_code 8 = .ok (.ireturn, 1) := by decide +kernel
set_option maxRecDepth 65536 in
set_option maxHeartbeats 40000000 in
theorem rm_cfl_1_1 (l : Launch) (Z : State) (a0 : Array Value) (hw : ∀ d ∈ tables_1, d.before a0 Z = true) (ws : List Jvm.Cond) (wG1 : Int32) (wG3 : Value) (cx : OwnCx Z a0 wG1 wG3) (hEL : EW Z a0 consts_1) (h0 : Heap) (n0 : Nat) (X00 : Old Z n0 h0) (tb1 : Addr) (kb1 : ClassId) (vs1 : List Value) (f0 : Arv Z h0 tb1 kb1 .byte (1 : Int32) vs1 (.int 0)) :
    MetFree l mN7 (head1 (Jvm.Cond.code mN7 jdk_52_method_15_code 2 (some .byte) :: ws) ({ frames := 0, cells := 0, slots := 0, locals := 0 } : Room)) (fun a U => a = #[(.ref tb1), (.int 1)] ∧ Z.Warmed39 U.vm ∧ U.heap = h0) (fun _ _ _ _ _ => True) (fun _ U o U' => ∃ v L, o = .returned v ∧ Q_cfl_1_1 Z tb1 kb1 vs1 h0 n0 v U'.heap L ∧ FrameEnd U o U' L ({ frames := 0, cells := 0, slots := 0, locals := 0 } : Room).cells ({ frames := 0, cells := 0, slots := 0, locals := 0 } : Room).slots) := by
  refine MetFree.of_bodySF (plainFor_of_name pn_68381282) hisR ?_
  intro p e s m args below meth c s₁ Bd hml0 hP hK
  obtain ⟨rfl, hZ, hh⟩ := hP
  obtain ⟨wO2, wP5, wO4, wrG3, hstr, wUA, wUH, wUL⟩ := id cx
  have hx := Bd.exec
  have hby := Bd.bytes
  have hlk := Bd.notSynchronized
  have hml : c.maxLocals = 2 := hml0
  have hown : s.vm.findClass "java/lang/StringUTF16" = some m.cls := findClass_of_methodNamed Bd.named
  have hnm := (name_of_methodNamed Bd.named Bd.method).1
  have X0 : Stand p l e ({ frames := 0, cells := 0, slots := 0, locals := 0 } : Room) s m #[(.ref tb1), (.int 1)] below meth c s₁ [] 0 0 := Stand.of_body Bd
  have e0 : s₁.heap = h0 := by rw [← hh, Bd.state]; rfl
  have N0 := Fr.nil n0
  have Z0 : n0 ≤ h0.size := X00.1 ▸ X00.2.1
  have K0 : Keep h0 h0 ([] : List Addr) := Keep.refl _ _
  show OwnGoes p e below (fun o U' => ∃ v L, o = .returned v ∧ Q_cfl_1_1 Z tb1 kb1 vs1 h0 n0 v U'.heap L ∧ FrameEnd s o U' L ({ frames := 0, cells := 0, slots := 0, locals := 0 } : Room).cells ({ frames := 0, cells := 0, slots := 0, locals := 0 } : Room).slots) s₁ (entryFrame m #[(.ref tb1), (.int 1)] 2)
  refine OwnGoes.step (T' := s₁) (g' := (mkF m 0 #[vR tb1, vI 1] [])) (fun tgt kgo => castTop (ef_cfl_1_1 m tb1) kgo) ?_
  refine OwnGoes.step (T' := s₁) (g' := (mkF m 8 #[vR tb1, vI 1] [(.int 0)])) (fun tgt kgo => ?_) ?_
  · refine XS.iloadN X0.here hx rfl (hb hby d7_0) rfl ?_
    show OwnG p e below s₁ m 1 #[vR tb1, vI 1] [(.int 1)] tgt
    refine XS.aloadN X0.here hx rfl (hb hby d7_1) rfl rfl ?_
    show OwnG p e below s₁ m 2 #[vR tb1, vI 1] [(.ref tb1), (.int 1)] tgt
    obtain ⟨cl1, Ar1, q1, S1, M1, -, -⟩ := f0
    refine X0.arraylength hx (by rw [e0]; exact Ar1.1) (State.isArrayOf_alike hZ.alike Ar1.2.1) (g := (mkF m 2 #[vR tb1, vI 1] [(.ref tb1), (.int 1)])) rfl rfl (hb hby d7_2) _ ?_
    rw [len_of S1 M1]
    show OwnG p e below s₁ m 3 #[vR tb1, vI 1] [(.int 1), (.int 1)] tgt
    refine XS.isub X0.here hx rfl (hb hby d7_3) rfl ?_
    show OwnG p e below s₁ m 4 #[vR tb1, vI 1] [(.int 0)] tgt
    refine XS.bipush X0.here hx rfl (hb hby d7_4) ?_
    show OwnG p e below s₁ m 6 #[vR tb1, vI 1] [(.int 31), (.int 0)] tgt
    refine XS.iushr X0.here hx rfl (hb hby d7_6) rfl ?_
    show OwnG p e below s₁ m 7 #[vR tb1, vI 1] [(.int 0)] tgt
    refine XS.i2b X0.here hx rfl (hb hby d7_7) rfl ?_
    exact kgo
  refine own_leave X0 hlk (v := some (.int 0)) (fun h => by rw [Bd.returns] at h; cases h) (fun fs hr => retN X0 hx (t := .byte) Bd.returns (by simp) (hb hby d7_8) (by rw [(by decide : nar .byte (0 : Int32) = (0 : Int32))]; exact hr)) (by decide) (by decide) ?_
  show Q_cfl_1_1 Z tb1 kb1 vs1 h0 n0 _ s₁.heap _
  rw [e0]
  exact ⟨rfl, N0, rfl⟩
theorem ef_cfl_1_2 (m : MethodId) (x0 : Addr) : entryFrame m #[(.ref x0), (.int 1)] 2 = mkF m 0 #[vR x0, vI 1] [] := by
  first | (simp [entryFrame, mkF, argsToLocals, Value.category]; done) | rfl
def Q_cfl_1_2 (Z : State) (tb1 : Addr) (kb1 : ClassId) (vs1 : List Value) (h0 : Heap) (n0 : Nat) (v : Option Value) (h : Heap) (L : List Loc) : Prop := v = some (.int 1) ∧ Fr n0 L ∧ h = h0
set_option maxRecDepth 65536 in
set_option maxHeartbeats 40000000 in
theorem rm_cfl_1_2 (l : Launch) (Z : State) (a0 : Array Value) (hw : ∀ d ∈ tables_1, d.before a0 Z = true) (ws : List Jvm.Cond) (wG1 : Int32) (wG3 : Value) (cx : OwnCx Z a0 wG1 wG3) (hEL : EW Z a0 consts_1) (h0 : Heap) (n0 : Nat) (X00 : Old Z n0 h0) (tb1 : Addr) (kb1 : ClassId) (vs1 : List Value) (f0 : Arv Z h0 tb1 kb1 .byte (2 : Int32) vs1 (.int 0)) :
    MetFree l mN7 (head1 (Jvm.Cond.code mN7 jdk_52_method_15_code 2 (some .byte) :: ws) ({ frames := 0, cells := 0, slots := 0, locals := 0 } : Room)) (fun a U => a = #[(.ref tb1), (.int 1)] ∧ Z.Warmed39 U.vm ∧ U.heap = h0) (fun _ _ _ _ _ => True) (fun _ U o U' => ∃ v L, o = .returned v ∧ Q_cfl_1_2 Z tb1 kb1 vs1 h0 n0 v U'.heap L ∧ FrameEnd U o U' L ({ frames := 0, cells := 0, slots := 0, locals := 0 } : Room).cells ({ frames := 0, cells := 0, slots := 0, locals := 0 } : Room).slots) := by
  refine MetFree.of_bodySF (plainFor_of_name pn_68381282) hisR ?_
  intro p e s m args below meth c s₁ Bd hml0 hP hK
  obtain ⟨rfl, hZ, hh⟩ := hP
  obtain ⟨wO2, wP5, wO4, wrG3, hstr, wUA, wUH, wUL⟩ := id cx
  have hx := Bd.exec
  have hby := Bd.bytes
  have hlk := Bd.notSynchronized
  have hml : c.maxLocals = 2 := hml0
  have hown : s.vm.findClass "java/lang/StringUTF16" = some m.cls := findClass_of_methodNamed Bd.named
  have hnm := (name_of_methodNamed Bd.named Bd.method).1
  have X0 : Stand p l e ({ frames := 0, cells := 0, slots := 0, locals := 0 } : Room) s m #[(.ref tb1), (.int 1)] below meth c s₁ [] 0 0 := Stand.of_body Bd
  have e0 : s₁.heap = h0 := by rw [← hh, Bd.state]; rfl
  have N0 := Fr.nil n0
  have Z0 : n0 ≤ h0.size := X00.1 ▸ X00.2.1
  have K0 : Keep h0 h0 ([] : List Addr) := Keep.refl _ _
  show OwnGoes p e below (fun o U' => ∃ v L, o = .returned v ∧ Q_cfl_1_2 Z tb1 kb1 vs1 h0 n0 v U'.heap L ∧ FrameEnd s o U' L ({ frames := 0, cells := 0, slots := 0, locals := 0 } : Room).cells ({ frames := 0, cells := 0, slots := 0, locals := 0 } : Room).slots) s₁ (entryFrame m #[(.ref tb1), (.int 1)] 2)
  refine OwnGoes.step (T' := s₁) (g' := (mkF m 0 #[vR tb1, vI 1] [])) (fun tgt kgo => castTop (ef_cfl_1_2 m tb1) kgo) ?_
  refine OwnGoes.step (T' := s₁) (g' := (mkF m 8 #[vR tb1, vI 1] [(.int 1)])) (fun tgt kgo => ?_) ?_
  · refine XS.iloadN X0.here hx rfl (hb hby d7_0) rfl ?_
    show OwnG p e below s₁ m 1 #[vR tb1, vI 1] [(.int 1)] tgt
    refine XS.aloadN X0.here hx rfl (hb hby d7_1) rfl rfl ?_
    show OwnG p e below s₁ m 2 #[vR tb1, vI 1] [(.ref tb1), (.int 1)] tgt
    obtain ⟨cl1, Ar1, q1, S1, M1, -, -⟩ := f0
    refine X0.arraylength hx (by rw [e0]; exact Ar1.1) (State.isArrayOf_alike hZ.alike Ar1.2.1) (g := (mkF m 2 #[vR tb1, vI 1] [(.ref tb1), (.int 1)])) rfl rfl (hb hby d7_2) _ ?_
    rw [len_of S1 M1]
    show OwnG p e below s₁ m 3 #[vR tb1, vI 1] [(.int 2), (.int 1)] tgt
    refine XS.isub X0.here hx rfl (hb hby d7_3) rfl ?_
    show OwnG p e below s₁ m 4 #[vR tb1, vI 1] [(.int (-1))] tgt
    refine XS.bipush X0.here hx rfl (hb hby d7_4) ?_
    show OwnG p e below s₁ m 6 #[vR tb1, vI 1] [(.int 31), (.int (-1))] tgt
    refine XS.iushr X0.here hx rfl (hb hby d7_6) rfl ?_
    show OwnG p e below s₁ m 7 #[vR tb1, vI 1] [(.int 1)] tgt
    refine XS.i2b X0.here hx rfl (hb hby d7_7) rfl ?_
    exact kgo
  refine own_leave X0 hlk (v := some (.int 1)) (fun h => by rw [Bd.returns] at h; cases h) (fun fs hr => retN X0 hx (t := .byte) Bd.returns (by simp) (hb hby d7_8) (by rw [(by decide : nar .byte (1 : Int32) = (1 : Int32))]; exact hr)) (by decide) (by decide) ?_
  show Q_cfl_1_2 Z tb1 kb1 vs1 h0 n0 _ s₁.heap _
  rw [e0]
  exact ⟨rfl, N0, rfl⟩
theorem ef_si6_1 (m : MethodId) (x0 : Addr) (x1 : Addr) : entryFrame m #[(.ref x0), (.ref x1), (.int 0), (.int 1), .null] 6 = mkF m 0 #[vR x0, vR x1, vI 0, vI 1, .val .null, vU] [] := by
  first | (simp [entryFrame, mkF, argsToLocals, Value.category]; done) | rfl
def Q_si6_1 (Z : State) (a1 : Addr) (ab1 : Addr) (kc : ClassId) (c1 : Int32) (h0 : Heap) (n0 : Nat) (v : Option Value) (h : Heap) (L : List Loc) : Prop := ∃ (t : Addr), ∃ (k : ClassId), ∃ (N : Int32), ∃ (vs : List Value), ∃ (cd : Int32), v = none ∧ Fr n0 L ∧ Keep h0 h ([a1] : List Addr) ∧ h0.size ≤ t ∧ Exa Z h a1 "java/lang/String" ∧ Fld Z h a1 "java/lang/String" "value" "[B" (.ref t) ∧ Fld Z h a1 "java/lang/String" "coder" "B" (.int cd) ∧ Arv Z h t k .byte N vs (.int 0) ∧ (OwnStr ([c1] : List Int32) cd N vs)
theorem pn_52039224 : plainName "java/lang/String" = true := by first | (simp [plainName, overriddenIn]; done) | decide +kernel
theorem d8_0 : decode jdk_42_method_149_code 0 = .ok (.aload_n 0, 1) := by decide +kernel
theorem d8_1 : decode jdk_42_method_149_code 1 = .ok (.invokespecial 1, 3) := by decide +kernel
theorem d8_4 : decode jdk_42_method_149_code 4 = .ok (.iload_n 3, 1) := by decide +kernel
theorem d8_5 : decode jdk_42_method_149_code 5 = .ok (.ifCond .ne 22, 3) := by decide +kernel
theorem d8_27 : decode jdk_42_method_149_code 27 = .ok (.getstatic 38, 3) := by decide +kernel
theorem d8_30 : decode jdk_42_method_149_code 30 = .ok (.ifCond .eq 28, 3) := by decide +kernel
theorem d8_33 : decode jdk_42_method_149_code 33 = .ok (.aload_n 1, 1) := by decide +kernel
theorem d8_34 : decode jdk_42_method_149_code 34 = .ok (.iload_n 2, 1) := by decide +kernel
theorem d8_35 : decode jdk_42_method_149_code 35 = .ok (.iload_n 3, 1) := by decide +kernel
theorem d8_36 : decode jdk_42_method_149_code 36 = .ok (.invokestatic 177, 3) := by decide +kernel
theorem d8_39 : decode jdk_42_method_149_code 39 = .ok (.astore 5, 2) := by decide +kernel
theorem d8_41 : decode jdk_42_method_149_code 41 = .ok (.aload_n 0, 1) := by decide +kernel
theorem d8_42 : decode jdk_42_method_149_code 42 = .ok (.aload 5, 2) := by decide +kernel
theorem d8_44 : decode jdk_42_method_149_code 44 = .ok (.iload_n 3, 1) := by decide +kernel
theorem d8_45 : decode jdk_42_method_149_code 45 = .ok (.invokestatic 47, 3) := by decide +kernel
theorem pd_68873100 : parseMethodDescriptor "([BI)B" = some ⟨[(.array .byte), .int], some .byte⟩ := by decide +kernel
theorem d8_48 : decode jdk_42_method_149_code 48 = .ok (.putfield 15, 3) := by decide +kernel
theorem d8_51 : decode jdk_42_method_149_code 51 = .ok (.aload_n 0, 1) := by decide +kernel
theorem d8_52 : decode jdk_42_method_149_code 52 = .ok (.aload 5, 2) := by decide +kernel
theorem d8_54 : decode jdk_42_method_149_code 54 = .ok (.putfield 9, 3) := by decide +kernel
theorem d8_57 : decode jdk_42_method_149_code 57 = .ok (.return_, 1) := by decide +kernel
set_option maxRecDepth 65536 in
set_option maxHeartbeats 40000000 in
theorem rm_si6_1 (l : Launch) (Z : State) (a0 : Array Value) (hw : ∀ d ∈ tables_1, d.before a0 Z = true) (ws : List Jvm.Cond) (wG1 : Int32) (wG3 : Value) (cx : OwnCx Z a0 wG1 wG3) (hEL : EW Z a0 consts_1) (h0 : Heap) (n0 : Nat) (X00 : Old Z n0 h0) (a1 : Addr) (ab1 : Addr) (kc : ClassId) (c1 : Int32) (f0 : Exa Z h0 a1 "java/lang/String") (f1 : Fld Z h0 a1 "java/lang/String" "value" "[B" .null) (f2 : Fld Z h0 a1 "java/lang/String" "coder" "B" (.int 0)) (f3 : n0 ≤ a1) (f4 : Arv Z h0 ab1 kc .char (1 : Int32) [(.int c1)] (.int 0)) (hw1 : ¬ c1 < 0 ∧ ¬ (65535 : Int32) < c1) :
    MetFree l mN8 (head1 (Jvm.Cond.code mN8 jdk_42_method_149_code 6 none :: ws) ({ frames := 4, cells := 2, slots := 3, locals := 57 } : Room)) (fun a U => a = #[(.ref a1), (.ref ab1), (.int 0), (.int 1), .null] ∧ Z.Warmed39 U.vm ∧ U.heap = h0) (fun _ _ _ _ _ => True) (fun _ U o U' => ∃ v L, o = .returned v ∧ Q_si6_1 Z a1 ab1 kc c1 h0 n0 v U'.heap L ∧ FrameEnd U o U' L ({ frames := 4, cells := 2, slots := 3, locals := 57 } : Room).cells ({ frames := 4, cells := 2, slots := 3, locals := 57 } : Room).slots) := by
  refine MetFree.of_bodySF (plainFor_of_name pn_52039224) hisR ?_
  intro p e s m args below meth c s₁ Bd hml0 hP hK
  obtain ⟨rfl, hZ, hh⟩ := hP
  obtain ⟨wO2, wP5, wO4, wrG3, hstr, wUA, wUH, wUL⟩ := id cx
  have hx := Bd.exec
  have hby := Bd.bytes
  have hlk := Bd.notSynchronized
  have hml : c.maxLocals = 6 := hml0
  have hown : s.vm.findClass "java/lang/String" = some m.cls := findClass_of_methodNamed Bd.named
  have hnm := (name_of_methodNamed Bd.named Bd.method).1
  have X0 : Stand p l e ({ frames := 4, cells := 2, slots := 3, locals := 57 } : Room) s m #[(.ref a1), (.ref ab1), (.int 0), (.int 1), .null] below meth c s₁ [] 0 0 := Stand.of_body Bd
  have e0 : s₁.heap = h0 := by rw [← hh, Bd.state]; rfl
  have N0 := Fr.nil n0
  have Z0 : n0 ≤ h0.size := X00.1 ▸ X00.2.1
  have K0 : Keep h0 h0 ([a1] : List Addr) := Keep.refl _ _
  show OwnGoes p e below (fun o U' => ∃ v L, o = .returned v ∧ Q_si6_1 Z a1 ab1 kc c1 h0 n0 v U'.heap L ∧ FrameEnd s o U' L ({ frames := 4, cells := 2, slots := 3, locals := 57 } : Room).cells ({ frames := 4, cells := 2, slots := 3, locals := 57 } : Room).slots) s₁ (entryFrame m #[(.ref a1), (.ref ab1), (.int 0), (.int 1), .null] 6)
  refine OwnGoes.step (T' := s₁) (g' := (mkF m 0 #[vR a1, vR ab1, vI 0, vI 1, .val .null, vU] [])) (fun tgt kgo => castTop (ef_si6_1 m a1 ab1) kgo) ?_
  refine OwnGoes.step (T' := s₁) (g' := (mkF m 1 #[vR a1, vR ab1, vI 0, vI 1, .val .null, vU] [(.ref a1)])) (fun tgt kgo => ?_) ?_
  · refine XS.aloadN X0.here hx rfl (hb hby d8_0) rfl rfl ?_
    exact kgo
  obtain ⟨T1, X1, e1, st1⟩ := initO X0 hx hZ hown (own_w hw 20 rfl) (own_w hw 21 rfl) (own_w hw 22 rfl) e0 (g := (mkF m 1 #[vR a1, vR ab1, vI 0, vI 1, .val .null, vU] [(.ref a1)])) rfl (by rw [hml]; rfl) rfl (hb hby d8_1) (by decide) (W := 0) (Nat.le_of_eq rfl) (by decide)
  refine OwnGoes.step (T' := T1) (g' := (mkF m 4 #[vR a1, vR ab1, vI 0, vI 1, .val .null, vU] [])) st1 ?_
  refine OwnGoes.step (T' := T1) (g' := (mkF m 27 #[vR a1, vR ab1, vI 0, vI 1, .val .null, vU] [])) (fun tgt kgo => ?_) ?_
  · refine XS.iloadN X1.here hx rfl (hb hby d8_4) rfl ?_
    show OwnG p e below T1 m 5 #[vR a1, vR ab1, vI 0, vI 1, .val .null, vU] [(.int 1)] tgt
    refine XS.ifYes X1.here hx rfl (pc0 := 5) (pc' := 27) rfl (hb hby d8_5) rfl ((if0 _ _).trans (feq (by decide : ¬ ((1 : Int32) = (0 : Int32)))).2) (by decide) (by decide) ?_
    exact kgo
  obtain ⟨T2, X2, e2, st2⟩ := getS2 X1 hx hZ hown (host := "") (Or.inl (own_w hw 40 rfl)) Via.refl e1 (wO2.ext X00.2) (g := (mkF m 27 #[vR a1, vR ab1, vI 0, vI 1, .val .null, vU] [])) rfl (hb hby d8_27)
  refine OwnGoes.step (T' := T2) (g' := (mkF m 30 #[vR a1, vR ab1, vI 0, vI 1, .val .null, vU] [(.int wG1)])) st2 ?_
  refine OwnGoes.step (T' := T2) (g' := (mkF m 36 #[vR a1, vR ab1, vI 0, vI 1, .val .null, vU] [(.int 1), (.int 0), (.ref ab1)])) (fun tgt kgo => ?_) ?_
  · refine XS.ifNo X2.here hx rfl (hb hby d8_30) rfl ((if0 _ _).trans (feq wP5).1) ?_
    show OwnG p e below T2 m 33 #[vR a1, vR ab1, vI 0, vI 1, .val .null, vU] [] tgt
    refine XS.aloadN X2.here hx rfl (hb hby d8_33) rfl rfl ?_
    show OwnG p e below T2 m 34 #[vR a1, vR ab1, vI 0, vI 1, .val .null, vU] [(.ref ab1)] tgt
    refine XS.iloadN X2.here hx rfl (hb hby d8_34) rfl ?_
    show OwnG p e below T2 m 35 #[vR a1, vR ab1, vI 0, vI 1, .val .null, vU] [(.int 0), (.ref ab1)] tgt
    refine XS.iloadN X2.here hx rfl (hb hby d8_35) rfl ?_
    exact kgo
  obtain ⟨_, _, ⟨T3, L3, k3, n3⟩, -, X3, ⟨Lc3, hQ3, l3, y3, z3⟩, st3⟩ := Jvm.LawKit.callS X2 hx (y := mN6) hown (mvT hZ (own_w hw 41 rfl)) (mvT hZ (own_w hw 42 rfl)) (mvT hZ (own_w hw 43 rfl)) (mvT hZ (own_w hw 44 rfl)) (by decide) (backOf (W := 0) (rm_c3_1 l Z a0 hw [] wG1 wG3 cx hEL h0 n0 X00 ab1 kc c1 f4 hw1) hZ (own_w hw 44 rfl) (own_w hw 43 rfl) (by decide) (by decide)) (g := (mkF m 36 #[vR a1, vR ab1, vI 0, vI 1, .val .null, vU] [(.int 1), (.int 0), (.ref ab1)])) rfl (by rw [hml]; rfl) (argsL := [(.ref ab1), (.int 0), (.int 1)]) (rest := []) (lenOf pd_23256262 rfl) rfl (Nat.le_of_eq rfl) (hb hby d8_36) (fun _ _ => ⟨rfl, e2, (by decide : 0 + 2 ≤ _), (by decide : 0 + 3 ≤ _)⟩)
  dsimp only [Pt.U, Pt.locs, Pt.cells, Pt.slots] at X3 l3 y3 z3 st3 hQ3
  subst l3 y3 z3
  obtain ⟨t_3, k_3, N_3, vs_3, cd_3, rfl, Nq3, Kq3, zq3_0, fq3_0, pq3_0⟩ := hQ3
  refine OwnGoes.step (T' := T3) (g' := (mkF m 39 #[vR a1, vR ab1, vI 0, vI 1, .val .null, vU] [(.ref t_3)])) st3 ?_
  have N3 := Fr.app N0 Nq3
  have ne_a1_t_3 : a1 ≠ t_3 := Nat.ne_of_lt (Nat.lt_of_lt_of_le f0.lt zq3_0)
  have ne_ab1_t_3 : ab1 ≠ t_3 := Nat.ne_of_lt (Nat.lt_of_lt_of_le f4.lt zq3_0)
  have g_t_3 : n0 ≤ t_3 := Nat.le_trans (Nat.le_trans Z0 K0.1) zq3_0
  have s_t_3 : h0.size ≤ t_3 := Nat.le_trans K0.1 zq3_0
  have F3_1 := f0.keep Kq3
  have F3_2 := f1.keep Kq3 nin0
  have F3_3 := f2.keep Kq3 nin0
  have F3_4 := f4.keep Kq3 nin0
  have Ol3 := X00.keep Kq3 all0
  have K3 : Keep h0 T3.heap ([a1] : List Addr) := K0.trans Kq3 all0
  refine OwnGoes.step (T' := T3) (g' := (mkF m 41 #[vR a1, vR ab1, vI 0, vI 1, .val .null, vR t_3] [])) (fun tgt kgo => ?_) ?_
  · refine XS.astore X3.here hx rfl (hb hby d8_39) rfl rfl (l' := #[vR a1, vR ab1, vI 0, vI 1, .val .null, vR t_3]) rfl ?_
    exact kgo
  rcases pq3_0 with ⟨rfl, rfl, hos_N_3⟩ | ⟨rfl, rfl, hos_N_3⟩
  · skip
    refine OwnGoes.step (T' := T3) (g' := (mkF m 45 #[vR a1, vR ab1, vI 0, vI 1, .val .null, vR t_3] [(.int 1), (.ref t_3), (.ref a1)])) (fun tgt kgo => ?_) ?_
    · refine XS.aloadN X3.here hx rfl (hb hby d8_41) rfl rfl ?_
      show OwnG p e below T3 m 42 #[vR a1, vR ab1, vI 0, vI 1, .val .null, vR t_3] [(.ref a1)] tgt
      refine XS.aload X3.here hx rfl (hb hby d8_42) rfl rfl ?_
      show OwnG p e below T3 m 44 #[vR a1, vR ab1, vI 0, vI 1, .val .null, vR t_3] [(.ref t_3), (.ref a1)] tgt
      refine XS.iloadN X3.here hx rfl (hb hby d8_44) rfl ?_
      exact kgo
    obtain ⟨_, _, ⟨T4, L4, k4, n4⟩, -, X4, ⟨Lc4, hQ4, l4, y4, z4⟩, st4⟩ := Jvm.LawKit.callS X3 hx (y := mN7) hown (mvT hZ (own_w hw 48 rfl)) (mvT hZ (own_w hw 49 rfl)) (mvT hZ (own_w hw 43 rfl)) (mvT hZ (own_w hw 50 rfl)) (by decide) (backOf (W := 1) (rm_cfl_1_1 l Z a0 hw [] wG1 wG3 cx hEL T3.heap n0 Ol3 t_3 k_3 vs_3 fq3_0) hZ (own_w hw 50 rfl) (own_w hw 43 rfl) (by decide) (by decide)) (g := (mkF m 45 #[vR a1, vR ab1, vI 0, vI 1, .val .null, vR t_3] [(.int 1), (.ref t_3), (.ref a1)])) rfl (by rw [hml]; rfl) (argsL := [(.ref t_3), (.int 1)]) (rest := [(.ref a1)]) (lenOf pd_68873100 rfl) rfl (Nat.le_of_eq rfl) (hb hby d8_45) (fun _ _ => ⟨rfl, rfl, (by decide : 2 + 0 ≤ _), (by decide : 3 + 0 ≤ _)⟩)
    dsimp only [Pt.U, Pt.locs, Pt.cells, Pt.slots] at X4 l4 y4 z4 st4 hQ4
    subst l4 y4 z4
    obtain ⟨rfl, Nq4, eq4⟩ := hQ4
    refine OwnGoes.step (T' := T4) (g' := (mkF m 48 #[vR a1, vR ab1, vI 0, vI 1, .val .null, vR t_3] [(.int 0), (.ref a1)])) st4 ?_
    have N4 := Fr.app N3 Nq4
    obtain ⟨T5, h5, X5, e5, W5, st5⟩ := putFN X4 hx hZ hown (own_w hw 30 rfl) Via.refl eq4 F3_3 F3_1 (Or.inr ⟨(own_w hw 26 rfl), rfl, hnm⟩) (own_w hw 10 rfl) (ty := .byte) (v' := (.int (nar .byte (0 : Int32)))) (by decide) rfl (fits_nar_byte _) (g := (mkF m 48 #[vR a1, vR ab1, vI 0, vI 1, .val .null, vR t_3] [(.int 0), (.ref a1)])) rfl rfl (hb hby d8_48)
    refine OwnGoes.step (T' := T5) (g' := (mkF m 51 #[vR a1, vR ab1, vI 0, vI 1, .val .null, vR t_3] [])) st5 ?_
    have Fw5 := F3_3.same W5
    rw [(by decide : nar .byte (0 : Int32) = (0 : Int32))] at Fw5
    have F5_5 := F3_1.wr W5
    have F5_6 := F3_2.other W5 (Or.inr (slot_ne (Or.inr (own_w hw 25 rfl)) (Or.inr (own_w hw 26 rfl)) (by decide) (t := (.array .byte)) (t' := .byte) (by decide) (by decide)))
    have F5_7 := F3_4.other W5 (Ne.symm (Exa.neArv F3_1 F3_4 (own_w hw 10 rfl)))
    have F5_8 := fq3_0.other W5 (Ne.symm ne_a1_t_3)
    have Ol5 := Ol3.wr W5 f3
    have K5 : Keep h0 h5 ([a1] : List Addr) := K3.wr W5 (Or.inl (List.mem_of_getElem? (i := 0) rfl))
    have N5 := Fr.snoc X5 N4 f3
    refine OwnGoes.step (T' := T5) (g' := (mkF m 54 #[vR a1, vR ab1, vI 0, vI 1, .val .null, vR t_3] [(.ref t_3), (.ref a1)])) (fun tgt kgo => ?_) ?_
    · refine XS.aloadN X5.here hx rfl (hb hby d8_51) rfl rfl ?_
      show OwnG p e below T5 m 52 #[vR a1, vR ab1, vI 0, vI 1, .val .null, vR t_3] [(.ref a1)] tgt
      refine XS.aload X5.here hx rfl (hb hby d8_52) rfl rfl ?_
      exact kgo
    obtain ⟨T6, h6, X6, e6, W6, st6⟩ := putF X5 hx hZ hown (host := "") (Or.inl (own_w hw 29 rfl)) Via.refl e5 F5_6 F5_5 (Or.inr ⟨(own_w hw 25 rfl), rfl, hnm⟩) (own_w hw 10 rfl) (ty := (.array .byte)) (by decide) rfl rfl (g := (mkF m 54 #[vR a1, vR ab1, vI 0, vI 1, .val .null, vR t_3] [(.ref t_3), (.ref a1)])) rfl rfl (hb hby d8_54)
    refine OwnGoes.step (T' := T6) (g' := (mkF m 57 #[vR a1, vR ab1, vI 0, vI 1, .val .null, vR t_3] [])) st6 ?_
    have Fw6 := F5_6.same W6
    have F6_9 := F5_5.wr W6
    have F6_10 := Fw5.other W6 (Or.inr (slot_ne (Or.inr (own_w hw 26 rfl)) (Or.inr (own_w hw 25 rfl)) (by decide) (t := .byte) (t' := (.array .byte)) (by decide) (by decide)))
    have F6_11 := F5_7.other W6 (Ne.symm (Exa.neArv F5_5 F5_7 (own_w hw 10 rfl)))
    have F6_12 := F5_8.other W6 (Ne.symm ne_a1_t_3)
    have Ol6 := Ol5.wr W6 f3
    have K6 : Keep h0 h6 ([a1] : List Addr) := K5.wr W6 (Or.inl (List.mem_of_getElem? (i := 0) rfl))
    have N6 := Fr.snoc X6 N5 f3
    refine own_leave X6 hlk (v := none) (fun _ => rfl) (fun fs hr => X6.returnOut hx Bd.returns (hb hby d8_57) hr) (by decide) (by decide) ?_
    show Q_si6_1 Z a1 ab1 kc c1 h0 n0 _ T6.heap _
    rw [e6]
    exact ⟨t_3, k_3, (1 : Int32), vs_3, (0 : Int32), rfl, N6, K6, s_t_3, F6_9, Fw6, F6_10, F6_12, hos_N_3⟩
  refine OwnGoes.step (T' := T3) (g' := (mkF m 45 #[vR a1, vR ab1, vI 0, vI 1, .val .null, vR t_3] [(.int 1), (.ref t_3), (.ref a1)])) (fun tgt kgo => ?_) ?_
  · refine XS.aloadN X3.here hx rfl (hb hby d8_41) rfl rfl ?_
    show OwnG p e below T3 m 42 #[vR a1, vR ab1, vI 0, vI 1, .val .null, vR t_3] [(.ref a1)] tgt
    refine XS.aload X3.here hx rfl (hb hby d8_42) rfl rfl ?_
    show OwnG p e below T3 m 44 #[vR a1, vR ab1, vI 0, vI 1, .val .null, vR t_3] [(.ref t_3), (.ref a1)] tgt
    refine XS.iloadN X3.here hx rfl (hb hby d8_44) rfl ?_
    exact kgo
  obtain ⟨_, _, ⟨T8, L8, k8, n8⟩, -, X8, ⟨Lc8, hQ8, l8, y8, z8⟩, st8⟩ := Jvm.LawKit.callS X3 hx (y := mN7) hown (mvT hZ (own_w hw 48 rfl)) (mvT hZ (own_w hw 49 rfl)) (mvT hZ (own_w hw 43 rfl)) (mvT hZ (own_w hw 50 rfl)) (by decide) (backOf (W := 1) (rm_cfl_1_2 l Z a0 hw [] wG1 wG3 cx hEL T3.heap n0 Ol3 t_3 k_3 vs_3 fq3_0) hZ (own_w hw 50 rfl) (own_w hw 43 rfl) (by decide) (by decide)) (g := (mkF m 45 #[vR a1, vR ab1, vI 0, vI 1, .val .null, vR t_3] [(.int 1), (.ref t_3), (.ref a1)])) rfl (by rw [hml]; rfl) (argsL := [(.ref t_3), (.int 1)]) (rest := [(.ref a1)]) (lenOf pd_68873100 rfl) rfl (Nat.le_of_eq rfl) (hb hby d8_45) (fun _ _ => ⟨rfl, rfl, (by decide : 2 + 0 ≤ _), (by decide : 3 + 0 ≤ _)⟩)
  dsimp only [Pt.U, Pt.locs, Pt.cells, Pt.slots] at X8 l8 y8 z8 st8 hQ8
  subst l8 y8 z8
  obtain ⟨rfl, Nq8, eq8⟩ := hQ8
  refine OwnGoes.step (T' := T8) (g' := (mkF m 48 #[vR a1, vR ab1, vI 0, vI 1, .val .null, vR t_3] [(.int 1), (.ref a1)])) st8 ?_
  have N8 := Fr.app N3 Nq8
  obtain ⟨T9, h9, X9, e9, W9, st9⟩ := putFN X8 hx hZ hown (own_w hw 30 rfl) Via.refl eq8 F3_3 F3_1 (Or.inr ⟨(own_w hw 26 rfl), rfl, hnm⟩) (own_w hw 10 rfl) (ty := .byte) (v' := (.int (nar .byte (1 : Int32)))) (by decide) rfl (fits_nar_byte _) (g := (mkF m 48 #[vR a1, vR ab1, vI 0, vI 1, .val .null, vR t_3] [(.int 1), (.ref a1)])) rfl rfl (hb hby d8_48)
  refine OwnGoes.step (T' := T9) (g' := (mkF m 51 #[vR a1, vR ab1, vI 0, vI 1, .val .null, vR t_3] [])) st9 ?_
  have Fw9 := F3_3.same W9
  rw [(by decide : nar .byte (1 : Int32) = (1 : Int32))] at Fw9
  have F9_13 := F3_1.wr W9
  have F9_14 := F3_2.other W9 (Or.inr (slot_ne (Or.inr (own_w hw 25 rfl)) (Or.inr (own_w hw 26 rfl)) (by decide) (t := (.array .byte)) (t' := .byte) (by decide) (by decide)))
  have F9_15 := F3_4.other W9 (Ne.symm (Exa.neArv F3_1 F3_4 (own_w hw 10 rfl)))
  have F9_16 := fq3_0.other W9 (Ne.symm ne_a1_t_3)
  have Ol9 := Ol3.wr W9 f3
  have K9 : Keep h0 h9 ([a1] : List Addr) := K3.wr W9 (Or.inl (List.mem_of_getElem? (i := 0) rfl))
  have N9 := Fr.snoc X9 N8 f3
  refine OwnGoes.step (T' := T9) (g' := (mkF m 54 #[vR a1, vR ab1, vI 0, vI 1, .val .null, vR t_3] [(.ref t_3), (.ref a1)])) (fun tgt kgo => ?_) ?_
  · refine XS.aloadN X9.here hx rfl (hb hby d8_51) rfl rfl ?_
    show OwnG p e below T9 m 52 #[vR a1, vR ab1, vI 0, vI 1, .val .null, vR t_3] [(.ref a1)] tgt
    refine XS.aload X9.here hx rfl (hb hby d8_52) rfl rfl ?_
    exact kgo
  obtain ⟨T10, h10, X10, e10, W10, st10⟩ := putF X9 hx hZ hown (host := "") (Or.inl (own_w hw 29 rfl)) Via.refl e9 F9_14 F9_13 (Or.inr ⟨(own_w hw 25 rfl), rfl, hnm⟩) (own_w hw 10 rfl) (ty := (.array .byte)) (by decide) rfl rfl (g := (mkF m 54 #[vR a1, vR ab1, vI 0, vI 1, .val .null, vR t_3] [(.ref t_3), (.ref a1)])) rfl rfl (hb hby d8_54)
  refine OwnGoes.step (T' := T10) (g' := (mkF m 57 #[vR a1, vR ab1, vI 0, vI 1, .val .null, vR t_3] [])) st10 ?_
  have Fw10 := F9_14.same W10
  have F10_17 := F9_13.wr W10
  have F10_18 := Fw9.other W10 (Or.inr (slot_ne (Or.inr (own_w hw 26 rfl)) (Or.inr (own_w hw 25 rfl)) (by decide) (t := .byte) (t' := (.array .byte)) (by decide) (by decide)))
  have F10_19 := F9_15.other W10 (Ne.symm (Exa.neArv F9_13 F9_15 (own_w hw 10 rfl)))
  have F10_20 := F9_16.other W10 (Ne.symm ne_a1_t_3)
  have Ol10 := Ol9.wr W10 f3
  have K10 : Keep h0 h10 ([a1] : List Addr) := K9.wr W10 (Or.inl (List.mem_of_getElem? (i := 0) rfl))
  have N10 := Fr.snoc X10 N9 f3
  refine own_leave X10 hlk (v := none) (fun _ => rfl) (fun fs hr => X10.returnOut hx Bd.returns (hb hby d8_57) hr) (by decide) (by decide) ?_
  show Q_si6_1 Z a1 ab1 kc c1 h0 n0 _ T10.heap _
  rw [e10]
  exact ⟨t_3, k_3, (2 : Int32), vs_3, (1 : Int32), rfl, N10, K10, s_t_3, F10_17, Fw10, F10_18, F10_20, hos_N_3⟩
theorem ef_si2_1 (m : MethodId) (x0 : Addr) (x1 : Addr) : entryFrame m #[(.ref x0), (.ref x1)] 2 = mkF m 0 #[vR x0, vR x1] [] := by
  first | (simp [entryFrame, mkF, argsToLocals, Value.category]; done) | rfl
def Q_si2_1 (Z : State) (a1 : Addr) (ab1 : Addr) (kc : ClassId) (c1 : Int32) (h0 : Heap) (n0 : Nat) (v : Option Value) (h : Heap) (L : List Loc) : Prop := ∃ (t : Addr), ∃ (k : ClassId), ∃ (N : Int32), ∃ (vs : List Value), ∃ (cd : Int32), v = none ∧ Fr n0 L ∧ Keep h0 h ([a1] : List Addr) ∧ h0.size ≤ t ∧ Exa Z h a1 "java/lang/String" ∧ Fld Z h a1 "java/lang/String" "value" "[B" (.ref t) ∧ Fld Z h a1 "java/lang/String" "coder" "B" (.int cd) ∧ Arv Z h t k .byte N vs (.int 0) ∧ (OwnStr ([c1] : List Int32) cd N vs)
theorem d9_0 : decode jdk_42_method_3_code 0 = .ok (.aload_n 0, 1) := by decide +kernel
theorem d9_1 : decode jdk_42_method_3_code 1 = .ok (.aload_n 1, 1) := by decide +kernel
theorem d9_2 : decode jdk_42_method_3_code 2 = .ok (.iconst 0, 1) := by decide +kernel
theorem d9_3 : decode jdk_42_method_3_code 3 = .ok (.aload_n 1, 1) := by decide +kernel
theorem d9_4 : decode jdk_42_method_3_code 4 = .ok (.arraylength, 1) := by decide +kernel
theorem d9_5 : decode jdk_42_method_3_code 5 = .ok (.aconst_null, 1) := by decide +kernel
theorem d9_6 : decode jdk_42_method_3_code 6 = .ok (.invokespecial 27, 3) := by decide +kernel
theorem pd_10261703 : parseMethodDescriptor "([CIILjava/lang/Void;)V" = some ⟨[(.array .char), .int, .int, (.object "java/lang/Void")], none⟩ := by decide +kernel
theorem d9_9 : decode jdk_42_method_3_code 9 = .ok (.return_, 1) := by decide +kernel
set_option maxRecDepth 65536 in
set_option maxHeartbeats 40000000 in
theorem rm_si2_1 (l : Launch) (Z : State) (a0 : Array Value) (hw : ∀ d ∈ tables_1, d.before a0 Z = true) (ws : List Jvm.Cond) (wG1 : Int32) (wG3 : Value) (cx : OwnCx Z a0 wG1 wG3) (hEL : EW Z a0 consts_1) (h0 : Heap) (n0 : Nat) (X00 : Old Z n0 h0) (a1 : Addr) (ab1 : Addr) (kc : ClassId) (c1 : Int32) (f0 : Exa Z h0 a1 "java/lang/String") (f1 : Fld Z h0 a1 "java/lang/String" "value" "[B" .null) (f2 : Fld Z h0 a1 "java/lang/String" "coder" "B" (.int 0)) (f3 : n0 ≤ a1) (f4 : Arv Z h0 ab1 kc .char (1 : Int32) [(.int c1)] (.int 0)) (hw1 : ¬ c1 < 0 ∧ ¬ (65535 : Int32) < c1) :
    MetFree l mN9 (head1 (Jvm.Cond.code mN9 jdk_42_method_3_code 2 none :: ws) ({ frames := 5, cells := 2, slots := 3, locals := 74 } : Room)) (fun a U => a = #[(.ref a1), (.ref ab1)] ∧ Z.Warmed39 U.vm ∧ U.heap = h0) (fun _ _ _ _ _ => True) (fun _ U o U' => ∃ v L, o = .returned v ∧ Q_si2_1 Z a1 ab1 kc c1 h0 n0 v U'.heap L ∧ FrameEnd U o U' L ({ frames := 5, cells := 2, slots := 3, locals := 74 } : Room).cells ({ frames := 5, cells := 2, slots := 3, locals := 74 } : Room).slots) := by
  refine MetFree.of_bodySF (plainFor_of_name pn_52039224) hisR ?_
  intro p e s m args below meth c s₁ Bd hml0 hP hK
  obtain ⟨rfl, hZ, hh⟩ := hP
  obtain ⟨wO2, wP5, wO4, wrG3, hstr, wUA, wUH, wUL⟩ := id cx
  have hx := Bd.exec
  have hby := Bd.bytes
  have hlk := Bd.notSynchronized
  have hml : c.maxLocals = 2 := hml0
  have hown : s.vm.findClass "java/lang/String" = some m.cls := findClass_of_methodNamed Bd.named
  have hnm := (name_of_methodNamed Bd.named Bd.method).1
  have X0 : Stand p l e ({ frames := 5, cells := 2, slots := 3, locals := 74 } : Room) s m #[(.ref a1), (.ref ab1)] below meth c s₁ [] 0 0 := Stand.of_body Bd
  have e0 : s₁.heap = h0 := by rw [← hh, Bd.state]; rfl
  have N0 := Fr.nil n0
  have Z0 : n0 ≤ h0.size := X00.1 ▸ X00.2.1
  have K0 : Keep h0 h0 ([a1] : List Addr) := Keep.refl _ _
  show OwnGoes p e below (fun o U' => ∃ v L, o = .returned v ∧ Q_si2_1 Z a1 ab1 kc c1 h0 n0 v U'.heap L ∧ FrameEnd s o U' L ({ frames := 5, cells := 2, slots := 3, locals := 74 } : Room).cells ({ frames := 5, cells := 2, slots := 3, locals := 74 } : Room).slots) s₁ (entryFrame m #[(.ref a1), (.ref ab1)] 2)
  refine OwnGoes.step (T' := s₁) (g' := (mkF m 0 #[vR a1, vR ab1] [])) (fun tgt kgo => castTop (ef_si2_1 m a1 ab1) kgo) ?_
  refine OwnGoes.step (T' := s₁) (g' := (mkF m 6 #[vR a1, vR ab1] [.null, (.int 1), (.int 0), (.ref ab1), (.ref a1)])) (fun tgt kgo => ?_) ?_
  · refine XS.aloadN X0.here hx rfl (hb hby d9_0) rfl rfl ?_
    show OwnG p e below s₁ m 1 #[vR a1, vR ab1] [(.ref a1)] tgt
    refine XS.aloadN X0.here hx rfl (hb hby d9_1) rfl rfl ?_
    show OwnG p e below s₁ m 2 #[vR a1, vR ab1] [(.ref ab1), (.ref a1)] tgt
    refine XS.iconst X0.here hx rfl (hb hby d9_2) ?_
    show OwnG p e below s₁ m 3 #[vR a1, vR ab1] [(.int 0), (.ref ab1), (.ref a1)] tgt
    refine XS.aloadN X0.here hx rfl (hb hby d9_3) rfl rfl ?_
    show OwnG p e below s₁ m 4 #[vR a1, vR ab1] [(.ref ab1), (.int 0), (.ref ab1), (.ref a1)] tgt
    obtain ⟨cl1, Ar1, q1, S1, M1, -, -⟩ := f4
    refine X0.arraylength hx (by rw [e0]; exact Ar1.1) (State.isArrayOf_alike hZ.alike Ar1.2.1) (g := (mkF m 4 #[vR a1, vR ab1] [(.ref ab1), (.int 0), (.ref ab1), (.ref a1)])) rfl rfl (hb hby d9_4) _ ?_
    rw [len_of S1 M1]
    show OwnG p e below s₁ m 5 #[vR a1, vR ab1] [(.int 1), (.int 0), (.ref ab1), (.ref a1)] tgt
    refine XS.aconstNull X0.here hx rfl (hb hby d9_5) ?_
    exact kgo
  obtain ⟨_, _, ⟨T2, L2, k2, n2⟩, -, X2, ⟨Lc2, hQ2, l2, y2, z2⟩, st2⟩ := X0.specialBack hx (y := mN8) rfl hown (mvT hZ (own_w hw 16 rfl)) (mvT hZ (own_w hw 17 rfl)) (mvT hZ (own_w hw 19 rfl)) (by decide) (backOf (W := 0) (rm_si6_1 l Z a0 hw [] wG1 wG3 cx hEL h0 n0 X00 a1 ab1 kc c1 f0 f1 f2 f3 f4 hw1) hZ (own_w hw 19 rfl) (own_w hw 11 rfl) (by decide) (by decide)) (g := (mkF m 6 #[vR a1, vR ab1] [.null, (.int 1), (.int 0), (.ref ab1), (.ref a1)])) rfl (by rw [hml]; rfl) (Steps.refl _) (a := a1) (argsL := [(.ref ab1), (.int 0), (.int 1), .null]) (rest := []) (lenOf pd_10261703 rfl) rfl (Nat.le_of_eq rfl) (hb hby d9_6) (fun _ _ => ⟨rfl, e0, (by decide : 0 + 2 ≤ _), (by decide : 0 + 3 ≤ _)⟩)
  dsimp only [Pt.U, Pt.locs, Pt.cells, Pt.slots] at X2 l2 y2 z2 st2 hQ2
  subst l2 y2 z2
  obtain ⟨t_2, k_2, N_2, vs_2, cd_2, rfl, Nq2, Kq2, zq2_0, fq2_0, fq2_1, fq2_2, fq2_3, pq2_0⟩ := hQ2
  refine OwnGoes.tr (T' := T2) (g' := (mkF m 9 #[vR a1, vR ab1] [])) st2 ?_
  have N2 := Fr.app N0 Nq2
  have ne_a1_t_2 : a1 ≠ t_2 := Nat.ne_of_lt (Nat.lt_of_lt_of_le f0.lt zq2_0)
  have ne_ab1_t_2 : ab1 ≠ t_2 := Nat.ne_of_lt (Nat.lt_of_lt_of_le f4.lt zq2_0)
  have g_t_2 : n0 ≤ t_2 := Nat.le_trans (Nat.le_trans Z0 K0.1) zq2_0
  have s_t_2 : h0.size ≤ t_2 := Nat.le_trans K0.1 zq2_0
  have F2_1 := f0.keep Kq2
  have F2_2 := f4.keep Kq2 (ninS (Ne.symm (Exa.neArv f0 f4 (own_w hw 10 rfl))) nin0)
  have Ol2 := X00.keep Kq2 (allS f3 all0)
  have K2 : Keep h0 T2.heap ([a1] : List Addr) := K0.trans Kq2 (allS (Or.inl (List.mem_of_getElem? (i := 0) rfl)) all0)
  refine own_leave X2 hlk (v := none) (fun _ => rfl) (fun fs hr => X2.returnOut hx Bd.returns (hb hby d9_9) hr) (by decide) (by decide) ?_
  show Q_si2_1 Z a1 ab1 kc c1 h0 n0 _ T2.heap _
  exact ⟨t_2, k_2, N_2, vs_2, cd_2, rfl, N2, K2, s_t_2, fq2_0, fq2_1, fq2_2, fq2_3, pq2_0⟩
theorem ef_c5_2 (m : MethodId) (x0 : Addr) (x2 : Addr) : entryFrame m #[(.ref x0), (.int 0), (.ref x2), (.int 0), (.int 2)] 7 = mkF m 0 #[vR x0, vI 0, vR x2, vI 0, vI 2, vU, vU] [] := by
  first | (simp [entryFrame, mkF, argsToLocals, Value.category]; done) | rfl
def Q_c5_2 (Z : State) (ab1 : Addr) (tb1 : Addr) (kc : ClassId) (kb1 : ClassId) (c1 : Int32) (c2 : Int32) (h0 : Heap) (n0 : Nat) (v : Option Value) (h : Heap) (L : List Loc) : Prop := ∃ (r : Int32), ∃ (vs : List Value), v = some (.int r) ∧ Fr n0 L ∧ Keep h0 h ([tb1] : List Addr) ∧ Arv Z h tb1 kb1 .byte (2 : Int32) vs (.int 0) ∧ ((r = (2 : Int32) ∧ vs = [(.int (nar .byte c1)), (.int (nar .byte c2))] ∧ ¬ ((255 : Int32) < c1) ∧ ¬ ((255 : Int32) < c2)) ∨ (r = (0 : Int32) ∧ (255 : Int32) < c1) ∨ (r = (1 : Int32) ∧ (255 : Int32) < c2))
set_option maxRecDepth 65536 in
set_option maxHeartbeats 40000000 in
theorem rm_c5_2 (l : Launch) (Z : State) (a0 : Array Value) (hw : ∀ d ∈ tables_1, d.before a0 Z = true) (ws : List Jvm.Cond) (wG1 : Int32) (wG3 : Value) (cx : OwnCx Z a0 wG1 wG3) (hEL : EW Z a0 consts_1) (h0 : Heap) (n0 : Nat) (X00 : Old Z n0 h0) (ab1 : Addr) (tb1 : Addr) (kc : ClassId) (kb1 : ClassId) (c1 : Int32) (c2 : Int32) (f0 : Arv Z h0 ab1 kc .char (2 : Int32) [(.int c1), (.int c2)] (.int 0)) (f1 : Arv Z h0 tb1 kb1 .byte (2 : Int32) [(.int 0), (.int 0)] (.int 0)) (f2 : n0 ≤ tb1) :
    MetFree l mN2 (head1 (Jvm.Cond.code mN2 jdk_52_method_21_code 7 (some .int) :: ws) ({ frames := 0, cells := 0, slots := 0, locals := 0 } : Room)) (fun a U => a = #[(.ref ab1), (.int 0), (.ref tb1), (.int 0), (.int 2)] ∧ Z.Warmed39 U.vm ∧ U.heap = h0) (fun _ _ _ _ _ => True) (fun _ U o U' => ∃ v L, o = .returned v ∧ Q_c5_2 Z ab1 tb1 kc kb1 c1 c2 h0 n0 v U'.heap L ∧ FrameEnd U o U' L ({ frames := 0, cells := 0, slots := 0, locals := 0 } : Room).cells ({ frames := 0, cells := 0, slots := 0, locals := 0 } : Room).slots) := by
  refine MetFree.of_bodySF (plainFor_of_name pn_68381282) hisR ?_
  intro p e s m args below meth c s₁ Bd hml0 hP hK
  obtain ⟨rfl, hZ, hh⟩ := hP
  obtain ⟨wO2, wP5, wO4, wrG3, hstr, wUA, wUH, wUL⟩ := id cx
  have hx := Bd.exec
  have hby := Bd.bytes
  have hlk := Bd.notSynchronized
  have hml : c.maxLocals = 7 := hml0
  have hown : s.vm.findClass "java/lang/StringUTF16" = some m.cls := findClass_of_methodNamed Bd.named
  have hnm := (name_of_methodNamed Bd.named Bd.method).1
  have X0 : Stand p l e ({ frames := 0, cells := 0, slots := 0, locals := 0 } : Room) s m #[(.ref ab1), (.int 0), (.ref tb1), (.int 0), (.int 2)] below meth c s₁ [] 0 0 := Stand.of_body Bd
  have e0 : s₁.heap = h0 := by rw [← hh, Bd.state]; rfl
  have N0 := Fr.nil n0
  have Z0 : n0 ≤ h0.size := X00.1 ▸ X00.2.1
  have K0 : Keep h0 h0 ([tb1] : List Addr) := Keep.refl _ _
  show OwnGoes p e below (fun o U' => ∃ v L, o = .returned v ∧ Q_c5_2 Z ab1 tb1 kc kb1 c1 c2 h0 n0 v U'.heap L ∧ FrameEnd s o U' L ({ frames := 0, cells := 0, slots := 0, locals := 0 } : Room).cells ({ frames := 0, cells := 0, slots := 0, locals := 0 } : Room).slots) s₁ (entryFrame m #[(.ref ab1), (.int 0), (.ref tb1), (.int 0), (.int 2)] 7)
  refine OwnGoes.step (T' := s₁) (g' := (mkF m 0 #[vR ab1, vI 0, vR tb1, vI 0, vI 2, vU, vU] [])) (fun tgt kgo => castTop (ef_c5_2 m ab1 tb1) kgo) ?_
  refine OwnGoes.step (T' := s₁) (g' := (mkF m 20 #[vR ab1, vI 0, vR tb1, vI 0, vI 2, vI 0, vI c1] [(.int 255), (.int c1)])) (fun tgt kgo => ?_) ?_
  · refine XS.iconst X0.here hx rfl (hb hby d2_0) ?_
    show OwnG p e below s₁ m 1 #[vR ab1, vI 0, vR tb1, vI 0, vI 2, vU, vU] [(.int 0)] tgt
    refine XS.istore X0.here hx rfl (hb hby d2_1) rfl (l' := #[vR ab1, vI 0, vR tb1, vI 0, vI 2, vI 0, vU]) rfl ?_
    show OwnG p e below s₁ m 3 #[vR ab1, vI 0, vR tb1, vI 0, vI 2, vI 0, vU] [] tgt
    refine XS.iload X0.here hx rfl (hb hby d2_3) rfl ?_
    show OwnG p e below s₁ m 5 #[vR ab1, vI 0, vR tb1, vI 0, vI 2, vI 0, vU] [(.int 0)] tgt
    refine XS.iload X0.here hx rfl (hb hby d2_5) rfl ?_
    show OwnG p e below s₁ m 7 #[vR ab1, vI 0, vR tb1, vI 0, vI 2, vI 0, vU] [(.int 2), (.int 0)] tgt
    refine XS.icmpNo X0.here hx rfl (hb hby d2_7) rfl (tlt (by decide : (0 : Int32) < (2 : Int32))).2.1 ?_
    show OwnG p e below s₁ m 10 #[vR ab1, vI 0, vR tb1, vI 0, vI 2, vI 0, vU] [] tgt
    refine XS.aloadN X0.here hx rfl (hb hby d2_10) rfl rfl ?_
    show OwnG p e below s₁ m 11 #[vR ab1, vI 0, vR tb1, vI 0, vI 2, vI 0, vU] [(.ref ab1)] tgt
    refine XS.iloadN X0.here hx rfl (hb hby d2_11) rfl ?_
    show OwnG p e below s₁ m 12 #[vR ab1, vI 0, vR tb1, vI 0, vI 2, vI 0, vU] [(.int 0), (.ref ab1)] tgt
    obtain ⟨cl1, Ar1, q1, S1, M1, H1, G1⟩ := f0
    refine X0.caload hx (j := (0 : Int32)) (v := (.int c1)) (by rw [e0]; exact Ar1.1) (State.isArrayOf_alike hZ.alike Ar1.2.1) Ar1.2.2 (inb_of S1 ⟨by decide, by decide⟩) (Has.at H1 (inb_of S1 ⟨by decide, by decide⟩) rfl) (g := (mkF m 12 #[vR ab1, vI 0, vR tb1, vI 0, vI 2, vI 0, vU] [(.int 0), (.ref ab1)])) rfl rfl (hb hby d2_12) _ ?_
    show OwnG p e below s₁ m 13 #[vR ab1, vI 0, vR tb1, vI 0, vI 2, vI 0, vU] [(.int c1)] tgt
    refine XS.istore X0.here hx rfl (hb hby d2_13) rfl (l' := #[vR ab1, vI 0, vR tb1, vI 0, vI 2, vI 0, vI c1]) rfl ?_
    show OwnG p e below s₁ m 15 #[vR ab1, vI 0, vR tb1, vI 0, vI 2, vI 0, vI c1] [] tgt
    refine XS.iload X0.here hx rfl (hb hby d2_15) rfl ?_
    show OwnG p e below s₁ m 17 #[vR ab1, vI 0, vR tb1, vI 0, vI 2, vI 0, vI c1] [(.int c1)] tgt
    refine XS.sipush X0.here hx rfl (hb hby d2_17) ?_
    exact kgo
  by_cases cc2 : (255 : Int32) < c1
  · skip
    refine OwnGoes.step (T' := s₁) (g' := (mkF m 25 #[vR ab1, vI 0, vR tb1, vI 0, vI 2, vI 0, vI c1] [(.int 0)])) (fun tgt kgo => ?_) ?_
    · refine XS.icmpNo X0.here hx rfl (hb hby d2_20) rfl (tlt cc2).2.2.2 ?_
      show OwnG p e below s₁ m 23 #[vR ab1, vI 0, vR tb1, vI 0, vI 2, vI 0, vI c1] [] tgt
      refine XS.iload X0.here hx rfl (hb hby d2_23) rfl ?_
      exact kgo
    refine own_leave X0 hlk (v := some (.int 0)) (fun h => by rw [Bd.returns] at h; cases h) (fun fs hr => retI X0 hx Bd.returns (hb hby d2_25) hr) (by decide) (by decide) ?_
    show Q_c5_2 Z ab1 tb1 kc kb1 c1 c2 h0 n0 _ s₁.heap _
    rw [e0]
    exact ⟨(0 : Int32), [(.int 0), (.int 0)], rfl, N0, K0, f1, (Or.inr (Or.inl ⟨rfl, cc2⟩))⟩
  refine OwnGoes.step (T' := s₁) (g' := (mkF m 31 #[vR ab1, vI 0, vR tb1, vI 0, vI 2, vI 0, vI c1] [(.int (nar .byte c1)), (.int 0), (.ref tb1)])) (fun tgt kgo => ?_) ?_
  · refine XS.icmpYes X0.here hx rfl (pc0 := 20) (pc' := 26) rfl (hb hby d2_20) rfl (flt cc2).2.2.2 (by decide) (by decide) ?_
    show OwnG p e below s₁ m 26 #[vR ab1, vI 0, vR tb1, vI 0, vI 2, vI 0, vI c1] [] tgt
    refine XS.aloadN X0.here hx rfl (hb hby d2_26) rfl rfl ?_
    show OwnG p e below s₁ m 27 #[vR ab1, vI 0, vR tb1, vI 0, vI 2, vI 0, vI c1] [(.ref tb1)] tgt
    refine XS.iloadN X0.here hx rfl (hb hby d2_27) rfl ?_
    show OwnG p e below s₁ m 28 #[vR ab1, vI 0, vR tb1, vI 0, vI 2, vI 0, vI c1] [(.int 0), (.ref tb1)] tgt
    refine XS.iload X0.here hx rfl (hb hby d2_28) rfl ?_
    show OwnG p e below s₁ m 30 #[vR ab1, vI 0, vR tb1, vI 0, vI 2, vI 0, vI c1] [(.int c1), (.int 0), (.ref tb1)] tgt
    refine XS.i2b X0.here hx rfl (hb hby d2_30) rfl ?_
    exact kgo
  obtain ⟨cl4, Ar4, q4, S4, M4, H4, G4⟩ := id f1
  obtain ⟨T4, h4, X4, e4, W4, st4⟩ := stB X0 hx hZ e0 Ar4 (j := (0 : Int32)) (inb_of S4 ⟨by decide, by decide⟩) (g := (mkF m 31 #[vR ab1, vI 0, vR tb1, vI 0, vI 2, vI 0, vI c1] [(.int (nar .byte c1)), (.int 0), (.ref tb1)])) rfl rfl (hb hby d2_31)
  refine OwnGoes.step (T' := T4) (g' := (mkF m 32 #[vR ab1, vI 0, vR tb1, vI 0, vI 2, vI 0, vI c1] [])) st4 ?_
  have V4 : Arv Z h4 tb1 kb1 .byte (2 : Int32) [(.int (nar .byte (nar .byte c1))), (.int 0)] (.int 0) := Arv.set Ar4 q4 S4 M4 H4 G4 (fits_nar_byte _) W4 0 rfl (Nat.le_of_ble_eq_true rfl)
  rw [own_nar2_byte] at V4
  have V4' : Arv Z h4 tb1 kb1 .byte (2 : Int32) [(.int (nar .byte c1)), (.int 0)] (.int 0) := V4
  have F4_1 := f0.other W4 (own_arv_ty f0 f1 (by decide))
  have Ol4 := X00.wr W4 f2
  have K4 : Keep h0 h4 ([tb1] : List Addr) := K0.wr W4 (Or.inl (List.mem_of_getElem? (i := 0) rfl))
  have N4 := Fr.snoc X4 N0 f2
  refine OwnGoes.step (T' := T4) (g' := (mkF m 20 #[vR ab1, vI 1, vR tb1, vI 1, vI 2, vI 1, vI c2] [(.int 255), (.int c2)])) (fun tgt kgo => ?_) ?_
  · refine XS.iinc X4.here hx rfl (hb hby d2_32) rfl (l' := #[vR ab1, vI 1, vR tb1, vI 0, vI 2, vI 0, vI c1]) rfl ?_
    show OwnG p e below T4 m 35 #[vR ab1, vI 1, vR tb1, vI 0, vI 2, vI 0, vI c1] [] tgt
    refine XS.iinc X4.here hx rfl (hb hby d2_35) rfl (l' := #[vR ab1, vI 1, vR tb1, vI 1, vI 2, vI 0, vI c1]) rfl ?_
    show OwnG p e below T4 m 38 #[vR ab1, vI 1, vR tb1, vI 1, vI 2, vI 0, vI c1] [] tgt
    refine XS.iinc X4.here hx rfl (hb hby d2_38) rfl (l' := #[vR ab1, vI 1, vR tb1, vI 1, vI 2, vI 1, vI c1]) rfl ?_
    show OwnG p e below T4 m 41 #[vR ab1, vI 1, vR tb1, vI 1, vI 2, vI 1, vI c1] [] tgt
    refine XS.goto X4.here hx rfl (pc0 := 41) (pc' := 3) rfl (hb hby d2_41) (by decide) (by decide) ?_
    show OwnG p e below T4 m 3 #[vR ab1, vI 1, vR tb1, vI 1, vI 2, vI 1, vI c1] [] tgt
    refine XS.iload X4.here hx rfl (hb hby d2_3) rfl ?_
    show OwnG p e below T4 m 5 #[vR ab1, vI 1, vR tb1, vI 1, vI 2, vI 1, vI c1] [(.int 1)] tgt
    refine XS.iload X4.here hx rfl (hb hby d2_5) rfl ?_
    show OwnG p e below T4 m 7 #[vR ab1, vI 1, vR tb1, vI 1, vI 2, vI 1, vI c1] [(.int 2), (.int 1)] tgt
    refine XS.icmpNo X4.here hx rfl (hb hby d2_7) rfl (tlt (by decide : (1 : Int32) < (2 : Int32))).2.1 ?_
    show OwnG p e below T4 m 10 #[vR ab1, vI 1, vR tb1, vI 1, vI 2, vI 1, vI c1] [] tgt
    refine XS.aloadN X4.here hx rfl (hb hby d2_10) rfl rfl ?_
    show OwnG p e below T4 m 11 #[vR ab1, vI 1, vR tb1, vI 1, vI 2, vI 1, vI c1] [(.ref ab1)] tgt
    refine XS.iloadN X4.here hx rfl (hb hby d2_11) rfl ?_
    show OwnG p e below T4 m 12 #[vR ab1, vI 1, vR tb1, vI 1, vI 2, vI 1, vI c1] [(.int 1), (.ref ab1)] tgt
    obtain ⟨cl5, Ar5, q5, S5, M5, H5, G5⟩ := F4_1
    refine X4.caload hx (j := (1 : Int32)) (v := (.int c2)) (by rw [e4]; exact Ar5.1) (State.isArrayOf_alike hZ.alike Ar5.2.1) Ar5.2.2 (inb_of S5 ⟨by decide, by decide⟩) (Has.at H5 (inb_of S5 ⟨by decide, by decide⟩) rfl) (g := (mkF m 12 #[vR ab1, vI 1, vR tb1, vI 1, vI 2, vI 1, vI c1] [(.int 1), (.ref ab1)])) rfl rfl (hb hby d2_12) _ ?_
    show OwnG p e below T4 m 13 #[vR ab1, vI 1, vR tb1, vI 1, vI 2, vI 1, vI c1] [(.int c2)] tgt
    refine XS.istore X4.here hx rfl (hb hby d2_13) rfl (l' := #[vR ab1, vI 1, vR tb1, vI 1, vI 2, vI 1, vI c2]) rfl ?_
    show OwnG p e below T4 m 15 #[vR ab1, vI 1, vR tb1, vI 1, vI 2, vI 1, vI c2] [] tgt
    refine XS.iload X4.here hx rfl (hb hby d2_15) rfl ?_
    show OwnG p e below T4 m 17 #[vR ab1, vI 1, vR tb1, vI 1, vI 2, vI 1, vI c2] [(.int c2)] tgt
    refine XS.sipush X4.here hx rfl (hb hby d2_17) ?_
    exact kgo
  by_cases cc6 : (255 : Int32) < c2
  · skip
    refine OwnGoes.step (T' := T4) (g' := (mkF m 25 #[vR ab1, vI 1, vR tb1, vI 1, vI 2, vI 1, vI c2] [(.int 1)])) (fun tgt kgo => ?_) ?_
    · refine XS.icmpNo X4.here hx rfl (hb hby d2_20) rfl (tlt cc6).2.2.2 ?_
      show OwnG p e below T4 m 23 #[vR ab1, vI 1, vR tb1, vI 1, vI 2, vI 1, vI c2] [] tgt
      refine XS.iload X4.here hx rfl (hb hby d2_23) rfl ?_
      exact kgo
    refine own_leave X4 hlk (v := some (.int 1)) (fun h => by rw [Bd.returns] at h; cases h) (fun fs hr => retI X4 hx Bd.returns (hb hby d2_25) hr) (by decide) (by decide) ?_
    show Q_c5_2 Z ab1 tb1 kc kb1 c1 c2 h0 n0 _ T4.heap _
    rw [e4]
    exact ⟨(1 : Int32), [(.int (nar .byte c1)), (.int 0)], rfl, N4, K4, V4', (Or.inr (Or.inr ⟨rfl, cc6⟩))⟩
  refine OwnGoes.step (T' := T4) (g' := (mkF m 31 #[vR ab1, vI 1, vR tb1, vI 1, vI 2, vI 1, vI c2] [(.int (nar .byte c2)), (.int 1), (.ref tb1)])) (fun tgt kgo => ?_) ?_
  · refine XS.icmpYes X4.here hx rfl (pc0 := 20) (pc' := 26) rfl (hb hby d2_20) rfl (flt cc6).2.2.2 (by decide) (by decide) ?_
    show OwnG p e below T4 m 26 #[vR ab1, vI 1, vR tb1, vI 1, vI 2, vI 1, vI c2] [] tgt
    refine XS.aloadN X4.here hx rfl (hb hby d2_26) rfl rfl ?_
    show OwnG p e below T4 m 27 #[vR ab1, vI 1, vR tb1, vI 1, vI 2, vI 1, vI c2] [(.ref tb1)] tgt
    refine XS.iloadN X4.here hx rfl (hb hby d2_27) rfl ?_
    show OwnG p e below T4 m 28 #[vR ab1, vI 1, vR tb1, vI 1, vI 2, vI 1, vI c2] [(.int 1), (.ref tb1)] tgt
    refine XS.iload X4.here hx rfl (hb hby d2_28) rfl ?_
    show OwnG p e below T4 m 30 #[vR ab1, vI 1, vR tb1, vI 1, vI 2, vI 1, vI c2] [(.int c2), (.int 1), (.ref tb1)] tgt
    refine XS.i2b X4.here hx rfl (hb hby d2_30) rfl ?_
    exact kgo
  obtain ⟨cl8, Ar8, q8, S8, M8, H8, G8⟩ := id V4'
  obtain ⟨T8, h8, X8, e8, W8, st8⟩ := stB X4 hx hZ e4 Ar8 (j := (1 : Int32)) (inb_of S8 ⟨by decide, by decide⟩) (g := (mkF m 31 #[vR ab1, vI 1, vR tb1, vI 1, vI 2, vI 1, vI c2] [(.int (nar .byte c2)), (.int 1), (.ref tb1)])) rfl rfl (hb hby d2_31)
  refine OwnGoes.step (T' := T8) (g' := (mkF m 32 #[vR ab1, vI 1, vR tb1, vI 1, vI 2, vI 1, vI c2] [])) st8 ?_
  have V8 : Arv Z h8 tb1 kb1 .byte (2 : Int32) [(.int (nar .byte c1)), (.int (nar .byte (nar .byte c2)))] (.int 0) := Arv.set Ar8 q8 S8 M8 H8 G8 (fits_nar_byte _) W8 1 rfl (Nat.le_of_ble_eq_true rfl)
  rw [own_nar2_byte] at V8
  have V8' : Arv Z h8 tb1 kb1 .byte (2 : Int32) [(.int (nar .byte c1)), (.int (nar .byte c2))] (.int 0) := V8
  have F8_2 := F4_1.other W8 (own_arv_ty F4_1 V4' (by decide))
  have Ol8 := Ol4.wr W8 f2
  have K8 : Keep h0 h8 ([tb1] : List Addr) := K4.wr W8 (Or.inl (List.mem_of_getElem? (i := 0) rfl))
  have N8 := Fr.snoc X8 N4 f2
  refine OwnGoes.step (T' := T8) (g' := (mkF m 46 #[vR ab1, vI 2, vR tb1, vI 2, vI 2, vI 2, vI c2] [(.int 2)])) (fun tgt kgo => ?_) ?_
  · refine XS.iinc X8.here hx rfl (hb hby d2_32) rfl (l' := #[vR ab1, vI 2, vR tb1, vI 1, vI 2, vI 1, vI c2]) rfl ?_
    show OwnG p e below T8 m 35 #[vR ab1, vI 2, vR tb1, vI 1, vI 2, vI 1, vI c2] [] tgt
    refine XS.iinc X8.here hx rfl (hb hby d2_35) rfl (l' := #[vR ab1, vI 2, vR tb1, vI 2, vI 2, vI 1, vI c2]) rfl ?_
    show OwnG p e below T8 m 38 #[vR ab1, vI 2, vR tb1, vI 2, vI 2, vI 1, vI c2] [] tgt
    refine XS.iinc X8.here hx rfl (hb hby d2_38) rfl (l' := #[vR ab1, vI 2, vR tb1, vI 2, vI 2, vI 2, vI c2]) rfl ?_
    show OwnG p e below T8 m 41 #[vR ab1, vI 2, vR tb1, vI 2, vI 2, vI 2, vI c2] [] tgt
    refine XS.goto X8.here hx rfl (pc0 := 41) (pc' := 3) rfl (hb hby d2_41) (by decide) (by decide) ?_
    show OwnG p e below T8 m 3 #[vR ab1, vI 2, vR tb1, vI 2, vI 2, vI 2, vI c2] [] tgt
    refine XS.iload X8.here hx rfl (hb hby d2_3) rfl ?_
    show OwnG p e below T8 m 5 #[vR ab1, vI 2, vR tb1, vI 2, vI 2, vI 2, vI c2] [(.int 2)] tgt
    refine XS.iload X8.here hx rfl (hb hby d2_5) rfl ?_
    show OwnG p e below T8 m 7 #[vR ab1, vI 2, vR tb1, vI 2, vI 2, vI 2, vI c2] [(.int 2), (.int 2)] tgt
    refine XS.icmpYes X8.here hx rfl (pc0 := 7) (pc' := 44) rfl (hb hby d2_7) rfl (flt (by decide : ¬ ((2 : Int32) < (2 : Int32)))).2.1 (by decide) (by decide) ?_
    show OwnG p e below T8 m 44 #[vR ab1, vI 2, vR tb1, vI 2, vI 2, vI 2, vI c2] [] tgt
    refine XS.iload X8.here hx rfl (hb hby d2_44) rfl ?_
    exact kgo
  refine own_leave X8 hlk (v := some (.int 2)) (fun h => by rw [Bd.returns] at h; cases h) (fun fs hr => retI X8 hx Bd.returns (hb hby d2_46) hr) (by decide) (by decide) ?_
  show Q_c5_2 Z ab1 tb1 kc kb1 c1 c2 h0 n0 _ T8.heap _
  rw [e8]
  exact ⟨(2 : Int32), [(.int (nar .byte c1)), (.int (nar .byte c2))], rfl, N8, K8, V8', (Or.inl ⟨rfl, rfl, cc2, cc6⟩)⟩
theorem ef_nbl_2 (m : MethodId)  : entryFrame m #[(.int 2)] 1 = mkF m 0 #[vI 2] [] := by
  first | (simp [entryFrame, mkF, argsToLocals, Value.category]; done) | rfl
def Q_nbl_2 (Z : State)  (h0 : Heap) (n0 : Nat) (v : Option Value) (h : Heap) (L : List Loc) : Prop := v = some (.int 4) ∧ Fr n0 L ∧ h = h0
set_option maxRecDepth 65536 in
set_option maxHeartbeats 40000000 in
theorem rm_nbl_2 (l : Launch) (Z : State) (a0 : Array Value) (hw : ∀ d ∈ tables_1, d.before a0 Z = true) (ws : List Jvm.Cond) (wG1 : Int32) (wG3 : Value) (cx : OwnCx Z a0 wG1 wG3) (hEL : EW Z a0 consts_1) (h0 : Heap) (n0 : Nat) (X00 : Old Z n0 h0)  :
    MetFree l mN3 (head1 (Jvm.Cond.code mN3 jdk_52_method_3_code 1 (some .int) :: ws) ({ frames := 0, cells := 0, slots := 0, locals := 0 } : Room)) (fun a U => a = #[(.int 2)] ∧ Z.Warmed39 U.vm ∧ U.heap = h0) (fun _ _ _ _ _ => True) (fun _ U o U' => ∃ v L, o = .returned v ∧ Q_nbl_2 Z  h0 n0 v U'.heap L ∧ FrameEnd U o U' L ({ frames := 0, cells := 0, slots := 0, locals := 0 } : Room).cells ({ frames := 0, cells := 0, slots := 0, locals := 0 } : Room).slots) := by
  refine MetFree.of_bodySF (plainFor_of_name pn_68381282) hisR ?_
  intro p e s m args below meth c s₁ Bd hml0 hP hK
  obtain ⟨rfl, hZ, hh⟩ := hP
  obtain ⟨wO2, wP5, wO4, wrG3, hstr, wUA, wUH, wUL⟩ := id cx
  have hx := Bd.exec
  have hby := Bd.bytes
  have hlk := Bd.notSynchronized
  have hml : c.maxLocals = 1 := hml0
  have hown : s.vm.findClass "java/lang/StringUTF16" = some m.cls := findClass_of_methodNamed Bd.named
  have hnm := (name_of_methodNamed Bd.named Bd.method).1
  have X0 : Stand p l e ({ frames := 0, cells := 0, slots := 0, locals := 0 } : Room) s m #[(.int 2)] below meth c s₁ [] 0 0 := Stand.of_body Bd
  have e0 : s₁.heap = h0 := by rw [← hh, Bd.state]; rfl
  have N0 := Fr.nil n0
  have Z0 : n0 ≤ h0.size := X00.1 ▸ X00.2.1
  have K0 : Keep h0 h0 ([] : List Addr) := Keep.refl _ _
  show OwnGoes p e below (fun o U' => ∃ v L, o = .returned v ∧ Q_nbl_2 Z  h0 n0 v U'.heap L ∧ FrameEnd s o U' L ({ frames := 0, cells := 0, slots := 0, locals := 0 } : Room).cells ({ frames := 0, cells := 0, slots := 0, locals := 0 } : Room).slots) s₁ (entryFrame m #[(.int 2)] 1)
  refine OwnGoes.step (T' := s₁) (g' := (mkF m 0 #[vI 2] [])) (fun tgt kgo => castTop (ef_nbl_2 m ) kgo) ?_
  refine OwnGoes.step (T' := s₁) (g' := (mkF m 58 #[vI 2] [(.int 4)])) (fun tgt kgo => ?_) ?_
  · refine XS.iloadN X0.here hx rfl (hb hby d3_0) rfl ?_
    show OwnG p e below s₁ m 1 #[vI 2] [(.int 2)] tgt
    refine XS.ifYes X0.here hx rfl (pc0 := 1) (pc' := 12) rfl (hb hby d3_1) rfl ((if0 _ _).trans (flt (by decide : ¬ ((2 : Int32) < (0 : Int32)))).2.1) (by decide) (by decide) ?_
    show OwnG p e below s₁ m 12 #[vI 2] [] tgt
    refine XS.iloadN X0.here hx rfl (hb hby d3_12) rfl ?_
    show OwnG p e below s₁ m 13 #[vI 2] [(.int 2)] tgt
    refine X0.ldcInt hx hown (mvT hZ (own_w hw 96 rfl)) (g := (mkF m 13 #[vI 2] [(.int 2)])) rfl (hb hby d3_13) _ ?_
    show OwnG p e below s₁ m 15 #[vI 2] [(.int 1073741823), (.int 2)] tgt
    refine XS.icmpYes X0.here hx rfl (pc0 := 15) (pc' := 55) rfl (hb hby d3_15) rfl (tlt (by decide : (2 : Int32) < (1073741823 : Int32))).1 (by decide) (by decide) ?_
    show OwnG p e below s₁ m 55 #[vI 2] [] tgt
    refine XS.iloadN X0.here hx rfl (hb hby d3_55) rfl ?_
    show OwnG p e below s₁ m 56 #[vI 2] [(.int 2)] tgt
    refine XS.iconst X0.here hx rfl (hb hby d3_56) ?_
    show OwnG p e below s₁ m 57 #[vI 2] [(.int 1), (.int 2)] tgt
    refine XS.ishl X0.here hx rfl (hb hby d3_57) rfl ?_
    exact kgo
  refine own_leave X0 hlk (v := some (.int 4)) (fun h => by rw [Bd.returns] at h; cases h) (fun fs hr => retI X0 hx Bd.returns (hb hby d3_58) hr) (by decide) (by decide) ?_
  show Q_nbl_2 Z  h0 n0 _ s₁.heap _
  rw [e0]
  exact ⟨rfl, N0, rfl⟩
theorem ef_nbf_2 (m : MethodId)  : entryFrame m #[(.int 2)] 1 = mkF m 0 #[vI 2] [] := by
  first | (simp [entryFrame, mkF, argsToLocals, Value.category]; done) | rfl
def Q_nbf_2 (Z : State)  (h0 : Heap) (n0 : Nat) (v : Option Value) (h : Heap) (L : List Loc) : Prop := ∃ (t : Addr), ∃ (k : ClassId), v = some (.ref t) ∧ Fr n0 L ∧ Keep h0 h ([] : List Addr) ∧ h0.size ≤ t ∧ Arv Z h t k .byte (4 : Int32) [(.int 0), (.int 0), (.int 0), (.int 0)] (.int 0)
set_option maxRecDepth 65536 in
set_option maxHeartbeats 40000000 in
theorem rm_nbf_2 (l : Launch) (Z : State) (a0 : Array Value) (hw : ∀ d ∈ tables_1, d.before a0 Z = true) (ws : List Jvm.Cond) (wG1 : Int32) (wG3 : Value) (cx : OwnCx Z a0 wG1 wG3) (hEL : EW Z a0 consts_1) (h0 : Heap) (n0 : Nat) (X00 : Old Z n0 h0)  :
    MetFree l mN4 (head1 (Jvm.Cond.code mN4 jdk_52_method_2_code 1 (some (.array .byte)) :: ws) ({ frames := 1, cells := 1, slots := 4, locals := 12 } : Room)) (fun a U => a = #[(.int 2)] ∧ Z.Warmed39 U.vm ∧ U.heap = h0) (fun _ _ _ _ _ => True) (fun _ U o U' => ∃ v L, o = .returned v ∧ Q_nbf_2 Z  h0 n0 v U'.heap L ∧ FrameEnd U o U' L ({ frames := 1, cells := 1, slots := 4, locals := 12 } : Room).cells ({ frames := 1, cells := 1, slots := 4, locals := 12 } : Room).slots) := by
  refine MetFree.of_bodySF (plainFor_of_name pn_68381282) hisR ?_
  intro p e s m args below meth c s₁ Bd hml0 hP hK
  obtain ⟨rfl, hZ, hh⟩ := hP
  obtain ⟨wO2, wP5, wO4, wrG3, hstr, wUA, wUH, wUL⟩ := id cx
  have hx := Bd.exec
  have hby := Bd.bytes
  have hlk := Bd.notSynchronized
  have hml : c.maxLocals = 1 := hml0
  have hown : s.vm.findClass "java/lang/StringUTF16" = some m.cls := findClass_of_methodNamed Bd.named
  have hnm := (name_of_methodNamed Bd.named Bd.method).1
  have X0 : Stand p l e ({ frames := 1, cells := 1, slots := 4, locals := 12 } : Room) s m #[(.int 2)] below meth c s₁ [] 0 0 := Stand.of_body Bd
  have e0 : s₁.heap = h0 := by rw [← hh, Bd.state]; rfl
  have N0 := Fr.nil n0
  have Z0 : n0 ≤ h0.size := X00.1 ▸ X00.2.1
  have K0 : Keep h0 h0 ([] : List Addr) := Keep.refl _ _
  show OwnGoes p e below (fun o U' => ∃ v L, o = .returned v ∧ Q_nbf_2 Z  h0 n0 v U'.heap L ∧ FrameEnd s o U' L ({ frames := 1, cells := 1, slots := 4, locals := 12 } : Room).cells ({ frames := 1, cells := 1, slots := 4, locals := 12 } : Room).slots) s₁ (entryFrame m #[(.int 2)] 1)
  refine OwnGoes.step (T' := s₁) (g' := (mkF m 0 #[vI 2] [])) (fun tgt kgo => castTop (ef_nbf_2 m ) kgo) ?_
  refine OwnGoes.step (T' := s₁) (g' := (mkF m 1 #[vI 2] [(.int 2)])) (fun tgt kgo => ?_) ?_
  · refine XS.iloadN X0.here hx rfl (hb hby d4_0) rfl ?_
    exact kgo
  obtain ⟨_, _, ⟨T1, L1, k1, n1⟩, -, X1, ⟨Lc1, hQ1, l1, y1, z1⟩, st1⟩ := Jvm.LawKit.callS X0 hx (y := mN3) hown (mvT hZ (own_w hw 93 rfl)) (mvT hZ (own_w hw 94 rfl)) (mvT hZ (own_w hw 43 rfl)) (mvT hZ (own_w hw 95 rfl)) (by decide) (backOf (W := 0) (rm_nbl_2 l Z a0 hw [] wG1 wG3 cx hEL h0 n0 X00 ) hZ (own_w hw 95 rfl) (own_w hw 43 rfl) (by decide) (by decide)) (g := (mkF m 1 #[vI 2] [(.int 2)])) rfl (by rw [hml]; rfl) (argsL := [(.int 2)]) (rest := []) (lenOf pd_92649053 rfl) rfl (Nat.le_of_eq rfl) (hb hby d4_1) (fun _ _ => ⟨rfl, e0, (by decide : 0 + 0 ≤ _), (by decide : 0 + 0 ≤ _)⟩)
  dsimp only [Pt.U, Pt.locs, Pt.cells, Pt.slots] at X1 l1 y1 z1 st1 hQ1
  subst l1 y1 z1
  obtain ⟨rfl, Nq1, eq1⟩ := hQ1
  refine OwnGoes.step (T' := T1) (g' := (mkF m 4 #[vI 2] [(.int 4)])) st1 ?_
  have N1 := Fr.app N0 Nq1
  obtain ⟨T2, h2, k2, X2, e2, E2, A2, st2⟩ := newP X1 hx hZ (own_w hw 24 rfl) eq1 (g := (mkF m 4 #[vI 2] [(.int 4)])) rfl (hb hby d4_4) rfl (by decide) (cap := 4) (by decide) (by decide) (by decide) (by decide)
  obtain ⟨b2, g2⟩ : ∃ z, z = h0.size := ⟨_, rfl⟩
  rw [← g2] at A2 st2
  refine OwnGoes.step (T' := T2) (g' := (mkF m 6 #[vI 2] [(.ref b2)])) st2 ?_
  have V2 : Arv Z h2 b2 k2 .byte (4 : Int32) [(.int 0), (.int 0), (.int 0), (.int 0)] (.int 0) := (Arv.new A2 (by decide)).pad (pad_rep [] (.int 0) 4)
  have g_b2 : n0 ≤ b2 := Nat.le_trans (Nat.le_trans Z0 K0.1) (Nat.le_of_eq g2.symm)
  have s_b2 : h0.size ≤ b2 := Nat.le_trans K0.1 (Nat.le_of_eq g2.symm)
  have Ol2 := X00.ext E2
  have K2 : Keep h0 h2 ([] : List Addr) := K0.ext E2
  have hret : ∀ fs, (∀ (f : JFrame) (acts : List Action), f.method = m → f.locked = none → f.entered = [] → (doReturn e (T2.setTop f) acts (some (.ref b2))).1 = T2.setFrames fs) → Steps p.tables e below (T2.setTop (mkF m 6 #[vI 2] [(.ref b2)])) (T2.setFrames fs) := by
    intro fs hr
    jvm_step X2.here [X2.here.top, hx, (hb hby d4_6), X2.method', Bd.returns, Value.isRef, FieldType.isReference]
    first | (intro acts; rw [hr _ acts rfl rfl rfl]) | rw [hr _ _ rfl rfl rfl]
    exact Steps.refl _
  refine own_leave X2 hlk (v := some (.ref b2)) (fun h => by rw [Bd.returns] at h; cases h) hret (by decide) (by decide) ?_
  show Q_nbf_2 Z  h0 n0 _ T2.heap _
  rw [e2]
  exact ⟨b2, k2, rfl, N1, K2, s_b2, V2⟩
theorem ef_tob_2 (m : MethodId) (x0 : Addr) : entryFrame m #[(.ref x0), (.int 0), (.int 2)] 5 = mkF m 0 #[vR x0, vI 0, vI 2, vU, vU] [] := by
  first | (simp [entryFrame, mkF, argsToLocals, Value.category]; done) | rfl
def Q_tob_2 (Z : State) (ab1 : Addr) (kc : ClassId) (c1 : Int32) (c2 : Int32) (h0 : Heap) (n0 : Nat) (v : Option Value) (h : Heap) (L : List Loc) : Prop := ∃ (t : Addr), ∃ (k : ClassId), v = some (.ref t) ∧ Fr n0 L ∧ Keep h0 h ([] : List Addr) ∧ h0.size ≤ t ∧ Arv Z h t k .byte (4 : Int32) [(.int (nar .byte c1)), (.int (nar .byte (c1 >>> ((8 : Int32) &&& 31)))), (.int (nar .byte c2)), (.int (nar .byte (c2 >>> ((8 : Int32) &&& 31))))] (.int 0)
set_option maxRecDepth 65536 in
set_option maxHeartbeats 40000000 in
theorem rm_tob_2 (l : Launch) (Z : State) (a0 : Array Value) (hw : ∀ d ∈ tables_1, d.before a0 Z = true) (ws : List Jvm.Cond) (wG1 : Int32) (wG3 : Value) (cx : OwnCx Z a0 wG1 wG3) (hEL : EW Z a0 consts_1) (h0 : Heap) (n0 : Nat) (X00 : Old Z n0 h0) (ab1 : Addr) (kc : ClassId) (c1 : Int32) (c2 : Int32) (f0 : Arv Z h0 ab1 kc .char (2 : Int32) [(.int c1), (.int c2)] (.int 0)) :
    MetFree l mN5 (head1 (Jvm.Cond.code mN5 jdk_52_method_14_code 5 (some (.array .byte)) :: ws) ({ frames := 2, cells := 1, slots := 4, locals := 24 } : Room)) (fun a U => a = #[(.ref ab1), (.int 0), (.int 2)] ∧ Z.Warmed39 U.vm ∧ U.heap = h0) (fun _ _ _ _ _ => True) (fun _ U o U' => ∃ v L, o = .returned v ∧ Q_tob_2 Z ab1 kc c1 c2 h0 n0 v U'.heap L ∧ FrameEnd U o U' L ({ frames := 2, cells := 1, slots := 4, locals := 24 } : Room).cells ({ frames := 2, cells := 1, slots := 4, locals := 24 } : Room).slots) := by
  refine MetFree.of_bodySF (plainFor_of_name pn_68381282) hisR ?_
  intro p e s m args below meth c s₁ Bd hml0 hP hK
  obtain ⟨rfl, hZ, hh⟩ := hP
  obtain ⟨wO2, wP5, wO4, wrG3, hstr, wUA, wUH, wUL⟩ := id cx
  have hx := Bd.exec
  have hby := Bd.bytes
  have hlk := Bd.notSynchronized
  have hml : c.maxLocals = 5 := hml0
  have hown : s.vm.findClass "java/lang/StringUTF16" = some m.cls := findClass_of_methodNamed Bd.named
  have hnm := (name_of_methodNamed Bd.named Bd.method).1
  have X0 : Stand p l e ({ frames := 2, cells := 1, slots := 4, locals := 24 } : Room) s m #[(.ref ab1), (.int 0), (.int 2)] below meth c s₁ [] 0 0 := Stand.of_body Bd
  have e0 : s₁.heap = h0 := by rw [← hh, Bd.state]; rfl
  have N0 := Fr.nil n0
  have Z0 : n0 ≤ h0.size := X00.1 ▸ X00.2.1
  have K0 : Keep h0 h0 ([] : List Addr) := Keep.refl _ _
  show OwnGoes p e below (fun o U' => ∃ v L, o = .returned v ∧ Q_tob_2 Z ab1 kc c1 c2 h0 n0 v U'.heap L ∧ FrameEnd s o U' L ({ frames := 2, cells := 1, slots := 4, locals := 24 } : Room).cells ({ frames := 2, cells := 1, slots := 4, locals := 24 } : Room).slots) s₁ (entryFrame m #[(.ref ab1), (.int 0), (.int 2)] 5)
  refine OwnGoes.step (T' := s₁) (g' := (mkF m 0 #[vR ab1, vI 0, vI 2, vU, vU] [])) (fun tgt kgo => castTop (ef_tob_2 m ab1) kgo) ?_
  refine OwnGoes.step (T' := s₁) (g' := (mkF m 1 #[vR ab1, vI 0, vI 2, vU, vU] [(.int 2)])) (fun tgt kgo => ?_) ?_
  · refine XS.iloadN X0.here hx rfl (hb hby d5_0) rfl ?_
    exact kgo
  obtain ⟨_, _, ⟨T1, L1, k1, n1⟩, -, X1, ⟨Lc1, hQ1, l1, y1, z1⟩, st1⟩ := Jvm.LawKit.callS X0 hx (y := mN4) hown (mvT hZ (own_w hw 90 rfl)) (mvT hZ (own_w hw 91 rfl)) (mvT hZ (own_w hw 43 rfl)) (mvT hZ (own_w hw 92 rfl)) (by decide) (backOf (W := 0) (rm_nbf_2 l Z a0 hw [] wG1 wG3 cx hEL h0 n0 X00 ) hZ (own_w hw 92 rfl) (own_w hw 43 rfl) (by decide) (by decide)) (g := (mkF m 1 #[vR ab1, vI 0, vI 2, vU, vU] [(.int 2)])) rfl (by rw [hml]; rfl) (argsL := [(.int 2)]) (rest := []) (lenOf pd_63641379 rfl) rfl (Nat.le_of_eq rfl) (hb hby d5_1) (fun _ _ => ⟨rfl, e0, (by decide : 0 + 1 ≤ _), (by decide : 0 + 4 ≤ _)⟩)
  dsimp only [Pt.U, Pt.locs, Pt.cells, Pt.slots] at X1 l1 y1 z1 st1 hQ1
  subst l1 y1 z1
  obtain ⟨t_1, k_1, rfl, Nq1, Kq1, zq1_0, fq1_0⟩ := hQ1
  refine OwnGoes.step (T' := T1) (g' := (mkF m 4 #[vR ab1, vI 0, vI 2, vU, vU] [(.ref t_1)])) st1 ?_
  have N1 := Fr.app N0 Nq1
  have ne_ab1_t_1 : ab1 ≠ t_1 := Nat.ne_of_lt (Nat.lt_of_lt_of_le f0.lt zq1_0)
  have g_t_1 : n0 ≤ t_1 := Nat.le_trans (Nat.le_trans Z0 K0.1) zq1_0
  have s_t_1 : h0.size ≤ t_1 := Nat.le_trans K0.1 zq1_0
  have F1_1 := f0.keep Kq1 nin0
  have Ol1 := X00.keep Kq1 all0
  have K1 : Keep h0 T1.heap ([] : List Addr) := K0.trans Kq1 all0
  refine OwnGoes.step (T' := T1) (g' := (mkF m 20 #[vR ab1, vI 0, vI 2, vR t_1, vI 0] [(.int c1), (.int 0), (.ref t_1)])) (fun tgt kgo => ?_) ?_
  · refine XS.astoreN X1.here hx rfl (hb hby d5_4) rfl rfl (l' := #[vR ab1, vI 0, vI 2, vR t_1, vU]) rfl ?_
    show OwnG p e below T1 m 5 #[vR ab1, vI 0, vI 2, vR t_1, vU] [] tgt
    refine XS.iconst X1.here hx rfl (hb hby d5_5) ?_
    show OwnG p e below T1 m 6 #[vR ab1, vI 0, vI 2, vR t_1, vU] [(.int 0)] tgt
    refine XS.istore X1.here hx rfl (hb hby d5_6) rfl (l' := #[vR ab1, vI 0, vI 2, vR t_1, vI 0]) rfl ?_
    show OwnG p e below T1 m 8 #[vR ab1, vI 0, vI 2, vR t_1, vI 0] [] tgt
    refine XS.iload X1.here hx rfl (hb hby d5_8) rfl ?_
    show OwnG p e below T1 m 10 #[vR ab1, vI 0, vI 2, vR t_1, vI 0] [(.int 0)] tgt
    refine XS.iloadN X1.here hx rfl (hb hby d5_10) rfl ?_
    show OwnG p e below T1 m 11 #[vR ab1, vI 0, vI 2, vR t_1, vI 0] [(.int 2), (.int 0)] tgt
    refine XS.icmpNo X1.here hx rfl (hb hby d5_11) rfl (tlt (by decide : (0 : Int32) < (2 : Int32))).2.1 ?_
    show OwnG p e below T1 m 14 #[vR ab1, vI 0, vI 2, vR t_1, vI 0] [] tgt
    refine XS.aloadN X1.here hx rfl (hb hby d5_14) rfl rfl ?_
    show OwnG p e below T1 m 15 #[vR ab1, vI 0, vI 2, vR t_1, vI 0] [(.ref t_1)] tgt
    refine XS.iload X1.here hx rfl (hb hby d5_15) rfl ?_
    show OwnG p e below T1 m 17 #[vR ab1, vI 0, vI 2, vR t_1, vI 0] [(.int 0), (.ref t_1)] tgt
    refine XS.aloadN X1.here hx rfl (hb hby d5_17) rfl rfl ?_
    show OwnG p e below T1 m 18 #[vR ab1, vI 0, vI 2, vR t_1, vI 0] [(.ref ab1), (.int 0), (.ref t_1)] tgt
    refine XS.iloadN X1.here hx rfl (hb hby d5_18) rfl ?_
    show OwnG p e below T1 m 19 #[vR ab1, vI 0, vI 2, vR t_1, vI 0] [(.int 0), (.ref ab1), (.int 0), (.ref t_1)] tgt
    obtain ⟨cl2, Ar2, q2, S2, M2, H2, G2⟩ := F1_1
    refine X1.caload hx (j := (0 : Int32)) (v := (.int c1)) Ar2.1 (State.isArrayOf_alike hZ.alike Ar2.2.1) Ar2.2.2 (inb_of S2 ⟨by decide, by decide⟩) (Has.at H2 (inb_of S2 ⟨by decide, by decide⟩) rfl) (g := (mkF m 19 #[vR ab1, vI 0, vI 2, vR t_1, vI 0] [(.int 0), (.ref ab1), (.int 0), (.ref t_1)])) rfl rfl (hb hby d5_19) _ ?_
    exact kgo
  obtain ⟨_, _, ⟨T3, L3, k3, n3⟩, -, X3, ⟨Lc3, hQ3, l3, y3, z3⟩, st3⟩ := Jvm.LawKit.callS X1 hx (y := mN1) hown (mvT hZ (own_w hw 97 rfl)) (mvT hZ (own_w hw 98 rfl)) (mvT hZ (own_w hw 43 rfl)) (mvT hZ (own_w hw 99 rfl)) (by decide) (backOf (W := 0) (rm_u16put l Z a0 hw [] wG1 wG3 cx hEL T1.heap n0 Ol1 t_1 k_1 (4 : Int32) [(.int 0), (.int 0), (.int 0), (.int 0)] (0 : Int32) c1 0 fq1_0 g_t_1 ⟨⟨⟨by decide, by decide⟩, rfl, Nat.le_of_ble_eq_true rfl⟩, ⟨⟨by decide, by decide⟩, rfl, Nat.le_of_ble_eq_true rfl⟩⟩) hZ (own_w hw 99 rfl) (own_w hw 43 rfl) (by decide) (by decide)) (g := (mkF m 20 #[vR ab1, vI 0, vI 2, vR t_1, vI 0] [(.int c1), (.int 0), (.ref t_1)])) rfl (by rw [hml]; rfl) (argsL := [(.ref t_1), (.int 0), (.int c1)]) (rest := []) (lenOf pd_52952394 rfl) rfl (Nat.le_of_eq rfl) (hb hby d5_20) (fun _ _ => ⟨rfl, rfl, (by decide : 1 + 0 ≤ _), (by decide : 4 + 0 ≤ _)⟩)
  dsimp only [Pt.U, Pt.locs, Pt.cells, Pt.slots] at X3 l3 y3 z3 st3 hQ3
  subst l3 y3 z3
  obtain ⟨rfl, Nq3, Kq3, fq3_0⟩ := hQ3
  refine OwnGoes.step (T' := T3) (g' := (mkF m 23 #[vR ab1, vI 0, vI 2, vR t_1, vI 0] [])) st3 ?_
  have N3 := Fr.app N1 Nq3
  have F3_2 := F1_1.keep Kq3 (ninS ne_ab1_t_1 nin0)
  have Ol3 := Ol1.keep Kq3 (allS g_t_1 all0)
  have K3 : Keep h0 T3.heap ([] : List Addr) := K1.trans Kq3 (allS (Or.inr s_t_1) all0)
  have Vp4 : Arv Z T3.heap t_1 k_1 .byte (4 : Int32) [(.int (nar .byte c1)), (.int (nar .byte (c1 >>> ((8 : Int32) &&& 31)))), (.int 0), (.int 0)] (.int 0) := fq3_0
  refine OwnGoes.step (T' := T3) (g' := (mkF m 20 #[vR ab1, vI 1, vI 2, vR t_1, vI 1] [(.int c2), (.int 1), (.ref t_1)])) (fun tgt kgo => ?_) ?_
  · refine XS.iinc X3.here hx rfl (hb hby d5_23) rfl (l' := #[vR ab1, vI 1, vI 2, vR t_1, vI 0]) rfl ?_
    show OwnG p e below T3 m 26 #[vR ab1, vI 1, vI 2, vR t_1, vI 0] [] tgt
    refine XS.iinc X3.here hx rfl (hb hby d5_26) rfl (l' := #[vR ab1, vI 1, vI 2, vR t_1, vI 1]) rfl ?_
    show OwnG p e below T3 m 29 #[vR ab1, vI 1, vI 2, vR t_1, vI 1] [] tgt
    refine XS.goto X3.here hx rfl (pc0 := 29) (pc' := 8) rfl (hb hby d5_29) (by decide) (by decide) ?_
    show OwnG p e below T3 m 8 #[vR ab1, vI 1, vI 2, vR t_1, vI 1] [] tgt
    refine XS.iload X3.here hx rfl (hb hby d5_8) rfl ?_
    show OwnG p e below T3 m 10 #[vR ab1, vI 1, vI 2, vR t_1, vI 1] [(.int 1)] tgt
    refine XS.iloadN X3.here hx rfl (hb hby d5_10) rfl ?_
    show OwnG p e below T3 m 11 #[vR ab1, vI 1, vI 2, vR t_1, vI 1] [(.int 2), (.int 1)] tgt
    refine XS.icmpNo X3.here hx rfl (hb hby d5_11) rfl (tlt (by decide : (1 : Int32) < (2 : Int32))).2.1 ?_
    show OwnG p e below T3 m 14 #[vR ab1, vI 1, vI 2, vR t_1, vI 1] [] tgt
    refine XS.aloadN X3.here hx rfl (hb hby d5_14) rfl rfl ?_
    show OwnG p e below T3 m 15 #[vR ab1, vI 1, vI 2, vR t_1, vI 1] [(.ref t_1)] tgt
    refine XS.iload X3.here hx rfl (hb hby d5_15) rfl ?_
    show OwnG p e below T3 m 17 #[vR ab1, vI 1, vI 2, vR t_1, vI 1] [(.int 1), (.ref t_1)] tgt
    refine XS.aloadN X3.here hx rfl (hb hby d5_17) rfl rfl ?_
    show OwnG p e below T3 m 18 #[vR ab1, vI 1, vI 2, vR t_1, vI 1] [(.ref ab1), (.int 1), (.ref t_1)] tgt
    refine XS.iloadN X3.here hx rfl (hb hby d5_18) rfl ?_
    show OwnG p e below T3 m 19 #[vR ab1, vI 1, vI 2, vR t_1, vI 1] [(.int 1), (.ref ab1), (.int 1), (.ref t_1)] tgt
    obtain ⟨cl5, Ar5, q5, S5, M5, H5, G5⟩ := F3_2
    refine X3.caload hx (j := (1 : Int32)) (v := (.int c2)) Ar5.1 (State.isArrayOf_alike hZ.alike Ar5.2.1) Ar5.2.2 (inb_of S5 ⟨by decide, by decide⟩) (Has.at H5 (inb_of S5 ⟨by decide, by decide⟩) rfl) (g := (mkF m 19 #[vR ab1, vI 1, vI 2, vR t_1, vI 1] [(.int 1), (.ref ab1), (.int 1), (.ref t_1)])) rfl rfl (hb hby d5_19) _ ?_
    exact kgo
  obtain ⟨_, _, ⟨T6, L6, k6, n6⟩, -, X6, ⟨Lc6, hQ6, l6, y6, z6⟩, st6⟩ := Jvm.LawKit.callS X3 hx (y := mN1) hown (mvT hZ (own_w hw 97 rfl)) (mvT hZ (own_w hw 98 rfl)) (mvT hZ (own_w hw 43 rfl)) (mvT hZ (own_w hw 99 rfl)) (by decide) (backOf (W := 0) (rm_u16put l Z a0 hw [] wG1 wG3 cx hEL T3.heap n0 Ol3 t_1 k_1 (4 : Int32) [(.int (nar .byte c1)), (.int (nar .byte (c1 >>> ((8 : Int32) &&& 31)))), (.int 0), (.int 0)] (1 : Int32) c2 2 Vp4 g_t_1 ⟨⟨⟨by decide, by decide⟩, rfl, Nat.le_of_ble_eq_true rfl⟩, ⟨⟨by decide, by decide⟩, rfl, Nat.le_of_ble_eq_true rfl⟩⟩) hZ (own_w hw 99 rfl) (own_w hw 43 rfl) (by decide) (by decide)) (g := (mkF m 20 #[vR ab1, vI 1, vI 2, vR t_1, vI 1] [(.int c2), (.int 1), (.ref t_1)])) rfl (by rw [hml]; rfl) (argsL := [(.ref t_1), (.int 1), (.int c2)]) (rest := []) (lenOf pd_52952394 rfl) rfl (Nat.le_of_eq rfl) (hb hby d5_20) (fun _ _ => ⟨rfl, rfl, (by decide : 1 + 0 ≤ _), (by decide : 4 + 0 ≤ _)⟩)
  dsimp only [Pt.U, Pt.locs, Pt.cells, Pt.slots] at X6 l6 y6 z6 st6 hQ6
  subst l6 y6 z6
  obtain ⟨rfl, Nq6, Kq6, fq6_0⟩ := hQ6
  refine OwnGoes.step (T' := T6) (g' := (mkF m 23 #[vR ab1, vI 1, vI 2, vR t_1, vI 1] [])) st6 ?_
  have N6 := Fr.app N3 Nq6
  have F6_3 := F3_2.keep Kq6 (ninS ne_ab1_t_1 nin0)
  have Ol6 := Ol3.keep Kq6 (allS g_t_1 all0)
  have K6 : Keep h0 T6.heap ([] : List Addr) := K3.trans Kq6 (allS (Or.inr s_t_1) all0)
  have Vp7 : Arv Z T6.heap t_1 k_1 .byte (4 : Int32) [(.int (nar .byte c1)), (.int (nar .byte (c1 >>> ((8 : Int32) &&& 31)))), (.int (nar .byte c2)), (.int (nar .byte (c2 >>> ((8 : Int32) &&& 31))))] (.int 0) := fq6_0
  refine OwnGoes.step (T' := T6) (g' := (mkF m 33 #[vR ab1, vI 2, vI 2, vR t_1, vI 2] [(.ref t_1)])) (fun tgt kgo => ?_) ?_
  · refine XS.iinc X6.here hx rfl (hb hby d5_23) rfl (l' := #[vR ab1, vI 2, vI 2, vR t_1, vI 1]) rfl ?_
    show OwnG p e below T6 m 26 #[vR ab1, vI 2, vI 2, vR t_1, vI 1] [] tgt
    refine XS.iinc X6.here hx rfl (hb hby d5_26) rfl (l' := #[vR ab1, vI 2, vI 2, vR t_1, vI 2]) rfl ?_
    show OwnG p e below T6 m 29 #[vR ab1, vI 2, vI 2, vR t_1, vI 2] [] tgt
    refine XS.goto X6.here hx rfl (pc0 := 29) (pc' := 8) rfl (hb hby d5_29) (by decide) (by decide) ?_
    show OwnG p e below T6 m 8 #[vR ab1, vI 2, vI 2, vR t_1, vI 2] [] tgt
    refine XS.iload X6.here hx rfl (hb hby d5_8) rfl ?_
    show OwnG p e below T6 m 10 #[vR ab1, vI 2, vI 2, vR t_1, vI 2] [(.int 2)] tgt
    refine XS.iloadN X6.here hx rfl (hb hby d5_10) rfl ?_
    show OwnG p e below T6 m 11 #[vR ab1, vI 2, vI 2, vR t_1, vI 2] [(.int 2), (.int 2)] tgt
    refine XS.icmpYes X6.here hx rfl (pc0 := 11) (pc' := 32) rfl (hb hby d5_11) rfl (flt (by decide : ¬ ((2 : Int32) < (2 : Int32)))).2.1 (by decide) (by decide) ?_
    show OwnG p e below T6 m 32 #[vR ab1, vI 2, vI 2, vR t_1, vI 2] [] tgt
    refine XS.aloadN X6.here hx rfl (hb hby d5_32) rfl rfl ?_
    exact kgo
  have hret : ∀ fs, (∀ (f : JFrame) (acts : List Action), f.method = m → f.locked = none → f.entered = [] → (doReturn e (T6.setTop f) acts (some (.ref t_1))).1 = T6.setFrames fs) → Steps p.tables e below (T6.setTop (mkF m 33 #[vR ab1, vI 2, vI 2, vR t_1, vI 2] [(.ref t_1)])) (T6.setFrames fs) := by
    intro fs hr
    jvm_step X6.here [X6.here.top, hx, (hb hby d5_33), X6.method', Bd.returns, Value.isRef, FieldType.isReference]
    first | (intro acts; rw [hr _ acts rfl rfl rfl]) | rw [hr _ _ rfl rfl rfl]
    exact Steps.refl _
  refine own_leave X6 hlk (v := some (.ref t_1)) (fun h => by rw [Bd.returns] at h; cases h) hret (by decide) (by decide) ?_
  show Q_tob_2 Z ab1 kc c1 c2 h0 n0 _ T6.heap _
  exact ⟨t_1, k_1, rfl, N6, K6, s_t_1, Vp7⟩
theorem ef_c3_2 (m : MethodId) (x0 : Addr) : entryFrame m #[(.ref x0), (.int 0), (.int 2)] 6 = mkF m 0 #[vR x0, vI 0, vI 2, vU, vU, vU] [] := by
  first | (simp [entryFrame, mkF, argsToLocals, Value.category]; done) | rfl
def Q_c3_2 (Z : State) (ab1 : Addr) (kc : ClassId) (c1 : Int32) (c2 : Int32) (h0 : Heap) (n0 : Nat) (v : Option Value) (h : Heap) (L : List Loc) : Prop := ∃ (t : Addr), ∃ (k : ClassId), ∃ (N : Int32), ∃ (vs : List Value), ∃ (cd : Int32), v = some (.ref t) ∧ Fr n0 L ∧ Keep h0 h ([] : List Addr) ∧ h0.size ≤ t ∧ Arv Z h t k .byte N vs (.int 0) ∧ ((N = (2 : Int32) ∧ cd = (0 : Int32) ∧ OwnStr ([c1, c2] : List Int32) cd N vs) ∨ (N = (4 : Int32) ∧ cd = (1 : Int32) ∧ OwnStr ([c1, c2] : List Int32) cd N vs))
set_option maxRecDepth 65536 in
set_option maxHeartbeats 40000000 in
theorem rm_c3_2 (l : Launch) (Z : State) (a0 : Array Value) (hw : ∀ d ∈ tables_1, d.before a0 Z = true) (ws : List Jvm.Cond) (wG1 : Int32) (wG3 : Value) (cx : OwnCx Z a0 wG1 wG3) (hEL : EW Z a0 consts_1) (h0 : Heap) (n0 : Nat) (X00 : Old Z n0 h0) (ab1 : Addr) (kc : ClassId) (c1 : Int32) (c2 : Int32) (f0 : Arv Z h0 ab1 kc .char (2 : Int32) [(.int c1), (.int c2)] (.int 0)) (hw1 : ¬ c1 < 0 ∧ ¬ (65535 : Int32) < c1) (hw2 : ¬ c2 < 0 ∧ ¬ (65535 : Int32) < c2) :
    MetFree l mN6 (head1 (Jvm.Cond.code mN6 jdk_52_method_16_code 6 (some (.array .byte)) :: ws) ({ frames := 3, cells := 2, slots := 6, locals := 40 } : Room)) (fun a U => a = #[(.ref ab1), (.int 0), (.int 2)] ∧ Z.Warmed39 U.vm ∧ U.heap = h0) (fun _ _ _ _ _ => True) (fun _ U o U' => ∃ v L, o = .returned v ∧ Q_c3_2 Z ab1 kc c1 c2 h0 n0 v U'.heap L ∧ FrameEnd U o U' L ({ frames := 3, cells := 2, slots := 6, locals := 40 } : Room).cells ({ frames := 3, cells := 2, slots := 6, locals := 40 } : Room).slots) := by
  refine MetFree.of_bodySF (plainFor_of_name pn_68381282) hisR ?_
  intro p e s m args below meth c s₁ Bd hml0 hP hK
  obtain ⟨rfl, hZ, hh⟩ := hP
  obtain ⟨wO2, wP5, wO4, wrG3, hstr, wUA, wUH, wUL⟩ := id cx
  have hx := Bd.exec
  have hby := Bd.bytes
  have hlk := Bd.notSynchronized
  have hml : c.maxLocals = 6 := hml0
  have hown : s.vm.findClass "java/lang/StringUTF16" = some m.cls := findClass_of_methodNamed Bd.named
  have hnm := (name_of_methodNamed Bd.named Bd.method).1
  have X0 : Stand p l e ({ frames := 3, cells := 2, slots := 6, locals := 40 } : Room) s m #[(.ref ab1), (.int 0), (.int 2)] below meth c s₁ [] 0 0 := Stand.of_body Bd
  have e0 : s₁.heap = h0 := by rw [← hh, Bd.state]; rfl
  have N0 := Fr.nil n0
  have Z0 : n0 ≤ h0.size := X00.1 ▸ X00.2.1
  have K0 : Keep h0 h0 ([] : List Addr) := Keep.refl _ _
  show OwnGoes p e below (fun o U' => ∃ v L, o = .returned v ∧ Q_c3_2 Z ab1 kc c1 c2 h0 n0 v U'.heap L ∧ FrameEnd s o U' L ({ frames := 3, cells := 2, slots := 6, locals := 40 } : Room).cells ({ frames := 3, cells := 2, slots := 6, locals := 40 } : Room).slots) s₁ (entryFrame m #[(.ref ab1), (.int 0), (.int 2)] 6)
  refine OwnGoes.step (T' := s₁) (g' := (mkF m 0 #[vR ab1, vI 0, vI 2, vU, vU, vU] [])) (fun tgt kgo => castTop (ef_c3_2 m ab1) kgo) ?_
  refine OwnGoes.step (T' := s₁) (g' := (mkF m 1 #[vR ab1, vI 0, vI 2, vU, vU, vU] [(.int 2)])) (fun tgt kgo => ?_) ?_
  · refine XS.iloadN X0.here hx rfl (hb hby d6_0) rfl ?_
    exact kgo
  obtain ⟨T1, h1, k1, X1, e1, E1, A1, st1⟩ := newP X0 hx hZ (own_w hw 24 rfl) e0 (g := (mkF m 1 #[vR ab1, vI 0, vI 2, vU, vU, vU] [(.int 2)])) rfl (hb hby d6_1) rfl (by decide) (cap := 2) (by decide) (by decide) (by decide) (by decide)
  obtain ⟨b1, g1⟩ : ∃ z, z = h0.size := ⟨_, rfl⟩
  rw [← g1] at A1 st1
  refine OwnGoes.step (T' := T1) (g' := (mkF m 3 #[vR ab1, vI 0, vI 2, vU, vU, vU] [(.ref b1)])) st1 ?_
  have V1 : Arv Z h1 b1 k1 .byte (2 : Int32) [(.int 0), (.int 0)] (.int 0) := (Arv.new A1 (by decide)).pad (pad_rep [] (.int 0) 2)
  have ne_ab1_b1 : ab1 ≠ b1 := Nat.ne_of_lt (Nat.lt_of_lt_of_le f0.lt (Nat.le_of_eq g1.symm))
  have g_b1 : n0 ≤ b1 := Nat.le_trans (Nat.le_trans Z0 K0.1) (Nat.le_of_eq g1.symm)
  have s_b1 : h0.size ≤ b1 := Nat.le_trans K0.1 (Nat.le_of_eq g1.symm)
  have F1_1 := f0.ext E1
  have Ol1 := X00.ext E1
  have K1 : Keep h0 h1 ([] : List Addr) := K0.ext E1
  refine OwnGoes.step (T' := T1) (g' := (mkF m 9 #[vR ab1, vI 0, vI 2, vR b1, vU, vU] [(.int 2), (.int 0), (.ref b1), (.int 0), (.ref ab1)])) (fun tgt kgo => ?_) ?_
  · refine XS.astoreN X1.here hx rfl (hb hby d6_3) rfl rfl (l' := #[vR ab1, vI 0, vI 2, vR b1, vU, vU]) rfl ?_
    show OwnG p e below T1 m 4 #[vR ab1, vI 0, vI 2, vR b1, vU, vU] [] tgt
    refine XS.aloadN X1.here hx rfl (hb hby d6_4) rfl rfl ?_
    show OwnG p e below T1 m 5 #[vR ab1, vI 0, vI 2, vR b1, vU, vU] [(.ref ab1)] tgt
    refine XS.iloadN X1.here hx rfl (hb hby d6_5) rfl ?_
    show OwnG p e below T1 m 6 #[vR ab1, vI 0, vI 2, vR b1, vU, vU] [(.int 0), (.ref ab1)] tgt
    refine XS.aloadN X1.here hx rfl (hb hby d6_6) rfl rfl ?_
    show OwnG p e below T1 m 7 #[vR ab1, vI 0, vI 2, vR b1, vU, vU] [(.ref b1), (.int 0), (.ref ab1)] tgt
    refine XS.iconst X1.here hx rfl (hb hby d6_7) ?_
    show OwnG p e below T1 m 8 #[vR ab1, vI 0, vI 2, vR b1, vU, vU] [(.int 0), (.ref b1), (.int 0), (.ref ab1)] tgt
    refine XS.iloadN X1.here hx rfl (hb hby d6_8) rfl ?_
    exact kgo
  obtain ⟨_, _, ⟨T2, L2, k2, n2⟩, -, X2, ⟨Lc2, hQ2, l2, y2, z2⟩, st2⟩ := Jvm.LawKit.callS X1 hx (y := mN2) hown (mvT hZ (own_w hw 45 rfl)) (mvT hZ (own_w hw 46 rfl)) (mvT hZ (own_w hw 43 rfl)) (mvT hZ (own_w hw 47 rfl)) (by decide) (backOf (W := 0) (rm_c5_2 l Z a0 hw [] wG1 wG3 cx hEL h1 n0 Ol1 ab1 b1 kc k1 c1 c2 F1_1 V1 g_b1) hZ (own_w hw 47 rfl) (own_w hw 43 rfl) (by decide) (by decide)) (g := (mkF m 9 #[vR ab1, vI 0, vI 2, vR b1, vU, vU] [(.int 2), (.int 0), (.ref b1), (.int 0), (.ref ab1)])) rfl (by rw [hml]; rfl) (argsL := [(.ref ab1), (.int 0), (.ref b1), (.int 0), (.int 2)]) (rest := []) (lenOf pd_51558503 rfl) rfl (Nat.le_of_eq rfl) (hb hby d6_9) (fun _ _ => ⟨rfl, e1, (by decide : 1 + 0 ≤ _), (by decide : 2 + 0 ≤ _)⟩)
  dsimp only [Pt.U, Pt.locs, Pt.cells, Pt.slots] at X2 l2 y2 z2 st2 hQ2
  subst l2 y2 z2
  obtain ⟨r_2, vs_2, rfl, Nq2, Kq2, fq2_0, pq2_0⟩ := hQ2
  refine OwnGoes.step (T' := T2) (g' := (mkF m 12 #[vR ab1, vI 0, vI 2, vR b1, vU, vU] [(.int r_2)])) st2 ?_
  have N2 := Fr.app N0 Nq2
  have F2_2 := F1_1.keep Kq2 (ninS ne_ab1_b1 nin0)
  have Ol2 := Ol1.keep Kq2 (allS g_b1 all0)
  have K2 : Keep h0 T2.heap ([] : List Addr) := K1.trans Kq2 (allS (Or.inr s_b1) all0)
  refine OwnGoes.step (T' := T2) (g' := (mkF m 14 #[vR ab1, vI 0, vI 2, vR b1, vI r_2, vU] [])) (fun tgt kgo => ?_) ?_
  · refine XS.istore X2.here hx rfl (hb hby d6_12) rfl (l' := #[vR ab1, vI 0, vI 2, vR b1, vI r_2, vU]) rfl ?_
    exact kgo
  rcases pq2_0 with ⟨rfl, rfl, hl0, hl1⟩ | ⟨rfl, hbig⟩ | ⟨rfl, hbig⟩
  · skip
    refine OwnGoes.step (T' := T2) (g' := (mkF m 58 #[vR ab1, vI 0, vI 2, vR b1, vI 2, vU] [(.ref b1)])) (fun tgt kgo => ?_) ?_
    · refine XS.iload X2.here hx rfl (hb hby d6_14) rfl ?_
      show OwnG p e below T2 m 16 #[vR ab1, vI 0, vI 2, vR b1, vI 2, vU] [(.int 2)] tgt
      refine XS.iloadN X2.here hx rfl (hb hby d6_16) rfl ?_
      show OwnG p e below T2 m 17 #[vR ab1, vI 0, vI 2, vR b1, vI 2, vU] [(.int 2), (.int 2)] tgt
      refine XS.icmpYes X2.here hx rfl (pc0 := 17) (pc' := 57) rfl (hb hby d6_17) rfl (teq (by decide : (2 : Int32) = (2 : Int32))).1 (by decide) (by decide) ?_
      show OwnG p e below T2 m 57 #[vR ab1, vI 0, vI 2, vR b1, vI 2, vU] [] tgt
      refine XS.aloadN X2.here hx rfl (hb hby d6_57) rfl rfl ?_
      exact kgo
    have hret : ∀ fs, (∀ (f : JFrame) (acts : List Action), f.method = m → f.locked = none → f.entered = [] → (doReturn e (T2.setTop f) acts (some (.ref b1))).1 = T2.setFrames fs) → Steps p.tables e below (T2.setTop (mkF m 58 #[vR ab1, vI 0, vI 2, vR b1, vI 2, vU] [(.ref b1)])) (T2.setFrames fs) := by
      intro fs hr
      jvm_step X2.here [X2.here.top, hx, (hb hby d6_58), X2.method', Bd.returns, Value.isRef, FieldType.isReference]
      first | (intro acts; rw [hr _ acts rfl rfl rfl]) | rw [hr _ _ rfl rfl rfl]
      exact Steps.refl _
    refine own_leave X2 hlk (v := some (.ref b1)) (fun h => by rw [Bd.returns] at h; cases h) hret (by decide) (by decide) ?_
    show Q_c3_2 Z ab1 kc c1 c2 h0 n0 _ T2.heap _
    exact ⟨b1, k1, (2 : Int32), [(.int (nar .byte c1)), (.int (nar .byte c2))], (0 : Int32), rfl, N2, K2, s_b1, fq2_0, (Or.inl ⟨rfl, rfl, own_str_lat (cs := ([c1, c2] : List Int32)) (n := 2) rfl (by decide) (own_memS ⟨hw1.1, hl0⟩ (own_memS ⟨hw2.1, hl1⟩ own_mem0))⟩)⟩
  · skip
    refine OwnGoes.step (T' := T2) (g' := (mkF m 23 #[vR ab1, vI 0, vI 2, vR b1, vI 0, vU] [(.int 2), (.int 0), (.ref ab1)])) (fun tgt kgo => ?_) ?_
    · refine XS.iload X2.here hx rfl (hb hby d6_14) rfl ?_
      show OwnG p e below T2 m 16 #[vR ab1, vI 0, vI 2, vR b1, vI 0, vU] [(.int 0)] tgt
      refine XS.iloadN X2.here hx rfl (hb hby d6_16) rfl ?_
      show OwnG p e below T2 m 17 #[vR ab1, vI 0, vI 2, vR b1, vI 0, vU] [(.int 2), (.int 0)] tgt
      refine XS.icmpNo X2.here hx rfl (hb hby d6_17) rfl (feq (by decide : ¬ ((0 : Int32) = (2 : Int32)))).1 ?_
      show OwnG p e below T2 m 20 #[vR ab1, vI 0, vI 2, vR b1, vI 0, vU] [] tgt
      refine XS.aloadN X2.here hx rfl (hb hby d6_20) rfl rfl ?_
      show OwnG p e below T2 m 21 #[vR ab1, vI 0, vI 2, vR b1, vI 0, vU] [(.ref ab1)] tgt
      refine XS.iloadN X2.here hx rfl (hb hby d6_21) rfl ?_
      show OwnG p e below T2 m 22 #[vR ab1, vI 0, vI 2, vR b1, vI 0, vU] [(.int 0), (.ref ab1)] tgt
      refine XS.iloadN X2.here hx rfl (hb hby d6_22) rfl ?_
      exact kgo
    obtain ⟨_, _, ⟨T4, L4, k4, n4⟩, -, X4, ⟨Lc4, hQ4, l4, y4, z4⟩, st4⟩ := Jvm.LawKit.callS X2 hx (y := mN5) hown (mvT hZ (own_w hw 87 rfl)) (mvT hZ (own_w hw 88 rfl)) (mvT hZ (own_w hw 43 rfl)) (mvT hZ (own_w hw 89 rfl)) (by decide) (backOf (W := 0) (rm_tob_2 l Z a0 hw [] wG1 wG3 cx hEL T2.heap n0 Ol2 ab1 kc c1 c2 F2_2) hZ (own_w hw 89 rfl) (own_w hw 43 rfl) (by decide) (by decide)) (g := (mkF m 23 #[vR ab1, vI 0, vI 2, vR b1, vI 0, vU] [(.int 2), (.int 0), (.ref ab1)])) rfl (by rw [hml]; rfl) (argsL := [(.ref ab1), (.int 0), (.int 2)]) (rest := []) (lenOf pd_23256262 rfl) rfl (Nat.le_of_eq rfl) (hb hby d6_23) (fun _ _ => ⟨rfl, rfl, (by decide : 1 + 1 ≤ _), (by decide : 2 + 4 ≤ _)⟩)
    dsimp only [Pt.U, Pt.locs, Pt.cells, Pt.slots] at X4 l4 y4 z4 st4 hQ4
    subst l4 y4 z4
    obtain ⟨t_4, k_4, rfl, Nq4, Kq4, zq4_0, fq4_0⟩ := hQ4
    refine OwnGoes.step (T' := T4) (g' := (mkF m 26 #[vR ab1, vI 0, vI 2, vR b1, vI 0, vU] [(.ref t_4)])) st4 ?_
    have N4 := Fr.app N2 Nq4
    have ne_ab1_t_4 : ab1 ≠ t_4 := Nat.ne_of_lt (Nat.lt_of_lt_of_le F2_2.lt zq4_0)
    have ne_b1_t_4 : b1 ≠ t_4 := Nat.ne_of_lt (Nat.lt_of_lt_of_le fq2_0.lt zq4_0)
    have g_t_4 : n0 ≤ t_4 := Nat.le_trans (Nat.le_trans Z0 K2.1) zq4_0
    have s_t_4 : h0.size ≤ t_4 := Nat.le_trans K2.1 zq4_0
    have F4_3 := F2_2.keep Kq4 nin0
    have F4_4 := fq2_0.keep Kq4 nin0
    have Ol4 := Ol2.keep Kq4 all0
    have K4 : Keep h0 T4.heap ([] : List Addr) := K2.trans Kq4 all0
    refine OwnGoes.step (T' := T4) (g' := (mkF m 32 #[vR ab1, vI 0, vI 2, vR b1, vI 0, vR t_4] [(.int 0), (.ref t_4)])) (fun tgt kgo => ?_) ?_
    · refine XS.astore X4.here hx rfl (hb hby d6_26) rfl rfl (l' := #[vR ab1, vI 0, vI 2, vR b1, vI 0, vR t_4]) rfl ?_
      show OwnG p e below T4 m 28 #[vR ab1, vI 0, vI 2, vR b1, vI 0, vR t_4] [] tgt
      refine XS.aload X4.here hx rfl (hb hby d6_28) rfl rfl ?_
      show OwnG p e below T4 m 30 #[vR ab1, vI 0, vI 2, vR b1, vI 0, vR t_4] [(.ref t_4)] tgt
      refine XS.iload X4.here hx rfl (hb hby d6_30) rfl ?_
      exact kgo
    obtain ⟨_, _, ⟨T5, L5, k5, n5⟩, -, X5, ⟨Lc5, hQ5, l5, y5, z5⟩, st5⟩ := Jvm.LawKit.callS X4 hx (y := mN0) hown (mvT hZ (own_w hw 103 rfl)) (mvT hZ (own_w hw 104 rfl)) (mvT hZ (own_w hw 43 rfl)) (mvT hZ (own_w hw 105 rfl)) (by decide) (backOf (W := 0) (rm_u16get l Z a0 hw [] wG1 wG3 cx hEL T4.heap n0 Ol4 t_4 k_4 (4 : Int32) [(.int (nar .byte c1)), (.int (nar .byte (c1 >>> ((8 : Int32) &&& 31)))), (.int (nar .byte c2)), (.int (nar .byte (c2 >>> ((8 : Int32) &&& 31))))] (0 : Int32) c1 fq4_0 ⟨_, _, ⟨⟨by decide, by decide⟩, rfl⟩, ⟨⟨by decide, by decide⟩, rfl⟩, own_pair hw1, own_nar_w hw1⟩) hZ (own_w hw 105 rfl) (own_w hw 43 rfl) (by decide) (by decide)) (g := (mkF m 32 #[vR ab1, vI 0, vI 2, vR b1, vI 0, vR t_4] [(.int 0), (.ref t_4)])) rfl (by rw [hml]; rfl) (argsL := [(.ref t_4), (.int 0)]) (rest := []) (lenOf pd_30427418 rfl) rfl (Nat.le_of_eq rfl) (hb hby d6_32) (fun _ _ => ⟨rfl, rfl, (by decide : 2 + 0 ≤ _), (by decide : 6 + 0 ≤ _)⟩)
    dsimp only [Pt.U, Pt.locs, Pt.cells, Pt.slots] at X5 l5 y5 z5 st5 hQ5
    subst l5 y5 z5
    obtain ⟨rfl, Nq5, eq5⟩ := hQ5
    refine OwnGoes.step (T' := T5) (g' := (mkF m 35 #[vR ab1, vI 0, vI 2, vR b1, vI 0, vR t_4] [(.int c1)])) st5 ?_
    have N5 := Fr.app N4 Nq5
    refine OwnGoes.step (T' := T5) (g' := (mkF m 56 #[vR ab1, vI 0, vI 2, vR b1, vI 0, vR t_4] [(.ref t_4)])) (fun tgt kgo => ?_) ?_
    · refine XS.sipush X5.here hx rfl (hb hby d6_35) ?_
      show OwnG p e below T5 m 38 #[vR ab1, vI 0, vI 2, vR b1, vI 0, vR t_4] [(.int 255), (.int c1)] tgt
      refine XS.icmpYes X5.here hx rfl (pc0 := 38) (pc' := 54) rfl (hb hby d6_38) rfl (tlt hbig).2.2.1 (by decide) (by decide) ?_
      show OwnG p e below T5 m 54 #[vR ab1, vI 0, vI 2, vR b1, vI 0, vR t_4] [] tgt
      refine XS.aload X5.here hx rfl (hb hby d6_54) rfl rfl ?_
      exact kgo
    have hret : ∀ fs, (∀ (f : JFrame) (acts : List Action), f.method = m → f.locked = none → f.entered = [] → (doReturn e (T5.setTop f) acts (some (.ref t_4))).1 = T5.setFrames fs) → Steps p.tables e below (T5.setTop (mkF m 56 #[vR ab1, vI 0, vI 2, vR b1, vI 0, vR t_4] [(.ref t_4)])) (T5.setFrames fs) := by
      intro fs hr
      jvm_step X5.here [X5.here.top, hx, (hb hby d6_56), X5.method', Bd.returns, Value.isRef, FieldType.isReference]
      first | (intro acts; rw [hr _ acts rfl rfl rfl]) | rw [hr _ _ rfl rfl rfl]
      exact Steps.refl _
    refine own_leave X5 hlk (v := some (.ref t_4)) (fun h => by rw [Bd.returns] at h; cases h) hret (by decide) (by decide) ?_
    show Q_c3_2 Z ab1 kc c1 c2 h0 n0 _ T5.heap _
    rw [eq5]
    exact ⟨t_4, k_4, (4 : Int32), [(.int (nar .byte c1)), (.int (nar .byte (c1 >>> ((8 : Int32) &&& 31)))), (.int (nar .byte c2)), (.int (nar .byte (c2 >>> ((8 : Int32) &&& 31))))], (1 : Int32), rfl, N5, K4, s_t_4, fq4_0, (Or.inr ⟨rfl, rfl, own_str_wide (cs := ([c1, c2] : List Int32)) (n := 2) rfl (by decide) (own_memS hw1 (own_memS hw2 own_mem0)) ⟨_, List.mem_of_getElem? (i := 0) rfl, hbig⟩⟩)⟩
  refine OwnGoes.step (T' := T2) (g' := (mkF m 23 #[vR ab1, vI 0, vI 2, vR b1, vI 1, vU] [(.int 2), (.int 0), (.ref ab1)])) (fun tgt kgo => ?_) ?_
  · refine XS.iload X2.here hx rfl (hb hby d6_14) rfl ?_
    show OwnG p e below T2 m 16 #[vR ab1, vI 0, vI 2, vR b1, vI 1, vU] [(.int 1)] tgt
    refine XS.iloadN X2.here hx rfl (hb hby d6_16) rfl ?_
    show OwnG p e below T2 m 17 #[vR ab1, vI 0, vI 2, vR b1, vI 1, vU] [(.int 2), (.int 1)] tgt
    refine XS.icmpNo X2.here hx rfl (hb hby d6_17) rfl (feq (by decide : ¬ ((1 : Int32) = (2 : Int32)))).1 ?_
    show OwnG p e below T2 m 20 #[vR ab1, vI 0, vI 2, vR b1, vI 1, vU] [] tgt
    refine XS.aloadN X2.here hx rfl (hb hby d6_20) rfl rfl ?_
    show OwnG p e below T2 m 21 #[vR ab1, vI 0, vI 2, vR b1, vI 1, vU] [(.ref ab1)] tgt
    refine XS.iloadN X2.here hx rfl (hb hby d6_21) rfl ?_
    show OwnG p e below T2 m 22 #[vR ab1, vI 0, vI 2, vR b1, vI 1, vU] [(.int 0), (.ref ab1)] tgt
    refine XS.iloadN X2.here hx rfl (hb hby d6_22) rfl ?_
    exact kgo
  obtain ⟨_, _, ⟨T7, L7, k7, n7⟩, -, X7, ⟨Lc7, hQ7, l7, y7, z7⟩, st7⟩ := Jvm.LawKit.callS X2 hx (y := mN5) hown (mvT hZ (own_w hw 87 rfl)) (mvT hZ (own_w hw 88 rfl)) (mvT hZ (own_w hw 43 rfl)) (mvT hZ (own_w hw 89 rfl)) (by decide) (backOf (W := 0) (rm_tob_2 l Z a0 hw [] wG1 wG3 cx hEL T2.heap n0 Ol2 ab1 kc c1 c2 F2_2) hZ (own_w hw 89 rfl) (own_w hw 43 rfl) (by decide) (by decide)) (g := (mkF m 23 #[vR ab1, vI 0, vI 2, vR b1, vI 1, vU] [(.int 2), (.int 0), (.ref ab1)])) rfl (by rw [hml]; rfl) (argsL := [(.ref ab1), (.int 0), (.int 2)]) (rest := []) (lenOf pd_23256262 rfl) rfl (Nat.le_of_eq rfl) (hb hby d6_23) (fun _ _ => ⟨rfl, rfl, (by decide : 1 + 1 ≤ _), (by decide : 2 + 4 ≤ _)⟩)
  dsimp only [Pt.U, Pt.locs, Pt.cells, Pt.slots] at X7 l7 y7 z7 st7 hQ7
  subst l7 y7 z7
  obtain ⟨t_7, k_7, rfl, Nq7, Kq7, zq7_0, fq7_0⟩ := hQ7
  refine OwnGoes.step (T' := T7) (g' := (mkF m 26 #[vR ab1, vI 0, vI 2, vR b1, vI 1, vU] [(.ref t_7)])) st7 ?_
  have N7 := Fr.app N2 Nq7
  have ne_ab1_t_7 : ab1 ≠ t_7 := Nat.ne_of_lt (Nat.lt_of_lt_of_le F2_2.lt zq7_0)
  have ne_b1_t_7 : b1 ≠ t_7 := Nat.ne_of_lt (Nat.lt_of_lt_of_le fq2_0.lt zq7_0)
  have g_t_7 : n0 ≤ t_7 := Nat.le_trans (Nat.le_trans Z0 K2.1) zq7_0
  have s_t_7 : h0.size ≤ t_7 := Nat.le_trans K2.1 zq7_0
  have F7_5 := F2_2.keep Kq7 nin0
  have F7_6 := fq2_0.keep Kq7 nin0
  have Ol7 := Ol2.keep Kq7 all0
  have K7 : Keep h0 T7.heap ([] : List Addr) := K2.trans Kq7 all0
  refine OwnGoes.step (T' := T7) (g' := (mkF m 32 #[vR ab1, vI 0, vI 2, vR b1, vI 1, vR t_7] [(.int 1), (.ref t_7)])) (fun tgt kgo => ?_) ?_
  · refine XS.astore X7.here hx rfl (hb hby d6_26) rfl rfl (l' := #[vR ab1, vI 0, vI 2, vR b1, vI 1, vR t_7]) rfl ?_
    show OwnG p e below T7 m 28 #[vR ab1, vI 0, vI 2, vR b1, vI 1, vR t_7] [] tgt
    refine XS.aload X7.here hx rfl (hb hby d6_28) rfl rfl ?_
    show OwnG p e below T7 m 30 #[vR ab1, vI 0, vI 2, vR b1, vI 1, vR t_7] [(.ref t_7)] tgt
    refine XS.iload X7.here hx rfl (hb hby d6_30) rfl ?_
    exact kgo
  obtain ⟨_, _, ⟨T8, L8, k8, n8⟩, -, X8, ⟨Lc8, hQ8, l8, y8, z8⟩, st8⟩ := Jvm.LawKit.callS X7 hx (y := mN0) hown (mvT hZ (own_w hw 103 rfl)) (mvT hZ (own_w hw 104 rfl)) (mvT hZ (own_w hw 43 rfl)) (mvT hZ (own_w hw 105 rfl)) (by decide) (backOf (W := 0) (rm_u16get l Z a0 hw [] wG1 wG3 cx hEL T7.heap n0 Ol7 t_7 k_7 (4 : Int32) [(.int (nar .byte c1)), (.int (nar .byte (c1 >>> ((8 : Int32) &&& 31)))), (.int (nar .byte c2)), (.int (nar .byte (c2 >>> ((8 : Int32) &&& 31))))] (1 : Int32) c2 fq7_0 ⟨_, _, ⟨⟨by decide, by decide⟩, rfl⟩, ⟨⟨by decide, by decide⟩, rfl⟩, own_pair hw2, own_nar_w hw2⟩) hZ (own_w hw 105 rfl) (own_w hw 43 rfl) (by decide) (by decide)) (g := (mkF m 32 #[vR ab1, vI 0, vI 2, vR b1, vI 1, vR t_7] [(.int 1), (.ref t_7)])) rfl (by rw [hml]; rfl) (argsL := [(.ref t_7), (.int 1)]) (rest := []) (lenOf pd_30427418 rfl) rfl (Nat.le_of_eq rfl) (hb hby d6_32) (fun _ _ => ⟨rfl, rfl, (by decide : 2 + 0 ≤ _), (by decide : 6 + 0 ≤ _)⟩)
  dsimp only [Pt.U, Pt.locs, Pt.cells, Pt.slots] at X8 l8 y8 z8 st8 hQ8
  subst l8 y8 z8
  obtain ⟨rfl, Nq8, eq8⟩ := hQ8
  refine OwnGoes.step (T' := T8) (g' := (mkF m 35 #[vR ab1, vI 0, vI 2, vR b1, vI 1, vR t_7] [(.int c2)])) st8 ?_
  have N8 := Fr.app N7 Nq8
  refine OwnGoes.step (T' := T8) (g' := (mkF m 56 #[vR ab1, vI 0, vI 2, vR b1, vI 1, vR t_7] [(.ref t_7)])) (fun tgt kgo => ?_) ?_
  · refine XS.sipush X8.here hx rfl (hb hby d6_35) ?_
    show OwnG p e below T8 m 38 #[vR ab1, vI 0, vI 2, vR b1, vI 1, vR t_7] [(.int 255), (.int c2)] tgt
    refine XS.icmpYes X8.here hx rfl (pc0 := 38) (pc' := 54) rfl (hb hby d6_38) rfl (tlt hbig).2.2.1 (by decide) (by decide) ?_
    show OwnG p e below T8 m 54 #[vR ab1, vI 0, vI 2, vR b1, vI 1, vR t_7] [] tgt
    refine XS.aload X8.here hx rfl (hb hby d6_54) rfl rfl ?_
    exact kgo
  have hret : ∀ fs, (∀ (f : JFrame) (acts : List Action), f.method = m → f.locked = none → f.entered = [] → (doReturn e (T8.setTop f) acts (some (.ref t_7))).1 = T8.setFrames fs) → Steps p.tables e below (T8.setTop (mkF m 56 #[vR ab1, vI 0, vI 2, vR b1, vI 1, vR t_7] [(.ref t_7)])) (T8.setFrames fs) := by
    intro fs hr
    jvm_step X8.here [X8.here.top, hx, (hb hby d6_56), X8.method', Bd.returns, Value.isRef, FieldType.isReference]
    first | (intro acts; rw [hr _ acts rfl rfl rfl]) | rw [hr _ _ rfl rfl rfl]
    exact Steps.refl _
  refine own_leave X8 hlk (v := some (.ref t_7)) (fun h => by rw [Bd.returns] at h; cases h) hret (by decide) (by decide) ?_
  show Q_c3_2 Z ab1 kc c1 c2 h0 n0 _ T8.heap _
  rw [eq8]
  exact ⟨t_7, k_7, (4 : Int32), [(.int (nar .byte c1)), (.int (nar .byte (c1 >>> ((8 : Int32) &&& 31)))), (.int (nar .byte c2)), (.int (nar .byte (c2 >>> ((8 : Int32) &&& 31))))], (1 : Int32), rfl, N8, K7, s_t_7, fq7_0, (Or.inr ⟨rfl, rfl, own_str_wide (cs := ([c1, c2] : List Int32)) (n := 2) rfl (by decide) (own_memS hw1 (own_memS hw2 own_mem0)) ⟨_, List.mem_of_getElem? (i := 1) rfl, hbig⟩⟩)⟩
theorem ef_cfl_2_2 (m : MethodId) (x0 : Addr) : entryFrame m #[(.ref x0), (.int 2)] 2 = mkF m 0 #[vR x0, vI 2] [] := by
  first | (simp [entryFrame, mkF, argsToLocals, Value.category]; done) | rfl
def Q_cfl_2_2 (Z : State) (tb1 : Addr) (kb1 : ClassId) (vs1 : List Value) (h0 : Heap) (n0 : Nat) (v : Option Value) (h : Heap) (L : List Loc) : Prop := v = some (.int 0) ∧ Fr n0 L ∧ h = h0
set_option maxRecDepth 65536 in
set_option maxHeartbeats 40000000 in
theorem rm_cfl_2_2 (l : Launch) (Z : State) (a0 : Array Value) (hw : ∀ d ∈ tables_1, d.before a0 Z = true) (ws : List Jvm.Cond) (wG1 : Int32) (wG3 : Value) (cx : OwnCx Z a0 wG1 wG3) (hEL : EW Z a0 consts_1) (h0 : Heap) (n0 : Nat) (X00 : Old Z n0 h0) (tb1 : Addr) (kb1 : ClassId) (vs1 : List Value) (f0 : Arv Z h0 tb1 kb1 .byte (2 : Int32) vs1 (.int 0)) :
    MetFree l mN7 (head1 (Jvm.Cond.code mN7 jdk_52_method_15_code 2 (some .byte) :: ws) ({ frames := 0, cells := 0, slots := 0, locals := 0 } : Room)) (fun a U => a = #[(.ref tb1), (.int 2)] ∧ Z.Warmed39 U.vm ∧ U.heap = h0) (fun _ _ _ _ _ => True) (fun _ U o U' => ∃ v L, o = .returned v ∧ Q_cfl_2_2 Z tb1 kb1 vs1 h0 n0 v U'.heap L ∧ FrameEnd U o U' L ({ frames := 0, cells := 0, slots := 0, locals := 0 } : Room).cells ({ frames := 0, cells := 0, slots := 0, locals := 0 } : Room).slots) := by
  refine MetFree.of_bodySF (plainFor_of_name pn_68381282) hisR ?_
  intro p e s m args below meth c s₁ Bd hml0 hP hK
  obtain ⟨rfl, hZ, hh⟩ := hP
  obtain ⟨wO2, wP5, wO4, wrG3, hstr, wUA, wUH, wUL⟩ := id cx
  have hx := Bd.exec
  have hby := Bd.bytes
  have hlk := Bd.notSynchronized
  have hml : c.maxLocals = 2 := hml0
  have hown : s.vm.findClass "java/lang/StringUTF16" = some m.cls := findClass_of_methodNamed Bd.named
  have hnm := (name_of_methodNamed Bd.named Bd.method).1
  have X0 : Stand p l e ({ frames := 0, cells := 0, slots := 0, locals := 0 } : Room) s m #[(.ref tb1), (.int 2)] below meth c s₁ [] 0 0 := Stand.of_body Bd
  have e0 : s₁.heap = h0 := by rw [← hh, Bd.state]; rfl
  have N0 := Fr.nil n0
  have Z0 : n0 ≤ h0.size := X00.1 ▸ X00.2.1
  have K0 : Keep h0 h0 ([] : List Addr) := Keep.refl _ _
  show OwnGoes p e below (fun o U' => ∃ v L, o = .returned v ∧ Q_cfl_2_2 Z tb1 kb1 vs1 h0 n0 v U'.heap L ∧ FrameEnd s o U' L ({ frames := 0, cells := 0, slots := 0, locals := 0 } : Room).cells ({ frames := 0, cells := 0, slots := 0, locals := 0 } : Room).slots) s₁ (entryFrame m #[(.ref tb1), (.int 2)] 2)
  refine OwnGoes.step (T' := s₁) (g' := (mkF m 0 #[vR tb1, vI 2] [])) (fun tgt kgo => castTop (ef_cfl_2_2 m tb1) kgo) ?_
  refine OwnGoes.step (T' := s₁) (g' := (mkF m 8 #[vR tb1, vI 2] [(.int 0)])) (fun tgt kgo => ?_) ?_
  · refine XS.iloadN X0.here hx rfl (hb hby d7_0) rfl ?_
    show OwnG p e below s₁ m 1 #[vR tb1, vI 2] [(.int 2)] tgt
    refine XS.aloadN X0.here hx rfl (hb hby d7_1) rfl rfl ?_
    show OwnG p e below s₁ m 2 #[vR tb1, vI 2] [(.ref tb1), (.int 2)] tgt
    obtain ⟨cl1, Ar1, q1, S1, M1, -, -⟩ := f0
    refine X0.arraylength hx (by rw [e0]; exact Ar1.1) (State.isArrayOf_alike hZ.alike Ar1.2.1) (g := (mkF m 2 #[vR tb1, vI 2] [(.ref tb1), (.int 2)])) rfl rfl (hb hby d7_2) _ ?_
    rw [len_of S1 M1]
    show OwnG p e below s₁ m 3 #[vR tb1, vI 2] [(.int 2), (.int 2)] tgt
    refine XS.isub X0.here hx rfl (hb hby d7_3) rfl ?_
    show OwnG p e below s₁ m 4 #[vR tb1, vI 2] [(.int 0)] tgt
    refine XS.bipush X0.here hx rfl (hb hby d7_4) ?_
    show OwnG p e below s₁ m 6 #[vR tb1, vI 2] [(.int 31), (.int 0)] tgt
    refine XS.iushr X0.here hx rfl (hb hby d7_6) rfl ?_
    show OwnG p e below s₁ m 7 #[vR tb1, vI 2] [(.int 0)] tgt
    refine XS.i2b X0.here hx rfl (hb hby d7_7) rfl ?_
    exact kgo
  refine own_leave X0 hlk (v := some (.int 0)) (fun h => by rw [Bd.returns] at h; cases h) (fun fs hr => retN X0 hx (t := .byte) Bd.returns (by simp) (hb hby d7_8) (by rw [(by decide : nar .byte (0 : Int32) = (0 : Int32))]; exact hr)) (by decide) (by decide) ?_
  show Q_cfl_2_2 Z tb1 kb1 vs1 h0 n0 _ s₁.heap _
  rw [e0]
  exact ⟨rfl, N0, rfl⟩
theorem ef_cfl_2_4 (m : MethodId) (x0 : Addr) : entryFrame m #[(.ref x0), (.int 2)] 2 = mkF m 0 #[vR x0, vI 2] [] := by
  first | (simp [entryFrame, mkF, argsToLocals, Value.category]; done) | rfl
def Q_cfl_2_4 (Z : State) (tb1 : Addr) (kb1 : ClassId) (vs1 : List Value) (h0 : Heap) (n0 : Nat) (v : Option Value) (h : Heap) (L : List Loc) : Prop := v = some (.int 1) ∧ Fr n0 L ∧ h = h0
set_option maxRecDepth 65536 in
set_option maxHeartbeats 40000000 in
theorem rm_cfl_2_4 (l : Launch) (Z : State) (a0 : Array Value) (hw : ∀ d ∈ tables_1, d.before a0 Z = true) (ws : List Jvm.Cond) (wG1 : Int32) (wG3 : Value) (cx : OwnCx Z a0 wG1 wG3) (hEL : EW Z a0 consts_1) (h0 : Heap) (n0 : Nat) (X00 : Old Z n0 h0) (tb1 : Addr) (kb1 : ClassId) (vs1 : List Value) (f0 : Arv Z h0 tb1 kb1 .byte (4 : Int32) vs1 (.int 0)) :
    MetFree l mN7 (head1 (Jvm.Cond.code mN7 jdk_52_method_15_code 2 (some .byte) :: ws) ({ frames := 0, cells := 0, slots := 0, locals := 0 } : Room)) (fun a U => a = #[(.ref tb1), (.int 2)] ∧ Z.Warmed39 U.vm ∧ U.heap = h0) (fun _ _ _ _ _ => True) (fun _ U o U' => ∃ v L, o = .returned v ∧ Q_cfl_2_4 Z tb1 kb1 vs1 h0 n0 v U'.heap L ∧ FrameEnd U o U' L ({ frames := 0, cells := 0, slots := 0, locals := 0 } : Room).cells ({ frames := 0, cells := 0, slots := 0, locals := 0 } : Room).slots) := by
  refine MetFree.of_bodySF (plainFor_of_name pn_68381282) hisR ?_
  intro p e s m args below meth c s₁ Bd hml0 hP hK
  obtain ⟨rfl, hZ, hh⟩ := hP
  obtain ⟨wO2, wP5, wO4, wrG3, hstr, wUA, wUH, wUL⟩ := id cx
  have hx := Bd.exec
  have hby := Bd.bytes
  have hlk := Bd.notSynchronized
  have hml : c.maxLocals = 2 := hml0
  have hown : s.vm.findClass "java/lang/StringUTF16" = some m.cls := findClass_of_methodNamed Bd.named
  have hnm := (name_of_methodNamed Bd.named Bd.method).1
  have X0 : Stand p l e ({ frames := 0, cells := 0, slots := 0, locals := 0 } : Room) s m #[(.ref tb1), (.int 2)] below meth c s₁ [] 0 0 := Stand.of_body Bd
  have e0 : s₁.heap = h0 := by rw [← hh, Bd.state]; rfl
  have N0 := Fr.nil n0
  have Z0 : n0 ≤ h0.size := X00.1 ▸ X00.2.1
  have K0 : Keep h0 h0 ([] : List Addr) := Keep.refl _ _
  show OwnGoes p e below (fun o U' => ∃ v L, o = .returned v ∧ Q_cfl_2_4 Z tb1 kb1 vs1 h0 n0 v U'.heap L ∧ FrameEnd s o U' L ({ frames := 0, cells := 0, slots := 0, locals := 0 } : Room).cells ({ frames := 0, cells := 0, slots := 0, locals := 0 } : Room).slots) s₁ (entryFrame m #[(.ref tb1), (.int 2)] 2)
  refine OwnGoes.step (T' := s₁) (g' := (mkF m 0 #[vR tb1, vI 2] [])) (fun tgt kgo => castTop (ef_cfl_2_4 m tb1) kgo) ?_
  refine OwnGoes.step (T' := s₁) (g' := (mkF m 8 #[vR tb1, vI 2] [(.int 1)])) (fun tgt kgo => ?_) ?_
  · refine XS.iloadN X0.here hx rfl (hb hby d7_0) rfl ?_
    show OwnG p e below s₁ m 1 #[vR tb1, vI 2] [(.int 2)] tgt
    refine XS.aloadN X0.here hx rfl (hb hby d7_1) rfl rfl ?_
    show OwnG p e below s₁ m 2 #[vR tb1, vI 2] [(.ref tb1), (.int 2)] tgt
    obtain ⟨cl1, Ar1, q1, S1, M1, -, -⟩ := f0
    refine X0.arraylength hx (by rw [e0]; exact Ar1.1) (State.isArrayOf_alike hZ.alike Ar1.2.1) (g := (mkF m 2 #[vR tb1, vI 2] [(.ref tb1), (.int 2)])) rfl rfl (hb hby d7_2) _ ?_
    rw [len_of S1 M1]
    show OwnG p e below s₁ m 3 #[vR tb1, vI 2] [(.int 4), (.int 2)] tgt
    refine XS.isub X0.here hx rfl (hb hby d7_3) rfl ?_
    show OwnG p e below s₁ m 4 #[vR tb1, vI 2] [(.int (-2))] tgt
    refine XS.bipush X0.here hx rfl (hb hby d7_4) ?_
    show OwnG p e below s₁ m 6 #[vR tb1, vI 2] [(.int 31), (.int (-2))] tgt
    refine XS.iushr X0.here hx rfl (hb hby d7_6) rfl ?_
    show OwnG p e below s₁ m 7 #[vR tb1, vI 2] [(.int 1)] tgt
    refine XS.i2b X0.here hx rfl (hb hby d7_7) rfl ?_
    exact kgo
  refine own_leave X0 hlk (v := some (.int 1)) (fun h => by rw [Bd.returns] at h; cases h) (fun fs hr => retN X0 hx (t := .byte) Bd.returns (by simp) (hb hby d7_8) (by rw [(by decide : nar .byte (1 : Int32) = (1 : Int32))]; exact hr)) (by decide) (by decide) ?_
  show Q_cfl_2_4 Z tb1 kb1 vs1 h0 n0 _ s₁.heap _
  rw [e0]
  exact ⟨rfl, N0, rfl⟩
theorem ef_si6_2 (m : MethodId) (x0 : Addr) (x1 : Addr) : entryFrame m #[(.ref x0), (.ref x1), (.int 0), (.int 2), .null] 6 = mkF m 0 #[vR x0, vR x1, vI 0, vI 2, .val .null, vU] [] := by
  first | (simp [entryFrame, mkF, argsToLocals, Value.category]; done) | rfl
def Q_si6_2 (Z : State) (a1 : Addr) (ab1 : Addr) (kc : ClassId) (c1 : Int32) (c2 : Int32) (h0 : Heap) (n0 : Nat) (v : Option Value) (h : Heap) (L : List Loc) : Prop := ∃ (t : Addr), ∃ (k : ClassId), ∃ (N : Int32), ∃ (vs : List Value), ∃ (cd : Int32), v = none ∧ Fr n0 L ∧ Keep h0 h ([a1] : List Addr) ∧ h0.size ≤ t ∧ Exa Z h a1 "java/lang/String" ∧ Fld Z h a1 "java/lang/String" "value" "[B" (.ref t) ∧ Fld Z h a1 "java/lang/String" "coder" "B" (.int cd) ∧ Arv Z h t k .byte N vs (.int 0) ∧ (OwnStr ([c1, c2] : List Int32) cd N vs)
set_option maxRecDepth 65536 in
set_option maxHeartbeats 40000000 in
theorem rm_si6_2 (l : Launch) (Z : State) (a0 : Array Value) (hw : ∀ d ∈ tables_1, d.before a0 Z = true) (ws : List Jvm.Cond) (wG1 : Int32) (wG3 : Value) (cx : OwnCx Z a0 wG1 wG3) (hEL : EW Z a0 consts_1) (h0 : Heap) (n0 : Nat) (X00 : Old Z n0 h0) (a1 : Addr) (ab1 : Addr) (kc : ClassId) (c1 : Int32) (c2 : Int32) (f0 : Exa Z h0 a1 "java/lang/String") (f1 : Fld Z h0 a1 "java/lang/String" "value" "[B" .null) (f2 : Fld Z h0 a1 "java/lang/String" "coder" "B" (.int 0)) (f3 : n0 ≤ a1) (f4 : Arv Z h0 ab1 kc .char (2 : Int32) [(.int c1), (.int c2)] (.int 0)) (hw1 : ¬ c1 < 0 ∧ ¬ (65535 : Int32) < c1) (hw2 : ¬ c2 < 0 ∧ ¬ (65535 : Int32) < c2) :
    MetFree l mN8 (head1 (Jvm.Cond.code mN8 jdk_42_method_149_code 6 none :: ws) ({ frames := 4, cells := 2, slots := 6, locals := 57 } : Room)) (fun a U => a = #[(.ref a1), (.ref ab1), (.int 0), (.int 2), .null] ∧ Z.Warmed39 U.vm ∧ U.heap = h0) (fun _ _ _ _ _ => True) (fun _ U o U' => ∃ v L, o = .returned v ∧ Q_si6_2 Z a1 ab1 kc c1 c2 h0 n0 v U'.heap L ∧ FrameEnd U o U' L ({ frames := 4, cells := 2, slots := 6, locals := 57 } : Room).cells ({ frames := 4, cells := 2, slots := 6, locals := 57 } : Room).slots) := by
  refine MetFree.of_bodySF (plainFor_of_name pn_52039224) hisR ?_
  intro p e s m args below meth c s₁ Bd hml0 hP hK
  obtain ⟨rfl, hZ, hh⟩ := hP
  obtain ⟨wO2, wP5, wO4, wrG3, hstr, wUA, wUH, wUL⟩ := id cx
  have hx := Bd.exec
  have hby := Bd.bytes
  have hlk := Bd.notSynchronized
  have hml : c.maxLocals = 6 := hml0
  have hown : s.vm.findClass "java/lang/String" = some m.cls := findClass_of_methodNamed Bd.named
  have hnm := (name_of_methodNamed Bd.named Bd.method).1
  have X0 : Stand p l e ({ frames := 4, cells := 2, slots := 6, locals := 57 } : Room) s m #[(.ref a1), (.ref ab1), (.int 0), (.int 2), .null] below meth c s₁ [] 0 0 := Stand.of_body Bd
  have e0 : s₁.heap = h0 := by rw [← hh, Bd.state]; rfl
  have N0 := Fr.nil n0
  have Z0 : n0 ≤ h0.size := X00.1 ▸ X00.2.1
  have K0 : Keep h0 h0 ([a1] : List Addr) := Keep.refl _ _
  show OwnGoes p e below (fun o U' => ∃ v L, o = .returned v ∧ Q_si6_2 Z a1 ab1 kc c1 c2 h0 n0 v U'.heap L ∧ FrameEnd s o U' L ({ frames := 4, cells := 2, slots := 6, locals := 57 } : Room).cells ({ frames := 4, cells := 2, slots := 6, locals := 57 } : Room).slots) s₁ (entryFrame m #[(.ref a1), (.ref ab1), (.int 0), (.int 2), .null] 6)
  refine OwnGoes.step (T' := s₁) (g' := (mkF m 0 #[vR a1, vR ab1, vI 0, vI 2, .val .null, vU] [])) (fun tgt kgo => castTop (ef_si6_2 m a1 ab1) kgo) ?_
  refine OwnGoes.step (T' := s₁) (g' := (mkF m 1 #[vR a1, vR ab1, vI 0, vI 2, .val .null, vU] [(.ref a1)])) (fun tgt kgo => ?_) ?_
  · refine XS.aloadN X0.here hx rfl (hb hby d8_0) rfl rfl ?_
    exact kgo
  obtain ⟨T1, X1, e1, st1⟩ := initO X0 hx hZ hown (own_w hw 20 rfl) (own_w hw 21 rfl) (own_w hw 22 rfl) e0 (g := (mkF m 1 #[vR a1, vR ab1, vI 0, vI 2, .val .null, vU] [(.ref a1)])) rfl (by rw [hml]; rfl) rfl (hb hby d8_1) (by decide) (W := 0) (Nat.le_of_eq rfl) (by decide)
  refine OwnGoes.step (T' := T1) (g' := (mkF m 4 #[vR a1, vR ab1, vI 0, vI 2, .val .null, vU] [])) st1 ?_
  refine OwnGoes.step (T' := T1) (g' := (mkF m 27 #[vR a1, vR ab1, vI 0, vI 2, .val .null, vU] [])) (fun tgt kgo => ?_) ?_
  · refine XS.iloadN X1.here hx rfl (hb hby d8_4) rfl ?_
    show OwnG p e below T1 m 5 #[vR a1, vR ab1, vI 0, vI 2, .val .null, vU] [(.int 2)] tgt
    refine XS.ifYes X1.here hx rfl (pc0 := 5) (pc' := 27) rfl (hb hby d8_5) rfl ((if0 _ _).trans (feq (by decide : ¬ ((2 : Int32) = (0 : Int32)))).2) (by decide) (by decide) ?_
    exact kgo
  obtain ⟨T2, X2, e2, st2⟩ := getS2 X1 hx hZ hown (host := "") (Or.inl (own_w hw 40 rfl)) Via.refl e1 (wO2.ext X00.2) (g := (mkF m 27 #[vR a1, vR ab1, vI 0, vI 2, .val .null, vU] [])) rfl (hb hby d8_27)
  refine OwnGoes.step (T' := T2) (g' := (mkF m 30 #[vR a1, vR ab1, vI 0, vI 2, .val .null, vU] [(.int wG1)])) st2 ?_
  refine OwnGoes.step (T' := T2) (g' := (mkF m 36 #[vR a1, vR ab1, vI 0, vI 2, .val .null, vU] [(.int 2), (.int 0), (.ref ab1)])) (fun tgt kgo => ?_) ?_
  · refine XS.ifNo X2.here hx rfl (hb hby d8_30) rfl ((if0 _ _).trans (feq wP5).1) ?_
    show OwnG p e below T2 m 33 #[vR a1, vR ab1, vI 0, vI 2, .val .null, vU] [] tgt
    refine XS.aloadN X2.here hx rfl (hb hby d8_33) rfl rfl ?_
    show OwnG p e below T2 m 34 #[vR a1, vR ab1, vI 0, vI 2, .val .null, vU] [(.ref ab1)] tgt
    refine XS.iloadN X2.here hx rfl (hb hby d8_34) rfl ?_
    show OwnG p e below T2 m 35 #[vR a1, vR ab1, vI 0, vI 2, .val .null, vU] [(.int 0), (.ref ab1)] tgt
    refine XS.iloadN X2.here hx rfl (hb hby d8_35) rfl ?_
    exact kgo
  obtain ⟨_, _, ⟨T3, L3, k3, n3⟩, -, X3, ⟨Lc3, hQ3, l3, y3, z3⟩, st3⟩ := Jvm.LawKit.callS X2 hx (y := mN6) hown (mvT hZ (own_w hw 41 rfl)) (mvT hZ (own_w hw 42 rfl)) (mvT hZ (own_w hw 43 rfl)) (mvT hZ (own_w hw 44 rfl)) (by decide) (backOf (W := 0) (rm_c3_2 l Z a0 hw [] wG1 wG3 cx hEL h0 n0 X00 ab1 kc c1 c2 f4 hw1 hw2) hZ (own_w hw 44 rfl) (own_w hw 43 rfl) (by decide) (by decide)) (g := (mkF m 36 #[vR a1, vR ab1, vI 0, vI 2, .val .null, vU] [(.int 2), (.int 0), (.ref ab1)])) rfl (by rw [hml]; rfl) (argsL := [(.ref ab1), (.int 0), (.int 2)]) (rest := []) (lenOf pd_23256262 rfl) rfl (Nat.le_of_eq rfl) (hb hby d8_36) (fun _ _ => ⟨rfl, e2, (by decide : 0 + 2 ≤ _), (by decide : 0 + 6 ≤ _)⟩)
  dsimp only [Pt.U, Pt.locs, Pt.cells, Pt.slots] at X3 l3 y3 z3 st3 hQ3
  subst l3 y3 z3
  obtain ⟨t_3, k_3, N_3, vs_3, cd_3, rfl, Nq3, Kq3, zq3_0, fq3_0, pq3_0⟩ := hQ3
  refine OwnGoes.step (T' := T3) (g' := (mkF m 39 #[vR a1, vR ab1, vI 0, vI 2, .val .null, vU] [(.ref t_3)])) st3 ?_
  have N3 := Fr.app N0 Nq3
  have ne_a1_t_3 : a1 ≠ t_3 := Nat.ne_of_lt (Nat.lt_of_lt_of_le f0.lt zq3_0)
  have ne_ab1_t_3 : ab1 ≠ t_3 := Nat.ne_of_lt (Nat.lt_of_lt_of_le f4.lt zq3_0)
  have g_t_3 : n0 ≤ t_3 := Nat.le_trans (Nat.le_trans Z0 K0.1) zq3_0
  have s_t_3 : h0.size ≤ t_3 := Nat.le_trans K0.1 zq3_0
  have F3_1 := f0.keep Kq3
  have F3_2 := f1.keep Kq3 nin0
  have F3_3 := f2.keep Kq3 nin0
  have F3_4 := f4.keep Kq3 nin0
  have Ol3 := X00.keep Kq3 all0
  have K3 : Keep h0 T3.heap ([a1] : List Addr) := K0.trans Kq3 all0
  refine OwnGoes.step (T' := T3) (g' := (mkF m 41 #[vR a1, vR ab1, vI 0, vI 2, .val .null, vR t_3] [])) (fun tgt kgo => ?_) ?_
  · refine XS.astore X3.here hx rfl (hb hby d8_39) rfl rfl (l' := #[vR a1, vR ab1, vI 0, vI 2, .val .null, vR t_3]) rfl ?_
    exact kgo
  rcases pq3_0 with ⟨rfl, rfl, hos_N_3⟩ | ⟨rfl, rfl, hos_N_3⟩
  · skip
    refine OwnGoes.step (T' := T3) (g' := (mkF m 45 #[vR a1, vR ab1, vI 0, vI 2, .val .null, vR t_3] [(.int 2), (.ref t_3), (.ref a1)])) (fun tgt kgo => ?_) ?_
    · refine XS.aloadN X3.here hx rfl (hb hby d8_41) rfl rfl ?_
      show OwnG p e below T3 m 42 #[vR a1, vR ab1, vI 0, vI 2, .val .null, vR t_3] [(.ref a1)] tgt
      refine XS.aload X3.here hx rfl (hb hby d8_42) rfl rfl ?_
      show OwnG p e below T3 m 44 #[vR a1, vR ab1, vI 0, vI 2, .val .null, vR t_3] [(.ref t_3), (.ref a1)] tgt
      refine XS.iloadN X3.here hx rfl (hb hby d8_44) rfl ?_
      exact kgo
    obtain ⟨_, _, ⟨T4, L4, k4, n4⟩, -, X4, ⟨Lc4, hQ4, l4, y4, z4⟩, st4⟩ := Jvm.LawKit.callS X3 hx (y := mN7) hown (mvT hZ (own_w hw 48 rfl)) (mvT hZ (own_w hw 49 rfl)) (mvT hZ (own_w hw 43 rfl)) (mvT hZ (own_w hw 50 rfl)) (by decide) (backOf (W := 1) (rm_cfl_2_2 l Z a0 hw [] wG1 wG3 cx hEL T3.heap n0 Ol3 t_3 k_3 vs_3 fq3_0) hZ (own_w hw 50 rfl) (own_w hw 43 rfl) (by decide) (by decide)) (g := (mkF m 45 #[vR a1, vR ab1, vI 0, vI 2, .val .null, vR t_3] [(.int 2), (.ref t_3), (.ref a1)])) rfl (by rw [hml]; rfl) (argsL := [(.ref t_3), (.int 2)]) (rest := [(.ref a1)]) (lenOf pd_68873100 rfl) rfl (Nat.le_of_eq rfl) (hb hby d8_45) (fun _ _ => ⟨rfl, rfl, (by decide : 2 + 0 ≤ _), (by decide : 6 + 0 ≤ _)⟩)
    dsimp only [Pt.U, Pt.locs, Pt.cells, Pt.slots] at X4 l4 y4 z4 st4 hQ4
    subst l4 y4 z4
    obtain ⟨rfl, Nq4, eq4⟩ := hQ4
    refine OwnGoes.step (T' := T4) (g' := (mkF m 48 #[vR a1, vR ab1, vI 0, vI 2, .val .null, vR t_3] [(.int 0), (.ref a1)])) st4 ?_
    have N4 := Fr.app N3 Nq4
    obtain ⟨T5, h5, X5, e5, W5, st5⟩ := putFN X4 hx hZ hown (own_w hw 30 rfl) Via.refl eq4 F3_3 F3_1 (Or.inr ⟨(own_w hw 26 rfl), rfl, hnm⟩) (own_w hw 10 rfl) (ty := .byte) (v' := (.int (nar .byte (0 : Int32)))) (by decide) rfl (fits_nar_byte _) (g := (mkF m 48 #[vR a1, vR ab1, vI 0, vI 2, .val .null, vR t_3] [(.int 0), (.ref a1)])) rfl rfl (hb hby d8_48)
    refine OwnGoes.step (T' := T5) (g' := (mkF m 51 #[vR a1, vR ab1, vI 0, vI 2, .val .null, vR t_3] [])) st5 ?_
    have Fw5 := F3_3.same W5
    rw [(by decide : nar .byte (0 : Int32) = (0 : Int32))] at Fw5
    have F5_5 := F3_1.wr W5
    have F5_6 := F3_2.other W5 (Or.inr (slot_ne (Or.inr (own_w hw 25 rfl)) (Or.inr (own_w hw 26 rfl)) (by decide) (t := (.array .byte)) (t' := .byte) (by decide) (by decide)))
    have F5_7 := F3_4.other W5 (Ne.symm (Exa.neArv F3_1 F3_4 (own_w hw 10 rfl)))
    have F5_8 := fq3_0.other W5 (Ne.symm ne_a1_t_3)
    have Ol5 := Ol3.wr W5 f3
    have K5 : Keep h0 h5 ([a1] : List Addr) := K3.wr W5 (Or.inl (List.mem_of_getElem? (i := 0) rfl))
    have N5 := Fr.snoc X5 N4 f3
    refine OwnGoes.step (T' := T5) (g' := (mkF m 54 #[vR a1, vR ab1, vI 0, vI 2, .val .null, vR t_3] [(.ref t_3), (.ref a1)])) (fun tgt kgo => ?_) ?_
    · refine XS.aloadN X5.here hx rfl (hb hby d8_51) rfl rfl ?_
      show OwnG p e below T5 m 52 #[vR a1, vR ab1, vI 0, vI 2, .val .null, vR t_3] [(.ref a1)] tgt
      refine XS.aload X5.here hx rfl (hb hby d8_52) rfl rfl ?_
      exact kgo
    obtain ⟨T6, h6, X6, e6, W6, st6⟩ := putF X5 hx hZ hown (host := "") (Or.inl (own_w hw 29 rfl)) Via.refl e5 F5_6 F5_5 (Or.inr ⟨(own_w hw 25 rfl), rfl, hnm⟩) (own_w hw 10 rfl) (ty := (.array .byte)) (by decide) rfl rfl (g := (mkF m 54 #[vR a1, vR ab1, vI 0, vI 2, .val .null, vR t_3] [(.ref t_3), (.ref a1)])) rfl rfl (hb hby d8_54)
    refine OwnGoes.step (T' := T6) (g' := (mkF m 57 #[vR a1, vR ab1, vI 0, vI 2, .val .null, vR t_3] [])) st6 ?_
    have Fw6 := F5_6.same W6
    have F6_9 := F5_5.wr W6
    have F6_10 := Fw5.other W6 (Or.inr (slot_ne (Or.inr (own_w hw 26 rfl)) (Or.inr (own_w hw 25 rfl)) (by decide) (t := .byte) (t' := (.array .byte)) (by decide) (by decide)))
    have F6_11 := F5_7.other W6 (Ne.symm (Exa.neArv F5_5 F5_7 (own_w hw 10 rfl)))
    have F6_12 := F5_8.other W6 (Ne.symm ne_a1_t_3)
    have Ol6 := Ol5.wr W6 f3
    have K6 : Keep h0 h6 ([a1] : List Addr) := K5.wr W6 (Or.inl (List.mem_of_getElem? (i := 0) rfl))
    have N6 := Fr.snoc X6 N5 f3
    refine own_leave X6 hlk (v := none) (fun _ => rfl) (fun fs hr => X6.returnOut hx Bd.returns (hb hby d8_57) hr) (by decide) (by decide) ?_
    show Q_si6_2 Z a1 ab1 kc c1 c2 h0 n0 _ T6.heap _
    rw [e6]
    exact ⟨t_3, k_3, (2 : Int32), vs_3, (0 : Int32), rfl, N6, K6, s_t_3, F6_9, Fw6, F6_10, F6_12, hos_N_3⟩
  refine OwnGoes.step (T' := T3) (g' := (mkF m 45 #[vR a1, vR ab1, vI 0, vI 2, .val .null, vR t_3] [(.int 2), (.ref t_3), (.ref a1)])) (fun tgt kgo => ?_) ?_
  · refine XS.aloadN X3.here hx rfl (hb hby d8_41) rfl rfl ?_
    show OwnG p e below T3 m 42 #[vR a1, vR ab1, vI 0, vI 2, .val .null, vR t_3] [(.ref a1)] tgt
    refine XS.aload X3.here hx rfl (hb hby d8_42) rfl rfl ?_
    show OwnG p e below T3 m 44 #[vR a1, vR ab1, vI 0, vI 2, .val .null, vR t_3] [(.ref t_3), (.ref a1)] tgt
    refine XS.iloadN X3.here hx rfl (hb hby d8_44) rfl ?_
    exact kgo
  obtain ⟨_, _, ⟨T8, L8, k8, n8⟩, -, X8, ⟨Lc8, hQ8, l8, y8, z8⟩, st8⟩ := Jvm.LawKit.callS X3 hx (y := mN7) hown (mvT hZ (own_w hw 48 rfl)) (mvT hZ (own_w hw 49 rfl)) (mvT hZ (own_w hw 43 rfl)) (mvT hZ (own_w hw 50 rfl)) (by decide) (backOf (W := 1) (rm_cfl_2_4 l Z a0 hw [] wG1 wG3 cx hEL T3.heap n0 Ol3 t_3 k_3 vs_3 fq3_0) hZ (own_w hw 50 rfl) (own_w hw 43 rfl) (by decide) (by decide)) (g := (mkF m 45 #[vR a1, vR ab1, vI 0, vI 2, .val .null, vR t_3] [(.int 2), (.ref t_3), (.ref a1)])) rfl (by rw [hml]; rfl) (argsL := [(.ref t_3), (.int 2)]) (rest := [(.ref a1)]) (lenOf pd_68873100 rfl) rfl (Nat.le_of_eq rfl) (hb hby d8_45) (fun _ _ => ⟨rfl, rfl, (by decide : 2 + 0 ≤ _), (by decide : 6 + 0 ≤ _)⟩)
  dsimp only [Pt.U, Pt.locs, Pt.cells, Pt.slots] at X8 l8 y8 z8 st8 hQ8
  subst l8 y8 z8
  obtain ⟨rfl, Nq8, eq8⟩ := hQ8
  refine OwnGoes.step (T' := T8) (g' := (mkF m 48 #[vR a1, vR ab1, vI 0, vI 2, .val .null, vR t_3] [(.int 1), (.ref a1)])) st8 ?_
  have N8 := Fr.app N3 Nq8
  obtain ⟨T9, h9, X9, e9, W9, st9⟩ := putFN X8 hx hZ hown (own_w hw 30 rfl) Via.refl eq8 F3_3 F3_1 (Or.inr ⟨(own_w hw 26 rfl), rfl, hnm⟩) (own_w hw 10 rfl) (ty := .byte) (v' := (.int (nar .byte (1 : Int32)))) (by decide) rfl (fits_nar_byte _) (g := (mkF m 48 #[vR a1, vR ab1, vI 0, vI 2, .val .null, vR t_3] [(.int 1), (.ref a1)])) rfl rfl (hb hby d8_48)
  refine OwnGoes.step (T' := T9) (g' := (mkF m 51 #[vR a1, vR ab1, vI 0, vI 2, .val .null, vR t_3] [])) st9 ?_
  have Fw9 := F3_3.same W9
  rw [(by decide : nar .byte (1 : Int32) = (1 : Int32))] at Fw9
  have F9_13 := F3_1.wr W9
  have F9_14 := F3_2.other W9 (Or.inr (slot_ne (Or.inr (own_w hw 25 rfl)) (Or.inr (own_w hw 26 rfl)) (by decide) (t := (.array .byte)) (t' := .byte) (by decide) (by decide)))
  have F9_15 := F3_4.other W9 (Ne.symm (Exa.neArv F3_1 F3_4 (own_w hw 10 rfl)))
  have F9_16 := fq3_0.other W9 (Ne.symm ne_a1_t_3)
  have Ol9 := Ol3.wr W9 f3
  have K9 : Keep h0 h9 ([a1] : List Addr) := K3.wr W9 (Or.inl (List.mem_of_getElem? (i := 0) rfl))
  have N9 := Fr.snoc X9 N8 f3
  refine OwnGoes.step (T' := T9) (g' := (mkF m 54 #[vR a1, vR ab1, vI 0, vI 2, .val .null, vR t_3] [(.ref t_3), (.ref a1)])) (fun tgt kgo => ?_) ?_
  · refine XS.aloadN X9.here hx rfl (hb hby d8_51) rfl rfl ?_
    show OwnG p e below T9 m 52 #[vR a1, vR ab1, vI 0, vI 2, .val .null, vR t_3] [(.ref a1)] tgt
    refine XS.aload X9.here hx rfl (hb hby d8_52) rfl rfl ?_
    exact kgo
  obtain ⟨T10, h10, X10, e10, W10, st10⟩ := putF X9 hx hZ hown (host := "") (Or.inl (own_w hw 29 rfl)) Via.refl e9 F9_14 F9_13 (Or.inr ⟨(own_w hw 25 rfl), rfl, hnm⟩) (own_w hw 10 rfl) (ty := (.array .byte)) (by decide) rfl rfl (g := (mkF m 54 #[vR a1, vR ab1, vI 0, vI 2, .val .null, vR t_3] [(.ref t_3), (.ref a1)])) rfl rfl (hb hby d8_54)
  refine OwnGoes.step (T' := T10) (g' := (mkF m 57 #[vR a1, vR ab1, vI 0, vI 2, .val .null, vR t_3] [])) st10 ?_
  have Fw10 := F9_14.same W10
  have F10_17 := F9_13.wr W10
  have F10_18 := Fw9.other W10 (Or.inr (slot_ne (Or.inr (own_w hw 26 rfl)) (Or.inr (own_w hw 25 rfl)) (by decide) (t := .byte) (t' := (.array .byte)) (by decide) (by decide)))
  have F10_19 := F9_15.other W10 (Ne.symm (Exa.neArv F9_13 F9_15 (own_w hw 10 rfl)))
  have F10_20 := F9_16.other W10 (Ne.symm ne_a1_t_3)
  have Ol10 := Ol9.wr W10 f3
  have K10 : Keep h0 h10 ([a1] : List Addr) := K9.wr W10 (Or.inl (List.mem_of_getElem? (i := 0) rfl))
  have N10 := Fr.snoc X10 N9 f3
  refine own_leave X10 hlk (v := none) (fun _ => rfl) (fun fs hr => X10.returnOut hx Bd.returns (hb hby d8_57) hr) (by decide) (by decide) ?_
  show Q_si6_2 Z a1 ab1 kc c1 c2 h0 n0 _ T10.heap _
  rw [e10]
  exact ⟨t_3, k_3, (4 : Int32), vs_3, (1 : Int32), rfl, N10, K10, s_t_3, F10_17, Fw10, F10_18, F10_20, hos_N_3⟩
theorem ef_si2_2 (m : MethodId) (x0 : Addr) (x1 : Addr) : entryFrame m #[(.ref x0), (.ref x1)] 2 = mkF m 0 #[vR x0, vR x1] [] := by
  first | (simp [entryFrame, mkF, argsToLocals, Value.category]; done) | rfl
def Q_si2_2 (Z : State) (a1 : Addr) (ab1 : Addr) (kc : ClassId) (c1 : Int32) (c2 : Int32) (h0 : Heap) (n0 : Nat) (v : Option Value) (h : Heap) (L : List Loc) : Prop := ∃ (t : Addr), ∃ (k : ClassId), ∃ (N : Int32), ∃ (vs : List Value), ∃ (cd : Int32), v = none ∧ Fr n0 L ∧ Keep h0 h ([a1] : List Addr) ∧ h0.size ≤ t ∧ Exa Z h a1 "java/lang/String" ∧ Fld Z h a1 "java/lang/String" "value" "[B" (.ref t) ∧ Fld Z h a1 "java/lang/String" "coder" "B" (.int cd) ∧ Arv Z h t k .byte N vs (.int 0) ∧ (OwnStr ([c1, c2] : List Int32) cd N vs)
set_option maxRecDepth 65536 in
set_option maxHeartbeats 40000000 in
theorem rm_si2_2 (l : Launch) (Z : State) (a0 : Array Value) (hw : ∀ d ∈ tables_1, d.before a0 Z = true) (ws : List Jvm.Cond) (wG1 : Int32) (wG3 : Value) (cx : OwnCx Z a0 wG1 wG3) (hEL : EW Z a0 consts_1) (h0 : Heap) (n0 : Nat) (X00 : Old Z n0 h0) (a1 : Addr) (ab1 : Addr) (kc : ClassId) (c1 : Int32) (c2 : Int32) (f0 : Exa Z h0 a1 "java/lang/String") (f1 : Fld Z h0 a1 "java/lang/String" "value" "[B" .null) (f2 : Fld Z h0 a1 "java/lang/String" "coder" "B" (.int 0)) (f3 : n0 ≤ a1) (f4 : Arv Z h0 ab1 kc .char (2 : Int32) [(.int c1), (.int c2)] (.int 0)) (hw1 : ¬ c1 < 0 ∧ ¬ (65535 : Int32) < c1) (hw2 : ¬ c2 < 0 ∧ ¬ (65535 : Int32) < c2) :
    MetFree l mN9 (head1 (Jvm.Cond.code mN9 jdk_42_method_3_code 2 none :: ws) ({ frames := 5, cells := 2, slots := 6, locals := 74 } : Room)) (fun a U => a = #[(.ref a1), (.ref ab1)] ∧ Z.Warmed39 U.vm ∧ U.heap = h0) (fun _ _ _ _ _ => True) (fun _ U o U' => ∃ v L, o = .returned v ∧ Q_si2_2 Z a1 ab1 kc c1 c2 h0 n0 v U'.heap L ∧ FrameEnd U o U' L ({ frames := 5, cells := 2, slots := 6, locals := 74 } : Room).cells ({ frames := 5, cells := 2, slots := 6, locals := 74 } : Room).slots) := by
  refine MetFree.of_bodySF (plainFor_of_name pn_52039224) hisR ?_
  intro p e s m args below meth c s₁ Bd hml0 hP hK
  obtain ⟨rfl, hZ, hh⟩ := hP
  obtain ⟨wO2, wP5, wO4, wrG3, hstr, wUA, wUH, wUL⟩ := id cx
  have hx := Bd.exec
  have hby := Bd.bytes
  have hlk := Bd.notSynchronized
  have hml : c.maxLocals = 2 := hml0
  have hown : s.vm.findClass "java/lang/String" = some m.cls := findClass_of_methodNamed Bd.named
  have hnm := (name_of_methodNamed Bd.named Bd.method).1
  have X0 : Stand p l e ({ frames := 5, cells := 2, slots := 6, locals := 74 } : Room) s m #[(.ref a1), (.ref ab1)] below meth c s₁ [] 0 0 := Stand.of_body Bd
  have e0 : s₁.heap = h0 := by rw [← hh, Bd.state]; rfl
  have N0 := Fr.nil n0
  have Z0 : n0 ≤ h0.size := X00.1 ▸ X00.2.1
  have K0 : Keep h0 h0 ([a1] : List Addr) := Keep.refl _ _
  show OwnGoes p e below (fun o U' => ∃ v L, o = .returned v ∧ Q_si2_2 Z a1 ab1 kc c1 c2 h0 n0 v U'.heap L ∧ FrameEnd s o U' L ({ frames := 5, cells := 2, slots := 6, locals := 74 } : Room).cells ({ frames := 5, cells := 2, slots := 6, locals := 74 } : Room).slots) s₁ (entryFrame m #[(.ref a1), (.ref ab1)] 2)
  refine OwnGoes.step (T' := s₁) (g' := (mkF m 0 #[vR a1, vR ab1] [])) (fun tgt kgo => castTop (ef_si2_2 m a1 ab1) kgo) ?_
  refine OwnGoes.step (T' := s₁) (g' := (mkF m 6 #[vR a1, vR ab1] [.null, (.int 2), (.int 0), (.ref ab1), (.ref a1)])) (fun tgt kgo => ?_) ?_
  · refine XS.aloadN X0.here hx rfl (hb hby d9_0) rfl rfl ?_
    show OwnG p e below s₁ m 1 #[vR a1, vR ab1] [(.ref a1)] tgt
    refine XS.aloadN X0.here hx rfl (hb hby d9_1) rfl rfl ?_
    show OwnG p e below s₁ m 2 #[vR a1, vR ab1] [(.ref ab1), (.ref a1)] tgt
    refine XS.iconst X0.here hx rfl (hb hby d9_2) ?_
    show OwnG p e below s₁ m 3 #[vR a1, vR ab1] [(.int 0), (.ref ab1), (.ref a1)] tgt
    refine XS.aloadN X0.here hx rfl (hb hby d9_3) rfl rfl ?_
    show OwnG p e below s₁ m 4 #[vR a1, vR ab1] [(.ref ab1), (.int 0), (.ref ab1), (.ref a1)] tgt
    obtain ⟨cl1, Ar1, q1, S1, M1, -, -⟩ := f4
    refine X0.arraylength hx (by rw [e0]; exact Ar1.1) (State.isArrayOf_alike hZ.alike Ar1.2.1) (g := (mkF m 4 #[vR a1, vR ab1] [(.ref ab1), (.int 0), (.ref ab1), (.ref a1)])) rfl rfl (hb hby d9_4) _ ?_
    rw [len_of S1 M1]
    show OwnG p e below s₁ m 5 #[vR a1, vR ab1] [(.int 2), (.int 0), (.ref ab1), (.ref a1)] tgt
    refine XS.aconstNull X0.here hx rfl (hb hby d9_5) ?_
    exact kgo
  obtain ⟨_, _, ⟨T2, L2, k2, n2⟩, -, X2, ⟨Lc2, hQ2, l2, y2, z2⟩, st2⟩ := X0.specialBack hx (y := mN8) rfl hown (mvT hZ (own_w hw 16 rfl)) (mvT hZ (own_w hw 17 rfl)) (mvT hZ (own_w hw 19 rfl)) (by decide) (backOf (W := 0) (rm_si6_2 l Z a0 hw [] wG1 wG3 cx hEL h0 n0 X00 a1 ab1 kc c1 c2 f0 f1 f2 f3 f4 hw1 hw2) hZ (own_w hw 19 rfl) (own_w hw 11 rfl) (by decide) (by decide)) (g := (mkF m 6 #[vR a1, vR ab1] [.null, (.int 2), (.int 0), (.ref ab1), (.ref a1)])) rfl (by rw [hml]; rfl) (Steps.refl _) (a := a1) (argsL := [(.ref ab1), (.int 0), (.int 2), .null]) (rest := []) (lenOf pd_10261703 rfl) rfl (Nat.le_of_eq rfl) (hb hby d9_6) (fun _ _ => ⟨rfl, e0, (by decide : 0 + 2 ≤ _), (by decide : 0 + 6 ≤ _)⟩)
  dsimp only [Pt.U, Pt.locs, Pt.cells, Pt.slots] at X2 l2 y2 z2 st2 hQ2
  subst l2 y2 z2
  obtain ⟨t_2, k_2, N_2, vs_2, cd_2, rfl, Nq2, Kq2, zq2_0, fq2_0, fq2_1, fq2_2, fq2_3, pq2_0⟩ := hQ2
  refine OwnGoes.tr (T' := T2) (g' := (mkF m 9 #[vR a1, vR ab1] [])) st2 ?_
  have N2 := Fr.app N0 Nq2
  have ne_a1_t_2 : a1 ≠ t_2 := Nat.ne_of_lt (Nat.lt_of_lt_of_le f0.lt zq2_0)
  have ne_ab1_t_2 : ab1 ≠ t_2 := Nat.ne_of_lt (Nat.lt_of_lt_of_le f4.lt zq2_0)
  have g_t_2 : n0 ≤ t_2 := Nat.le_trans (Nat.le_trans Z0 K0.1) zq2_0
  have s_t_2 : h0.size ≤ t_2 := Nat.le_trans K0.1 zq2_0
  have F2_1 := f0.keep Kq2
  have F2_2 := f4.keep Kq2 (ninS (Ne.symm (Exa.neArv f0 f4 (own_w hw 10 rfl))) nin0)
  have Ol2 := X00.keep Kq2 (allS f3 all0)
  have K2 : Keep h0 T2.heap ([a1] : List Addr) := K0.trans Kq2 (allS (Or.inl (List.mem_of_getElem? (i := 0) rfl)) all0)
  refine own_leave X2 hlk (v := none) (fun _ => rfl) (fun fs hr => X2.returnOut hx Bd.returns (hb hby d9_9) hr) (by decide) (by decide) ?_
  show Q_si2_2 Z a1 ab1 kc c1 c2 h0 n0 _ T2.heap _
  exact ⟨t_2, k_2, N_2, vs_2, cd_2, rfl, N2, K2, s_t_2, fq2_0, fq2_1, fq2_2, fq2_3, pq2_0⟩
theorem ef_c5_3 (m : MethodId) (x0 : Addr) (x2 : Addr) : entryFrame m #[(.ref x0), (.int 0), (.ref x2), (.int 0), (.int 3)] 7 = mkF m 0 #[vR x0, vI 0, vR x2, vI 0, vI 3, vU, vU] [] := by
  first | (simp [entryFrame, mkF, argsToLocals, Value.category]; done) | rfl
def Q_c5_3 (Z : State) (ab1 : Addr) (tb1 : Addr) (kc : ClassId) (kb1 : ClassId) (c1 : Int32) (c2 : Int32) (c3 : Int32) (h0 : Heap) (n0 : Nat) (v : Option Value) (h : Heap) (L : List Loc) : Prop := ∃ (r : Int32), ∃ (vs : List Value), v = some (.int r) ∧ Fr n0 L ∧ Keep h0 h ([tb1] : List Addr) ∧ Arv Z h tb1 kb1 .byte (3 : Int32) vs (.int 0) ∧ ((r = (3 : Int32) ∧ vs = [(.int (nar .byte c1)), (.int (nar .byte c2)), (.int (nar .byte c3))] ∧ ¬ ((255 : Int32) < c1) ∧ ¬ ((255 : Int32) < c2) ∧ ¬ ((255 : Int32) < c3)) ∨ (r = (0 : Int32) ∧ (255 : Int32) < c1) ∨ (r = (1 : Int32) ∧ (255 : Int32) < c2) ∨ (r = (2 : Int32) ∧ (255 : Int32) < c3))
set_option maxRecDepth 65536 in
set_option maxHeartbeats 40000000 in
theorem rm_c5_3 (l : Launch) (Z : State) (a0 : Array Value) (hw : ∀ d ∈ tables_1, d.before a0 Z = true) (ws : List Jvm.Cond) (wG1 : Int32) (wG3 : Value) (cx : OwnCx Z a0 wG1 wG3) (hEL : EW Z a0 consts_1) (h0 : Heap) (n0 : Nat) (X00 : Old Z n0 h0) (ab1 : Addr) (tb1 : Addr) (kc : ClassId) (kb1 : ClassId) (c1 : Int32) (c2 : Int32) (c3 : Int32) (f0 : Arv Z h0 ab1 kc .char (3 : Int32) [(.int c1), (.int c2), (.int c3)] (.int 0)) (f1 : Arv Z h0 tb1 kb1 .byte (3 : Int32) [(.int 0), (.int 0), (.int 0)] (.int 0)) (f2 : n0 ≤ tb1) :
    MetFree l mN2 (head1 (Jvm.Cond.code mN2 jdk_52_method_21_code 7 (some .int) :: ws) ({ frames := 0, cells := 0, slots := 0, locals := 0 } : Room)) (fun a U => a = #[(.ref ab1), (.int 0), (.ref tb1), (.int 0), (.int 3)] ∧ Z.Warmed39 U.vm ∧ U.heap = h0) (fun _ _ _ _ _ => True) (fun _ U o U' => ∃ v L, o = .returned v ∧ Q_c5_3 Z ab1 tb1 kc kb1 c1 c2 c3 h0 n0 v U'.heap L ∧ FrameEnd U o U' L ({ frames := 0, cells := 0, slots := 0, locals := 0 } : Room).cells ({ frames := 0, cells := 0, slots := 0, locals := 0 } : Room).slots) := by
  refine MetFree.of_bodySF (plainFor_of_name pn_68381282) hisR ?_
  intro p e s m args below meth c s₁ Bd hml0 hP hK
  obtain ⟨rfl, hZ, hh⟩ := hP
  obtain ⟨wO2, wP5, wO4, wrG3, hstr, wUA, wUH, wUL⟩ := id cx
  have hx := Bd.exec
  have hby := Bd.bytes
  have hlk := Bd.notSynchronized
  have hml : c.maxLocals = 7 := hml0
  have hown : s.vm.findClass "java/lang/StringUTF16" = some m.cls := findClass_of_methodNamed Bd.named
  have hnm := (name_of_methodNamed Bd.named Bd.method).1
  have X0 : Stand p l e ({ frames := 0, cells := 0, slots := 0, locals := 0 } : Room) s m #[(.ref ab1), (.int 0), (.ref tb1), (.int 0), (.int 3)] below meth c s₁ [] 0 0 := Stand.of_body Bd
  have e0 : s₁.heap = h0 := by rw [← hh, Bd.state]; rfl
  have N0 := Fr.nil n0
  have Z0 : n0 ≤ h0.size := X00.1 ▸ X00.2.1
  have K0 : Keep h0 h0 ([tb1] : List Addr) := Keep.refl _ _
  show OwnGoes p e below (fun o U' => ∃ v L, o = .returned v ∧ Q_c5_3 Z ab1 tb1 kc kb1 c1 c2 c3 h0 n0 v U'.heap L ∧ FrameEnd s o U' L ({ frames := 0, cells := 0, slots := 0, locals := 0 } : Room).cells ({ frames := 0, cells := 0, slots := 0, locals := 0 } : Room).slots) s₁ (entryFrame m #[(.ref ab1), (.int 0), (.ref tb1), (.int 0), (.int 3)] 7)
  refine OwnGoes.step (T' := s₁) (g' := (mkF m 0 #[vR ab1, vI 0, vR tb1, vI 0, vI 3, vU, vU] [])) (fun tgt kgo => castTop (ef_c5_3 m ab1 tb1) kgo) ?_
  refine OwnGoes.step (T' := s₁) (g' := (mkF m 20 #[vR ab1, vI 0, vR tb1, vI 0, vI 3, vI 0, vI c1] [(.int 255), (.int c1)])) (fun tgt kgo => ?_) ?_
  · refine XS.iconst X0.here hx rfl (hb hby d2_0) ?_
    show OwnG p e below s₁ m 1 #[vR ab1, vI 0, vR tb1, vI 0, vI 3, vU, vU] [(.int 0)] tgt
    refine XS.istore X0.here hx rfl (hb hby d2_1) rfl (l' := #[vR ab1, vI 0, vR tb1, vI 0, vI 3, vI 0, vU]) rfl ?_
    show OwnG p e below s₁ m 3 #[vR ab1, vI 0, vR tb1, vI 0, vI 3, vI 0, vU] [] tgt
    refine XS.iload X0.here hx rfl (hb hby d2_3) rfl ?_
    show OwnG p e below s₁ m 5 #[vR ab1, vI 0, vR tb1, vI 0, vI 3, vI 0, vU] [(.int 0)] tgt
    refine XS.iload X0.here hx rfl (hb hby d2_5) rfl ?_
    show OwnG p e below s₁ m 7 #[vR ab1, vI 0, vR tb1, vI 0, vI 3, vI 0, vU] [(.int 3), (.int 0)] tgt
    refine XS.icmpNo X0.here hx rfl (hb hby d2_7) rfl (tlt (by decide : (0 : Int32) < (3 : Int32))).2.1 ?_
    show OwnG p e below s₁ m 10 #[vR ab1, vI 0, vR tb1, vI 0, vI 3, vI 0, vU] [] tgt
    refine XS.aloadN X0.here hx rfl (hb hby d2_10) rfl rfl ?_
    show OwnG p e below s₁ m 11 #[vR ab1, vI 0, vR tb1, vI 0, vI 3, vI 0, vU] [(.ref ab1)] tgt
    refine XS.iloadN X0.here hx rfl (hb hby d2_11) rfl ?_
    show OwnG p e below s₁ m 12 #[vR ab1, vI 0, vR tb1, vI 0, vI 3, vI 0, vU] [(.int 0), (.ref ab1)] tgt
    obtain ⟨cl1, Ar1, q1, S1, M1, H1, G1⟩ := f0
    refine X0.caload hx (j := (0 : Int32)) (v := (.int c1)) (by rw [e0]; exact Ar1.1) (State.isArrayOf_alike hZ.alike Ar1.2.1) Ar1.2.2 (inb_of S1 ⟨by decide, by decide⟩) (Has.at H1 (inb_of S1 ⟨by decide, by decide⟩) rfl) (g := (mkF m 12 #[vR ab1, vI 0, vR tb1, vI 0, vI 3, vI 0, vU] [(.int 0), (.ref ab1)])) rfl rfl (hb hby d2_12) _ ?_
    show OwnG p e below s₁ m 13 #[vR ab1, vI 0, vR tb1, vI 0, vI 3, vI 0, vU] [(.int c1)] tgt
    refine XS.istore X0.here hx rfl (hb hby d2_13) rfl (l' := #[vR ab1, vI 0, vR tb1, vI 0, vI 3, vI 0, vI c1]) rfl ?_
    show OwnG p e below s₁ m 15 #[vR ab1, vI 0, vR tb1, vI 0, vI 3, vI 0, vI c1] [] tgt
    refine XS.iload X0.here hx rfl (hb hby d2_15) rfl ?_
    show OwnG p e below s₁ m 17 #[vR ab1, vI 0, vR tb1, vI 0, vI 3, vI 0, vI c1] [(.int c1)] tgt
    refine XS.sipush X0.here hx rfl (hb hby d2_17) ?_
    exact kgo
  by_cases cc2 : (255 : Int32) < c1
  · skip
    refine OwnGoes.step (T' := s₁) (g' := (mkF m 25 #[vR ab1, vI 0, vR tb1, vI 0, vI 3, vI 0, vI c1] [(.int 0)])) (fun tgt kgo => ?_) ?_
    · refine XS.icmpNo X0.here hx rfl (hb hby d2_20) rfl (tlt cc2).2.2.2 ?_
      show OwnG p e below s₁ m 23 #[vR ab1, vI 0, vR tb1, vI 0, vI 3, vI 0, vI c1] [] tgt
      refine XS.iload X0.here hx rfl (hb hby d2_23) rfl ?_
      exact kgo
    refine own_leave X0 hlk (v := some (.int 0)) (fun h => by rw [Bd.returns] at h; cases h) (fun fs hr => retI X0 hx Bd.returns (hb hby d2_25) hr) (by decide) (by decide) ?_
    show Q_c5_3 Z ab1 tb1 kc kb1 c1 c2 c3 h0 n0 _ s₁.heap _
    rw [e0]
    exact ⟨(0 : Int32), [(.int 0), (.int 0), (.int 0)], rfl, N0, K0, f1, (Or.inr (Or.inl ⟨rfl, cc2⟩))⟩
  refine OwnGoes.step (T' := s₁) (g' := (mkF m 31 #[vR ab1, vI 0, vR tb1, vI 0, vI 3, vI 0, vI c1] [(.int (nar .byte c1)), (.int 0), (.ref tb1)])) (fun tgt kgo => ?_) ?_
  · refine XS.icmpYes X0.here hx rfl (pc0 := 20) (pc' := 26) rfl (hb hby d2_20) rfl (flt cc2).2.2.2 (by decide) (by decide) ?_
    show OwnG p e below s₁ m 26 #[vR ab1, vI 0, vR tb1, vI 0, vI 3, vI 0, vI c1] [] tgt
    refine XS.aloadN X0.here hx rfl (hb hby d2_26) rfl rfl ?_
    show OwnG p e below s₁ m 27 #[vR ab1, vI 0, vR tb1, vI 0, vI 3, vI 0, vI c1] [(.ref tb1)] tgt
    refine XS.iloadN X0.here hx rfl (hb hby d2_27) rfl ?_
    show OwnG p e below s₁ m 28 #[vR ab1, vI 0, vR tb1, vI 0, vI 3, vI 0, vI c1] [(.int 0), (.ref tb1)] tgt
    refine XS.iload X0.here hx rfl (hb hby d2_28) rfl ?_
    show OwnG p e below s₁ m 30 #[vR ab1, vI 0, vR tb1, vI 0, vI 3, vI 0, vI c1] [(.int c1), (.int 0), (.ref tb1)] tgt
    refine XS.i2b X0.here hx rfl (hb hby d2_30) rfl ?_
    exact kgo
  obtain ⟨cl4, Ar4, q4, S4, M4, H4, G4⟩ := id f1
  obtain ⟨T4, h4, X4, e4, W4, st4⟩ := stB X0 hx hZ e0 Ar4 (j := (0 : Int32)) (inb_of S4 ⟨by decide, by decide⟩) (g := (mkF m 31 #[vR ab1, vI 0, vR tb1, vI 0, vI 3, vI 0, vI c1] [(.int (nar .byte c1)), (.int 0), (.ref tb1)])) rfl rfl (hb hby d2_31)
  refine OwnGoes.step (T' := T4) (g' := (mkF m 32 #[vR ab1, vI 0, vR tb1, vI 0, vI 3, vI 0, vI c1] [])) st4 ?_
  have V4 : Arv Z h4 tb1 kb1 .byte (3 : Int32) [(.int (nar .byte (nar .byte c1))), (.int 0), (.int 0)] (.int 0) := Arv.set Ar4 q4 S4 M4 H4 G4 (fits_nar_byte _) W4 0 rfl (Nat.le_of_ble_eq_true rfl)
  rw [own_nar2_byte] at V4
  have V4' : Arv Z h4 tb1 kb1 .byte (3 : Int32) [(.int (nar .byte c1)), (.int 0), (.int 0)] (.int 0) := V4
  have F4_1 := f0.other W4 (own_arv_ty f0 f1 (by decide))
  have Ol4 := X00.wr W4 f2
  have K4 : Keep h0 h4 ([tb1] : List Addr) := K0.wr W4 (Or.inl (List.mem_of_getElem? (i := 0) rfl))
  have N4 := Fr.snoc X4 N0 f2
  refine OwnGoes.step (T' := T4) (g' := (mkF m 20 #[vR ab1, vI 1, vR tb1, vI 1, vI 3, vI 1, vI c2] [(.int 255), (.int c2)])) (fun tgt kgo => ?_) ?_
  · refine XS.iinc X4.here hx rfl (hb hby d2_32) rfl (l' := #[vR ab1, vI 1, vR tb1, vI 0, vI 3, vI 0, vI c1]) rfl ?_
    show OwnG p e below T4 m 35 #[vR ab1, vI 1, vR tb1, vI 0, vI 3, vI 0, vI c1] [] tgt
    refine XS.iinc X4.here hx rfl (hb hby d2_35) rfl (l' := #[vR ab1, vI 1, vR tb1, vI 1, vI 3, vI 0, vI c1]) rfl ?_
    show OwnG p e below T4 m 38 #[vR ab1, vI 1, vR tb1, vI 1, vI 3, vI 0, vI c1] [] tgt
    refine XS.iinc X4.here hx rfl (hb hby d2_38) rfl (l' := #[vR ab1, vI 1, vR tb1, vI 1, vI 3, vI 1, vI c1]) rfl ?_
    show OwnG p e below T4 m 41 #[vR ab1, vI 1, vR tb1, vI 1, vI 3, vI 1, vI c1] [] tgt
    refine XS.goto X4.here hx rfl (pc0 := 41) (pc' := 3) rfl (hb hby d2_41) (by decide) (by decide) ?_
    show OwnG p e below T4 m 3 #[vR ab1, vI 1, vR tb1, vI 1, vI 3, vI 1, vI c1] [] tgt
    refine XS.iload X4.here hx rfl (hb hby d2_3) rfl ?_
    show OwnG p e below T4 m 5 #[vR ab1, vI 1, vR tb1, vI 1, vI 3, vI 1, vI c1] [(.int 1)] tgt
    refine XS.iload X4.here hx rfl (hb hby d2_5) rfl ?_
    show OwnG p e below T4 m 7 #[vR ab1, vI 1, vR tb1, vI 1, vI 3, vI 1, vI c1] [(.int 3), (.int 1)] tgt
    refine XS.icmpNo X4.here hx rfl (hb hby d2_7) rfl (tlt (by decide : (1 : Int32) < (3 : Int32))).2.1 ?_
    show OwnG p e below T4 m 10 #[vR ab1, vI 1, vR tb1, vI 1, vI 3, vI 1, vI c1] [] tgt
    refine XS.aloadN X4.here hx rfl (hb hby d2_10) rfl rfl ?_
    show OwnG p e below T4 m 11 #[vR ab1, vI 1, vR tb1, vI 1, vI 3, vI 1, vI c1] [(.ref ab1)] tgt
    refine XS.iloadN X4.here hx rfl (hb hby d2_11) rfl ?_
    show OwnG p e below T4 m 12 #[vR ab1, vI 1, vR tb1, vI 1, vI 3, vI 1, vI c1] [(.int 1), (.ref ab1)] tgt
    obtain ⟨cl5, Ar5, q5, S5, M5, H5, G5⟩ := F4_1
    refine X4.caload hx (j := (1 : Int32)) (v := (.int c2)) (by rw [e4]; exact Ar5.1) (State.isArrayOf_alike hZ.alike Ar5.2.1) Ar5.2.2 (inb_of S5 ⟨by decide, by decide⟩) (Has.at H5 (inb_of S5 ⟨by decide, by decide⟩) rfl) (g := (mkF m 12 #[vR ab1, vI 1, vR tb1, vI 1, vI 3, vI 1, vI c1] [(.int 1), (.ref ab1)])) rfl rfl (hb hby d2_12) _ ?_
    show OwnG p e below T4 m 13 #[vR ab1, vI 1, vR tb1, vI 1, vI 3, vI 1, vI c1] [(.int c2)] tgt
    refine XS.istore X4.here hx rfl (hb hby d2_13) rfl (l' := #[vR ab1, vI 1, vR tb1, vI 1, vI 3, vI 1, vI c2]) rfl ?_
    show OwnG p e below T4 m 15 #[vR ab1, vI 1, vR tb1, vI 1, vI 3, vI 1, vI c2] [] tgt
    refine XS.iload X4.here hx rfl (hb hby d2_15) rfl ?_
    show OwnG p e below T4 m 17 #[vR ab1, vI 1, vR tb1, vI 1, vI 3, vI 1, vI c2] [(.int c2)] tgt
    refine XS.sipush X4.here hx rfl (hb hby d2_17) ?_
    exact kgo
  by_cases cc6 : (255 : Int32) < c2
  · skip
    refine OwnGoes.step (T' := T4) (g' := (mkF m 25 #[vR ab1, vI 1, vR tb1, vI 1, vI 3, vI 1, vI c2] [(.int 1)])) (fun tgt kgo => ?_) ?_
    · refine XS.icmpNo X4.here hx rfl (hb hby d2_20) rfl (tlt cc6).2.2.2 ?_
      show OwnG p e below T4 m 23 #[vR ab1, vI 1, vR tb1, vI 1, vI 3, vI 1, vI c2] [] tgt
      refine XS.iload X4.here hx rfl (hb hby d2_23) rfl ?_
      exact kgo
    refine own_leave X4 hlk (v := some (.int 1)) (fun h => by rw [Bd.returns] at h; cases h) (fun fs hr => retI X4 hx Bd.returns (hb hby d2_25) hr) (by decide) (by decide) ?_
    show Q_c5_3 Z ab1 tb1 kc kb1 c1 c2 c3 h0 n0 _ T4.heap _
    rw [e4]
    exact ⟨(1 : Int32), [(.int (nar .byte c1)), (.int 0), (.int 0)], rfl, N4, K4, V4', (Or.inr (Or.inr (Or.inl ⟨rfl, cc6⟩)))⟩
  refine OwnGoes.step (T' := T4) (g' := (mkF m 31 #[vR ab1, vI 1, vR tb1, vI 1, vI 3, vI 1, vI c2] [(.int (nar .byte c2)), (.int 1), (.ref tb1)])) (fun tgt kgo => ?_) ?_
  · refine XS.icmpYes X4.here hx rfl (pc0 := 20) (pc' := 26) rfl (hb hby d2_20) rfl (flt cc6).2.2.2 (by decide) (by decide) ?_
    show OwnG p e below T4 m 26 #[vR ab1, vI 1, vR tb1, vI 1, vI 3, vI 1, vI c2] [] tgt
    refine XS.aloadN X4.here hx rfl (hb hby d2_26) rfl rfl ?_
    show OwnG p e below T4 m 27 #[vR ab1, vI 1, vR tb1, vI 1, vI 3, vI 1, vI c2] [(.ref tb1)] tgt
    refine XS.iloadN X4.here hx rfl (hb hby d2_27) rfl ?_
    show OwnG p e below T4 m 28 #[vR ab1, vI 1, vR tb1, vI 1, vI 3, vI 1, vI c2] [(.int 1), (.ref tb1)] tgt
    refine XS.iload X4.here hx rfl (hb hby d2_28) rfl ?_
    show OwnG p e below T4 m 30 #[vR ab1, vI 1, vR tb1, vI 1, vI 3, vI 1, vI c2] [(.int c2), (.int 1), (.ref tb1)] tgt
    refine XS.i2b X4.here hx rfl (hb hby d2_30) rfl ?_
    exact kgo
  obtain ⟨cl8, Ar8, q8, S8, M8, H8, G8⟩ := id V4'
  obtain ⟨T8, h8, X8, e8, W8, st8⟩ := stB X4 hx hZ e4 Ar8 (j := (1 : Int32)) (inb_of S8 ⟨by decide, by decide⟩) (g := (mkF m 31 #[vR ab1, vI 1, vR tb1, vI 1, vI 3, vI 1, vI c2] [(.int (nar .byte c2)), (.int 1), (.ref tb1)])) rfl rfl (hb hby d2_31)
  refine OwnGoes.step (T' := T8) (g' := (mkF m 32 #[vR ab1, vI 1, vR tb1, vI 1, vI 3, vI 1, vI c2] [])) st8 ?_
  have V8 : Arv Z h8 tb1 kb1 .byte (3 : Int32) [(.int (nar .byte c1)), (.int (nar .byte (nar .byte c2))), (.int 0)] (.int 0) := Arv.set Ar8 q8 S8 M8 H8 G8 (fits_nar_byte _) W8 1 rfl (Nat.le_of_ble_eq_true rfl)
  rw [own_nar2_byte] at V8
  have V8' : Arv Z h8 tb1 kb1 .byte (3 : Int32) [(.int (nar .byte c1)), (.int (nar .byte c2)), (.int 0)] (.int 0) := V8
  have F8_2 := F4_1.other W8 (own_arv_ty F4_1 V4' (by decide))
  have Ol8 := Ol4.wr W8 f2
  have K8 : Keep h0 h8 ([tb1] : List Addr) := K4.wr W8 (Or.inl (List.mem_of_getElem? (i := 0) rfl))
  have N8 := Fr.snoc X8 N4 f2
  refine OwnGoes.step (T' := T8) (g' := (mkF m 20 #[vR ab1, vI 2, vR tb1, vI 2, vI 3, vI 2, vI c3] [(.int 255), (.int c3)])) (fun tgt kgo => ?_) ?_
  · refine XS.iinc X8.here hx rfl (hb hby d2_32) rfl (l' := #[vR ab1, vI 2, vR tb1, vI 1, vI 3, vI 1, vI c2]) rfl ?_
    show OwnG p e below T8 m 35 #[vR ab1, vI 2, vR tb1, vI 1, vI 3, vI 1, vI c2] [] tgt
    refine XS.iinc X8.here hx rfl (hb hby d2_35) rfl (l' := #[vR ab1, vI 2, vR tb1, vI 2, vI 3, vI 1, vI c2]) rfl ?_
    show OwnG p e below T8 m 38 #[vR ab1, vI 2, vR tb1, vI 2, vI 3, vI 1, vI c2] [] tgt
    refine XS.iinc X8.here hx rfl (hb hby d2_38) rfl (l' := #[vR ab1, vI 2, vR tb1, vI 2, vI 3, vI 2, vI c2]) rfl ?_
    show OwnG p e below T8 m 41 #[vR ab1, vI 2, vR tb1, vI 2, vI 3, vI 2, vI c2] [] tgt
    refine XS.goto X8.here hx rfl (pc0 := 41) (pc' := 3) rfl (hb hby d2_41) (by decide) (by decide) ?_
    show OwnG p e below T8 m 3 #[vR ab1, vI 2, vR tb1, vI 2, vI 3, vI 2, vI c2] [] tgt
    refine XS.iload X8.here hx rfl (hb hby d2_3) rfl ?_
    show OwnG p e below T8 m 5 #[vR ab1, vI 2, vR tb1, vI 2, vI 3, vI 2, vI c2] [(.int 2)] tgt
    refine XS.iload X8.here hx rfl (hb hby d2_5) rfl ?_
    show OwnG p e below T8 m 7 #[vR ab1, vI 2, vR tb1, vI 2, vI 3, vI 2, vI c2] [(.int 3), (.int 2)] tgt
    refine XS.icmpNo X8.here hx rfl (hb hby d2_7) rfl (tlt (by decide : (2 : Int32) < (3 : Int32))).2.1 ?_
    show OwnG p e below T8 m 10 #[vR ab1, vI 2, vR tb1, vI 2, vI 3, vI 2, vI c2] [] tgt
    refine XS.aloadN X8.here hx rfl (hb hby d2_10) rfl rfl ?_
    show OwnG p e below T8 m 11 #[vR ab1, vI 2, vR tb1, vI 2, vI 3, vI 2, vI c2] [(.ref ab1)] tgt
    refine XS.iloadN X8.here hx rfl (hb hby d2_11) rfl ?_
    show OwnG p e below T8 m 12 #[vR ab1, vI 2, vR tb1, vI 2, vI 3, vI 2, vI c2] [(.int 2), (.ref ab1)] tgt
    obtain ⟨cl9, Ar9, q9, S9, M9, H9, G9⟩ := F8_2
    refine X8.caload hx (j := (2 : Int32)) (v := (.int c3)) (by rw [e8]; exact Ar9.1) (State.isArrayOf_alike hZ.alike Ar9.2.1) Ar9.2.2 (inb_of S9 ⟨by decide, by decide⟩) (Has.at H9 (inb_of S9 ⟨by decide, by decide⟩) rfl) (g := (mkF m 12 #[vR ab1, vI 2, vR tb1, vI 2, vI 3, vI 2, vI c2] [(.int 2), (.ref ab1)])) rfl rfl (hb hby d2_12) _ ?_
    show OwnG p e below T8 m 13 #[vR ab1, vI 2, vR tb1, vI 2, vI 3, vI 2, vI c2] [(.int c3)] tgt
    refine XS.istore X8.here hx rfl (hb hby d2_13) rfl (l' := #[vR ab1, vI 2, vR tb1, vI 2, vI 3, vI 2, vI c3]) rfl ?_
    show OwnG p e below T8 m 15 #[vR ab1, vI 2, vR tb1, vI 2, vI 3, vI 2, vI c3] [] tgt
    refine XS.iload X8.here hx rfl (hb hby d2_15) rfl ?_
    show OwnG p e below T8 m 17 #[vR ab1, vI 2, vR tb1, vI 2, vI 3, vI 2, vI c3] [(.int c3)] tgt
    refine XS.sipush X8.here hx rfl (hb hby d2_17) ?_
    exact kgo
  by_cases cc10 : (255 : Int32) < c3
  · skip
    refine OwnGoes.step (T' := T8) (g' := (mkF m 25 #[vR ab1, vI 2, vR tb1, vI 2, vI 3, vI 2, vI c3] [(.int 2)])) (fun tgt kgo => ?_) ?_
    · refine XS.icmpNo X8.here hx rfl (hb hby d2_20) rfl (tlt cc10).2.2.2 ?_
      show OwnG p e below T8 m 23 #[vR ab1, vI 2, vR tb1, vI 2, vI 3, vI 2, vI c3] [] tgt
      refine XS.iload X8.here hx rfl (hb hby d2_23) rfl ?_
      exact kgo
    refine own_leave X8 hlk (v := some (.int 2)) (fun h => by rw [Bd.returns] at h; cases h) (fun fs hr => retI X8 hx Bd.returns (hb hby d2_25) hr) (by decide) (by decide) ?_
    show Q_c5_3 Z ab1 tb1 kc kb1 c1 c2 c3 h0 n0 _ T8.heap _
    rw [e8]
    exact ⟨(2 : Int32), [(.int (nar .byte c1)), (.int (nar .byte c2)), (.int 0)], rfl, N8, K8, V8', (Or.inr (Or.inr (Or.inr ⟨rfl, cc10⟩)))⟩
  refine OwnGoes.step (T' := T8) (g' := (mkF m 31 #[vR ab1, vI 2, vR tb1, vI 2, vI 3, vI 2, vI c3] [(.int (nar .byte c3)), (.int 2), (.ref tb1)])) (fun tgt kgo => ?_) ?_
  · refine XS.icmpYes X8.here hx rfl (pc0 := 20) (pc' := 26) rfl (hb hby d2_20) rfl (flt cc10).2.2.2 (by decide) (by decide) ?_
    show OwnG p e below T8 m 26 #[vR ab1, vI 2, vR tb1, vI 2, vI 3, vI 2, vI c3] [] tgt
    refine XS.aloadN X8.here hx rfl (hb hby d2_26) rfl rfl ?_
    show OwnG p e below T8 m 27 #[vR ab1, vI 2, vR tb1, vI 2, vI 3, vI 2, vI c3] [(.ref tb1)] tgt
    refine XS.iloadN X8.here hx rfl (hb hby d2_27) rfl ?_
    show OwnG p e below T8 m 28 #[vR ab1, vI 2, vR tb1, vI 2, vI 3, vI 2, vI c3] [(.int 2), (.ref tb1)] tgt
    refine XS.iload X8.here hx rfl (hb hby d2_28) rfl ?_
    show OwnG p e below T8 m 30 #[vR ab1, vI 2, vR tb1, vI 2, vI 3, vI 2, vI c3] [(.int c3), (.int 2), (.ref tb1)] tgt
    refine XS.i2b X8.here hx rfl (hb hby d2_30) rfl ?_
    exact kgo
  obtain ⟨cl12, Ar12, q12, S12, M12, H12, G12⟩ := id V8'
  obtain ⟨T12, h12, X12, e12, W12, st12⟩ := stB X8 hx hZ e8 Ar12 (j := (2 : Int32)) (inb_of S12 ⟨by decide, by decide⟩) (g := (mkF m 31 #[vR ab1, vI 2, vR tb1, vI 2, vI 3, vI 2, vI c3] [(.int (nar .byte c3)), (.int 2), (.ref tb1)])) rfl rfl (hb hby d2_31)
  refine OwnGoes.step (T' := T12) (g' := (mkF m 32 #[vR ab1, vI 2, vR tb1, vI 2, vI 3, vI 2, vI c3] [])) st12 ?_
  have V12 : Arv Z h12 tb1 kb1 .byte (3 : Int32) [(.int (nar .byte c1)), (.int (nar .byte c2)), (.int (nar .byte (nar .byte c3)))] (.int 0) := Arv.set Ar12 q12 S12 M12 H12 G12 (fits_nar_byte _) W12 2 rfl (Nat.le_of_ble_eq_true rfl)
  rw [own_nar2_byte] at V12
  have V12' : Arv Z h12 tb1 kb1 .byte (3 : Int32) [(.int (nar .byte c1)), (.int (nar .byte c2)), (.int (nar .byte c3))] (.int 0) := V12
  have F12_3 := F8_2.other W12 (own_arv_ty F8_2 V8' (by decide))
  have Ol12 := Ol8.wr W12 f2
  have K12 : Keep h0 h12 ([tb1] : List Addr) := K8.wr W12 (Or.inl (List.mem_of_getElem? (i := 0) rfl))
  have N12 := Fr.snoc X12 N8 f2
  refine OwnGoes.step (T' := T12) (g' := (mkF m 46 #[vR ab1, vI 3, vR tb1, vI 3, vI 3, vI 3, vI c3] [(.int 3)])) (fun tgt kgo => ?_) ?_
  · refine XS.iinc X12.here hx rfl (hb hby d2_32) rfl (l' := #[vR ab1, vI 3, vR tb1, vI 2, vI 3, vI 2, vI c3]) rfl ?_
    show OwnG p e below T12 m 35 #[vR ab1, vI 3, vR tb1, vI 2, vI 3, vI 2, vI c3] [] tgt
    refine XS.iinc X12.here hx rfl (hb hby d2_35) rfl (l' := #[vR ab1, vI 3, vR tb1, vI 3, vI 3, vI 2, vI c3]) rfl ?_
    show OwnG p e below T12 m 38 #[vR ab1, vI 3, vR tb1, vI 3, vI 3, vI 2, vI c3] [] tgt
    refine XS.iinc X12.here hx rfl (hb hby d2_38) rfl (l' := #[vR ab1, vI 3, vR tb1, vI 3, vI 3, vI 3, vI c3]) rfl ?_
    show OwnG p e below T12 m 41 #[vR ab1, vI 3, vR tb1, vI 3, vI 3, vI 3, vI c3] [] tgt
    refine XS.goto X12.here hx rfl (pc0 := 41) (pc' := 3) rfl (hb hby d2_41) (by decide) (by decide) ?_
    show OwnG p e below T12 m 3 #[vR ab1, vI 3, vR tb1, vI 3, vI 3, vI 3, vI c3] [] tgt
    refine XS.iload X12.here hx rfl (hb hby d2_3) rfl ?_
    show OwnG p e below T12 m 5 #[vR ab1, vI 3, vR tb1, vI 3, vI 3, vI 3, vI c3] [(.int 3)] tgt
    refine XS.iload X12.here hx rfl (hb hby d2_5) rfl ?_
    show OwnG p e below T12 m 7 #[vR ab1, vI 3, vR tb1, vI 3, vI 3, vI 3, vI c3] [(.int 3), (.int 3)] tgt
    refine XS.icmpYes X12.here hx rfl (pc0 := 7) (pc' := 44) rfl (hb hby d2_7) rfl (flt (by decide : ¬ ((3 : Int32) < (3 : Int32)))).2.1 (by decide) (by decide) ?_
    show OwnG p e below T12 m 44 #[vR ab1, vI 3, vR tb1, vI 3, vI 3, vI 3, vI c3] [] tgt
    refine XS.iload X12.here hx rfl (hb hby d2_44) rfl ?_
    exact kgo
  refine own_leave X12 hlk (v := some (.int 3)) (fun h => by rw [Bd.returns] at h; cases h) (fun fs hr => retI X12 hx Bd.returns (hb hby d2_46) hr) (by decide) (by decide) ?_
  show Q_c5_3 Z ab1 tb1 kc kb1 c1 c2 c3 h0 n0 _ T12.heap _
  rw [e12]
  exact ⟨(3 : Int32), [(.int (nar .byte c1)), (.int (nar .byte c2)), (.int (nar .byte c3))], rfl, N12, K12, V12', (Or.inl ⟨rfl, rfl, cc2, cc6, cc10⟩)⟩
theorem ef_nbl_3 (m : MethodId)  : entryFrame m #[(.int 3)] 1 = mkF m 0 #[vI 3] [] := by
  first | (simp [entryFrame, mkF, argsToLocals, Value.category]; done) | rfl
def Q_nbl_3 (Z : State)  (h0 : Heap) (n0 : Nat) (v : Option Value) (h : Heap) (L : List Loc) : Prop := v = some (.int 6) ∧ Fr n0 L ∧ h = h0
set_option maxRecDepth 65536 in
set_option maxHeartbeats 40000000 in
theorem rm_nbl_3 (l : Launch) (Z : State) (a0 : Array Value) (hw : ∀ d ∈ tables_1, d.before a0 Z = true) (ws : List Jvm.Cond) (wG1 : Int32) (wG3 : Value) (cx : OwnCx Z a0 wG1 wG3) (hEL : EW Z a0 consts_1) (h0 : Heap) (n0 : Nat) (X00 : Old Z n0 h0)  :
    MetFree l mN3 (head1 (Jvm.Cond.code mN3 jdk_52_method_3_code 1 (some .int) :: ws) ({ frames := 0, cells := 0, slots := 0, locals := 0 } : Room)) (fun a U => a = #[(.int 3)] ∧ Z.Warmed39 U.vm ∧ U.heap = h0) (fun _ _ _ _ _ => True) (fun _ U o U' => ∃ v L, o = .returned v ∧ Q_nbl_3 Z  h0 n0 v U'.heap L ∧ FrameEnd U o U' L ({ frames := 0, cells := 0, slots := 0, locals := 0 } : Room).cells ({ frames := 0, cells := 0, slots := 0, locals := 0 } : Room).slots) := by
  refine MetFree.of_bodySF (plainFor_of_name pn_68381282) hisR ?_
  intro p e s m args below meth c s₁ Bd hml0 hP hK
  obtain ⟨rfl, hZ, hh⟩ := hP
  obtain ⟨wO2, wP5, wO4, wrG3, hstr, wUA, wUH, wUL⟩ := id cx
  have hx := Bd.exec
  have hby := Bd.bytes
  have hlk := Bd.notSynchronized
  have hml : c.maxLocals = 1 := hml0
  have hown : s.vm.findClass "java/lang/StringUTF16" = some m.cls := findClass_of_methodNamed Bd.named
  have hnm := (name_of_methodNamed Bd.named Bd.method).1
  have X0 : Stand p l e ({ frames := 0, cells := 0, slots := 0, locals := 0 } : Room) s m #[(.int 3)] below meth c s₁ [] 0 0 := Stand.of_body Bd
  have e0 : s₁.heap = h0 := by rw [← hh, Bd.state]; rfl
  have N0 := Fr.nil n0
  have Z0 : n0 ≤ h0.size := X00.1 ▸ X00.2.1
  have K0 : Keep h0 h0 ([] : List Addr) := Keep.refl _ _
  show OwnGoes p e below (fun o U' => ∃ v L, o = .returned v ∧ Q_nbl_3 Z  h0 n0 v U'.heap L ∧ FrameEnd s o U' L ({ frames := 0, cells := 0, slots := 0, locals := 0 } : Room).cells ({ frames := 0, cells := 0, slots := 0, locals := 0 } : Room).slots) s₁ (entryFrame m #[(.int 3)] 1)
  refine OwnGoes.step (T' := s₁) (g' := (mkF m 0 #[vI 3] [])) (fun tgt kgo => castTop (ef_nbl_3 m ) kgo) ?_
  refine OwnGoes.step (T' := s₁) (g' := (mkF m 58 #[vI 3] [(.int 6)])) (fun tgt kgo => ?_) ?_
  · refine XS.iloadN X0.here hx rfl (hb hby d3_0) rfl ?_
    show OwnG p e below s₁ m 1 #[vI 3] [(.int 3)] tgt
    refine XS.ifYes X0.here hx rfl (pc0 := 1) (pc' := 12) rfl (hb hby d3_1) rfl ((if0 _ _).trans (flt (by decide : ¬ ((3 : Int32) < (0 : Int32)))).2.1) (by decide) (by decide) ?_
    show OwnG p e below s₁ m 12 #[vI 3] [] tgt
    refine XS.iloadN X0.here hx rfl (hb hby d3_12) rfl ?_
    show OwnG p e below s₁ m 13 #[vI 3] [(.int 3)] tgt
    refine X0.ldcInt hx hown (mvT hZ (own_w hw 96 rfl)) (g := (mkF m 13 #[vI 3] [(.int 3)])) rfl (hb hby d3_13) _ ?_
    show OwnG p e below s₁ m 15 #[vI 3] [(.int 1073741823), (.int 3)] tgt
    refine XS.icmpYes X0.here hx rfl (pc0 := 15) (pc' := 55) rfl (hb hby d3_15) rfl (tlt (by decide : (3 : Int32) < (1073741823 : Int32))).1 (by decide) (by decide) ?_
    show OwnG p e below s₁ m 55 #[vI 3] [] tgt
    refine XS.iloadN X0.here hx rfl (hb hby d3_55) rfl ?_
    show OwnG p e below s₁ m 56 #[vI 3] [(.int 3)] tgt
    refine XS.iconst X0.here hx rfl (hb hby d3_56) ?_
    show OwnG p e below s₁ m 57 #[vI 3] [(.int 1), (.int 3)] tgt
    refine XS.ishl X0.here hx rfl (hb hby d3_57) rfl ?_
    exact kgo
  refine own_leave X0 hlk (v := some (.int 6)) (fun h => by rw [Bd.returns] at h; cases h) (fun fs hr => retI X0 hx Bd.returns (hb hby d3_58) hr) (by decide) (by decide) ?_
  show Q_nbl_3 Z  h0 n0 _ s₁.heap _
  rw [e0]
  exact ⟨rfl, N0, rfl⟩
theorem ef_nbf_3 (m : MethodId)  : entryFrame m #[(.int 3)] 1 = mkF m 0 #[vI 3] [] := by
  first | (simp [entryFrame, mkF, argsToLocals, Value.category]; done) | rfl
def Q_nbf_3 (Z : State)  (h0 : Heap) (n0 : Nat) (v : Option Value) (h : Heap) (L : List Loc) : Prop := ∃ (t : Addr), ∃ (k : ClassId), v = some (.ref t) ∧ Fr n0 L ∧ Keep h0 h ([] : List Addr) ∧ h0.size ≤ t ∧ Arv Z h t k .byte (6 : Int32) [(.int 0), (.int 0), (.int 0), (.int 0), (.int 0), (.int 0)] (.int 0)
set_option maxRecDepth 65536 in
set_option maxHeartbeats 40000000 in
theorem rm_nbf_3 (l : Launch) (Z : State) (a0 : Array Value) (hw : ∀ d ∈ tables_1, d.before a0 Z = true) (ws : List Jvm.Cond) (wG1 : Int32) (wG3 : Value) (cx : OwnCx Z a0 wG1 wG3) (hEL : EW Z a0 consts_1) (h0 : Heap) (n0 : Nat) (X00 : Old Z n0 h0)  :
    MetFree l mN4 (head1 (Jvm.Cond.code mN4 jdk_52_method_2_code 1 (some (.array .byte)) :: ws) ({ frames := 1, cells := 1, slots := 6, locals := 12 } : Room)) (fun a U => a = #[(.int 3)] ∧ Z.Warmed39 U.vm ∧ U.heap = h0) (fun _ _ _ _ _ => True) (fun _ U o U' => ∃ v L, o = .returned v ∧ Q_nbf_3 Z  h0 n0 v U'.heap L ∧ FrameEnd U o U' L ({ frames := 1, cells := 1, slots := 6, locals := 12 } : Room).cells ({ frames := 1, cells := 1, slots := 6, locals := 12 } : Room).slots) := by
  refine MetFree.of_bodySF (plainFor_of_name pn_68381282) hisR ?_
  intro p e s m args below meth c s₁ Bd hml0 hP hK
  obtain ⟨rfl, hZ, hh⟩ := hP
  obtain ⟨wO2, wP5, wO4, wrG3, hstr, wUA, wUH, wUL⟩ := id cx
  have hx := Bd.exec
  have hby := Bd.bytes
  have hlk := Bd.notSynchronized
  have hml : c.maxLocals = 1 := hml0
  have hown : s.vm.findClass "java/lang/StringUTF16" = some m.cls := findClass_of_methodNamed Bd.named
  have hnm := (name_of_methodNamed Bd.named Bd.method).1
  have X0 : Stand p l e ({ frames := 1, cells := 1, slots := 6, locals := 12 } : Room) s m #[(.int 3)] below meth c s₁ [] 0 0 := Stand.of_body Bd
  have e0 : s₁.heap = h0 := by rw [← hh, Bd.state]; rfl
  have N0 := Fr.nil n0
  have Z0 : n0 ≤ h0.size := X00.1 ▸ X00.2.1
  have K0 : Keep h0 h0 ([] : List Addr) := Keep.refl _ _
  show OwnGoes p e below (fun o U' => ∃ v L, o = .returned v ∧ Q_nbf_3 Z  h0 n0 v U'.heap L ∧ FrameEnd s o U' L ({ frames := 1, cells := 1, slots := 6, locals := 12 } : Room).cells ({ frames := 1, cells := 1, slots := 6, locals := 12 } : Room).slots) s₁ (entryFrame m #[(.int 3)] 1)
  refine OwnGoes.step (T' := s₁) (g' := (mkF m 0 #[vI 3] [])) (fun tgt kgo => castTop (ef_nbf_3 m ) kgo) ?_
  refine OwnGoes.step (T' := s₁) (g' := (mkF m 1 #[vI 3] [(.int 3)])) (fun tgt kgo => ?_) ?_
  · refine XS.iloadN X0.here hx rfl (hb hby d4_0) rfl ?_
    exact kgo
  obtain ⟨_, _, ⟨T1, L1, k1, n1⟩, -, X1, ⟨Lc1, hQ1, l1, y1, z1⟩, st1⟩ := Jvm.LawKit.callS X0 hx (y := mN3) hown (mvT hZ (own_w hw 93 rfl)) (mvT hZ (own_w hw 94 rfl)) (mvT hZ (own_w hw 43 rfl)) (mvT hZ (own_w hw 95 rfl)) (by decide) (backOf (W := 0) (rm_nbl_3 l Z a0 hw [] wG1 wG3 cx hEL h0 n0 X00 ) hZ (own_w hw 95 rfl) (own_w hw 43 rfl) (by decide) (by decide)) (g := (mkF m 1 #[vI 3] [(.int 3)])) rfl (by rw [hml]; rfl) (argsL := [(.int 3)]) (rest := []) (lenOf pd_92649053 rfl) rfl (Nat.le_of_eq rfl) (hb hby d4_1) (fun _ _ => ⟨rfl, e0, (by decide : 0 + 0 ≤ _), (by decide : 0 + 0 ≤ _)⟩)
  dsimp only [Pt.U, Pt.locs, Pt.cells, Pt.slots] at X1 l1 y1 z1 st1 hQ1
  subst l1 y1 z1
  obtain ⟨rfl, Nq1, eq1⟩ := hQ1
  refine OwnGoes.step (T' := T1) (g' := (mkF m 4 #[vI 3] [(.int 6)])) st1 ?_
  have N1 := Fr.app N0 Nq1
  obtain ⟨T2, h2, k2, X2, e2, E2, A2, st2⟩ := newP X1 hx hZ (own_w hw 24 rfl) eq1 (g := (mkF m 4 #[vI 3] [(.int 6)])) rfl (hb hby d4_4) rfl (by decide) (cap := 6) (by decide) (by decide) (by decide) (by decide)
  obtain ⟨b2, g2⟩ : ∃ z, z = h0.size := ⟨_, rfl⟩
  rw [← g2] at A2 st2
  refine OwnGoes.step (T' := T2) (g' := (mkF m 6 #[vI 3] [(.ref b2)])) st2 ?_
  have V2 : Arv Z h2 b2 k2 .byte (6 : Int32) [(.int 0), (.int 0), (.int 0), (.int 0), (.int 0), (.int 0)] (.int 0) := (Arv.new A2 (by decide)).pad (pad_rep [] (.int 0) 6)
  have g_b2 : n0 ≤ b2 := Nat.le_trans (Nat.le_trans Z0 K0.1) (Nat.le_of_eq g2.symm)
  have s_b2 : h0.size ≤ b2 := Nat.le_trans K0.1 (Nat.le_of_eq g2.symm)
  have Ol2 := X00.ext E2
  have K2 : Keep h0 h2 ([] : List Addr) := K0.ext E2
  have hret : ∀ fs, (∀ (f : JFrame) (acts : List Action), f.method = m → f.locked = none → f.entered = [] → (doReturn e (T2.setTop f) acts (some (.ref b2))).1 = T2.setFrames fs) → Steps p.tables e below (T2.setTop (mkF m 6 #[vI 3] [(.ref b2)])) (T2.setFrames fs) := by
    intro fs hr
    jvm_step X2.here [X2.here.top, hx, (hb hby d4_6), X2.method', Bd.returns, Value.isRef, FieldType.isReference]
    first | (intro acts; rw [hr _ acts rfl rfl rfl]) | rw [hr _ _ rfl rfl rfl]
    exact Steps.refl _
  refine own_leave X2 hlk (v := some (.ref b2)) (fun h => by rw [Bd.returns] at h; cases h) hret (by decide) (by decide) ?_
  show Q_nbf_3 Z  h0 n0 _ T2.heap _
  rw [e2]
  exact ⟨b2, k2, rfl, N1, K2, s_b2, V2⟩
theorem ef_tob_3 (m : MethodId) (x0 : Addr) : entryFrame m #[(.ref x0), (.int 0), (.int 3)] 5 = mkF m 0 #[vR x0, vI 0, vI 3, vU, vU] [] := by
  first | (simp [entryFrame, mkF, argsToLocals, Value.category]; done) | rfl
def Q_tob_3 (Z : State) (ab1 : Addr) (kc : ClassId) (c1 : Int32) (c2 : Int32) (c3 : Int32) (h0 : Heap) (n0 : Nat) (v : Option Value) (h : Heap) (L : List Loc) : Prop := ∃ (t : Addr), ∃ (k : ClassId), v = some (.ref t) ∧ Fr n0 L ∧ Keep h0 h ([] : List Addr) ∧ h0.size ≤ t ∧ Arv Z h t k .byte (6 : Int32) [(.int (nar .byte c1)), (.int (nar .byte (c1 >>> ((8 : Int32) &&& 31)))), (.int (nar .byte c2)), (.int (nar .byte (c2 >>> ((8 : Int32) &&& 31)))), (.int (nar .byte c3)), (.int (nar .byte (c3 >>> ((8 : Int32) &&& 31))))] (.int 0)
set_option maxRecDepth 65536 in
set_option maxHeartbeats 40000000 in
theorem rm_tob_3 (l : Launch) (Z : State) (a0 : Array Value) (hw : ∀ d ∈ tables_1, d.before a0 Z = true) (ws : List Jvm.Cond) (wG1 : Int32) (wG3 : Value) (cx : OwnCx Z a0 wG1 wG3) (hEL : EW Z a0 consts_1) (h0 : Heap) (n0 : Nat) (X00 : Old Z n0 h0) (ab1 : Addr) (kc : ClassId) (c1 : Int32) (c2 : Int32) (c3 : Int32) (f0 : Arv Z h0 ab1 kc .char (3 : Int32) [(.int c1), (.int c2), (.int c3)] (.int 0)) :
    MetFree l mN5 (head1 (Jvm.Cond.code mN5 jdk_52_method_14_code 5 (some (.array .byte)) :: ws) ({ frames := 2, cells := 1, slots := 6, locals := 24 } : Room)) (fun a U => a = #[(.ref ab1), (.int 0), (.int 3)] ∧ Z.Warmed39 U.vm ∧ U.heap = h0) (fun _ _ _ _ _ => True) (fun _ U o U' => ∃ v L, o = .returned v ∧ Q_tob_3 Z ab1 kc c1 c2 c3 h0 n0 v U'.heap L ∧ FrameEnd U o U' L ({ frames := 2, cells := 1, slots := 6, locals := 24 } : Room).cells ({ frames := 2, cells := 1, slots := 6, locals := 24 } : Room).slots) := by
  refine MetFree.of_bodySF (plainFor_of_name pn_68381282) hisR ?_
  intro p e s m args below meth c s₁ Bd hml0 hP hK
  obtain ⟨rfl, hZ, hh⟩ := hP
  obtain ⟨wO2, wP5, wO4, wrG3, hstr, wUA, wUH, wUL⟩ := id cx
  have hx := Bd.exec
  have hby := Bd.bytes
  have hlk := Bd.notSynchronized
  have hml : c.maxLocals = 5 := hml0
  have hown : s.vm.findClass "java/lang/StringUTF16" = some m.cls := findClass_of_methodNamed Bd.named
  have hnm := (name_of_methodNamed Bd.named Bd.method).1
  have X0 : Stand p l e ({ frames := 2, cells := 1, slots := 6, locals := 24 } : Room) s m #[(.ref ab1), (.int 0), (.int 3)] below meth c s₁ [] 0 0 := Stand.of_body Bd
  have e0 : s₁.heap = h0 := by rw [← hh, Bd.state]; rfl
  have N0 := Fr.nil n0
  have Z0 : n0 ≤ h0.size := X00.1 ▸ X00.2.1
  have K0 : Keep h0 h0 ([] : List Addr) := Keep.refl _ _
  show OwnGoes p e below (fun o U' => ∃ v L, o = .returned v ∧ Q_tob_3 Z ab1 kc c1 c2 c3 h0 n0 v U'.heap L ∧ FrameEnd s o U' L ({ frames := 2, cells := 1, slots := 6, locals := 24 } : Room).cells ({ frames := 2, cells := 1, slots := 6, locals := 24 } : Room).slots) s₁ (entryFrame m #[(.ref ab1), (.int 0), (.int 3)] 5)
  refine OwnGoes.step (T' := s₁) (g' := (mkF m 0 #[vR ab1, vI 0, vI 3, vU, vU] [])) (fun tgt kgo => castTop (ef_tob_3 m ab1) kgo) ?_
  refine OwnGoes.step (T' := s₁) (g' := (mkF m 1 #[vR ab1, vI 0, vI 3, vU, vU] [(.int 3)])) (fun tgt kgo => ?_) ?_
  · refine XS.iloadN X0.here hx rfl (hb hby d5_0) rfl ?_
    exact kgo
  obtain ⟨_, _, ⟨T1, L1, k1, n1⟩, -, X1, ⟨Lc1, hQ1, l1, y1, z1⟩, st1⟩ := Jvm.LawKit.callS X0 hx (y := mN4) hown (mvT hZ (own_w hw 90 rfl)) (mvT hZ (own_w hw 91 rfl)) (mvT hZ (own_w hw 43 rfl)) (mvT hZ (own_w hw 92 rfl)) (by decide) (backOf (W := 0) (rm_nbf_3 l Z a0 hw [] wG1 wG3 cx hEL h0 n0 X00 ) hZ (own_w hw 92 rfl) (own_w hw 43 rfl) (by decide) (by decide)) (g := (mkF m 1 #[vR ab1, vI 0, vI 3, vU, vU] [(.int 3)])) rfl (by rw [hml]; rfl) (argsL := [(.int 3)]) (rest := []) (lenOf pd_63641379 rfl) rfl (Nat.le_of_eq rfl) (hb hby d5_1) (fun _ _ => ⟨rfl, e0, (by decide : 0 + 1 ≤ _), (by decide : 0 + 6 ≤ _)⟩)
  dsimp only [Pt.U, Pt.locs, Pt.cells, Pt.slots] at X1 l1 y1 z1 st1 hQ1
  subst l1 y1 z1
  obtain ⟨t_1, k_1, rfl, Nq1, Kq1, zq1_0, fq1_0⟩ := hQ1
  refine OwnGoes.step (T' := T1) (g' := (mkF m 4 #[vR ab1, vI 0, vI 3, vU, vU] [(.ref t_1)])) st1 ?_
  have N1 := Fr.app N0 Nq1
  have ne_ab1_t_1 : ab1 ≠ t_1 := Nat.ne_of_lt (Nat.lt_of_lt_of_le f0.lt zq1_0)
  have g_t_1 : n0 ≤ t_1 := Nat.le_trans (Nat.le_trans Z0 K0.1) zq1_0
  have s_t_1 : h0.size ≤ t_1 := Nat.le_trans K0.1 zq1_0
  have F1_1 := f0.keep Kq1 nin0
  have Ol1 := X00.keep Kq1 all0
  have K1 : Keep h0 T1.heap ([] : List Addr) := K0.trans Kq1 all0
  refine OwnGoes.step (T' := T1) (g' := (mkF m 20 #[vR ab1, vI 0, vI 3, vR t_1, vI 0] [(.int c1), (.int 0), (.ref t_1)])) (fun tgt kgo => ?_) ?_
  · refine XS.astoreN X1.here hx rfl (hb hby d5_4) rfl rfl (l' := #[vR ab1, vI 0, vI 3, vR t_1, vU]) rfl ?_
    show OwnG p e below T1 m 5 #[vR ab1, vI 0, vI 3, vR t_1, vU] [] tgt
    refine XS.iconst X1.here hx rfl (hb hby d5_5) ?_
    show OwnG p e below T1 m 6 #[vR ab1, vI 0, vI 3, vR t_1, vU] [(.int 0)] tgt
    refine XS.istore X1.here hx rfl (hb hby d5_6) rfl (l' := #[vR ab1, vI 0, vI 3, vR t_1, vI 0]) rfl ?_
    show OwnG p e below T1 m 8 #[vR ab1, vI 0, vI 3, vR t_1, vI 0] [] tgt
    refine XS.iload X1.here hx rfl (hb hby d5_8) rfl ?_
    show OwnG p e below T1 m 10 #[vR ab1, vI 0, vI 3, vR t_1, vI 0] [(.int 0)] tgt
    refine XS.iloadN X1.here hx rfl (hb hby d5_10) rfl ?_
    show OwnG p e below T1 m 11 #[vR ab1, vI 0, vI 3, vR t_1, vI 0] [(.int 3), (.int 0)] tgt
    refine XS.icmpNo X1.here hx rfl (hb hby d5_11) rfl (tlt (by decide : (0 : Int32) < (3 : Int32))).2.1 ?_
    show OwnG p e below T1 m 14 #[vR ab1, vI 0, vI 3, vR t_1, vI 0] [] tgt
    refine XS.aloadN X1.here hx rfl (hb hby d5_14) rfl rfl ?_
    show OwnG p e below T1 m 15 #[vR ab1, vI 0, vI 3, vR t_1, vI 0] [(.ref t_1)] tgt
    refine XS.iload X1.here hx rfl (hb hby d5_15) rfl ?_
    show OwnG p e below T1 m 17 #[vR ab1, vI 0, vI 3, vR t_1, vI 0] [(.int 0), (.ref t_1)] tgt
    refine XS.aloadN X1.here hx rfl (hb hby d5_17) rfl rfl ?_
    show OwnG p e below T1 m 18 #[vR ab1, vI 0, vI 3, vR t_1, vI 0] [(.ref ab1), (.int 0), (.ref t_1)] tgt
    refine XS.iloadN X1.here hx rfl (hb hby d5_18) rfl ?_
    show OwnG p e below T1 m 19 #[vR ab1, vI 0, vI 3, vR t_1, vI 0] [(.int 0), (.ref ab1), (.int 0), (.ref t_1)] tgt
    obtain ⟨cl2, Ar2, q2, S2, M2, H2, G2⟩ := F1_1
    refine X1.caload hx (j := (0 : Int32)) (v := (.int c1)) Ar2.1 (State.isArrayOf_alike hZ.alike Ar2.2.1) Ar2.2.2 (inb_of S2 ⟨by decide, by decide⟩) (Has.at H2 (inb_of S2 ⟨by decide, by decide⟩) rfl) (g := (mkF m 19 #[vR ab1, vI 0, vI 3, vR t_1, vI 0] [(.int 0), (.ref ab1), (.int 0), (.ref t_1)])) rfl rfl (hb hby d5_19) _ ?_
    exact kgo
  obtain ⟨_, _, ⟨T3, L3, k3, n3⟩, -, X3, ⟨Lc3, hQ3, l3, y3, z3⟩, st3⟩ := Jvm.LawKit.callS X1 hx (y := mN1) hown (mvT hZ (own_w hw 97 rfl)) (mvT hZ (own_w hw 98 rfl)) (mvT hZ (own_w hw 43 rfl)) (mvT hZ (own_w hw 99 rfl)) (by decide) (backOf (W := 0) (rm_u16put l Z a0 hw [] wG1 wG3 cx hEL T1.heap n0 Ol1 t_1 k_1 (6 : Int32) [(.int 0), (.int 0), (.int 0), (.int 0), (.int 0), (.int 0)] (0 : Int32) c1 0 fq1_0 g_t_1 ⟨⟨⟨by decide, by decide⟩, rfl, Nat.le_of_ble_eq_true rfl⟩, ⟨⟨by decide, by decide⟩, rfl, Nat.le_of_ble_eq_true rfl⟩⟩) hZ (own_w hw 99 rfl) (own_w hw 43 rfl) (by decide) (by decide)) (g := (mkF m 20 #[vR ab1, vI 0, vI 3, vR t_1, vI 0] [(.int c1), (.int 0), (.ref t_1)])) rfl (by rw [hml]; rfl) (argsL := [(.ref t_1), (.int 0), (.int c1)]) (rest := []) (lenOf pd_52952394 rfl) rfl (Nat.le_of_eq rfl) (hb hby d5_20) (fun _ _ => ⟨rfl, rfl, (by decide : 1 + 0 ≤ _), (by decide : 6 + 0 ≤ _)⟩)
  dsimp only [Pt.U, Pt.locs, Pt.cells, Pt.slots] at X3 l3 y3 z3 st3 hQ3
  subst l3 y3 z3
  obtain ⟨rfl, Nq3, Kq3, fq3_0⟩ := hQ3
  refine OwnGoes.step (T' := T3) (g' := (mkF m 23 #[vR ab1, vI 0, vI 3, vR t_1, vI 0] [])) st3 ?_
  have N3 := Fr.app N1 Nq3
  have F3_2 := F1_1.keep Kq3 (ninS ne_ab1_t_1 nin0)
  have Ol3 := Ol1.keep Kq3 (allS g_t_1 all0)
  have K3 : Keep h0 T3.heap ([] : List Addr) := K1.trans Kq3 (allS (Or.inr s_t_1) all0)
  have Vp4 : Arv Z T3.heap t_1 k_1 .byte (6 : Int32) [(.int (nar .byte c1)), (.int (nar .byte (c1 >>> ((8 : Int32) &&& 31)))), (.int 0), (.int 0), (.int 0), (.int 0)] (.int 0) := fq3_0
  refine OwnGoes.step (T' := T3) (g' := (mkF m 20 #[vR ab1, vI 1, vI 3, vR t_1, vI 1] [(.int c2), (.int 1), (.ref t_1)])) (fun tgt kgo => ?_) ?_
  · refine XS.iinc X3.here hx rfl (hb hby d5_23) rfl (l' := #[vR ab1, vI 1, vI 3, vR t_1, vI 0]) rfl ?_
    show OwnG p e below T3 m 26 #[vR ab1, vI 1, vI 3, vR t_1, vI 0] [] tgt
    refine XS.iinc X3.here hx rfl (hb hby d5_26) rfl (l' := #[vR ab1, vI 1, vI 3, vR t_1, vI 1]) rfl ?_
    show OwnG p e below T3 m 29 #[vR ab1, vI 1, vI 3, vR t_1, vI 1] [] tgt
    refine XS.goto X3.here hx rfl (pc0 := 29) (pc' := 8) rfl (hb hby d5_29) (by decide) (by decide) ?_
    show OwnG p e below T3 m 8 #[vR ab1, vI 1, vI 3, vR t_1, vI 1] [] tgt
    refine XS.iload X3.here hx rfl (hb hby d5_8) rfl ?_
    show OwnG p e below T3 m 10 #[vR ab1, vI 1, vI 3, vR t_1, vI 1] [(.int 1)] tgt
    refine XS.iloadN X3.here hx rfl (hb hby d5_10) rfl ?_
    show OwnG p e below T3 m 11 #[vR ab1, vI 1, vI 3, vR t_1, vI 1] [(.int 3), (.int 1)] tgt
    refine XS.icmpNo X3.here hx rfl (hb hby d5_11) rfl (tlt (by decide : (1 : Int32) < (3 : Int32))).2.1 ?_
    show OwnG p e below T3 m 14 #[vR ab1, vI 1, vI 3, vR t_1, vI 1] [] tgt
    refine XS.aloadN X3.here hx rfl (hb hby d5_14) rfl rfl ?_
    show OwnG p e below T3 m 15 #[vR ab1, vI 1, vI 3, vR t_1, vI 1] [(.ref t_1)] tgt
    refine XS.iload X3.here hx rfl (hb hby d5_15) rfl ?_
    show OwnG p e below T3 m 17 #[vR ab1, vI 1, vI 3, vR t_1, vI 1] [(.int 1), (.ref t_1)] tgt
    refine XS.aloadN X3.here hx rfl (hb hby d5_17) rfl rfl ?_
    show OwnG p e below T3 m 18 #[vR ab1, vI 1, vI 3, vR t_1, vI 1] [(.ref ab1), (.int 1), (.ref t_1)] tgt
    refine XS.iloadN X3.here hx rfl (hb hby d5_18) rfl ?_
    show OwnG p e below T3 m 19 #[vR ab1, vI 1, vI 3, vR t_1, vI 1] [(.int 1), (.ref ab1), (.int 1), (.ref t_1)] tgt
    obtain ⟨cl5, Ar5, q5, S5, M5, H5, G5⟩ := F3_2
    refine X3.caload hx (j := (1 : Int32)) (v := (.int c2)) Ar5.1 (State.isArrayOf_alike hZ.alike Ar5.2.1) Ar5.2.2 (inb_of S5 ⟨by decide, by decide⟩) (Has.at H5 (inb_of S5 ⟨by decide, by decide⟩) rfl) (g := (mkF m 19 #[vR ab1, vI 1, vI 3, vR t_1, vI 1] [(.int 1), (.ref ab1), (.int 1), (.ref t_1)])) rfl rfl (hb hby d5_19) _ ?_
    exact kgo
  obtain ⟨_, _, ⟨T6, L6, k6, n6⟩, -, X6, ⟨Lc6, hQ6, l6, y6, z6⟩, st6⟩ := Jvm.LawKit.callS X3 hx (y := mN1) hown (mvT hZ (own_w hw 97 rfl)) (mvT hZ (own_w hw 98 rfl)) (mvT hZ (own_w hw 43 rfl)) (mvT hZ (own_w hw 99 rfl)) (by decide) (backOf (W := 0) (rm_u16put l Z a0 hw [] wG1 wG3 cx hEL T3.heap n0 Ol3 t_1 k_1 (6 : Int32) [(.int (nar .byte c1)), (.int (nar .byte (c1 >>> ((8 : Int32) &&& 31)))), (.int 0), (.int 0), (.int 0), (.int 0)] (1 : Int32) c2 2 Vp4 g_t_1 ⟨⟨⟨by decide, by decide⟩, rfl, Nat.le_of_ble_eq_true rfl⟩, ⟨⟨by decide, by decide⟩, rfl, Nat.le_of_ble_eq_true rfl⟩⟩) hZ (own_w hw 99 rfl) (own_w hw 43 rfl) (by decide) (by decide)) (g := (mkF m 20 #[vR ab1, vI 1, vI 3, vR t_1, vI 1] [(.int c2), (.int 1), (.ref t_1)])) rfl (by rw [hml]; rfl) (argsL := [(.ref t_1), (.int 1), (.int c2)]) (rest := []) (lenOf pd_52952394 rfl) rfl (Nat.le_of_eq rfl) (hb hby d5_20) (fun _ _ => ⟨rfl, rfl, (by decide : 1 + 0 ≤ _), (by decide : 6 + 0 ≤ _)⟩)
  dsimp only [Pt.U, Pt.locs, Pt.cells, Pt.slots] at X6 l6 y6 z6 st6 hQ6
  subst l6 y6 z6
  obtain ⟨rfl, Nq6, Kq6, fq6_0⟩ := hQ6
  refine OwnGoes.step (T' := T6) (g' := (mkF m 23 #[vR ab1, vI 1, vI 3, vR t_1, vI 1] [])) st6 ?_
  have N6 := Fr.app N3 Nq6
  have F6_3 := F3_2.keep Kq6 (ninS ne_ab1_t_1 nin0)
  have Ol6 := Ol3.keep Kq6 (allS g_t_1 all0)
  have K6 : Keep h0 T6.heap ([] : List Addr) := K3.trans Kq6 (allS (Or.inr s_t_1) all0)
  have Vp7 : Arv Z T6.heap t_1 k_1 .byte (6 : Int32) [(.int (nar .byte c1)), (.int (nar .byte (c1 >>> ((8 : Int32) &&& 31)))), (.int (nar .byte c2)), (.int (nar .byte (c2 >>> ((8 : Int32) &&& 31)))), (.int 0), (.int 0)] (.int 0) := fq6_0
  refine OwnGoes.step (T' := T6) (g' := (mkF m 20 #[vR ab1, vI 2, vI 3, vR t_1, vI 2] [(.int c3), (.int 2), (.ref t_1)])) (fun tgt kgo => ?_) ?_
  · refine XS.iinc X6.here hx rfl (hb hby d5_23) rfl (l' := #[vR ab1, vI 2, vI 3, vR t_1, vI 1]) rfl ?_
    show OwnG p e below T6 m 26 #[vR ab1, vI 2, vI 3, vR t_1, vI 1] [] tgt
    refine XS.iinc X6.here hx rfl (hb hby d5_26) rfl (l' := #[vR ab1, vI 2, vI 3, vR t_1, vI 2]) rfl ?_
    show OwnG p e below T6 m 29 #[vR ab1, vI 2, vI 3, vR t_1, vI 2] [] tgt
    refine XS.goto X6.here hx rfl (pc0 := 29) (pc' := 8) rfl (hb hby d5_29) (by decide) (by decide) ?_
    show OwnG p e below T6 m 8 #[vR ab1, vI 2, vI 3, vR t_1, vI 2] [] tgt
    refine XS.iload X6.here hx rfl (hb hby d5_8) rfl ?_
    show OwnG p e below T6 m 10 #[vR ab1, vI 2, vI 3, vR t_1, vI 2] [(.int 2)] tgt
    refine XS.iloadN X6.here hx rfl (hb hby d5_10) rfl ?_
    show OwnG p e below T6 m 11 #[vR ab1, vI 2, vI 3, vR t_1, vI 2] [(.int 3), (.int 2)] tgt
    refine XS.icmpNo X6.here hx rfl (hb hby d5_11) rfl (tlt (by decide : (2 : Int32) < (3 : Int32))).2.1 ?_
    show OwnG p e below T6 m 14 #[vR ab1, vI 2, vI 3, vR t_1, vI 2] [] tgt
    refine XS.aloadN X6.here hx rfl (hb hby d5_14) rfl rfl ?_
    show OwnG p e below T6 m 15 #[vR ab1, vI 2, vI 3, vR t_1, vI 2] [(.ref t_1)] tgt
    refine XS.iload X6.here hx rfl (hb hby d5_15) rfl ?_
    show OwnG p e below T6 m 17 #[vR ab1, vI 2, vI 3, vR t_1, vI 2] [(.int 2), (.ref t_1)] tgt
    refine XS.aloadN X6.here hx rfl (hb hby d5_17) rfl rfl ?_
    show OwnG p e below T6 m 18 #[vR ab1, vI 2, vI 3, vR t_1, vI 2] [(.ref ab1), (.int 2), (.ref t_1)] tgt
    refine XS.iloadN X6.here hx rfl (hb hby d5_18) rfl ?_
    show OwnG p e below T6 m 19 #[vR ab1, vI 2, vI 3, vR t_1, vI 2] [(.int 2), (.ref ab1), (.int 2), (.ref t_1)] tgt
    obtain ⟨cl8, Ar8, q8, S8, M8, H8, G8⟩ := F6_3
    refine X6.caload hx (j := (2 : Int32)) (v := (.int c3)) Ar8.1 (State.isArrayOf_alike hZ.alike Ar8.2.1) Ar8.2.2 (inb_of S8 ⟨by decide, by decide⟩) (Has.at H8 (inb_of S8 ⟨by decide, by decide⟩) rfl) (g := (mkF m 19 #[vR ab1, vI 2, vI 3, vR t_1, vI 2] [(.int 2), (.ref ab1), (.int 2), (.ref t_1)])) rfl rfl (hb hby d5_19) _ ?_
    exact kgo
  obtain ⟨_, _, ⟨T9, L9, k9, n9⟩, -, X9, ⟨Lc9, hQ9, l9, y9, z9⟩, st9⟩ := Jvm.LawKit.callS X6 hx (y := mN1) hown (mvT hZ (own_w hw 97 rfl)) (mvT hZ (own_w hw 98 rfl)) (mvT hZ (own_w hw 43 rfl)) (mvT hZ (own_w hw 99 rfl)) (by decide) (backOf (W := 0) (rm_u16put l Z a0 hw [] wG1 wG3 cx hEL T6.heap n0 Ol6 t_1 k_1 (6 : Int32) [(.int (nar .byte c1)), (.int (nar .byte (c1 >>> ((8 : Int32) &&& 31)))), (.int (nar .byte c2)), (.int (nar .byte (c2 >>> ((8 : Int32) &&& 31)))), (.int 0), (.int 0)] (2 : Int32) c3 4 Vp7 g_t_1 ⟨⟨⟨by decide, by decide⟩, rfl, Nat.le_of_ble_eq_true rfl⟩, ⟨⟨by decide, by decide⟩, rfl, Nat.le_of_ble_eq_true rfl⟩⟩) hZ (own_w hw 99 rfl) (own_w hw 43 rfl) (by decide) (by decide)) (g := (mkF m 20 #[vR ab1, vI 2, vI 3, vR t_1, vI 2] [(.int c3), (.int 2), (.ref t_1)])) rfl (by rw [hml]; rfl) (argsL := [(.ref t_1), (.int 2), (.int c3)]) (rest := []) (lenOf pd_52952394 rfl) rfl (Nat.le_of_eq rfl) (hb hby d5_20) (fun _ _ => ⟨rfl, rfl, (by decide : 1 + 0 ≤ _), (by decide : 6 + 0 ≤ _)⟩)
  dsimp only [Pt.U, Pt.locs, Pt.cells, Pt.slots] at X9 l9 y9 z9 st9 hQ9
  subst l9 y9 z9
  obtain ⟨rfl, Nq9, Kq9, fq9_0⟩ := hQ9
  refine OwnGoes.step (T' := T9) (g' := (mkF m 23 #[vR ab1, vI 2, vI 3, vR t_1, vI 2] [])) st9 ?_
  have N9 := Fr.app N6 Nq9
  have F9_4 := F6_3.keep Kq9 (ninS ne_ab1_t_1 nin0)
  have Ol9 := Ol6.keep Kq9 (allS g_t_1 all0)
  have K9 : Keep h0 T9.heap ([] : List Addr) := K6.trans Kq9 (allS (Or.inr s_t_1) all0)
  have Vp10 : Arv Z T9.heap t_1 k_1 .byte (6 : Int32) [(.int (nar .byte c1)), (.int (nar .byte (c1 >>> ((8 : Int32) &&& 31)))), (.int (nar .byte c2)), (.int (nar .byte (c2 >>> ((8 : Int32) &&& 31)))), (.int (nar .byte c3)), (.int (nar .byte (c3 >>> ((8 : Int32) &&& 31))))] (.int 0) := fq9_0
  refine OwnGoes.step (T' := T9) (g' := (mkF m 33 #[vR ab1, vI 3, vI 3, vR t_1, vI 3] [(.ref t_1)])) (fun tgt kgo => ?_) ?_
  · refine XS.iinc X9.here hx rfl (hb hby d5_23) rfl (l' := #[vR ab1, vI 3, vI 3, vR t_1, vI 2]) rfl ?_
    show OwnG p e below T9 m 26 #[vR ab1, vI 3, vI 3, vR t_1, vI 2] [] tgt
    refine XS.iinc X9.here hx rfl (hb hby d5_26) rfl (l' := #[vR ab1, vI 3, vI 3, vR t_1, vI 3]) rfl ?_
    show OwnG p e below T9 m 29 #[vR ab1, vI 3, vI 3, vR t_1, vI 3] [] tgt
    refine XS.goto X9.here hx rfl (pc0 := 29) (pc' := 8) rfl (hb hby d5_29) (by decide) (by decide) ?_
    show OwnG p e below T9 m 8 #[vR ab1, vI 3, vI 3, vR t_1, vI 3] [] tgt
    refine XS.iload X9.here hx rfl (hb hby d5_8) rfl ?_
    show OwnG p e below T9 m 10 #[vR ab1, vI 3, vI 3, vR t_1, vI 3] [(.int 3)] tgt
    refine XS.iloadN X9.here hx rfl (hb hby d5_10) rfl ?_
    show OwnG p e below T9 m 11 #[vR ab1, vI 3, vI 3, vR t_1, vI 3] [(.int 3), (.int 3)] tgt
    refine XS.icmpYes X9.here hx rfl (pc0 := 11) (pc' := 32) rfl (hb hby d5_11) rfl (flt (by decide : ¬ ((3 : Int32) < (3 : Int32)))).2.1 (by decide) (by decide) ?_
    show OwnG p e below T9 m 32 #[vR ab1, vI 3, vI 3, vR t_1, vI 3] [] tgt
    refine XS.aloadN X9.here hx rfl (hb hby d5_32) rfl rfl ?_
    exact kgo
  have hret : ∀ fs, (∀ (f : JFrame) (acts : List Action), f.method = m → f.locked = none → f.entered = [] → (doReturn e (T9.setTop f) acts (some (.ref t_1))).1 = T9.setFrames fs) → Steps p.tables e below (T9.setTop (mkF m 33 #[vR ab1, vI 3, vI 3, vR t_1, vI 3] [(.ref t_1)])) (T9.setFrames fs) := by
    intro fs hr
    jvm_step X9.here [X9.here.top, hx, (hb hby d5_33), X9.method', Bd.returns, Value.isRef, FieldType.isReference]
    first | (intro acts; rw [hr _ acts rfl rfl rfl]) | rw [hr _ _ rfl rfl rfl]
    exact Steps.refl _
  refine own_leave X9 hlk (v := some (.ref t_1)) (fun h => by rw [Bd.returns] at h; cases h) hret (by decide) (by decide) ?_
  show Q_tob_3 Z ab1 kc c1 c2 c3 h0 n0 _ T9.heap _
  exact ⟨t_1, k_1, rfl, N9, K9, s_t_1, Vp10⟩
theorem ef_c3_3 (m : MethodId) (x0 : Addr) : entryFrame m #[(.ref x0), (.int 0), (.int 3)] 6 = mkF m 0 #[vR x0, vI 0, vI 3, vU, vU, vU] [] := by
  first | (simp [entryFrame, mkF, argsToLocals, Value.category]; done) | rfl
def Q_c3_3 (Z : State) (ab1 : Addr) (kc : ClassId) (c1 : Int32) (c2 : Int32) (c3 : Int32) (h0 : Heap) (n0 : Nat) (v : Option Value) (h : Heap) (L : List Loc) : Prop := ∃ (t : Addr), ∃ (k : ClassId), ∃ (N : Int32), ∃ (vs : List Value), ∃ (cd : Int32), v = some (.ref t) ∧ Fr n0 L ∧ Keep h0 h ([] : List Addr) ∧ h0.size ≤ t ∧ Arv Z h t k .byte N vs (.int 0) ∧ ((N = (3 : Int32) ∧ cd = (0 : Int32) ∧ OwnStr ([c1, c2, c3] : List Int32) cd N vs) ∨ (N = (6 : Int32) ∧ cd = (1 : Int32) ∧ OwnStr ([c1, c2, c3] : List Int32) cd N vs))
set_option maxRecDepth 65536 in
set_option maxHeartbeats 40000000 in
theorem rm_c3_3 (l : Launch) (Z : State) (a0 : Array Value) (hw : ∀ d ∈ tables_1, d.before a0 Z = true) (ws : List Jvm.Cond) (wG1 : Int32) (wG3 : Value) (cx : OwnCx Z a0 wG1 wG3) (hEL : EW Z a0 consts_1) (h0 : Heap) (n0 : Nat) (X00 : Old Z n0 h0) (ab1 : Addr) (kc : ClassId) (c1 : Int32) (c2 : Int32) (c3 : Int32) (f0 : Arv Z h0 ab1 kc .char (3 : Int32) [(.int c1), (.int c2), (.int c3)] (.int 0)) (hw1 : ¬ c1 < 0 ∧ ¬ (65535 : Int32) < c1) (hw2 : ¬ c2 < 0 ∧ ¬ (65535 : Int32) < c2) (hw3 : ¬ c3 < 0 ∧ ¬ (65535 : Int32) < c3) :
    MetFree l mN6 (head1 (Jvm.Cond.code mN6 jdk_52_method_16_code 6 (some (.array .byte)) :: ws) ({ frames := 3, cells := 2, slots := 9, locals := 40 } : Room)) (fun a U => a = #[(.ref ab1), (.int 0), (.int 3)] ∧ Z.Warmed39 U.vm ∧ U.heap = h0) (fun _ _ _ _ _ => True) (fun _ U o U' => ∃ v L, o = .returned v ∧ Q_c3_3 Z ab1 kc c1 c2 c3 h0 n0 v U'.heap L ∧ FrameEnd U o U' L ({ frames := 3, cells := 2, slots := 9, locals := 40 } : Room).cells ({ frames := 3, cells := 2, slots := 9, locals := 40 } : Room).slots) := by
  refine MetFree.of_bodySF (plainFor_of_name pn_68381282) hisR ?_
  intro p e s m args below meth c s₁ Bd hml0 hP hK
  obtain ⟨rfl, hZ, hh⟩ := hP
  obtain ⟨wO2, wP5, wO4, wrG3, hstr, wUA, wUH, wUL⟩ := id cx
  have hx := Bd.exec
  have hby := Bd.bytes
  have hlk := Bd.notSynchronized
  have hml : c.maxLocals = 6 := hml0
  have hown : s.vm.findClass "java/lang/StringUTF16" = some m.cls := findClass_of_methodNamed Bd.named
  have hnm := (name_of_methodNamed Bd.named Bd.method).1
  have X0 : Stand p l e ({ frames := 3, cells := 2, slots := 9, locals := 40 } : Room) s m #[(.ref ab1), (.int 0), (.int 3)] below meth c s₁ [] 0 0 := Stand.of_body Bd
  have e0 : s₁.heap = h0 := by rw [← hh, Bd.state]; rfl
  have N0 := Fr.nil n0
  have Z0 : n0 ≤ h0.size := X00.1 ▸ X00.2.1
  have K0 : Keep h0 h0 ([] : List Addr) := Keep.refl _ _
  show OwnGoes p e below (fun o U' => ∃ v L, o = .returned v ∧ Q_c3_3 Z ab1 kc c1 c2 c3 h0 n0 v U'.heap L ∧ FrameEnd s o U' L ({ frames := 3, cells := 2, slots := 9, locals := 40 } : Room).cells ({ frames := 3, cells := 2, slots := 9, locals := 40 } : Room).slots) s₁ (entryFrame m #[(.ref ab1), (.int 0), (.int 3)] 6)
  refine OwnGoes.step (T' := s₁) (g' := (mkF m 0 #[vR ab1, vI 0, vI 3, vU, vU, vU] [])) (fun tgt kgo => castTop (ef_c3_3 m ab1) kgo) ?_
  refine OwnGoes.step (T' := s₁) (g' := (mkF m 1 #[vR ab1, vI 0, vI 3, vU, vU, vU] [(.int 3)])) (fun tgt kgo => ?_) ?_
  · refine XS.iloadN X0.here hx rfl (hb hby d6_0) rfl ?_
    exact kgo
  obtain ⟨T1, h1, k1, X1, e1, E1, A1, st1⟩ := newP X0 hx hZ (own_w hw 24 rfl) e0 (g := (mkF m 1 #[vR ab1, vI 0, vI 3, vU, vU, vU] [(.int 3)])) rfl (hb hby d6_1) rfl (by decide) (cap := 3) (by decide) (by decide) (by decide) (by decide)
  obtain ⟨b1, g1⟩ : ∃ z, z = h0.size := ⟨_, rfl⟩
  rw [← g1] at A1 st1
  refine OwnGoes.step (T' := T1) (g' := (mkF m 3 #[vR ab1, vI 0, vI 3, vU, vU, vU] [(.ref b1)])) st1 ?_
  have V1 : Arv Z h1 b1 k1 .byte (3 : Int32) [(.int 0), (.int 0), (.int 0)] (.int 0) := (Arv.new A1 (by decide)).pad (pad_rep [] (.int 0) 3)
  have ne_ab1_b1 : ab1 ≠ b1 := Nat.ne_of_lt (Nat.lt_of_lt_of_le f0.lt (Nat.le_of_eq g1.symm))
  have g_b1 : n0 ≤ b1 := Nat.le_trans (Nat.le_trans Z0 K0.1) (Nat.le_of_eq g1.symm)
  have s_b1 : h0.size ≤ b1 := Nat.le_trans K0.1 (Nat.le_of_eq g1.symm)
  have F1_1 := f0.ext E1
  have Ol1 := X00.ext E1
  have K1 : Keep h0 h1 ([] : List Addr) := K0.ext E1
  refine OwnGoes.step (T' := T1) (g' := (mkF m 9 #[vR ab1, vI 0, vI 3, vR b1, vU, vU] [(.int 3), (.int 0), (.ref b1), (.int 0), (.ref ab1)])) (fun tgt kgo => ?_) ?_
  · refine XS.astoreN X1.here hx rfl (hb hby d6_3) rfl rfl (l' := #[vR ab1, vI 0, vI 3, vR b1, vU, vU]) rfl ?_
    show OwnG p e below T1 m 4 #[vR ab1, vI 0, vI 3, vR b1, vU, vU] [] tgt
    refine XS.aloadN X1.here hx rfl (hb hby d6_4) rfl rfl ?_
    show OwnG p e below T1 m 5 #[vR ab1, vI 0, vI 3, vR b1, vU, vU] [(.ref ab1)] tgt
    refine XS.iloadN X1.here hx rfl (hb hby d6_5) rfl ?_
    show OwnG p e below T1 m 6 #[vR ab1, vI 0, vI 3, vR b1, vU, vU] [(.int 0), (.ref ab1)] tgt
    refine XS.aloadN X1.here hx rfl (hb hby d6_6) rfl rfl ?_
    show OwnG p e below T1 m 7 #[vR ab1, vI 0, vI 3, vR b1, vU, vU] [(.ref b1), (.int 0), (.ref ab1)] tgt
    refine XS.iconst X1.here hx rfl (hb hby d6_7) ?_
    show OwnG p e below T1 m 8 #[vR ab1, vI 0, vI 3, vR b1, vU, vU] [(.int 0), (.ref b1), (.int 0), (.ref ab1)] tgt
    refine XS.iloadN X1.here hx rfl (hb hby d6_8) rfl ?_
    exact kgo
  obtain ⟨_, _, ⟨T2, L2, k2, n2⟩, -, X2, ⟨Lc2, hQ2, l2, y2, z2⟩, st2⟩ := Jvm.LawKit.callS X1 hx (y := mN2) hown (mvT hZ (own_w hw 45 rfl)) (mvT hZ (own_w hw 46 rfl)) (mvT hZ (own_w hw 43 rfl)) (mvT hZ (own_w hw 47 rfl)) (by decide) (backOf (W := 0) (rm_c5_3 l Z a0 hw [] wG1 wG3 cx hEL h1 n0 Ol1 ab1 b1 kc k1 c1 c2 c3 F1_1 V1 g_b1) hZ (own_w hw 47 rfl) (own_w hw 43 rfl) (by decide) (by decide)) (g := (mkF m 9 #[vR ab1, vI 0, vI 3, vR b1, vU, vU] [(.int 3), (.int 0), (.ref b1), (.int 0), (.ref ab1)])) rfl (by rw [hml]; rfl) (argsL := [(.ref ab1), (.int 0), (.ref b1), (.int 0), (.int 3)]) (rest := []) (lenOf pd_51558503 rfl) rfl (Nat.le_of_eq rfl) (hb hby d6_9) (fun _ _ => ⟨rfl, e1, (by decide : 1 + 0 ≤ _), (by decide : 3 + 0 ≤ _)⟩)
  dsimp only [Pt.U, Pt.locs, Pt.cells, Pt.slots] at X2 l2 y2 z2 st2 hQ2
  subst l2 y2 z2
  obtain ⟨r_2, vs_2, rfl, Nq2, Kq2, fq2_0, pq2_0⟩ := hQ2
  refine OwnGoes.step (T' := T2) (g' := (mkF m 12 #[vR ab1, vI 0, vI 3, vR b1, vU, vU] [(.int r_2)])) st2 ?_
  have N2 := Fr.app N0 Nq2
  have F2_2 := F1_1.keep Kq2 (ninS ne_ab1_b1 nin0)
  have Ol2 := Ol1.keep Kq2 (allS g_b1 all0)
  have K2 : Keep h0 T2.heap ([] : List Addr) := K1.trans Kq2 (allS (Or.inr s_b1) all0)
  refine OwnGoes.step (T' := T2) (g' := (mkF m 14 #[vR ab1, vI 0, vI 3, vR b1, vI r_2, vU] [])) (fun tgt kgo => ?_) ?_
  · refine XS.istore X2.here hx rfl (hb hby d6_12) rfl (l' := #[vR ab1, vI 0, vI 3, vR b1, vI r_2, vU]) rfl ?_
    exact kgo
  rcases pq2_0 with ⟨rfl, rfl, hl0, hl1, hl2⟩ | ⟨rfl, hbig⟩ | ⟨rfl, hbig⟩ | ⟨rfl, hbig⟩
  · skip
    refine OwnGoes.step (T' := T2) (g' := (mkF m 58 #[vR ab1, vI 0, vI 3, vR b1, vI 3, vU] [(.ref b1)])) (fun tgt kgo => ?_) ?_
    · refine XS.iload X2.here hx rfl (hb hby d6_14) rfl ?_
      show OwnG p e below T2 m 16 #[vR ab1, vI 0, vI 3, vR b1, vI 3, vU] [(.int 3)] tgt
      refine XS.iloadN X2.here hx rfl (hb hby d6_16) rfl ?_
      show OwnG p e below T2 m 17 #[vR ab1, vI 0, vI 3, vR b1, vI 3, vU] [(.int 3), (.int 3)] tgt
      refine XS.icmpYes X2.here hx rfl (pc0 := 17) (pc' := 57) rfl (hb hby d6_17) rfl (teq (by decide : (3 : Int32) = (3 : Int32))).1 (by decide) (by decide) ?_
      show OwnG p e below T2 m 57 #[vR ab1, vI 0, vI 3, vR b1, vI 3, vU] [] tgt
      refine XS.aloadN X2.here hx rfl (hb hby d6_57) rfl rfl ?_
      exact kgo
    have hret : ∀ fs, (∀ (f : JFrame) (acts : List Action), f.method = m → f.locked = none → f.entered = [] → (doReturn e (T2.setTop f) acts (some (.ref b1))).1 = T2.setFrames fs) → Steps p.tables e below (T2.setTop (mkF m 58 #[vR ab1, vI 0, vI 3, vR b1, vI 3, vU] [(.ref b1)])) (T2.setFrames fs) := by
      intro fs hr
      jvm_step X2.here [X2.here.top, hx, (hb hby d6_58), X2.method', Bd.returns, Value.isRef, FieldType.isReference]
      first | (intro acts; rw [hr _ acts rfl rfl rfl]) | rw [hr _ _ rfl rfl rfl]
      exact Steps.refl _
    refine own_leave X2 hlk (v := some (.ref b1)) (fun h => by rw [Bd.returns] at h; cases h) hret (by decide) (by decide) ?_
    show Q_c3_3 Z ab1 kc c1 c2 c3 h0 n0 _ T2.heap _
    exact ⟨b1, k1, (3 : Int32), [(.int (nar .byte c1)), (.int (nar .byte c2)), (.int (nar .byte c3))], (0 : Int32), rfl, N2, K2, s_b1, fq2_0, (Or.inl ⟨rfl, rfl, own_str_lat (cs := ([c1, c2, c3] : List Int32)) (n := 3) rfl (by decide) (own_memS ⟨hw1.1, hl0⟩ (own_memS ⟨hw2.1, hl1⟩ (own_memS ⟨hw3.1, hl2⟩ own_mem0)))⟩)⟩
  · skip
    refine OwnGoes.step (T' := T2) (g' := (mkF m 23 #[vR ab1, vI 0, vI 3, vR b1, vI 0, vU] [(.int 3), (.int 0), (.ref ab1)])) (fun tgt kgo => ?_) ?_
    · refine XS.iload X2.here hx rfl (hb hby d6_14) rfl ?_
      show OwnG p e below T2 m 16 #[vR ab1, vI 0, vI 3, vR b1, vI 0, vU] [(.int 0)] tgt
      refine XS.iloadN X2.here hx rfl (hb hby d6_16) rfl ?_
      show OwnG p e below T2 m 17 #[vR ab1, vI 0, vI 3, vR b1, vI 0, vU] [(.int 3), (.int 0)] tgt
      refine XS.icmpNo X2.here hx rfl (hb hby d6_17) rfl (feq (by decide : ¬ ((0 : Int32) = (3 : Int32)))).1 ?_
      show OwnG p e below T2 m 20 #[vR ab1, vI 0, vI 3, vR b1, vI 0, vU] [] tgt
      refine XS.aloadN X2.here hx rfl (hb hby d6_20) rfl rfl ?_
      show OwnG p e below T2 m 21 #[vR ab1, vI 0, vI 3, vR b1, vI 0, vU] [(.ref ab1)] tgt
      refine XS.iloadN X2.here hx rfl (hb hby d6_21) rfl ?_
      show OwnG p e below T2 m 22 #[vR ab1, vI 0, vI 3, vR b1, vI 0, vU] [(.int 0), (.ref ab1)] tgt
      refine XS.iloadN X2.here hx rfl (hb hby d6_22) rfl ?_
      exact kgo
    obtain ⟨_, _, ⟨T4, L4, k4, n4⟩, -, X4, ⟨Lc4, hQ4, l4, y4, z4⟩, st4⟩ := Jvm.LawKit.callS X2 hx (y := mN5) hown (mvT hZ (own_w hw 87 rfl)) (mvT hZ (own_w hw 88 rfl)) (mvT hZ (own_w hw 43 rfl)) (mvT hZ (own_w hw 89 rfl)) (by decide) (backOf (W := 0) (rm_tob_3 l Z a0 hw [] wG1 wG3 cx hEL T2.heap n0 Ol2 ab1 kc c1 c2 c3 F2_2) hZ (own_w hw 89 rfl) (own_w hw 43 rfl) (by decide) (by decide)) (g := (mkF m 23 #[vR ab1, vI 0, vI 3, vR b1, vI 0, vU] [(.int 3), (.int 0), (.ref ab1)])) rfl (by rw [hml]; rfl) (argsL := [(.ref ab1), (.int 0), (.int 3)]) (rest := []) (lenOf pd_23256262 rfl) rfl (Nat.le_of_eq rfl) (hb hby d6_23) (fun _ _ => ⟨rfl, rfl, (by decide : 1 + 1 ≤ _), (by decide : 3 + 6 ≤ _)⟩)
    dsimp only [Pt.U, Pt.locs, Pt.cells, Pt.slots] at X4 l4 y4 z4 st4 hQ4
    subst l4 y4 z4
    obtain ⟨t_4, k_4, rfl, Nq4, Kq4, zq4_0, fq4_0⟩ := hQ4
    refine OwnGoes.step (T' := T4) (g' := (mkF m 26 #[vR ab1, vI 0, vI 3, vR b1, vI 0, vU] [(.ref t_4)])) st4 ?_
    have N4 := Fr.app N2 Nq4
    have ne_ab1_t_4 : ab1 ≠ t_4 := Nat.ne_of_lt (Nat.lt_of_lt_of_le F2_2.lt zq4_0)
    have ne_b1_t_4 : b1 ≠ t_4 := Nat.ne_of_lt (Nat.lt_of_lt_of_le fq2_0.lt zq4_0)
    have g_t_4 : n0 ≤ t_4 := Nat.le_trans (Nat.le_trans Z0 K2.1) zq4_0
    have s_t_4 : h0.size ≤ t_4 := Nat.le_trans K2.1 zq4_0
    have F4_3 := F2_2.keep Kq4 nin0
    have F4_4 := fq2_0.keep Kq4 nin0
    have Ol4 := Ol2.keep Kq4 all0
    have K4 : Keep h0 T4.heap ([] : List Addr) := K2.trans Kq4 all0
    refine OwnGoes.step (T' := T4) (g' := (mkF m 32 #[vR ab1, vI 0, vI 3, vR b1, vI 0, vR t_4] [(.int 0), (.ref t_4)])) (fun tgt kgo => ?_) ?_
    · refine XS.astore X4.here hx rfl (hb hby d6_26) rfl rfl (l' := #[vR ab1, vI 0, vI 3, vR b1, vI 0, vR t_4]) rfl ?_
      show OwnG p e below T4 m 28 #[vR ab1, vI 0, vI 3, vR b1, vI 0, vR t_4] [] tgt
      refine XS.aload X4.here hx rfl (hb hby d6_28) rfl rfl ?_
      show OwnG p e below T4 m 30 #[vR ab1, vI 0, vI 3, vR b1, vI 0, vR t_4] [(.ref t_4)] tgt
      refine XS.iload X4.here hx rfl (hb hby d6_30) rfl ?_
      exact kgo
    obtain ⟨_, _, ⟨T5, L5, k5, n5⟩, -, X5, ⟨Lc5, hQ5, l5, y5, z5⟩, st5⟩ := Jvm.LawKit.callS X4 hx (y := mN0) hown (mvT hZ (own_w hw 103 rfl)) (mvT hZ (own_w hw 104 rfl)) (mvT hZ (own_w hw 43 rfl)) (mvT hZ (own_w hw 105 rfl)) (by decide) (backOf (W := 0) (rm_u16get l Z a0 hw [] wG1 wG3 cx hEL T4.heap n0 Ol4 t_4 k_4 (6 : Int32) [(.int (nar .byte c1)), (.int (nar .byte (c1 >>> ((8 : Int32) &&& 31)))), (.int (nar .byte c2)), (.int (nar .byte (c2 >>> ((8 : Int32) &&& 31)))), (.int (nar .byte c3)), (.int (nar .byte (c3 >>> ((8 : Int32) &&& 31))))] (0 : Int32) c1 fq4_0 ⟨_, _, ⟨⟨by decide, by decide⟩, rfl⟩, ⟨⟨by decide, by decide⟩, rfl⟩, own_pair hw1, own_nar_w hw1⟩) hZ (own_w hw 105 rfl) (own_w hw 43 rfl) (by decide) (by decide)) (g := (mkF m 32 #[vR ab1, vI 0, vI 3, vR b1, vI 0, vR t_4] [(.int 0), (.ref t_4)])) rfl (by rw [hml]; rfl) (argsL := [(.ref t_4), (.int 0)]) (rest := []) (lenOf pd_30427418 rfl) rfl (Nat.le_of_eq rfl) (hb hby d6_32) (fun _ _ => ⟨rfl, rfl, (by decide : 2 + 0 ≤ _), (by decide : 9 + 0 ≤ _)⟩)
    dsimp only [Pt.U, Pt.locs, Pt.cells, Pt.slots] at X5 l5 y5 z5 st5 hQ5
    subst l5 y5 z5
    obtain ⟨rfl, Nq5, eq5⟩ := hQ5
    refine OwnGoes.step (T' := T5) (g' := (mkF m 35 #[vR ab1, vI 0, vI 3, vR b1, vI 0, vR t_4] [(.int c1)])) st5 ?_
    have N5 := Fr.app N4 Nq5
    refine OwnGoes.step (T' := T5) (g' := (mkF m 56 #[vR ab1, vI 0, vI 3, vR b1, vI 0, vR t_4] [(.ref t_4)])) (fun tgt kgo => ?_) ?_
    · refine XS.sipush X5.here hx rfl (hb hby d6_35) ?_
      show OwnG p e below T5 m 38 #[vR ab1, vI 0, vI 3, vR b1, vI 0, vR t_4] [(.int 255), (.int c1)] tgt
      refine XS.icmpYes X5.here hx rfl (pc0 := 38) (pc' := 54) rfl (hb hby d6_38) rfl (tlt hbig).2.2.1 (by decide) (by decide) ?_
      show OwnG p e below T5 m 54 #[vR ab1, vI 0, vI 3, vR b1, vI 0, vR t_4] [] tgt
      refine XS.aload X5.here hx rfl (hb hby d6_54) rfl rfl ?_
      exact kgo
    have hret : ∀ fs, (∀ (f : JFrame) (acts : List Action), f.method = m → f.locked = none → f.entered = [] → (doReturn e (T5.setTop f) acts (some (.ref t_4))).1 = T5.setFrames fs) → Steps p.tables e below (T5.setTop (mkF m 56 #[vR ab1, vI 0, vI 3, vR b1, vI 0, vR t_4] [(.ref t_4)])) (T5.setFrames fs) := by
      intro fs hr
      jvm_step X5.here [X5.here.top, hx, (hb hby d6_56), X5.method', Bd.returns, Value.isRef, FieldType.isReference]
      first | (intro acts; rw [hr _ acts rfl rfl rfl]) | rw [hr _ _ rfl rfl rfl]
      exact Steps.refl _
    refine own_leave X5 hlk (v := some (.ref t_4)) (fun h => by rw [Bd.returns] at h; cases h) hret (by decide) (by decide) ?_
    show Q_c3_3 Z ab1 kc c1 c2 c3 h0 n0 _ T5.heap _
    rw [eq5]
    exact ⟨t_4, k_4, (6 : Int32), [(.int (nar .byte c1)), (.int (nar .byte (c1 >>> ((8 : Int32) &&& 31)))), (.int (nar .byte c2)), (.int (nar .byte (c2 >>> ((8 : Int32) &&& 31)))), (.int (nar .byte c3)), (.int (nar .byte (c3 >>> ((8 : Int32) &&& 31))))], (1 : Int32), rfl, N5, K4, s_t_4, fq4_0, (Or.inr ⟨rfl, rfl, own_str_wide (cs := ([c1, c2, c3] : List Int32)) (n := 3) rfl (by decide) (own_memS hw1 (own_memS hw2 (own_memS hw3 own_mem0))) ⟨_, List.mem_of_getElem? (i := 0) rfl, hbig⟩⟩)⟩
  · skip
    refine OwnGoes.step (T' := T2) (g' := (mkF m 23 #[vR ab1, vI 0, vI 3, vR b1, vI 1, vU] [(.int 3), (.int 0), (.ref ab1)])) (fun tgt kgo => ?_) ?_
    · refine XS.iload X2.here hx rfl (hb hby d6_14) rfl ?_
      show OwnG p e below T2 m 16 #[vR ab1, vI 0, vI 3, vR b1, vI 1, vU] [(.int 1)] tgt
      refine XS.iloadN X2.here hx rfl (hb hby d6_16) rfl ?_
      show OwnG p e below T2 m 17 #[vR ab1, vI 0, vI 3, vR b1, vI 1, vU] [(.int 3), (.int 1)] tgt
      refine XS.icmpNo X2.here hx rfl (hb hby d6_17) rfl (feq (by decide : ¬ ((1 : Int32) = (3 : Int32)))).1 ?_
      show OwnG p e below T2 m 20 #[vR ab1, vI 0, vI 3, vR b1, vI 1, vU] [] tgt
      refine XS.aloadN X2.here hx rfl (hb hby d6_20) rfl rfl ?_
      show OwnG p e below T2 m 21 #[vR ab1, vI 0, vI 3, vR b1, vI 1, vU] [(.ref ab1)] tgt
      refine XS.iloadN X2.here hx rfl (hb hby d6_21) rfl ?_
      show OwnG p e below T2 m 22 #[vR ab1, vI 0, vI 3, vR b1, vI 1, vU] [(.int 0), (.ref ab1)] tgt
      refine XS.iloadN X2.here hx rfl (hb hby d6_22) rfl ?_
      exact kgo
    obtain ⟨_, _, ⟨T7, L7, k7, n7⟩, -, X7, ⟨Lc7, hQ7, l7, y7, z7⟩, st7⟩ := Jvm.LawKit.callS X2 hx (y := mN5) hown (mvT hZ (own_w hw 87 rfl)) (mvT hZ (own_w hw 88 rfl)) (mvT hZ (own_w hw 43 rfl)) (mvT hZ (own_w hw 89 rfl)) (by decide) (backOf (W := 0) (rm_tob_3 l Z a0 hw [] wG1 wG3 cx hEL T2.heap n0 Ol2 ab1 kc c1 c2 c3 F2_2) hZ (own_w hw 89 rfl) (own_w hw 43 rfl) (by decide) (by decide)) (g := (mkF m 23 #[vR ab1, vI 0, vI 3, vR b1, vI 1, vU] [(.int 3), (.int 0), (.ref ab1)])) rfl (by rw [hml]; rfl) (argsL := [(.ref ab1), (.int 0), (.int 3)]) (rest := []) (lenOf pd_23256262 rfl) rfl (Nat.le_of_eq rfl) (hb hby d6_23) (fun _ _ => ⟨rfl, rfl, (by decide : 1 + 1 ≤ _), (by decide : 3 + 6 ≤ _)⟩)
    dsimp only [Pt.U, Pt.locs, Pt.cells, Pt.slots] at X7 l7 y7 z7 st7 hQ7
    subst l7 y7 z7
    obtain ⟨t_7, k_7, rfl, Nq7, Kq7, zq7_0, fq7_0⟩ := hQ7
    refine OwnGoes.step (T' := T7) (g' := (mkF m 26 #[vR ab1, vI 0, vI 3, vR b1, vI 1, vU] [(.ref t_7)])) st7 ?_
    have N7 := Fr.app N2 Nq7
    have ne_ab1_t_7 : ab1 ≠ t_7 := Nat.ne_of_lt (Nat.lt_of_lt_of_le F2_2.lt zq7_0)
    have ne_b1_t_7 : b1 ≠ t_7 := Nat.ne_of_lt (Nat.lt_of_lt_of_le fq2_0.lt zq7_0)
    have g_t_7 : n0 ≤ t_7 := Nat.le_trans (Nat.le_trans Z0 K2.1) zq7_0
    have s_t_7 : h0.size ≤ t_7 := Nat.le_trans K2.1 zq7_0
    have F7_5 := F2_2.keep Kq7 nin0
    have F7_6 := fq2_0.keep Kq7 nin0
    have Ol7 := Ol2.keep Kq7 all0
    have K7 : Keep h0 T7.heap ([] : List Addr) := K2.trans Kq7 all0
    refine OwnGoes.step (T' := T7) (g' := (mkF m 32 #[vR ab1, vI 0, vI 3, vR b1, vI 1, vR t_7] [(.int 1), (.ref t_7)])) (fun tgt kgo => ?_) ?_
    · refine XS.astore X7.here hx rfl (hb hby d6_26) rfl rfl (l' := #[vR ab1, vI 0, vI 3, vR b1, vI 1, vR t_7]) rfl ?_
      show OwnG p e below T7 m 28 #[vR ab1, vI 0, vI 3, vR b1, vI 1, vR t_7] [] tgt
      refine XS.aload X7.here hx rfl (hb hby d6_28) rfl rfl ?_
      show OwnG p e below T7 m 30 #[vR ab1, vI 0, vI 3, vR b1, vI 1, vR t_7] [(.ref t_7)] tgt
      refine XS.iload X7.here hx rfl (hb hby d6_30) rfl ?_
      exact kgo
    obtain ⟨_, _, ⟨T8, L8, k8, n8⟩, -, X8, ⟨Lc8, hQ8, l8, y8, z8⟩, st8⟩ := Jvm.LawKit.callS X7 hx (y := mN0) hown (mvT hZ (own_w hw 103 rfl)) (mvT hZ (own_w hw 104 rfl)) (mvT hZ (own_w hw 43 rfl)) (mvT hZ (own_w hw 105 rfl)) (by decide) (backOf (W := 0) (rm_u16get l Z a0 hw [] wG1 wG3 cx hEL T7.heap n0 Ol7 t_7 k_7 (6 : Int32) [(.int (nar .byte c1)), (.int (nar .byte (c1 >>> ((8 : Int32) &&& 31)))), (.int (nar .byte c2)), (.int (nar .byte (c2 >>> ((8 : Int32) &&& 31)))), (.int (nar .byte c3)), (.int (nar .byte (c3 >>> ((8 : Int32) &&& 31))))] (1 : Int32) c2 fq7_0 ⟨_, _, ⟨⟨by decide, by decide⟩, rfl⟩, ⟨⟨by decide, by decide⟩, rfl⟩, own_pair hw2, own_nar_w hw2⟩) hZ (own_w hw 105 rfl) (own_w hw 43 rfl) (by decide) (by decide)) (g := (mkF m 32 #[vR ab1, vI 0, vI 3, vR b1, vI 1, vR t_7] [(.int 1), (.ref t_7)])) rfl (by rw [hml]; rfl) (argsL := [(.ref t_7), (.int 1)]) (rest := []) (lenOf pd_30427418 rfl) rfl (Nat.le_of_eq rfl) (hb hby d6_32) (fun _ _ => ⟨rfl, rfl, (by decide : 2 + 0 ≤ _), (by decide : 9 + 0 ≤ _)⟩)
    dsimp only [Pt.U, Pt.locs, Pt.cells, Pt.slots] at X8 l8 y8 z8 st8 hQ8
    subst l8 y8 z8
    obtain ⟨rfl, Nq8, eq8⟩ := hQ8
    refine OwnGoes.step (T' := T8) (g' := (mkF m 35 #[vR ab1, vI 0, vI 3, vR b1, vI 1, vR t_7] [(.int c2)])) st8 ?_
    have N8 := Fr.app N7 Nq8
    refine OwnGoes.step (T' := T8) (g' := (mkF m 56 #[vR ab1, vI 0, vI 3, vR b1, vI 1, vR t_7] [(.ref t_7)])) (fun tgt kgo => ?_) ?_
    · refine XS.sipush X8.here hx rfl (hb hby d6_35) ?_
      show OwnG p e below T8 m 38 #[vR ab1, vI 0, vI 3, vR b1, vI 1, vR t_7] [(.int 255), (.int c2)] tgt
      refine XS.icmpYes X8.here hx rfl (pc0 := 38) (pc' := 54) rfl (hb hby d6_38) rfl (tlt hbig).2.2.1 (by decide) (by decide) ?_
      show OwnG p e below T8 m 54 #[vR ab1, vI 0, vI 3, vR b1, vI 1, vR t_7] [] tgt
      refine XS.aload X8.here hx rfl (hb hby d6_54) rfl rfl ?_
      exact kgo
    have hret : ∀ fs, (∀ (f : JFrame) (acts : List Action), f.method = m → f.locked = none → f.entered = [] → (doReturn e (T8.setTop f) acts (some (.ref t_7))).1 = T8.setFrames fs) → Steps p.tables e below (T8.setTop (mkF m 56 #[vR ab1, vI 0, vI 3, vR b1, vI 1, vR t_7] [(.ref t_7)])) (T8.setFrames fs) := by
      intro fs hr
      jvm_step X8.here [X8.here.top, hx, (hb hby d6_56), X8.method', Bd.returns, Value.isRef, FieldType.isReference]
      first | (intro acts; rw [hr _ acts rfl rfl rfl]) | rw [hr _ _ rfl rfl rfl]
      exact Steps.refl _
    refine own_leave X8 hlk (v := some (.ref t_7)) (fun h => by rw [Bd.returns] at h; cases h) hret (by decide) (by decide) ?_
    show Q_c3_3 Z ab1 kc c1 c2 c3 h0 n0 _ T8.heap _
    rw [eq8]
    exact ⟨t_7, k_7, (6 : Int32), [(.int (nar .byte c1)), (.int (nar .byte (c1 >>> ((8 : Int32) &&& 31)))), (.int (nar .byte c2)), (.int (nar .byte (c2 >>> ((8 : Int32) &&& 31)))), (.int (nar .byte c3)), (.int (nar .byte (c3 >>> ((8 : Int32) &&& 31))))], (1 : Int32), rfl, N8, K7, s_t_7, fq7_0, (Or.inr ⟨rfl, rfl, own_str_wide (cs := ([c1, c2, c3] : List Int32)) (n := 3) rfl (by decide) (own_memS hw1 (own_memS hw2 (own_memS hw3 own_mem0))) ⟨_, List.mem_of_getElem? (i := 1) rfl, hbig⟩⟩)⟩
  refine OwnGoes.step (T' := T2) (g' := (mkF m 23 #[vR ab1, vI 0, vI 3, vR b1, vI 2, vU] [(.int 3), (.int 0), (.ref ab1)])) (fun tgt kgo => ?_) ?_
  · refine XS.iload X2.here hx rfl (hb hby d6_14) rfl ?_
    show OwnG p e below T2 m 16 #[vR ab1, vI 0, vI 3, vR b1, vI 2, vU] [(.int 2)] tgt
    refine XS.iloadN X2.here hx rfl (hb hby d6_16) rfl ?_
    show OwnG p e below T2 m 17 #[vR ab1, vI 0, vI 3, vR b1, vI 2, vU] [(.int 3), (.int 2)] tgt
    refine XS.icmpNo X2.here hx rfl (hb hby d6_17) rfl (feq (by decide : ¬ ((2 : Int32) = (3 : Int32)))).1 ?_
    show OwnG p e below T2 m 20 #[vR ab1, vI 0, vI 3, vR b1, vI 2, vU] [] tgt
    refine XS.aloadN X2.here hx rfl (hb hby d6_20) rfl rfl ?_
    show OwnG p e below T2 m 21 #[vR ab1, vI 0, vI 3, vR b1, vI 2, vU] [(.ref ab1)] tgt
    refine XS.iloadN X2.here hx rfl (hb hby d6_21) rfl ?_
    show OwnG p e below T2 m 22 #[vR ab1, vI 0, vI 3, vR b1, vI 2, vU] [(.int 0), (.ref ab1)] tgt
    refine XS.iloadN X2.here hx rfl (hb hby d6_22) rfl ?_
    exact kgo
  obtain ⟨_, _, ⟨T10, L10, k10, n10⟩, -, X10, ⟨Lc10, hQ10, l10, y10, z10⟩, st10⟩ := Jvm.LawKit.callS X2 hx (y := mN5) hown (mvT hZ (own_w hw 87 rfl)) (mvT hZ (own_w hw 88 rfl)) (mvT hZ (own_w hw 43 rfl)) (mvT hZ (own_w hw 89 rfl)) (by decide) (backOf (W := 0) (rm_tob_3 l Z a0 hw [] wG1 wG3 cx hEL T2.heap n0 Ol2 ab1 kc c1 c2 c3 F2_2) hZ (own_w hw 89 rfl) (own_w hw 43 rfl) (by decide) (by decide)) (g := (mkF m 23 #[vR ab1, vI 0, vI 3, vR b1, vI 2, vU] [(.int 3), (.int 0), (.ref ab1)])) rfl (by rw [hml]; rfl) (argsL := [(.ref ab1), (.int 0), (.int 3)]) (rest := []) (lenOf pd_23256262 rfl) rfl (Nat.le_of_eq rfl) (hb hby d6_23) (fun _ _ => ⟨rfl, rfl, (by decide : 1 + 1 ≤ _), (by decide : 3 + 6 ≤ _)⟩)
  dsimp only [Pt.U, Pt.locs, Pt.cells, Pt.slots] at X10 l10 y10 z10 st10 hQ10
  subst l10 y10 z10
  obtain ⟨t_10, k_10, rfl, Nq10, Kq10, zq10_0, fq10_0⟩ := hQ10
  refine OwnGoes.step (T' := T10) (g' := (mkF m 26 #[vR ab1, vI 0, vI 3, vR b1, vI 2, vU] [(.ref t_10)])) st10 ?_
  have N10 := Fr.app N2 Nq10
  have ne_ab1_t_10 : ab1 ≠ t_10 := Nat.ne_of_lt (Nat.lt_of_lt_of_le F2_2.lt zq10_0)
  have ne_b1_t_10 : b1 ≠ t_10 := Nat.ne_of_lt (Nat.lt_of_lt_of_le fq2_0.lt zq10_0)
  have g_t_10 : n0 ≤ t_10 := Nat.le_trans (Nat.le_trans Z0 K2.1) zq10_0
  have s_t_10 : h0.size ≤ t_10 := Nat.le_trans K2.1 zq10_0
  have F10_7 := F2_2.keep Kq10 nin0
  have F10_8 := fq2_0.keep Kq10 nin0
  have Ol10 := Ol2.keep Kq10 all0
  have K10 : Keep h0 T10.heap ([] : List Addr) := K2.trans Kq10 all0
  refine OwnGoes.step (T' := T10) (g' := (mkF m 32 #[vR ab1, vI 0, vI 3, vR b1, vI 2, vR t_10] [(.int 2), (.ref t_10)])) (fun tgt kgo => ?_) ?_
  · refine XS.astore X10.here hx rfl (hb hby d6_26) rfl rfl (l' := #[vR ab1, vI 0, vI 3, vR b1, vI 2, vR t_10]) rfl ?_
    show OwnG p e below T10 m 28 #[vR ab1, vI 0, vI 3, vR b1, vI 2, vR t_10] [] tgt
    refine XS.aload X10.here hx rfl (hb hby d6_28) rfl rfl ?_
    show OwnG p e below T10 m 30 #[vR ab1, vI 0, vI 3, vR b1, vI 2, vR t_10] [(.ref t_10)] tgt
    refine XS.iload X10.here hx rfl (hb hby d6_30) rfl ?_
    exact kgo
  obtain ⟨_, _, ⟨T11, L11, k11, n11⟩, -, X11, ⟨Lc11, hQ11, l11, y11, z11⟩, st11⟩ := Jvm.LawKit.callS X10 hx (y := mN0) hown (mvT hZ (own_w hw 103 rfl)) (mvT hZ (own_w hw 104 rfl)) (mvT hZ (own_w hw 43 rfl)) (mvT hZ (own_w hw 105 rfl)) (by decide) (backOf (W := 0) (rm_u16get l Z a0 hw [] wG1 wG3 cx hEL T10.heap n0 Ol10 t_10 k_10 (6 : Int32) [(.int (nar .byte c1)), (.int (nar .byte (c1 >>> ((8 : Int32) &&& 31)))), (.int (nar .byte c2)), (.int (nar .byte (c2 >>> ((8 : Int32) &&& 31)))), (.int (nar .byte c3)), (.int (nar .byte (c3 >>> ((8 : Int32) &&& 31))))] (2 : Int32) c3 fq10_0 ⟨_, _, ⟨⟨by decide, by decide⟩, rfl⟩, ⟨⟨by decide, by decide⟩, rfl⟩, own_pair hw3, own_nar_w hw3⟩) hZ (own_w hw 105 rfl) (own_w hw 43 rfl) (by decide) (by decide)) (g := (mkF m 32 #[vR ab1, vI 0, vI 3, vR b1, vI 2, vR t_10] [(.int 2), (.ref t_10)])) rfl (by rw [hml]; rfl) (argsL := [(.ref t_10), (.int 2)]) (rest := []) (lenOf pd_30427418 rfl) rfl (Nat.le_of_eq rfl) (hb hby d6_32) (fun _ _ => ⟨rfl, rfl, (by decide : 2 + 0 ≤ _), (by decide : 9 + 0 ≤ _)⟩)
  dsimp only [Pt.U, Pt.locs, Pt.cells, Pt.slots] at X11 l11 y11 z11 st11 hQ11
  subst l11 y11 z11
  obtain ⟨rfl, Nq11, eq11⟩ := hQ11
  refine OwnGoes.step (T' := T11) (g' := (mkF m 35 #[vR ab1, vI 0, vI 3, vR b1, vI 2, vR t_10] [(.int c3)])) st11 ?_
  have N11 := Fr.app N10 Nq11
  refine OwnGoes.step (T' := T11) (g' := (mkF m 56 #[vR ab1, vI 0, vI 3, vR b1, vI 2, vR t_10] [(.ref t_10)])) (fun tgt kgo => ?_) ?_
  · refine XS.sipush X11.here hx rfl (hb hby d6_35) ?_
    show OwnG p e below T11 m 38 #[vR ab1, vI 0, vI 3, vR b1, vI 2, vR t_10] [(.int 255), (.int c3)] tgt
    refine XS.icmpYes X11.here hx rfl (pc0 := 38) (pc' := 54) rfl (hb hby d6_38) rfl (tlt hbig).2.2.1 (by decide) (by decide) ?_
    show OwnG p e below T11 m 54 #[vR ab1, vI 0, vI 3, vR b1, vI 2, vR t_10] [] tgt
    refine XS.aload X11.here hx rfl (hb hby d6_54) rfl rfl ?_
    exact kgo
  have hret : ∀ fs, (∀ (f : JFrame) (acts : List Action), f.method = m → f.locked = none → f.entered = [] → (doReturn e (T11.setTop f) acts (some (.ref t_10))).1 = T11.setFrames fs) → Steps p.tables e below (T11.setTop (mkF m 56 #[vR ab1, vI 0, vI 3, vR b1, vI 2, vR t_10] [(.ref t_10)])) (T11.setFrames fs) := by
    intro fs hr
    jvm_step X11.here [X11.here.top, hx, (hb hby d6_56), X11.method', Bd.returns, Value.isRef, FieldType.isReference]
    first | (intro acts; rw [hr _ acts rfl rfl rfl]) | rw [hr _ _ rfl rfl rfl]
    exact Steps.refl _
  refine own_leave X11 hlk (v := some (.ref t_10)) (fun h => by rw [Bd.returns] at h; cases h) hret (by decide) (by decide) ?_
  show Q_c3_3 Z ab1 kc c1 c2 c3 h0 n0 _ T11.heap _
  rw [eq11]
  exact ⟨t_10, k_10, (6 : Int32), [(.int (nar .byte c1)), (.int (nar .byte (c1 >>> ((8 : Int32) &&& 31)))), (.int (nar .byte c2)), (.int (nar .byte (c2 >>> ((8 : Int32) &&& 31)))), (.int (nar .byte c3)), (.int (nar .byte (c3 >>> ((8 : Int32) &&& 31))))], (1 : Int32), rfl, N11, K10, s_t_10, fq10_0, (Or.inr ⟨rfl, rfl, own_str_wide (cs := ([c1, c2, c3] : List Int32)) (n := 3) rfl (by decide) (own_memS hw1 (own_memS hw2 (own_memS hw3 own_mem0))) ⟨_, List.mem_of_getElem? (i := 2) rfl, hbig⟩⟩)⟩
theorem ef_cfl_3_3 (m : MethodId) (x0 : Addr) : entryFrame m #[(.ref x0), (.int 3)] 2 = mkF m 0 #[vR x0, vI 3] [] := by
  first | (simp [entryFrame, mkF, argsToLocals, Value.category]; done) | rfl
def Q_cfl_3_3 (Z : State) (tb1 : Addr) (kb1 : ClassId) (vs1 : List Value) (h0 : Heap) (n0 : Nat) (v : Option Value) (h : Heap) (L : List Loc) : Prop := v = some (.int 0) ∧ Fr n0 L ∧ h = h0
set_option maxRecDepth 65536 in
set_option maxHeartbeats 40000000 in
theorem rm_cfl_3_3 (l : Launch) (Z : State) (a0 : Array Value) (hw : ∀ d ∈ tables_1, d.before a0 Z = true) (ws : List Jvm.Cond) (wG1 : Int32) (wG3 : Value) (cx : OwnCx Z a0 wG1 wG3) (hEL : EW Z a0 consts_1) (h0 : Heap) (n0 : Nat) (X00 : Old Z n0 h0) (tb1 : Addr) (kb1 : ClassId) (vs1 : List Value) (f0 : Arv Z h0 tb1 kb1 .byte (3 : Int32) vs1 (.int 0)) :
    MetFree l mN7 (head1 (Jvm.Cond.code mN7 jdk_52_method_15_code 2 (some .byte) :: ws) ({ frames := 0, cells := 0, slots := 0, locals := 0 } : Room)) (fun a U => a = #[(.ref tb1), (.int 3)] ∧ Z.Warmed39 U.vm ∧ U.heap = h0) (fun _ _ _ _ _ => True) (fun _ U o U' => ∃ v L, o = .returned v ∧ Q_cfl_3_3 Z tb1 kb1 vs1 h0 n0 v U'.heap L ∧ FrameEnd U o U' L ({ frames := 0, cells := 0, slots := 0, locals := 0 } : Room).cells ({ frames := 0, cells := 0, slots := 0, locals := 0 } : Room).slots) := by
  refine MetFree.of_bodySF (plainFor_of_name pn_68381282) hisR ?_
  intro p e s m args below meth c s₁ Bd hml0 hP hK
  obtain ⟨rfl, hZ, hh⟩ := hP
  obtain ⟨wO2, wP5, wO4, wrG3, hstr, wUA, wUH, wUL⟩ := id cx
  have hx := Bd.exec
  have hby := Bd.bytes
  have hlk := Bd.notSynchronized
  have hml : c.maxLocals = 2 := hml0
  have hown : s.vm.findClass "java/lang/StringUTF16" = some m.cls := findClass_of_methodNamed Bd.named
  have hnm := (name_of_methodNamed Bd.named Bd.method).1
  have X0 : Stand p l e ({ frames := 0, cells := 0, slots := 0, locals := 0 } : Room) s m #[(.ref tb1), (.int 3)] below meth c s₁ [] 0 0 := Stand.of_body Bd
  have e0 : s₁.heap = h0 := by rw [← hh, Bd.state]; rfl
  have N0 := Fr.nil n0
  have Z0 : n0 ≤ h0.size := X00.1 ▸ X00.2.1
  have K0 : Keep h0 h0 ([] : List Addr) := Keep.refl _ _
  show OwnGoes p e below (fun o U' => ∃ v L, o = .returned v ∧ Q_cfl_3_3 Z tb1 kb1 vs1 h0 n0 v U'.heap L ∧ FrameEnd s o U' L ({ frames := 0, cells := 0, slots := 0, locals := 0 } : Room).cells ({ frames := 0, cells := 0, slots := 0, locals := 0 } : Room).slots) s₁ (entryFrame m #[(.ref tb1), (.int 3)] 2)
  refine OwnGoes.step (T' := s₁) (g' := (mkF m 0 #[vR tb1, vI 3] [])) (fun tgt kgo => castTop (ef_cfl_3_3 m tb1) kgo) ?_
  refine OwnGoes.step (T' := s₁) (g' := (mkF m 8 #[vR tb1, vI 3] [(.int 0)])) (fun tgt kgo => ?_) ?_
  · refine XS.iloadN X0.here hx rfl (hb hby d7_0) rfl ?_
    show OwnG p e below s₁ m 1 #[vR tb1, vI 3] [(.int 3)] tgt
    refine XS.aloadN X0.here hx rfl (hb hby d7_1) rfl rfl ?_
    show OwnG p e below s₁ m 2 #[vR tb1, vI 3] [(.ref tb1), (.int 3)] tgt
    obtain ⟨cl1, Ar1, q1, S1, M1, -, -⟩ := f0
    refine X0.arraylength hx (by rw [e0]; exact Ar1.1) (State.isArrayOf_alike hZ.alike Ar1.2.1) (g := (mkF m 2 #[vR tb1, vI 3] [(.ref tb1), (.int 3)])) rfl rfl (hb hby d7_2) _ ?_
    rw [len_of S1 M1]
    show OwnG p e below s₁ m 3 #[vR tb1, vI 3] [(.int 3), (.int 3)] tgt
    refine XS.isub X0.here hx rfl (hb hby d7_3) rfl ?_
    show OwnG p e below s₁ m 4 #[vR tb1, vI 3] [(.int 0)] tgt
    refine XS.bipush X0.here hx rfl (hb hby d7_4) ?_
    show OwnG p e below s₁ m 6 #[vR tb1, vI 3] [(.int 31), (.int 0)] tgt
    refine XS.iushr X0.here hx rfl (hb hby d7_6) rfl ?_
    show OwnG p e below s₁ m 7 #[vR tb1, vI 3] [(.int 0)] tgt
    refine XS.i2b X0.here hx rfl (hb hby d7_7) rfl ?_
    exact kgo
  refine own_leave X0 hlk (v := some (.int 0)) (fun h => by rw [Bd.returns] at h; cases h) (fun fs hr => retN X0 hx (t := .byte) Bd.returns (by simp) (hb hby d7_8) (by rw [(by decide : nar .byte (0 : Int32) = (0 : Int32))]; exact hr)) (by decide) (by decide) ?_
  show Q_cfl_3_3 Z tb1 kb1 vs1 h0 n0 _ s₁.heap _
  rw [e0]
  exact ⟨rfl, N0, rfl⟩
theorem ef_cfl_3_6 (m : MethodId) (x0 : Addr) : entryFrame m #[(.ref x0), (.int 3)] 2 = mkF m 0 #[vR x0, vI 3] [] := by
  first | (simp [entryFrame, mkF, argsToLocals, Value.category]; done) | rfl
def Q_cfl_3_6 (Z : State) (tb1 : Addr) (kb1 : ClassId) (vs1 : List Value) (h0 : Heap) (n0 : Nat) (v : Option Value) (h : Heap) (L : List Loc) : Prop := v = some (.int 1) ∧ Fr n0 L ∧ h = h0
set_option maxRecDepth 65536 in
set_option maxHeartbeats 40000000 in
theorem rm_cfl_3_6 (l : Launch) (Z : State) (a0 : Array Value) (hw : ∀ d ∈ tables_1, d.before a0 Z = true) (ws : List Jvm.Cond) (wG1 : Int32) (wG3 : Value) (cx : OwnCx Z a0 wG1 wG3) (hEL : EW Z a0 consts_1) (h0 : Heap) (n0 : Nat) (X00 : Old Z n0 h0) (tb1 : Addr) (kb1 : ClassId) (vs1 : List Value) (f0 : Arv Z h0 tb1 kb1 .byte (6 : Int32) vs1 (.int 0)) :
    MetFree l mN7 (head1 (Jvm.Cond.code mN7 jdk_52_method_15_code 2 (some .byte) :: ws) ({ frames := 0, cells := 0, slots := 0, locals := 0 } : Room)) (fun a U => a = #[(.ref tb1), (.int 3)] ∧ Z.Warmed39 U.vm ∧ U.heap = h0) (fun _ _ _ _ _ => True) (fun _ U o U' => ∃ v L, o = .returned v ∧ Q_cfl_3_6 Z tb1 kb1 vs1 h0 n0 v U'.heap L ∧ FrameEnd U o U' L ({ frames := 0, cells := 0, slots := 0, locals := 0 } : Room).cells ({ frames := 0, cells := 0, slots := 0, locals := 0 } : Room).slots) := by
  refine MetFree.of_bodySF (plainFor_of_name pn_68381282) hisR ?_
  intro p e s m args below meth c s₁ Bd hml0 hP hK
  obtain ⟨rfl, hZ, hh⟩ := hP
  obtain ⟨wO2, wP5, wO4, wrG3, hstr, wUA, wUH, wUL⟩ := id cx
  have hx := Bd.exec
  have hby := Bd.bytes
  have hlk := Bd.notSynchronized
  have hml : c.maxLocals = 2 := hml0
  have hown : s.vm.findClass "java/lang/StringUTF16" = some m.cls := findClass_of_methodNamed Bd.named
  have hnm := (name_of_methodNamed Bd.named Bd.method).1
  have X0 : Stand p l e ({ frames := 0, cells := 0, slots := 0, locals := 0 } : Room) s m #[(.ref tb1), (.int 3)] below meth c s₁ [] 0 0 := Stand.of_body Bd
  have e0 : s₁.heap = h0 := by rw [← hh, Bd.state]; rfl
  have N0 := Fr.nil n0
  have Z0 : n0 ≤ h0.size := X00.1 ▸ X00.2.1
  have K0 : Keep h0 h0 ([] : List Addr) := Keep.refl _ _
  show OwnGoes p e below (fun o U' => ∃ v L, o = .returned v ∧ Q_cfl_3_6 Z tb1 kb1 vs1 h0 n0 v U'.heap L ∧ FrameEnd s o U' L ({ frames := 0, cells := 0, slots := 0, locals := 0 } : Room).cells ({ frames := 0, cells := 0, slots := 0, locals := 0 } : Room).slots) s₁ (entryFrame m #[(.ref tb1), (.int 3)] 2)
  refine OwnGoes.step (T' := s₁) (g' := (mkF m 0 #[vR tb1, vI 3] [])) (fun tgt kgo => castTop (ef_cfl_3_6 m tb1) kgo) ?_
  refine OwnGoes.step (T' := s₁) (g' := (mkF m 8 #[vR tb1, vI 3] [(.int 1)])) (fun tgt kgo => ?_) ?_
  · refine XS.iloadN X0.here hx rfl (hb hby d7_0) rfl ?_
    show OwnG p e below s₁ m 1 #[vR tb1, vI 3] [(.int 3)] tgt
    refine XS.aloadN X0.here hx rfl (hb hby d7_1) rfl rfl ?_
    show OwnG p e below s₁ m 2 #[vR tb1, vI 3] [(.ref tb1), (.int 3)] tgt
    obtain ⟨cl1, Ar1, q1, S1, M1, -, -⟩ := f0
    refine X0.arraylength hx (by rw [e0]; exact Ar1.1) (State.isArrayOf_alike hZ.alike Ar1.2.1) (g := (mkF m 2 #[vR tb1, vI 3] [(.ref tb1), (.int 3)])) rfl rfl (hb hby d7_2) _ ?_
    rw [len_of S1 M1]
    show OwnG p e below s₁ m 3 #[vR tb1, vI 3] [(.int 6), (.int 3)] tgt
    refine XS.isub X0.here hx rfl (hb hby d7_3) rfl ?_
    show OwnG p e below s₁ m 4 #[vR tb1, vI 3] [(.int (-3))] tgt
    refine XS.bipush X0.here hx rfl (hb hby d7_4) ?_
    show OwnG p e below s₁ m 6 #[vR tb1, vI 3] [(.int 31), (.int (-3))] tgt
    refine XS.iushr X0.here hx rfl (hb hby d7_6) rfl ?_
    show OwnG p e below s₁ m 7 #[vR tb1, vI 3] [(.int 1)] tgt
    refine XS.i2b X0.here hx rfl (hb hby d7_7) rfl ?_
    exact kgo
  refine own_leave X0 hlk (v := some (.int 1)) (fun h => by rw [Bd.returns] at h; cases h) (fun fs hr => retN X0 hx (t := .byte) Bd.returns (by simp) (hb hby d7_8) (by rw [(by decide : nar .byte (1 : Int32) = (1 : Int32))]; exact hr)) (by decide) (by decide) ?_
  show Q_cfl_3_6 Z tb1 kb1 vs1 h0 n0 _ s₁.heap _
  rw [e0]
  exact ⟨rfl, N0, rfl⟩
theorem ef_si6_3 (m : MethodId) (x0 : Addr) (x1 : Addr) : entryFrame m #[(.ref x0), (.ref x1), (.int 0), (.int 3), .null] 6 = mkF m 0 #[vR x0, vR x1, vI 0, vI 3, .val .null, vU] [] := by
  first | (simp [entryFrame, mkF, argsToLocals, Value.category]; done) | rfl
def Q_si6_3 (Z : State) (a1 : Addr) (ab1 : Addr) (kc : ClassId) (c1 : Int32) (c2 : Int32) (c3 : Int32) (h0 : Heap) (n0 : Nat) (v : Option Value) (h : Heap) (L : List Loc) : Prop := ∃ (t : Addr), ∃ (k : ClassId), ∃ (N : Int32), ∃ (vs : List Value), ∃ (cd : Int32), v = none ∧ Fr n0 L ∧ Keep h0 h ([a1] : List Addr) ∧ h0.size ≤ t ∧ Exa Z h a1 "java/lang/String" ∧ Fld Z h a1 "java/lang/String" "value" "[B" (.ref t) ∧ Fld Z h a1 "java/lang/String" "coder" "B" (.int cd) ∧ Arv Z h t k .byte N vs (.int 0) ∧ (OwnStr ([c1, c2, c3] : List Int32) cd N vs)
set_option maxRecDepth 65536 in
set_option maxHeartbeats 40000000 in
theorem rm_si6_3 (l : Launch) (Z : State) (a0 : Array Value) (hw : ∀ d ∈ tables_1, d.before a0 Z = true) (ws : List Jvm.Cond) (wG1 : Int32) (wG3 : Value) (cx : OwnCx Z a0 wG1 wG3) (hEL : EW Z a0 consts_1) (h0 : Heap) (n0 : Nat) (X00 : Old Z n0 h0) (a1 : Addr) (ab1 : Addr) (kc : ClassId) (c1 : Int32) (c2 : Int32) (c3 : Int32) (f0 : Exa Z h0 a1 "java/lang/String") (f1 : Fld Z h0 a1 "java/lang/String" "value" "[B" .null) (f2 : Fld Z h0 a1 "java/lang/String" "coder" "B" (.int 0)) (f3 : n0 ≤ a1) (f4 : Arv Z h0 ab1 kc .char (3 : Int32) [(.int c1), (.int c2), (.int c3)] (.int 0)) (hw1 : ¬ c1 < 0 ∧ ¬ (65535 : Int32) < c1) (hw2 : ¬ c2 < 0 ∧ ¬ (65535 : Int32) < c2) (hw3 : ¬ c3 < 0 ∧ ¬ (65535 : Int32) < c3) :
    MetFree l mN8 (head1 (Jvm.Cond.code mN8 jdk_42_method_149_code 6 none :: ws) ({ frames := 4, cells := 2, slots := 9, locals := 57 } : Room)) (fun a U => a = #[(.ref a1), (.ref ab1), (.int 0), (.int 3), .null] ∧ Z.Warmed39 U.vm ∧ U.heap = h0) (fun _ _ _ _ _ => True) (fun _ U o U' => ∃ v L, o = .returned v ∧ Q_si6_3 Z a1 ab1 kc c1 c2 c3 h0 n0 v U'.heap L ∧ FrameEnd U o U' L ({ frames := 4, cells := 2, slots := 9, locals := 57 } : Room).cells ({ frames := 4, cells := 2, slots := 9, locals := 57 } : Room).slots) := by
  refine MetFree.of_bodySF (plainFor_of_name pn_52039224) hisR ?_
  intro p e s m args below meth c s₁ Bd hml0 hP hK
  obtain ⟨rfl, hZ, hh⟩ := hP
  obtain ⟨wO2, wP5, wO4, wrG3, hstr, wUA, wUH, wUL⟩ := id cx
  have hx := Bd.exec
  have hby := Bd.bytes
  have hlk := Bd.notSynchronized
  have hml : c.maxLocals = 6 := hml0
  have hown : s.vm.findClass "java/lang/String" = some m.cls := findClass_of_methodNamed Bd.named
  have hnm := (name_of_methodNamed Bd.named Bd.method).1
  have X0 : Stand p l e ({ frames := 4, cells := 2, slots := 9, locals := 57 } : Room) s m #[(.ref a1), (.ref ab1), (.int 0), (.int 3), .null] below meth c s₁ [] 0 0 := Stand.of_body Bd
  have e0 : s₁.heap = h0 := by rw [← hh, Bd.state]; rfl
  have N0 := Fr.nil n0
  have Z0 : n0 ≤ h0.size := X00.1 ▸ X00.2.1
  have K0 : Keep h0 h0 ([a1] : List Addr) := Keep.refl _ _
  show OwnGoes p e below (fun o U' => ∃ v L, o = .returned v ∧ Q_si6_3 Z a1 ab1 kc c1 c2 c3 h0 n0 v U'.heap L ∧ FrameEnd s o U' L ({ frames := 4, cells := 2, slots := 9, locals := 57 } : Room).cells ({ frames := 4, cells := 2, slots := 9, locals := 57 } : Room).slots) s₁ (entryFrame m #[(.ref a1), (.ref ab1), (.int 0), (.int 3), .null] 6)
  refine OwnGoes.step (T' := s₁) (g' := (mkF m 0 #[vR a1, vR ab1, vI 0, vI 3, .val .null, vU] [])) (fun tgt kgo => castTop (ef_si6_3 m a1 ab1) kgo) ?_
  refine OwnGoes.step (T' := s₁) (g' := (mkF m 1 #[vR a1, vR ab1, vI 0, vI 3, .val .null, vU] [(.ref a1)])) (fun tgt kgo => ?_) ?_
  · refine XS.aloadN X0.here hx rfl (hb hby d8_0) rfl rfl ?_
    exact kgo
  obtain ⟨T1, X1, e1, st1⟩ := initO X0 hx hZ hown (own_w hw 20 rfl) (own_w hw 21 rfl) (own_w hw 22 rfl) e0 (g := (mkF m 1 #[vR a1, vR ab1, vI 0, vI 3, .val .null, vU] [(.ref a1)])) rfl (by rw [hml]; rfl) rfl (hb hby d8_1) (by decide) (W := 0) (Nat.le_of_eq rfl) (by decide)
  refine OwnGoes.step (T' := T1) (g' := (mkF m 4 #[vR a1, vR ab1, vI 0, vI 3, .val .null, vU] [])) st1 ?_
  refine OwnGoes.step (T' := T1) (g' := (mkF m 27 #[vR a1, vR ab1, vI 0, vI 3, .val .null, vU] [])) (fun tgt kgo => ?_) ?_
  · refine XS.iloadN X1.here hx rfl (hb hby d8_4) rfl ?_
    show OwnG p e below T1 m 5 #[vR a1, vR ab1, vI 0, vI 3, .val .null, vU] [(.int 3)] tgt
    refine XS.ifYes X1.here hx rfl (pc0 := 5) (pc' := 27) rfl (hb hby d8_5) rfl ((if0 _ _).trans (feq (by decide : ¬ ((3 : Int32) = (0 : Int32)))).2) (by decide) (by decide) ?_
    exact kgo
  obtain ⟨T2, X2, e2, st2⟩ := getS2 X1 hx hZ hown (host := "") (Or.inl (own_w hw 40 rfl)) Via.refl e1 (wO2.ext X00.2) (g := (mkF m 27 #[vR a1, vR ab1, vI 0, vI 3, .val .null, vU] [])) rfl (hb hby d8_27)
  refine OwnGoes.step (T' := T2) (g' := (mkF m 30 #[vR a1, vR ab1, vI 0, vI 3, .val .null, vU] [(.int wG1)])) st2 ?_
  refine OwnGoes.step (T' := T2) (g' := (mkF m 36 #[vR a1, vR ab1, vI 0, vI 3, .val .null, vU] [(.int 3), (.int 0), (.ref ab1)])) (fun tgt kgo => ?_) ?_
  · refine XS.ifNo X2.here hx rfl (hb hby d8_30) rfl ((if0 _ _).trans (feq wP5).1) ?_
    show OwnG p e below T2 m 33 #[vR a1, vR ab1, vI 0, vI 3, .val .null, vU] [] tgt
    refine XS.aloadN X2.here hx rfl (hb hby d8_33) rfl rfl ?_
    show OwnG p e below T2 m 34 #[vR a1, vR ab1, vI 0, vI 3, .val .null, vU] [(.ref ab1)] tgt
    refine XS.iloadN X2.here hx rfl (hb hby d8_34) rfl ?_
    show OwnG p e below T2 m 35 #[vR a1, vR ab1, vI 0, vI 3, .val .null, vU] [(.int 0), (.ref ab1)] tgt
    refine XS.iloadN X2.here hx rfl (hb hby d8_35) rfl ?_
    exact kgo
  obtain ⟨_, _, ⟨T3, L3, k3, n3⟩, -, X3, ⟨Lc3, hQ3, l3, y3, z3⟩, st3⟩ := Jvm.LawKit.callS X2 hx (y := mN6) hown (mvT hZ (own_w hw 41 rfl)) (mvT hZ (own_w hw 42 rfl)) (mvT hZ (own_w hw 43 rfl)) (mvT hZ (own_w hw 44 rfl)) (by decide) (backOf (W := 0) (rm_c3_3 l Z a0 hw [] wG1 wG3 cx hEL h0 n0 X00 ab1 kc c1 c2 c3 f4 hw1 hw2 hw3) hZ (own_w hw 44 rfl) (own_w hw 43 rfl) (by decide) (by decide)) (g := (mkF m 36 #[vR a1, vR ab1, vI 0, vI 3, .val .null, vU] [(.int 3), (.int 0), (.ref ab1)])) rfl (by rw [hml]; rfl) (argsL := [(.ref ab1), (.int 0), (.int 3)]) (rest := []) (lenOf pd_23256262 rfl) rfl (Nat.le_of_eq rfl) (hb hby d8_36) (fun _ _ => ⟨rfl, e2, (by decide : 0 + 2 ≤ _), (by decide : 0 + 9 ≤ _)⟩)
  dsimp only [Pt.U, Pt.locs, Pt.cells, Pt.slots] at X3 l3 y3 z3 st3 hQ3
  subst l3 y3 z3
  obtain ⟨t_3, k_3, N_3, vs_3, cd_3, rfl, Nq3, Kq3, zq3_0, fq3_0, pq3_0⟩ := hQ3
  refine OwnGoes.step (T' := T3) (g' := (mkF m 39 #[vR a1, vR ab1, vI 0, vI 3, .val .null, vU] [(.ref t_3)])) st3 ?_
  have N3 := Fr.app N0 Nq3
  have ne_a1_t_3 : a1 ≠ t_3 := Nat.ne_of_lt (Nat.lt_of_lt_of_le f0.lt zq3_0)
  have ne_ab1_t_3 : ab1 ≠ t_3 := Nat.ne_of_lt (Nat.lt_of_lt_of_le f4.lt zq3_0)
  have g_t_3 : n0 ≤ t_3 := Nat.le_trans (Nat.le_trans Z0 K0.1) zq3_0
  have s_t_3 : h0.size ≤ t_3 := Nat.le_trans K0.1 zq3_0
  have F3_1 := f0.keep Kq3
  have F3_2 := f1.keep Kq3 nin0
  have F3_3 := f2.keep Kq3 nin0
  have F3_4 := f4.keep Kq3 nin0
  have Ol3 := X00.keep Kq3 all0
  have K3 : Keep h0 T3.heap ([a1] : List Addr) := K0.trans Kq3 all0
  refine OwnGoes.step (T' := T3) (g' := (mkF m 41 #[vR a1, vR ab1, vI 0, vI 3, .val .null, vR t_3] [])) (fun tgt kgo => ?_) ?_
  · refine XS.astore X3.here hx rfl (hb hby d8_39) rfl rfl (l' := #[vR a1, vR ab1, vI 0, vI 3, .val .null, vR t_3]) rfl ?_
    exact kgo
  rcases pq3_0 with ⟨rfl, rfl, hos_N_3⟩ | ⟨rfl, rfl, hos_N_3⟩
  · skip
    refine OwnGoes.step (T' := T3) (g' := (mkF m 45 #[vR a1, vR ab1, vI 0, vI 3, .val .null, vR t_3] [(.int 3), (.ref t_3), (.ref a1)])) (fun tgt kgo => ?_) ?_
    · refine XS.aloadN X3.here hx rfl (hb hby d8_41) rfl rfl ?_
      show OwnG p e below T3 m 42 #[vR a1, vR ab1, vI 0, vI 3, .val .null, vR t_3] [(.ref a1)] tgt
      refine XS.aload X3.here hx rfl (hb hby d8_42) rfl rfl ?_
      show OwnG p e below T3 m 44 #[vR a1, vR ab1, vI 0, vI 3, .val .null, vR t_3] [(.ref t_3), (.ref a1)] tgt
      refine XS.iloadN X3.here hx rfl (hb hby d8_44) rfl ?_
      exact kgo
    obtain ⟨_, _, ⟨T4, L4, k4, n4⟩, -, X4, ⟨Lc4, hQ4, l4, y4, z4⟩, st4⟩ := Jvm.LawKit.callS X3 hx (y := mN7) hown (mvT hZ (own_w hw 48 rfl)) (mvT hZ (own_w hw 49 rfl)) (mvT hZ (own_w hw 43 rfl)) (mvT hZ (own_w hw 50 rfl)) (by decide) (backOf (W := 1) (rm_cfl_3_3 l Z a0 hw [] wG1 wG3 cx hEL T3.heap n0 Ol3 t_3 k_3 vs_3 fq3_0) hZ (own_w hw 50 rfl) (own_w hw 43 rfl) (by decide) (by decide)) (g := (mkF m 45 #[vR a1, vR ab1, vI 0, vI 3, .val .null, vR t_3] [(.int 3), (.ref t_3), (.ref a1)])) rfl (by rw [hml]; rfl) (argsL := [(.ref t_3), (.int 3)]) (rest := [(.ref a1)]) (lenOf pd_68873100 rfl) rfl (Nat.le_of_eq rfl) (hb hby d8_45) (fun _ _ => ⟨rfl, rfl, (by decide : 2 + 0 ≤ _), (by decide : 9 + 0 ≤ _)⟩)
    dsimp only [Pt.U, Pt.locs, Pt.cells, Pt.slots] at X4 l4 y4 z4 st4 hQ4
    subst l4 y4 z4
    obtain ⟨rfl, Nq4, eq4⟩ := hQ4
    refine OwnGoes.step (T' := T4) (g' := (mkF m 48 #[vR a1, vR ab1, vI 0, vI 3, .val .null, vR t_3] [(.int 0), (.ref a1)])) st4 ?_
    have N4 := Fr.app N3 Nq4
    obtain ⟨T5, h5, X5, e5, W5, st5⟩ := putFN X4 hx hZ hown (own_w hw 30 rfl) Via.refl eq4 F3_3 F3_1 (Or.inr ⟨(own_w hw 26 rfl), rfl, hnm⟩) (own_w hw 10 rfl) (ty := .byte) (v' := (.int (nar .byte (0 : Int32)))) (by decide) rfl (fits_nar_byte _) (g := (mkF m 48 #[vR a1, vR ab1, vI 0, vI 3, .val .null, vR t_3] [(.int 0), (.ref a1)])) rfl rfl (hb hby d8_48)
    refine OwnGoes.step (T' := T5) (g' := (mkF m 51 #[vR a1, vR ab1, vI 0, vI 3, .val .null, vR t_3] [])) st5 ?_
    have Fw5 := F3_3.same W5
    rw [(by decide : nar .byte (0 : Int32) = (0 : Int32))] at Fw5
    have F5_5 := F3_1.wr W5
    have F5_6 := F3_2.other W5 (Or.inr (slot_ne (Or.inr (own_w hw 25 rfl)) (Or.inr (own_w hw 26 rfl)) (by decide) (t := (.array .byte)) (t' := .byte) (by decide) (by decide)))
    have F5_7 := F3_4.other W5 (Ne.symm (Exa.neArv F3_1 F3_4 (own_w hw 10 rfl)))
    have F5_8 := fq3_0.other W5 (Ne.symm ne_a1_t_3)
    have Ol5 := Ol3.wr W5 f3
    have K5 : Keep h0 h5 ([a1] : List Addr) := K3.wr W5 (Or.inl (List.mem_of_getElem? (i := 0) rfl))
    have N5 := Fr.snoc X5 N4 f3
    refine OwnGoes.step (T' := T5) (g' := (mkF m 54 #[vR a1, vR ab1, vI 0, vI 3, .val .null, vR t_3] [(.ref t_3), (.ref a1)])) (fun tgt kgo => ?_) ?_
    · refine XS.aloadN X5.here hx rfl (hb hby d8_51) rfl rfl ?_
      show OwnG p e below T5 m 52 #[vR a1, vR ab1, vI 0, vI 3, .val .null, vR t_3] [(.ref a1)] tgt
      refine XS.aload X5.here hx rfl (hb hby d8_52) rfl rfl ?_
      exact kgo
    obtain ⟨T6, h6, X6, e6, W6, st6⟩ := putF X5 hx hZ hown (host := "") (Or.inl (own_w hw 29 rfl)) Via.refl e5 F5_6 F5_5 (Or.inr ⟨(own_w hw 25 rfl), rfl, hnm⟩) (own_w hw 10 rfl) (ty := (.array .byte)) (by decide) rfl rfl (g := (mkF m 54 #[vR a1, vR ab1, vI 0, vI 3, .val .null, vR t_3] [(.ref t_3), (.ref a1)])) rfl rfl (hb hby d8_54)
    refine OwnGoes.step (T' := T6) (g' := (mkF m 57 #[vR a1, vR ab1, vI 0, vI 3, .val .null, vR t_3] [])) st6 ?_
    have Fw6 := F5_6.same W6
    have F6_9 := F5_5.wr W6
    have F6_10 := Fw5.other W6 (Or.inr (slot_ne (Or.inr (own_w hw 26 rfl)) (Or.inr (own_w hw 25 rfl)) (by decide) (t := .byte) (t' := (.array .byte)) (by decide) (by decide)))
    have F6_11 := F5_7.other W6 (Ne.symm (Exa.neArv F5_5 F5_7 (own_w hw 10 rfl)))
    have F6_12 := F5_8.other W6 (Ne.symm ne_a1_t_3)
    have Ol6 := Ol5.wr W6 f3
    have K6 : Keep h0 h6 ([a1] : List Addr) := K5.wr W6 (Or.inl (List.mem_of_getElem? (i := 0) rfl))
    have N6 := Fr.snoc X6 N5 f3
    refine own_leave X6 hlk (v := none) (fun _ => rfl) (fun fs hr => X6.returnOut hx Bd.returns (hb hby d8_57) hr) (by decide) (by decide) ?_
    show Q_si6_3 Z a1 ab1 kc c1 c2 c3 h0 n0 _ T6.heap _
    rw [e6]
    exact ⟨t_3, k_3, (3 : Int32), vs_3, (0 : Int32), rfl, N6, K6, s_t_3, F6_9, Fw6, F6_10, F6_12, hos_N_3⟩
  refine OwnGoes.step (T' := T3) (g' := (mkF m 45 #[vR a1, vR ab1, vI 0, vI 3, .val .null, vR t_3] [(.int 3), (.ref t_3), (.ref a1)])) (fun tgt kgo => ?_) ?_
  · refine XS.aloadN X3.here hx rfl (hb hby d8_41) rfl rfl ?_
    show OwnG p e below T3 m 42 #[vR a1, vR ab1, vI 0, vI 3, .val .null, vR t_3] [(.ref a1)] tgt
    refine XS.aload X3.here hx rfl (hb hby d8_42) rfl rfl ?_
    show OwnG p e below T3 m 44 #[vR a1, vR ab1, vI 0, vI 3, .val .null, vR t_3] [(.ref t_3), (.ref a1)] tgt
    refine XS.iloadN X3.here hx rfl (hb hby d8_44) rfl ?_
    exact kgo
  obtain ⟨_, _, ⟨T8, L8, k8, n8⟩, -, X8, ⟨Lc8, hQ8, l8, y8, z8⟩, st8⟩ := Jvm.LawKit.callS X3 hx (y := mN7) hown (mvT hZ (own_w hw 48 rfl)) (mvT hZ (own_w hw 49 rfl)) (mvT hZ (own_w hw 43 rfl)) (mvT hZ (own_w hw 50 rfl)) (by decide) (backOf (W := 1) (rm_cfl_3_6 l Z a0 hw [] wG1 wG3 cx hEL T3.heap n0 Ol3 t_3 k_3 vs_3 fq3_0) hZ (own_w hw 50 rfl) (own_w hw 43 rfl) (by decide) (by decide)) (g := (mkF m 45 #[vR a1, vR ab1, vI 0, vI 3, .val .null, vR t_3] [(.int 3), (.ref t_3), (.ref a1)])) rfl (by rw [hml]; rfl) (argsL := [(.ref t_3), (.int 3)]) (rest := [(.ref a1)]) (lenOf pd_68873100 rfl) rfl (Nat.le_of_eq rfl) (hb hby d8_45) (fun _ _ => ⟨rfl, rfl, (by decide : 2 + 0 ≤ _), (by decide : 9 + 0 ≤ _)⟩)
  dsimp only [Pt.U, Pt.locs, Pt.cells, Pt.slots] at X8 l8 y8 z8 st8 hQ8
  subst l8 y8 z8
  obtain ⟨rfl, Nq8, eq8⟩ := hQ8
  refine OwnGoes.step (T' := T8) (g' := (mkF m 48 #[vR a1, vR ab1, vI 0, vI 3, .val .null, vR t_3] [(.int 1), (.ref a1)])) st8 ?_
  have N8 := Fr.app N3 Nq8
  obtain ⟨T9, h9, X9, e9, W9, st9⟩ := putFN X8 hx hZ hown (own_w hw 30 rfl) Via.refl eq8 F3_3 F3_1 (Or.inr ⟨(own_w hw 26 rfl), rfl, hnm⟩) (own_w hw 10 rfl) (ty := .byte) (v' := (.int (nar .byte (1 : Int32)))) (by decide) rfl (fits_nar_byte _) (g := (mkF m 48 #[vR a1, vR ab1, vI 0, vI 3, .val .null, vR t_3] [(.int 1), (.ref a1)])) rfl rfl (hb hby d8_48)
  refine OwnGoes.step (T' := T9) (g' := (mkF m 51 #[vR a1, vR ab1, vI 0, vI 3, .val .null, vR t_3] [])) st9 ?_
  have Fw9 := F3_3.same W9
  rw [(by decide : nar .byte (1 : Int32) = (1 : Int32))] at Fw9
  have F9_13 := F3_1.wr W9
  have F9_14 := F3_2.other W9 (Or.inr (slot_ne (Or.inr (own_w hw 25 rfl)) (Or.inr (own_w hw 26 rfl)) (by decide) (t := (.array .byte)) (t' := .byte) (by decide) (by decide)))
  have F9_15 := F3_4.other W9 (Ne.symm (Exa.neArv F3_1 F3_4 (own_w hw 10 rfl)))
  have F9_16 := fq3_0.other W9 (Ne.symm ne_a1_t_3)
  have Ol9 := Ol3.wr W9 f3
  have K9 : Keep h0 h9 ([a1] : List Addr) := K3.wr W9 (Or.inl (List.mem_of_getElem? (i := 0) rfl))
  have N9 := Fr.snoc X9 N8 f3
  refine OwnGoes.step (T' := T9) (g' := (mkF m 54 #[vR a1, vR ab1, vI 0, vI 3, .val .null, vR t_3] [(.ref t_3), (.ref a1)])) (fun tgt kgo => ?_) ?_
  · refine XS.aloadN X9.here hx rfl (hb hby d8_51) rfl rfl ?_
    show OwnG p e below T9 m 52 #[vR a1, vR ab1, vI 0, vI 3, .val .null, vR t_3] [(.ref a1)] tgt
    refine XS.aload X9.here hx rfl (hb hby d8_52) rfl rfl ?_
    exact kgo
  obtain ⟨T10, h10, X10, e10, W10, st10⟩ := putF X9 hx hZ hown (host := "") (Or.inl (own_w hw 29 rfl)) Via.refl e9 F9_14 F9_13 (Or.inr ⟨(own_w hw 25 rfl), rfl, hnm⟩) (own_w hw 10 rfl) (ty := (.array .byte)) (by decide) rfl rfl (g := (mkF m 54 #[vR a1, vR ab1, vI 0, vI 3, .val .null, vR t_3] [(.ref t_3), (.ref a1)])) rfl rfl (hb hby d8_54)
  refine OwnGoes.step (T' := T10) (g' := (mkF m 57 #[vR a1, vR ab1, vI 0, vI 3, .val .null, vR t_3] [])) st10 ?_
  have Fw10 := F9_14.same W10
  have F10_17 := F9_13.wr W10
  have F10_18 := Fw9.other W10 (Or.inr (slot_ne (Or.inr (own_w hw 26 rfl)) (Or.inr (own_w hw 25 rfl)) (by decide) (t := .byte) (t' := (.array .byte)) (by decide) (by decide)))
  have F10_19 := F9_15.other W10 (Ne.symm (Exa.neArv F9_13 F9_15 (own_w hw 10 rfl)))
  have F10_20 := F9_16.other W10 (Ne.symm ne_a1_t_3)
  have Ol10 := Ol9.wr W10 f3
  have K10 : Keep h0 h10 ([a1] : List Addr) := K9.wr W10 (Or.inl (List.mem_of_getElem? (i := 0) rfl))
  have N10 := Fr.snoc X10 N9 f3
  refine own_leave X10 hlk (v := none) (fun _ => rfl) (fun fs hr => X10.returnOut hx Bd.returns (hb hby d8_57) hr) (by decide) (by decide) ?_
  show Q_si6_3 Z a1 ab1 kc c1 c2 c3 h0 n0 _ T10.heap _
  rw [e10]
  exact ⟨t_3, k_3, (6 : Int32), vs_3, (1 : Int32), rfl, N10, K10, s_t_3, F10_17, Fw10, F10_18, F10_20, hos_N_3⟩
theorem ef_si2_3 (m : MethodId) (x0 : Addr) (x1 : Addr) : entryFrame m #[(.ref x0), (.ref x1)] 2 = mkF m 0 #[vR x0, vR x1] [] := by
  first | (simp [entryFrame, mkF, argsToLocals, Value.category]; done) | rfl
def Q_si2_3 (Z : State) (a1 : Addr) (ab1 : Addr) (kc : ClassId) (c1 : Int32) (c2 : Int32) (c3 : Int32) (h0 : Heap) (n0 : Nat) (v : Option Value) (h : Heap) (L : List Loc) : Prop := ∃ (t : Addr), ∃ (k : ClassId), ∃ (N : Int32), ∃ (vs : List Value), ∃ (cd : Int32), v = none ∧ Fr n0 L ∧ Keep h0 h ([a1] : List Addr) ∧ h0.size ≤ t ∧ Exa Z h a1 "java/lang/String" ∧ Fld Z h a1 "java/lang/String" "value" "[B" (.ref t) ∧ Fld Z h a1 "java/lang/String" "coder" "B" (.int cd) ∧ Arv Z h t k .byte N vs (.int 0) ∧ (OwnStr ([c1, c2, c3] : List Int32) cd N vs)
set_option maxRecDepth 65536 in
set_option maxHeartbeats 40000000 in
theorem rm_si2_3 (l : Launch) (Z : State) (a0 : Array Value) (hw : ∀ d ∈ tables_1, d.before a0 Z = true) (ws : List Jvm.Cond) (wG1 : Int32) (wG3 : Value) (cx : OwnCx Z a0 wG1 wG3) (hEL : EW Z a0 consts_1) (h0 : Heap) (n0 : Nat) (X00 : Old Z n0 h0) (a1 : Addr) (ab1 : Addr) (kc : ClassId) (c1 : Int32) (c2 : Int32) (c3 : Int32) (f0 : Exa Z h0 a1 "java/lang/String") (f1 : Fld Z h0 a1 "java/lang/String" "value" "[B" .null) (f2 : Fld Z h0 a1 "java/lang/String" "coder" "B" (.int 0)) (f3 : n0 ≤ a1) (f4 : Arv Z h0 ab1 kc .char (3 : Int32) [(.int c1), (.int c2), (.int c3)] (.int 0)) (hw1 : ¬ c1 < 0 ∧ ¬ (65535 : Int32) < c1) (hw2 : ¬ c2 < 0 ∧ ¬ (65535 : Int32) < c2) (hw3 : ¬ c3 < 0 ∧ ¬ (65535 : Int32) < c3) :
    MetFree l mN9 (head1 (Jvm.Cond.code mN9 jdk_42_method_3_code 2 none :: ws) ({ frames := 5, cells := 2, slots := 9, locals := 74 } : Room)) (fun a U => a = #[(.ref a1), (.ref ab1)] ∧ Z.Warmed39 U.vm ∧ U.heap = h0) (fun _ _ _ _ _ => True) (fun _ U o U' => ∃ v L, o = .returned v ∧ Q_si2_3 Z a1 ab1 kc c1 c2 c3 h0 n0 v U'.heap L ∧ FrameEnd U o U' L ({ frames := 5, cells := 2, slots := 9, locals := 74 } : Room).cells ({ frames := 5, cells := 2, slots := 9, locals := 74 } : Room).slots) := by
  refine MetFree.of_bodySF (plainFor_of_name pn_52039224) hisR ?_
  intro p e s m args below meth c s₁ Bd hml0 hP hK
  obtain ⟨rfl, hZ, hh⟩ := hP
  obtain ⟨wO2, wP5, wO4, wrG3, hstr, wUA, wUH, wUL⟩ := id cx
  have hx := Bd.exec
  have hby := Bd.bytes
  have hlk := Bd.notSynchronized
  have hml : c.maxLocals = 2 := hml0
  have hown : s.vm.findClass "java/lang/String" = some m.cls := findClass_of_methodNamed Bd.named
  have hnm := (name_of_methodNamed Bd.named Bd.method).1
  have X0 : Stand p l e ({ frames := 5, cells := 2, slots := 9, locals := 74 } : Room) s m #[(.ref a1), (.ref ab1)] below meth c s₁ [] 0 0 := Stand.of_body Bd
  have e0 : s₁.heap = h0 := by rw [← hh, Bd.state]; rfl
  have N0 := Fr.nil n0
  have Z0 : n0 ≤ h0.size := X00.1 ▸ X00.2.1
  have K0 : Keep h0 h0 ([a1] : List Addr) := Keep.refl _ _
  show OwnGoes p e below (fun o U' => ∃ v L, o = .returned v ∧ Q_si2_3 Z a1 ab1 kc c1 c2 c3 h0 n0 v U'.heap L ∧ FrameEnd s o U' L ({ frames := 5, cells := 2, slots := 9, locals := 74 } : Room).cells ({ frames := 5, cells := 2, slots := 9, locals := 74 } : Room).slots) s₁ (entryFrame m #[(.ref a1), (.ref ab1)] 2)
  refine OwnGoes.step (T' := s₁) (g' := (mkF m 0 #[vR a1, vR ab1] [])) (fun tgt kgo => castTop (ef_si2_3 m a1 ab1) kgo) ?_
  refine OwnGoes.step (T' := s₁) (g' := (mkF m 6 #[vR a1, vR ab1] [.null, (.int 3), (.int 0), (.ref ab1), (.ref a1)])) (fun tgt kgo => ?_) ?_
  · refine XS.aloadN X0.here hx rfl (hb hby d9_0) rfl rfl ?_
    show OwnG p e below s₁ m 1 #[vR a1, vR ab1] [(.ref a1)] tgt
    refine XS.aloadN X0.here hx rfl (hb hby d9_1) rfl rfl ?_
    show OwnG p e below s₁ m 2 #[vR a1, vR ab1] [(.ref ab1), (.ref a1)] tgt
    refine XS.iconst X0.here hx rfl (hb hby d9_2) ?_
    show OwnG p e below s₁ m 3 #[vR a1, vR ab1] [(.int 0), (.ref ab1), (.ref a1)] tgt
    refine XS.aloadN X0.here hx rfl (hb hby d9_3) rfl rfl ?_
    show OwnG p e below s₁ m 4 #[vR a1, vR ab1] [(.ref ab1), (.int 0), (.ref ab1), (.ref a1)] tgt
    obtain ⟨cl1, Ar1, q1, S1, M1, -, -⟩ := f4
    refine X0.arraylength hx (by rw [e0]; exact Ar1.1) (State.isArrayOf_alike hZ.alike Ar1.2.1) (g := (mkF m 4 #[vR a1, vR ab1] [(.ref ab1), (.int 0), (.ref ab1), (.ref a1)])) rfl rfl (hb hby d9_4) _ ?_
    rw [len_of S1 M1]
    show OwnG p e below s₁ m 5 #[vR a1, vR ab1] [(.int 3), (.int 0), (.ref ab1), (.ref a1)] tgt
    refine XS.aconstNull X0.here hx rfl (hb hby d9_5) ?_
    exact kgo
  obtain ⟨_, _, ⟨T2, L2, k2, n2⟩, -, X2, ⟨Lc2, hQ2, l2, y2, z2⟩, st2⟩ := X0.specialBack hx (y := mN8) rfl hown (mvT hZ (own_w hw 16 rfl)) (mvT hZ (own_w hw 17 rfl)) (mvT hZ (own_w hw 19 rfl)) (by decide) (backOf (W := 0) (rm_si6_3 l Z a0 hw [] wG1 wG3 cx hEL h0 n0 X00 a1 ab1 kc c1 c2 c3 f0 f1 f2 f3 f4 hw1 hw2 hw3) hZ (own_w hw 19 rfl) (own_w hw 11 rfl) (by decide) (by decide)) (g := (mkF m 6 #[vR a1, vR ab1] [.null, (.int 3), (.int 0), (.ref ab1), (.ref a1)])) rfl (by rw [hml]; rfl) (Steps.refl _) (a := a1) (argsL := [(.ref ab1), (.int 0), (.int 3), .null]) (rest := []) (lenOf pd_10261703 rfl) rfl (Nat.le_of_eq rfl) (hb hby d9_6) (fun _ _ => ⟨rfl, e0, (by decide : 0 + 2 ≤ _), (by decide : 0 + 9 ≤ _)⟩)
  dsimp only [Pt.U, Pt.locs, Pt.cells, Pt.slots] at X2 l2 y2 z2 st2 hQ2
  subst l2 y2 z2
  obtain ⟨t_2, k_2, N_2, vs_2, cd_2, rfl, Nq2, Kq2, zq2_0, fq2_0, fq2_1, fq2_2, fq2_3, pq2_0⟩ := hQ2
  refine OwnGoes.tr (T' := T2) (g' := (mkF m 9 #[vR a1, vR ab1] [])) st2 ?_
  have N2 := Fr.app N0 Nq2
  have ne_a1_t_2 : a1 ≠ t_2 := Nat.ne_of_lt (Nat.lt_of_lt_of_le f0.lt zq2_0)
  have ne_ab1_t_2 : ab1 ≠ t_2 := Nat.ne_of_lt (Nat.lt_of_lt_of_le f4.lt zq2_0)
  have g_t_2 : n0 ≤ t_2 := Nat.le_trans (Nat.le_trans Z0 K0.1) zq2_0
  have s_t_2 : h0.size ≤ t_2 := Nat.le_trans K0.1 zq2_0
  have F2_1 := f0.keep Kq2
  have F2_2 := f4.keep Kq2 (ninS (Ne.symm (Exa.neArv f0 f4 (own_w hw 10 rfl))) nin0)
  have Ol2 := X00.keep Kq2 (allS f3 all0)
  have K2 : Keep h0 T2.heap ([a1] : List Addr) := K0.trans Kq2 (allS (Or.inl (List.mem_of_getElem? (i := 0) rfl)) all0)
  refine own_leave X2 hlk (v := none) (fun _ => rfl) (fun fs hr => X2.returnOut hx Bd.returns (hb hby d9_9) hr) (by decide) (by decide) ?_
  show Q_si2_3 Z a1 ab1 kc c1 c2 c3 h0 n0 _ T2.heap _
  exact ⟨t_2, k_2, N_2, vs_2, cd_2, rfl, N2, K2, s_t_2, fq2_0, fq2_1, fq2_2, fq2_3, pq2_0⟩
theorem ef_c5_4 (m : MethodId) (x0 : Addr) (x2 : Addr) : entryFrame m #[(.ref x0), (.int 0), (.ref x2), (.int 0), (.int 4)] 7 = mkF m 0 #[vR x0, vI 0, vR x2, vI 0, vI 4, vU, vU] [] := by
  first | (simp [entryFrame, mkF, argsToLocals, Value.category]; done) | rfl
def Q_c5_4 (Z : State) (ab1 : Addr) (tb1 : Addr) (kc : ClassId) (kb1 : ClassId) (c1 : Int32) (c2 : Int32) (c3 : Int32) (c4 : Int32) (h0 : Heap) (n0 : Nat) (v : Option Value) (h : Heap) (L : List Loc) : Prop := ∃ (r : Int32), ∃ (vs : List Value), v = some (.int r) ∧ Fr n0 L ∧ Keep h0 h ([tb1] : List Addr) ∧ Arv Z h tb1 kb1 .byte (4 : Int32) vs (.int 0) ∧ ((r = (4 : Int32) ∧ vs = [(.int (nar .byte c1)), (.int (nar .byte c2)), (.int (nar .byte c3)), (.int (nar .byte c4))] ∧ ¬ ((255 : Int32) < c1) ∧ ¬ ((255 : Int32) < c2) ∧ ¬ ((255 : Int32) < c3) ∧ ¬ ((255 : Int32) < c4)) ∨ (r = (0 : Int32) ∧ (255 : Int32) < c1) ∨ (r = (1 : Int32) ∧ (255 : Int32) < c2) ∨ (r = (2 : Int32) ∧ (255 : Int32) < c3) ∨ (r = (3 : Int32) ∧ (255 : Int32) < c4))
set_option maxRecDepth 65536 in
set_option maxHeartbeats 40000000 in
theorem rm_c5_4 (l : Launch) (Z : State) (a0 : Array Value) (hw : ∀ d ∈ tables_1, d.before a0 Z = true) (ws : List Jvm.Cond) (wG1 : Int32) (wG3 : Value) (cx : OwnCx Z a0 wG1 wG3) (hEL : EW Z a0 consts_1) (h0 : Heap) (n0 : Nat) (X00 : Old Z n0 h0) (ab1 : Addr) (tb1 : Addr) (kc : ClassId) (kb1 : ClassId) (c1 : Int32) (c2 : Int32) (c3 : Int32) (c4 : Int32) (f0 : Arv Z h0 ab1 kc .char (4 : Int32) [(.int c1), (.int c2), (.int c3), (.int c4)] (.int 0)) (f1 : Arv Z h0 tb1 kb1 .byte (4 : Int32) [(.int 0), (.int 0), (.int 0), (.int 0)] (.int 0)) (f2 : n0 ≤ tb1) :
    MetFree l mN2 (head1 (Jvm.Cond.code mN2 jdk_52_method_21_code 7 (some .int) :: ws) ({ frames := 0, cells := 0, slots := 0, locals := 0 } : Room)) (fun a U => a = #[(.ref ab1), (.int 0), (.ref tb1), (.int 0), (.int 4)] ∧ Z.Warmed39 U.vm ∧ U.heap = h0) (fun _ _ _ _ _ => True) (fun _ U o U' => ∃ v L, o = .returned v ∧ Q_c5_4 Z ab1 tb1 kc kb1 c1 c2 c3 c4 h0 n0 v U'.heap L ∧ FrameEnd U o U' L ({ frames := 0, cells := 0, slots := 0, locals := 0 } : Room).cells ({ frames := 0, cells := 0, slots := 0, locals := 0 } : Room).slots) := by
  refine MetFree.of_bodySF (plainFor_of_name pn_68381282) hisR ?_
  intro p e s m args below meth c s₁ Bd hml0 hP hK
  obtain ⟨rfl, hZ, hh⟩ := hP
  obtain ⟨wO2, wP5, wO4, wrG3, hstr, wUA, wUH, wUL⟩ := id cx
  have hx := Bd.exec
  have hby := Bd.bytes
  have hlk := Bd.notSynchronized
  have hml : c.maxLocals = 7 := hml0
  have hown : s.vm.findClass "java/lang/StringUTF16" = some m.cls := findClass_of_methodNamed Bd.named
  have hnm := (name_of_methodNamed Bd.named Bd.method).1
  have X0 : Stand p l e ({ frames := 0, cells := 0, slots := 0, locals := 0 } : Room) s m #[(.ref ab1), (.int 0), (.ref tb1), (.int 0), (.int 4)] below meth c s₁ [] 0 0 := Stand.of_body Bd
  have e0 : s₁.heap = h0 := by rw [← hh, Bd.state]; rfl
  have N0 := Fr.nil n0
  have Z0 : n0 ≤ h0.size := X00.1 ▸ X00.2.1
  have K0 : Keep h0 h0 ([tb1] : List Addr) := Keep.refl _ _
  show OwnGoes p e below (fun o U' => ∃ v L, o = .returned v ∧ Q_c5_4 Z ab1 tb1 kc kb1 c1 c2 c3 c4 h0 n0 v U'.heap L ∧ FrameEnd s o U' L ({ frames := 0, cells := 0, slots := 0, locals := 0 } : Room).cells ({ frames := 0, cells := 0, slots := 0, locals := 0 } : Room).slots) s₁ (entryFrame m #[(.ref ab1), (.int 0), (.ref tb1), (.int 0), (.int 4)] 7)
  refine OwnGoes.step (T' := s₁) (g' := (mkF m 0 #[vR ab1, vI 0, vR tb1, vI 0, vI 4, vU, vU] [])) (fun tgt kgo => castTop (ef_c5_4 m ab1 tb1) kgo) ?_
  refine OwnGoes.step (T' := s₁) (g' := (mkF m 20 #[vR ab1, vI 0, vR tb1, vI 0, vI 4, vI 0, vI c1] [(.int 255), (.int c1)])) (fun tgt kgo => ?_) ?_
  · refine XS.iconst X0.here hx rfl (hb hby d2_0) ?_
    show OwnG p e below s₁ m 1 #[vR ab1, vI 0, vR tb1, vI 0, vI 4, vU, vU] [(.int 0)] tgt
    refine XS.istore X0.here hx rfl (hb hby d2_1) rfl (l' := #[vR ab1, vI 0, vR tb1, vI 0, vI 4, vI 0, vU]) rfl ?_
    show OwnG p e below s₁ m 3 #[vR ab1, vI 0, vR tb1, vI 0, vI 4, vI 0, vU] [] tgt
    refine XS.iload X0.here hx rfl (hb hby d2_3) rfl ?_
    show OwnG p e below s₁ m 5 #[vR ab1, vI 0, vR tb1, vI 0, vI 4, vI 0, vU] [(.int 0)] tgt
    refine XS.iload X0.here hx rfl (hb hby d2_5) rfl ?_
    show OwnG p e below s₁ m 7 #[vR ab1, vI 0, vR tb1, vI 0, vI 4, vI 0, vU] [(.int 4), (.int 0)] tgt
    refine XS.icmpNo X0.here hx rfl (hb hby d2_7) rfl (tlt (by decide : (0 : Int32) < (4 : Int32))).2.1 ?_
    show OwnG p e below s₁ m 10 #[vR ab1, vI 0, vR tb1, vI 0, vI 4, vI 0, vU] [] tgt
    refine XS.aloadN X0.here hx rfl (hb hby d2_10) rfl rfl ?_
    show OwnG p e below s₁ m 11 #[vR ab1, vI 0, vR tb1, vI 0, vI 4, vI 0, vU] [(.ref ab1)] tgt
    refine XS.iloadN X0.here hx rfl (hb hby d2_11) rfl ?_
    show OwnG p e below s₁ m 12 #[vR ab1, vI 0, vR tb1, vI 0, vI 4, vI 0, vU] [(.int 0), (.ref ab1)] tgt
    obtain ⟨cl1, Ar1, q1, S1, M1, H1, G1⟩ := f0
    refine X0.caload hx (j := (0 : Int32)) (v := (.int c1)) (by rw [e0]; exact Ar1.1) (State.isArrayOf_alike hZ.alike Ar1.2.1) Ar1.2.2 (inb_of S1 ⟨by decide, by decide⟩) (Has.at H1 (inb_of S1 ⟨by decide, by decide⟩) rfl) (g := (mkF m 12 #[vR ab1, vI 0, vR tb1, vI 0, vI 4, vI 0, vU] [(.int 0), (.ref ab1)])) rfl rfl (hb hby d2_12) _ ?_
    show OwnG p e below s₁ m 13 #[vR ab1, vI 0, vR tb1, vI 0, vI 4, vI 0, vU] [(.int c1)] tgt
    refine XS.istore X0.here hx rfl (hb hby d2_13) rfl (l' := #[vR ab1, vI 0, vR tb1, vI 0, vI 4, vI 0, vI c1]) rfl ?_
    show OwnG p e below s₁ m 15 #[vR ab1, vI 0, vR tb1, vI 0, vI 4, vI 0, vI c1] [] tgt
    refine XS.iload X0.here hx rfl (hb hby d2_15) rfl ?_
    show OwnG p e below s₁ m 17 #[vR ab1, vI 0, vR tb1, vI 0, vI 4, vI 0, vI c1] [(.int c1)] tgt
    refine XS.sipush X0.here hx rfl (hb hby d2_17) ?_
    exact kgo
  by_cases cc2 : (255 : Int32) < c1
  · skip
    refine OwnGoes.step (T' := s₁) (g' := (mkF m 25 #[vR ab1, vI 0, vR tb1, vI 0, vI 4, vI 0, vI c1] [(.int 0)])) (fun tgt kgo => ?_) ?_
    · refine XS.icmpNo X0.here hx rfl (hb hby d2_20) rfl (tlt cc2).2.2.2 ?_
      show OwnG p e below s₁ m 23 #[vR ab1, vI 0, vR tb1, vI 0, vI 4, vI 0, vI c1] [] tgt
      refine XS.iload X0.here hx rfl (hb hby d2_23) rfl ?_
      exact kgo
    refine own_leave X0 hlk (v := some (.int 0)) (fun h => by rw [Bd.returns] at h; cases h) (fun fs hr => retI X0 hx Bd.returns (hb hby d2_25) hr) (by decide) (by decide) ?_
    show Q_c5_4 Z ab1 tb1 kc kb1 c1 c2 c3 c4 h0 n0 _ s₁.heap _
    rw [e0]
    exact ⟨(0 : Int32), [(.int 0), (.int 0), (.int 0), (.int 0)], rfl, N0, K0, f1, (Or.inr (Or.inl ⟨rfl, cc2⟩))⟩
  refine OwnGoes.step (T' := s₁) (g' := (mkF m 31 #[vR ab1, vI 0, vR tb1, vI 0, vI 4, vI 0, vI c1] [(.int (nar .byte c1)), (.int 0), (.ref tb1)])) (fun tgt kgo => ?_) ?_
  · refine XS.icmpYes X0.here hx rfl (pc0 := 20) (pc' := 26) rfl (hb hby d2_20) rfl (flt cc2).2.2.2 (by decide) (by decide) ?_
    show OwnG p e below s₁ m 26 #[vR ab1, vI 0, vR tb1, vI 0, vI 4, vI 0, vI c1] [] tgt
    refine XS.aloadN X0.here hx rfl (hb hby d2_26) rfl rfl ?_
    show OwnG p e below s₁ m 27 #[vR ab1, vI 0, vR tb1, vI 0, vI 4, vI 0, vI c1] [(.ref tb1)] tgt
    refine XS.iloadN X0.here hx rfl (hb hby d2_27) rfl ?_
    show OwnG p e below s₁ m 28 #[vR ab1, vI 0, vR tb1, vI 0, vI 4, vI 0, vI c1] [(.int 0), (.ref tb1)] tgt
    refine XS.iload X0.here hx rfl (hb hby d2_28) rfl ?_
    show OwnG p e below s₁ m 30 #[vR ab1, vI 0, vR tb1, vI 0, vI 4, vI 0, vI c1] [(.int c1), (.int 0), (.ref tb1)] tgt
    refine XS.i2b X0.here hx rfl (hb hby d2_30) rfl ?_
    exact kgo
  obtain ⟨cl4, Ar4, q4, S4, M4, H4, G4⟩ := id f1
  obtain ⟨T4, h4, X4, e4, W4, st4⟩ := stB X0 hx hZ e0 Ar4 (j := (0 : Int32)) (inb_of S4 ⟨by decide, by decide⟩) (g := (mkF m 31 #[vR ab1, vI 0, vR tb1, vI 0, vI 4, vI 0, vI c1] [(.int (nar .byte c1)), (.int 0), (.ref tb1)])) rfl rfl (hb hby d2_31)
  refine OwnGoes.step (T' := T4) (g' := (mkF m 32 #[vR ab1, vI 0, vR tb1, vI 0, vI 4, vI 0, vI c1] [])) st4 ?_
  have V4 : Arv Z h4 tb1 kb1 .byte (4 : Int32) [(.int (nar .byte (nar .byte c1))), (.int 0), (.int 0), (.int 0)] (.int 0) := Arv.set Ar4 q4 S4 M4 H4 G4 (fits_nar_byte _) W4 0 rfl (Nat.le_of_ble_eq_true rfl)
  rw [own_nar2_byte] at V4
  have V4' : Arv Z h4 tb1 kb1 .byte (4 : Int32) [(.int (nar .byte c1)), (.int 0), (.int 0), (.int 0)] (.int 0) := V4
  have F4_1 := f0.other W4 (own_arv_ty f0 f1 (by decide))
  have Ol4 := X00.wr W4 f2
  have K4 : Keep h0 h4 ([tb1] : List Addr) := K0.wr W4 (Or.inl (List.mem_of_getElem? (i := 0) rfl))
  have N4 := Fr.snoc X4 N0 f2
  refine OwnGoes.step (T' := T4) (g' := (mkF m 20 #[vR ab1, vI 1, vR tb1, vI 1, vI 4, vI 1, vI c2] [(.int 255), (.int c2)])) (fun tgt kgo => ?_) ?_
  · refine XS.iinc X4.here hx rfl (hb hby d2_32) rfl (l' := #[vR ab1, vI 1, vR tb1, vI 0, vI 4, vI 0, vI c1]) rfl ?_
    show OwnG p e below T4 m 35 #[vR ab1, vI 1, vR tb1, vI 0, vI 4, vI 0, vI c1] [] tgt
    refine XS.iinc X4.here hx rfl (hb hby d2_35) rfl (l' := #[vR ab1, vI 1, vR tb1, vI 1, vI 4, vI 0, vI c1]) rfl ?_
    show OwnG p e below T4 m 38 #[vR ab1, vI 1, vR tb1, vI 1, vI 4, vI 0, vI c1] [] tgt
    refine XS.iinc X4.here hx rfl (hb hby d2_38) rfl (l' := #[vR ab1, vI 1, vR tb1, vI 1, vI 4, vI 1, vI c1]) rfl ?_
    show OwnG p e below T4 m 41 #[vR ab1, vI 1, vR tb1, vI 1, vI 4, vI 1, vI c1] [] tgt
    refine XS.goto X4.here hx rfl (pc0 := 41) (pc' := 3) rfl (hb hby d2_41) (by decide) (by decide) ?_
    show OwnG p e below T4 m 3 #[vR ab1, vI 1, vR tb1, vI 1, vI 4, vI 1, vI c1] [] tgt
    refine XS.iload X4.here hx rfl (hb hby d2_3) rfl ?_
    show OwnG p e below T4 m 5 #[vR ab1, vI 1, vR tb1, vI 1, vI 4, vI 1, vI c1] [(.int 1)] tgt
    refine XS.iload X4.here hx rfl (hb hby d2_5) rfl ?_
    show OwnG p e below T4 m 7 #[vR ab1, vI 1, vR tb1, vI 1, vI 4, vI 1, vI c1] [(.int 4), (.int 1)] tgt
    refine XS.icmpNo X4.here hx rfl (hb hby d2_7) rfl (tlt (by decide : (1 : Int32) < (4 : Int32))).2.1 ?_
    show OwnG p e below T4 m 10 #[vR ab1, vI 1, vR tb1, vI 1, vI 4, vI 1, vI c1] [] tgt
    refine XS.aloadN X4.here hx rfl (hb hby d2_10) rfl rfl ?_
    show OwnG p e below T4 m 11 #[vR ab1, vI 1, vR tb1, vI 1, vI 4, vI 1, vI c1] [(.ref ab1)] tgt
    refine XS.iloadN X4.here hx rfl (hb hby d2_11) rfl ?_
    show OwnG p e below T4 m 12 #[vR ab1, vI 1, vR tb1, vI 1, vI 4, vI 1, vI c1] [(.int 1), (.ref ab1)] tgt
    obtain ⟨cl5, Ar5, q5, S5, M5, H5, G5⟩ := F4_1
    refine X4.caload hx (j := (1 : Int32)) (v := (.int c2)) (by rw [e4]; exact Ar5.1) (State.isArrayOf_alike hZ.alike Ar5.2.1) Ar5.2.2 (inb_of S5 ⟨by decide, by decide⟩) (Has.at H5 (inb_of S5 ⟨by decide, by decide⟩) rfl) (g := (mkF m 12 #[vR ab1, vI 1, vR tb1, vI 1, vI 4, vI 1, vI c1] [(.int 1), (.ref ab1)])) rfl rfl (hb hby d2_12) _ ?_
    show OwnG p e below T4 m 13 #[vR ab1, vI 1, vR tb1, vI 1, vI 4, vI 1, vI c1] [(.int c2)] tgt
    refine XS.istore X4.here hx rfl (hb hby d2_13) rfl (l' := #[vR ab1, vI 1, vR tb1, vI 1, vI 4, vI 1, vI c2]) rfl ?_
    show OwnG p e below T4 m 15 #[vR ab1, vI 1, vR tb1, vI 1, vI 4, vI 1, vI c2] [] tgt
    refine XS.iload X4.here hx rfl (hb hby d2_15) rfl ?_
    show OwnG p e below T4 m 17 #[vR ab1, vI 1, vR tb1, vI 1, vI 4, vI 1, vI c2] [(.int c2)] tgt
    refine XS.sipush X4.here hx rfl (hb hby d2_17) ?_
    exact kgo
  by_cases cc6 : (255 : Int32) < c2
  · skip
    refine OwnGoes.step (T' := T4) (g' := (mkF m 25 #[vR ab1, vI 1, vR tb1, vI 1, vI 4, vI 1, vI c2] [(.int 1)])) (fun tgt kgo => ?_) ?_
    · refine XS.icmpNo X4.here hx rfl (hb hby d2_20) rfl (tlt cc6).2.2.2 ?_
      show OwnG p e below T4 m 23 #[vR ab1, vI 1, vR tb1, vI 1, vI 4, vI 1, vI c2] [] tgt
      refine XS.iload X4.here hx rfl (hb hby d2_23) rfl ?_
      exact kgo
    refine own_leave X4 hlk (v := some (.int 1)) (fun h => by rw [Bd.returns] at h; cases h) (fun fs hr => retI X4 hx Bd.returns (hb hby d2_25) hr) (by decide) (by decide) ?_
    show Q_c5_4 Z ab1 tb1 kc kb1 c1 c2 c3 c4 h0 n0 _ T4.heap _
    rw [e4]
    exact ⟨(1 : Int32), [(.int (nar .byte c1)), (.int 0), (.int 0), (.int 0)], rfl, N4, K4, V4', (Or.inr (Or.inr (Or.inl ⟨rfl, cc6⟩)))⟩
  refine OwnGoes.step (T' := T4) (g' := (mkF m 31 #[vR ab1, vI 1, vR tb1, vI 1, vI 4, vI 1, vI c2] [(.int (nar .byte c2)), (.int 1), (.ref tb1)])) (fun tgt kgo => ?_) ?_
  · refine XS.icmpYes X4.here hx rfl (pc0 := 20) (pc' := 26) rfl (hb hby d2_20) rfl (flt cc6).2.2.2 (by decide) (by decide) ?_
    show OwnG p e below T4 m 26 #[vR ab1, vI 1, vR tb1, vI 1, vI 4, vI 1, vI c2] [] tgt
    refine XS.aloadN X4.here hx rfl (hb hby d2_26) rfl rfl ?_
    show OwnG p e below T4 m 27 #[vR ab1, vI 1, vR tb1, vI 1, vI 4, vI 1, vI c2] [(.ref tb1)] tgt
    refine XS.iloadN X4.here hx rfl (hb hby d2_27) rfl ?_
    show OwnG p e below T4 m 28 #[vR ab1, vI 1, vR tb1, vI 1, vI 4, vI 1, vI c2] [(.int 1), (.ref tb1)] tgt
    refine XS.iload X4.here hx rfl (hb hby d2_28) rfl ?_
    show OwnG p e below T4 m 30 #[vR ab1, vI 1, vR tb1, vI 1, vI 4, vI 1, vI c2] [(.int c2), (.int 1), (.ref tb1)] tgt
    refine XS.i2b X4.here hx rfl (hb hby d2_30) rfl ?_
    exact kgo
  obtain ⟨cl8, Ar8, q8, S8, M8, H8, G8⟩ := id V4'
  obtain ⟨T8, h8, X8, e8, W8, st8⟩ := stB X4 hx hZ e4 Ar8 (j := (1 : Int32)) (inb_of S8 ⟨by decide, by decide⟩) (g := (mkF m 31 #[vR ab1, vI 1, vR tb1, vI 1, vI 4, vI 1, vI c2] [(.int (nar .byte c2)), (.int 1), (.ref tb1)])) rfl rfl (hb hby d2_31)
  refine OwnGoes.step (T' := T8) (g' := (mkF m 32 #[vR ab1, vI 1, vR tb1, vI 1, vI 4, vI 1, vI c2] [])) st8 ?_
  have V8 : Arv Z h8 tb1 kb1 .byte (4 : Int32) [(.int (nar .byte c1)), (.int (nar .byte (nar .byte c2))), (.int 0), (.int 0)] (.int 0) := Arv.set Ar8 q8 S8 M8 H8 G8 (fits_nar_byte _) W8 1 rfl (Nat.le_of_ble_eq_true rfl)
  rw [own_nar2_byte] at V8
  have V8' : Arv Z h8 tb1 kb1 .byte (4 : Int32) [(.int (nar .byte c1)), (.int (nar .byte c2)), (.int 0), (.int 0)] (.int 0) := V8
  have F8_2 := F4_1.other W8 (own_arv_ty F4_1 V4' (by decide))
  have Ol8 := Ol4.wr W8 f2
  have K8 : Keep h0 h8 ([tb1] : List Addr) := K4.wr W8 (Or.inl (List.mem_of_getElem? (i := 0) rfl))
  have N8 := Fr.snoc X8 N4 f2
  refine OwnGoes.step (T' := T8) (g' := (mkF m 20 #[vR ab1, vI 2, vR tb1, vI 2, vI 4, vI 2, vI c3] [(.int 255), (.int c3)])) (fun tgt kgo => ?_) ?_
  · refine XS.iinc X8.here hx rfl (hb hby d2_32) rfl (l' := #[vR ab1, vI 2, vR tb1, vI 1, vI 4, vI 1, vI c2]) rfl ?_
    show OwnG p e below T8 m 35 #[vR ab1, vI 2, vR tb1, vI 1, vI 4, vI 1, vI c2] [] tgt
    refine XS.iinc X8.here hx rfl (hb hby d2_35) rfl (l' := #[vR ab1, vI 2, vR tb1, vI 2, vI 4, vI 1, vI c2]) rfl ?_
    show OwnG p e below T8 m 38 #[vR ab1, vI 2, vR tb1, vI 2, vI 4, vI 1, vI c2] [] tgt
    refine XS.iinc X8.here hx rfl (hb hby d2_38) rfl (l' := #[vR ab1, vI 2, vR tb1, vI 2, vI 4, vI 2, vI c2]) rfl ?_
    show OwnG p e below T8 m 41 #[vR ab1, vI 2, vR tb1, vI 2, vI 4, vI 2, vI c2] [] tgt
    refine XS.goto X8.here hx rfl (pc0 := 41) (pc' := 3) rfl (hb hby d2_41) (by decide) (by decide) ?_
    show OwnG p e below T8 m 3 #[vR ab1, vI 2, vR tb1, vI 2, vI 4, vI 2, vI c2] [] tgt
    refine XS.iload X8.here hx rfl (hb hby d2_3) rfl ?_
    show OwnG p e below T8 m 5 #[vR ab1, vI 2, vR tb1, vI 2, vI 4, vI 2, vI c2] [(.int 2)] tgt
    refine XS.iload X8.here hx rfl (hb hby d2_5) rfl ?_
    show OwnG p e below T8 m 7 #[vR ab1, vI 2, vR tb1, vI 2, vI 4, vI 2, vI c2] [(.int 4), (.int 2)] tgt
    refine XS.icmpNo X8.here hx rfl (hb hby d2_7) rfl (tlt (by decide : (2 : Int32) < (4 : Int32))).2.1 ?_
    show OwnG p e below T8 m 10 #[vR ab1, vI 2, vR tb1, vI 2, vI 4, vI 2, vI c2] [] tgt
    refine XS.aloadN X8.here hx rfl (hb hby d2_10) rfl rfl ?_
    show OwnG p e below T8 m 11 #[vR ab1, vI 2, vR tb1, vI 2, vI 4, vI 2, vI c2] [(.ref ab1)] tgt
    refine XS.iloadN X8.here hx rfl (hb hby d2_11) rfl ?_
    show OwnG p e below T8 m 12 #[vR ab1, vI 2, vR tb1, vI 2, vI 4, vI 2, vI c2] [(.int 2), (.ref ab1)] tgt
    obtain ⟨cl9, Ar9, q9, S9, M9, H9, G9⟩ := F8_2
    refine X8.caload hx (j := (2 : Int32)) (v := (.int c3)) (by rw [e8]; exact Ar9.1) (State.isArrayOf_alike hZ.alike Ar9.2.1) Ar9.2.2 (inb_of S9 ⟨by decide, by decide⟩) (Has.at H9 (inb_of S9 ⟨by decide, by decide⟩) rfl) (g := (mkF m 12 #[vR ab1, vI 2, vR tb1, vI 2, vI 4, vI 2, vI c2] [(.int 2), (.ref ab1)])) rfl rfl (hb hby d2_12) _ ?_
    show OwnG p e below T8 m 13 #[vR ab1, vI 2, vR tb1, vI 2, vI 4, vI 2, vI c2] [(.int c3)] tgt
    refine XS.istore X8.here hx rfl (hb hby d2_13) rfl (l' := #[vR ab1, vI 2, vR tb1, vI 2, vI 4, vI 2, vI c3]) rfl ?_
    show OwnG p e below T8 m 15 #[vR ab1, vI 2, vR tb1, vI 2, vI 4, vI 2, vI c3] [] tgt
    refine XS.iload X8.here hx rfl (hb hby d2_15) rfl ?_
    show OwnG p e below T8 m 17 #[vR ab1, vI 2, vR tb1, vI 2, vI 4, vI 2, vI c3] [(.int c3)] tgt
    refine XS.sipush X8.here hx rfl (hb hby d2_17) ?_
    exact kgo
  by_cases cc10 : (255 : Int32) < c3
  · skip
    refine OwnGoes.step (T' := T8) (g' := (mkF m 25 #[vR ab1, vI 2, vR tb1, vI 2, vI 4, vI 2, vI c3] [(.int 2)])) (fun tgt kgo => ?_) ?_
    · refine XS.icmpNo X8.here hx rfl (hb hby d2_20) rfl (tlt cc10).2.2.2 ?_
      show OwnG p e below T8 m 23 #[vR ab1, vI 2, vR tb1, vI 2, vI 4, vI 2, vI c3] [] tgt
      refine XS.iload X8.here hx rfl (hb hby d2_23) rfl ?_
      exact kgo
    refine own_leave X8 hlk (v := some (.int 2)) (fun h => by rw [Bd.returns] at h; cases h) (fun fs hr => retI X8 hx Bd.returns (hb hby d2_25) hr) (by decide) (by decide) ?_
    show Q_c5_4 Z ab1 tb1 kc kb1 c1 c2 c3 c4 h0 n0 _ T8.heap _
    rw [e8]
    exact ⟨(2 : Int32), [(.int (nar .byte c1)), (.int (nar .byte c2)), (.int 0), (.int 0)], rfl, N8, K8, V8', (Or.inr (Or.inr (Or.inr (Or.inl ⟨rfl, cc10⟩))))⟩
  refine OwnGoes.step (T' := T8) (g' := (mkF m 31 #[vR ab1, vI 2, vR tb1, vI 2, vI 4, vI 2, vI c3] [(.int (nar .byte c3)), (.int 2), (.ref tb1)])) (fun tgt kgo => ?_) ?_
  · refine XS.icmpYes X8.here hx rfl (pc0 := 20) (pc' := 26) rfl (hb hby d2_20) rfl (flt cc10).2.2.2 (by decide) (by decide) ?_
    show OwnG p e below T8 m 26 #[vR ab1, vI 2, vR tb1, vI 2, vI 4, vI 2, vI c3] [] tgt
    refine XS.aloadN X8.here hx rfl (hb hby d2_26) rfl rfl ?_
    show OwnG p e below T8 m 27 #[vR ab1, vI 2, vR tb1, vI 2, vI 4, vI 2, vI c3] [(.ref tb1)] tgt
    refine XS.iloadN X8.here hx rfl (hb hby d2_27) rfl ?_
    show OwnG p e below T8 m 28 #[vR ab1, vI 2, vR tb1, vI 2, vI 4, vI 2, vI c3] [(.int 2), (.ref tb1)] tgt
    refine XS.iload X8.here hx rfl (hb hby d2_28) rfl ?_
    show OwnG p e below T8 m 30 #[vR ab1, vI 2, vR tb1, vI 2, vI 4, vI 2, vI c3] [(.int c3), (.int 2), (.ref tb1)] tgt
    refine XS.i2b X8.here hx rfl (hb hby d2_30) rfl ?_
    exact kgo
  obtain ⟨cl12, Ar12, q12, S12, M12, H12, G12⟩ := id V8'
  obtain ⟨T12, h12, X12, e12, W12, st12⟩ := stB X8 hx hZ e8 Ar12 (j := (2 : Int32)) (inb_of S12 ⟨by decide, by decide⟩) (g := (mkF m 31 #[vR ab1, vI 2, vR tb1, vI 2, vI 4, vI 2, vI c3] [(.int (nar .byte c3)), (.int 2), (.ref tb1)])) rfl rfl (hb hby d2_31)
  refine OwnGoes.step (T' := T12) (g' := (mkF m 32 #[vR ab1, vI 2, vR tb1, vI 2, vI 4, vI 2, vI c3] [])) st12 ?_
  have V12 : Arv Z h12 tb1 kb1 .byte (4 : Int32) [(.int (nar .byte c1)), (.int (nar .byte c2)), (.int (nar .byte (nar .byte c3))), (.int 0)] (.int 0) := Arv.set Ar12 q12 S12 M12 H12 G12 (fits_nar_byte _) W12 2 rfl (Nat.le_of_ble_eq_true rfl)
  rw [own_nar2_byte] at V12
  have V12' : Arv Z h12 tb1 kb1 .byte (4 : Int32) [(.int (nar .byte c1)), (.int (nar .byte c2)), (.int (nar .byte c3)), (.int 0)] (.int 0) := V12
  have F12_3 := F8_2.other W12 (own_arv_ty F8_2 V8' (by decide))
  have Ol12 := Ol8.wr W12 f2
  have K12 : Keep h0 h12 ([tb1] : List Addr) := K8.wr W12 (Or.inl (List.mem_of_getElem? (i := 0) rfl))
  have N12 := Fr.snoc X12 N8 f2
  refine OwnGoes.step (T' := T12) (g' := (mkF m 20 #[vR ab1, vI 3, vR tb1, vI 3, vI 4, vI 3, vI c4] [(.int 255), (.int c4)])) (fun tgt kgo => ?_) ?_
  · refine XS.iinc X12.here hx rfl (hb hby d2_32) rfl (l' := #[vR ab1, vI 3, vR tb1, vI 2, vI 4, vI 2, vI c3]) rfl ?_
    show OwnG p e below T12 m 35 #[vR ab1, vI 3, vR tb1, vI 2, vI 4, vI 2, vI c3] [] tgt
    refine XS.iinc X12.here hx rfl (hb hby d2_35) rfl (l' := #[vR ab1, vI 3, vR tb1, vI 3, vI 4, vI 2, vI c3]) rfl ?_
    show OwnG p e below T12 m 38 #[vR ab1, vI 3, vR tb1, vI 3, vI 4, vI 2, vI c3] [] tgt
    refine XS.iinc X12.here hx rfl (hb hby d2_38) rfl (l' := #[vR ab1, vI 3, vR tb1, vI 3, vI 4, vI 3, vI c3]) rfl ?_
    show OwnG p e below T12 m 41 #[vR ab1, vI 3, vR tb1, vI 3, vI 4, vI 3, vI c3] [] tgt
    refine XS.goto X12.here hx rfl (pc0 := 41) (pc' := 3) rfl (hb hby d2_41) (by decide) (by decide) ?_
    show OwnG p e below T12 m 3 #[vR ab1, vI 3, vR tb1, vI 3, vI 4, vI 3, vI c3] [] tgt
    refine XS.iload X12.here hx rfl (hb hby d2_3) rfl ?_
    show OwnG p e below T12 m 5 #[vR ab1, vI 3, vR tb1, vI 3, vI 4, vI 3, vI c3] [(.int 3)] tgt
    refine XS.iload X12.here hx rfl (hb hby d2_5) rfl ?_
    show OwnG p e below T12 m 7 #[vR ab1, vI 3, vR tb1, vI 3, vI 4, vI 3, vI c3] [(.int 4), (.int 3)] tgt
    refine XS.icmpNo X12.here hx rfl (hb hby d2_7) rfl (tlt (by decide : (3 : Int32) < (4 : Int32))).2.1 ?_
    show OwnG p e below T12 m 10 #[vR ab1, vI 3, vR tb1, vI 3, vI 4, vI 3, vI c3] [] tgt
    refine XS.aloadN X12.here hx rfl (hb hby d2_10) rfl rfl ?_
    show OwnG p e below T12 m 11 #[vR ab1, vI 3, vR tb1, vI 3, vI 4, vI 3, vI c3] [(.ref ab1)] tgt
    refine XS.iloadN X12.here hx rfl (hb hby d2_11) rfl ?_
    show OwnG p e below T12 m 12 #[vR ab1, vI 3, vR tb1, vI 3, vI 4, vI 3, vI c3] [(.int 3), (.ref ab1)] tgt
    obtain ⟨cl13, Ar13, q13, S13, M13, H13, G13⟩ := F12_3
    refine X12.caload hx (j := (3 : Int32)) (v := (.int c4)) (by rw [e12]; exact Ar13.1) (State.isArrayOf_alike hZ.alike Ar13.2.1) Ar13.2.2 (inb_of S13 ⟨by decide, by decide⟩) (Has.at H13 (inb_of S13 ⟨by decide, by decide⟩) rfl) (g := (mkF m 12 #[vR ab1, vI 3, vR tb1, vI 3, vI 4, vI 3, vI c3] [(.int 3), (.ref ab1)])) rfl rfl (hb hby d2_12) _ ?_
    show OwnG p e below T12 m 13 #[vR ab1, vI 3, vR tb1, vI 3, vI 4, vI 3, vI c3] [(.int c4)] tgt
    refine XS.istore X12.here hx rfl (hb hby d2_13) rfl (l' := #[vR ab1, vI 3, vR tb1, vI 3, vI 4, vI 3, vI c4]) rfl ?_
    show OwnG p e below T12 m 15 #[vR ab1, vI 3, vR tb1, vI 3, vI 4, vI 3, vI c4] [] tgt
    refine XS.iload X12.here hx rfl (hb hby d2_15) rfl ?_
    show OwnG p e below T12 m 17 #[vR ab1, vI 3, vR tb1, vI 3, vI 4, vI 3, vI c4] [(.int c4)] tgt
    refine XS.sipush X12.here hx rfl (hb hby d2_17) ?_
    exact kgo
  by_cases cc14 : (255 : Int32) < c4
  · skip
    refine OwnGoes.step (T' := T12) (g' := (mkF m 25 #[vR ab1, vI 3, vR tb1, vI 3, vI 4, vI 3, vI c4] [(.int 3)])) (fun tgt kgo => ?_) ?_
    · refine XS.icmpNo X12.here hx rfl (hb hby d2_20) rfl (tlt cc14).2.2.2 ?_
      show OwnG p e below T12 m 23 #[vR ab1, vI 3, vR tb1, vI 3, vI 4, vI 3, vI c4] [] tgt
      refine XS.iload X12.here hx rfl (hb hby d2_23) rfl ?_
      exact kgo
    refine own_leave X12 hlk (v := some (.int 3)) (fun h => by rw [Bd.returns] at h; cases h) (fun fs hr => retI X12 hx Bd.returns (hb hby d2_25) hr) (by decide) (by decide) ?_
    show Q_c5_4 Z ab1 tb1 kc kb1 c1 c2 c3 c4 h0 n0 _ T12.heap _
    rw [e12]
    exact ⟨(3 : Int32), [(.int (nar .byte c1)), (.int (nar .byte c2)), (.int (nar .byte c3)), (.int 0)], rfl, N12, K12, V12', (Or.inr (Or.inr (Or.inr (Or.inr ⟨rfl, cc14⟩))))⟩
  refine OwnGoes.step (T' := T12) (g' := (mkF m 31 #[vR ab1, vI 3, vR tb1, vI 3, vI 4, vI 3, vI c4] [(.int (nar .byte c4)), (.int 3), (.ref tb1)])) (fun tgt kgo => ?_) ?_
  · refine XS.icmpYes X12.here hx rfl (pc0 := 20) (pc' := 26) rfl (hb hby d2_20) rfl (flt cc14).2.2.2 (by decide) (by decide) ?_
    show OwnG p e below T12 m 26 #[vR ab1, vI 3, vR tb1, vI 3, vI 4, vI 3, vI c4] [] tgt
    refine XS.aloadN X12.here hx rfl (hb hby d2_26) rfl rfl ?_
    show OwnG p e below T12 m 27 #[vR ab1, vI 3, vR tb1, vI 3, vI 4, vI 3, vI c4] [(.ref tb1)] tgt
    refine XS.iloadN X12.here hx rfl (hb hby d2_27) rfl ?_
    show OwnG p e below T12 m 28 #[vR ab1, vI 3, vR tb1, vI 3, vI 4, vI 3, vI c4] [(.int 3), (.ref tb1)] tgt
    refine XS.iload X12.here hx rfl (hb hby d2_28) rfl ?_
    show OwnG p e below T12 m 30 #[vR ab1, vI 3, vR tb1, vI 3, vI 4, vI 3, vI c4] [(.int c4), (.int 3), (.ref tb1)] tgt
    refine XS.i2b X12.here hx rfl (hb hby d2_30) rfl ?_
    exact kgo
  obtain ⟨cl16, Ar16, q16, S16, M16, H16, G16⟩ := id V12'
  obtain ⟨T16, h16, X16, e16, W16, st16⟩ := stB X12 hx hZ e12 Ar16 (j := (3 : Int32)) (inb_of S16 ⟨by decide, by decide⟩) (g := (mkF m 31 #[vR ab1, vI 3, vR tb1, vI 3, vI 4, vI 3, vI c4] [(.int (nar .byte c4)), (.int 3), (.ref tb1)])) rfl rfl (hb hby d2_31)
  refine OwnGoes.step (T' := T16) (g' := (mkF m 32 #[vR ab1, vI 3, vR tb1, vI 3, vI 4, vI 3, vI c4] [])) st16 ?_
  have V16 : Arv Z h16 tb1 kb1 .byte (4 : Int32) [(.int (nar .byte c1)), (.int (nar .byte c2)), (.int (nar .byte c3)), (.int (nar .byte (nar .byte c4)))] (.int 0) := Arv.set Ar16 q16 S16 M16 H16 G16 (fits_nar_byte _) W16 3 rfl (Nat.le_of_ble_eq_true rfl)
  rw [own_nar2_byte] at V16
  have V16' : Arv Z h16 tb1 kb1 .byte (4 : Int32) [(.int (nar .byte c1)), (.int (nar .byte c2)), (.int (nar .byte c3)), (.int (nar .byte c4))] (.int 0) := V16
  have F16_4 := F12_3.other W16 (own_arv_ty F12_3 V12' (by decide))
  have Ol16 := Ol12.wr W16 f2
  have K16 : Keep h0 h16 ([tb1] : List Addr) := K12.wr W16 (Or.inl (List.mem_of_getElem? (i := 0) rfl))
  have N16 := Fr.snoc X16 N12 f2
  refine OwnGoes.step (T' := T16) (g' := (mkF m 46 #[vR ab1, vI 4, vR tb1, vI 4, vI 4, vI 4, vI c4] [(.int 4)])) (fun tgt kgo => ?_) ?_
  · refine XS.iinc X16.here hx rfl (hb hby d2_32) rfl (l' := #[vR ab1, vI 4, vR tb1, vI 3, vI 4, vI 3, vI c4]) rfl ?_
    show OwnG p e below T16 m 35 #[vR ab1, vI 4, vR tb1, vI 3, vI 4, vI 3, vI c4] [] tgt
    refine XS.iinc X16.here hx rfl (hb hby d2_35) rfl (l' := #[vR ab1, vI 4, vR tb1, vI 4, vI 4, vI 3, vI c4]) rfl ?_
    show OwnG p e below T16 m 38 #[vR ab1, vI 4, vR tb1, vI 4, vI 4, vI 3, vI c4] [] tgt
    refine XS.iinc X16.here hx rfl (hb hby d2_38) rfl (l' := #[vR ab1, vI 4, vR tb1, vI 4, vI 4, vI 4, vI c4]) rfl ?_
    show OwnG p e below T16 m 41 #[vR ab1, vI 4, vR tb1, vI 4, vI 4, vI 4, vI c4] [] tgt
    refine XS.goto X16.here hx rfl (pc0 := 41) (pc' := 3) rfl (hb hby d2_41) (by decide) (by decide) ?_
    show OwnG p e below T16 m 3 #[vR ab1, vI 4, vR tb1, vI 4, vI 4, vI 4, vI c4] [] tgt
    refine XS.iload X16.here hx rfl (hb hby d2_3) rfl ?_
    show OwnG p e below T16 m 5 #[vR ab1, vI 4, vR tb1, vI 4, vI 4, vI 4, vI c4] [(.int 4)] tgt
    refine XS.iload X16.here hx rfl (hb hby d2_5) rfl ?_
    show OwnG p e below T16 m 7 #[vR ab1, vI 4, vR tb1, vI 4, vI 4, vI 4, vI c4] [(.int 4), (.int 4)] tgt
    refine XS.icmpYes X16.here hx rfl (pc0 := 7) (pc' := 44) rfl (hb hby d2_7) rfl (flt (by decide : ¬ ((4 : Int32) < (4 : Int32)))).2.1 (by decide) (by decide) ?_
    show OwnG p e below T16 m 44 #[vR ab1, vI 4, vR tb1, vI 4, vI 4, vI 4, vI c4] [] tgt
    refine XS.iload X16.here hx rfl (hb hby d2_44) rfl ?_
    exact kgo
  refine own_leave X16 hlk (v := some (.int 4)) (fun h => by rw [Bd.returns] at h; cases h) (fun fs hr => retI X16 hx Bd.returns (hb hby d2_46) hr) (by decide) (by decide) ?_
  show Q_c5_4 Z ab1 tb1 kc kb1 c1 c2 c3 c4 h0 n0 _ T16.heap _
  rw [e16]
  exact ⟨(4 : Int32), [(.int (nar .byte c1)), (.int (nar .byte c2)), (.int (nar .byte c3)), (.int (nar .byte c4))], rfl, N16, K16, V16', (Or.inl ⟨rfl, rfl, cc2, cc6, cc10, cc14⟩)⟩
theorem ef_nbl_4 (m : MethodId)  : entryFrame m #[(.int 4)] 1 = mkF m 0 #[vI 4] [] := by
  first | (simp [entryFrame, mkF, argsToLocals, Value.category]; done) | rfl
def Q_nbl_4 (Z : State)  (h0 : Heap) (n0 : Nat) (v : Option Value) (h : Heap) (L : List Loc) : Prop := v = some (.int 8) ∧ Fr n0 L ∧ h = h0
set_option maxRecDepth 65536 in
set_option maxHeartbeats 40000000 in
theorem rm_nbl_4 (l : Launch) (Z : State) (a0 : Array Value) (hw : ∀ d ∈ tables_1, d.before a0 Z = true) (ws : List Jvm.Cond) (wG1 : Int32) (wG3 : Value) (cx : OwnCx Z a0 wG1 wG3) (hEL : EW Z a0 consts_1) (h0 : Heap) (n0 : Nat) (X00 : Old Z n0 h0)  :
    MetFree l mN3 (head1 (Jvm.Cond.code mN3 jdk_52_method_3_code 1 (some .int) :: ws) ({ frames := 0, cells := 0, slots := 0, locals := 0 } : Room)) (fun a U => a = #[(.int 4)] ∧ Z.Warmed39 U.vm ∧ U.heap = h0) (fun _ _ _ _ _ => True) (fun _ U o U' => ∃ v L, o = .returned v ∧ Q_nbl_4 Z  h0 n0 v U'.heap L ∧ FrameEnd U o U' L ({ frames := 0, cells := 0, slots := 0, locals := 0 } : Room).cells ({ frames := 0, cells := 0, slots := 0, locals := 0 } : Room).slots) := by
  refine MetFree.of_bodySF (plainFor_of_name pn_68381282) hisR ?_
  intro p e s m args below meth c s₁ Bd hml0 hP hK
  obtain ⟨rfl, hZ, hh⟩ := hP
  obtain ⟨wO2, wP5, wO4, wrG3, hstr, wUA, wUH, wUL⟩ := id cx
  have hx := Bd.exec
  have hby := Bd.bytes
  have hlk := Bd.notSynchronized
  have hml : c.maxLocals = 1 := hml0
  have hown : s.vm.findClass "java/lang/StringUTF16" = some m.cls := findClass_of_methodNamed Bd.named
  have hnm := (name_of_methodNamed Bd.named Bd.method).1
  have X0 : Stand p l e ({ frames := 0, cells := 0, slots := 0, locals := 0 } : Room) s m #[(.int 4)] below meth c s₁ [] 0 0 := Stand.of_body Bd
  have e0 : s₁.heap = h0 := by rw [← hh, Bd.state]; rfl
  have N0 := Fr.nil n0
  have Z0 : n0 ≤ h0.size := X00.1 ▸ X00.2.1
  have K0 : Keep h0 h0 ([] : List Addr) := Keep.refl _ _
  show OwnGoes p e below (fun o U' => ∃ v L, o = .returned v ∧ Q_nbl_4 Z  h0 n0 v U'.heap L ∧ FrameEnd s o U' L ({ frames := 0, cells := 0, slots := 0, locals := 0 } : Room).cells ({ frames := 0, cells := 0, slots := 0, locals := 0 } : Room).slots) s₁ (entryFrame m #[(.int 4)] 1)
  refine OwnGoes.step (T' := s₁) (g' := (mkF m 0 #[vI 4] [])) (fun tgt kgo => castTop (ef_nbl_4 m ) kgo) ?_
  refine OwnGoes.step (T' := s₁) (g' := (mkF m 58 #[vI 4] [(.int 8)])) (fun tgt kgo => ?_) ?_
  · refine XS.iloadN X0.here hx rfl (hb hby d3_0) rfl ?_
    show OwnG p e below s₁ m 1 #[vI 4] [(.int 4)] tgt
    refine XS.ifYes X0.here hx rfl (pc0 := 1) (pc' := 12) rfl (hb hby d3_1) rfl ((if0 _ _).trans (flt (by decide : ¬ ((4 : Int32) < (0 : Int32)))).2.1) (by decide) (by decide) ?_
    show OwnG p e below s₁ m 12 #[vI 4] [] tgt
    refine XS.iloadN X0.here hx rfl (hb hby d3_12) rfl ?_
    show OwnG p e below s₁ m 13 #[vI 4] [(.int 4)] tgt
    refine X0.ldcInt hx hown (mvT hZ (own_w hw 96 rfl)) (g := (mkF m 13 #[vI 4] [(.int 4)])) rfl (hb hby d3_13) _ ?_
    show OwnG p e below s₁ m 15 #[vI 4] [(.int 1073741823), (.int 4)] tgt
    refine XS.icmpYes X0.here hx rfl (pc0 := 15) (pc' := 55) rfl (hb hby d3_15) rfl (tlt (by decide : (4 : Int32) < (1073741823 : Int32))).1 (by decide) (by decide) ?_
    show OwnG p e below s₁ m 55 #[vI 4] [] tgt
    refine XS.iloadN X0.here hx rfl (hb hby d3_55) rfl ?_
    show OwnG p e below s₁ m 56 #[vI 4] [(.int 4)] tgt
    refine XS.iconst X0.here hx rfl (hb hby d3_56) ?_
    show OwnG p e below s₁ m 57 #[vI 4] [(.int 1), (.int 4)] tgt
    refine XS.ishl X0.here hx rfl (hb hby d3_57) rfl ?_
    exact kgo
  refine own_leave X0 hlk (v := some (.int 8)) (fun h => by rw [Bd.returns] at h; cases h) (fun fs hr => retI X0 hx Bd.returns (hb hby d3_58) hr) (by decide) (by decide) ?_
  show Q_nbl_4 Z  h0 n0 _ s₁.heap _
  rw [e0]
  exact ⟨rfl, N0, rfl⟩
theorem ef_nbf_4 (m : MethodId)  : entryFrame m #[(.int 4)] 1 = mkF m 0 #[vI 4] [] := by
  first | (simp [entryFrame, mkF, argsToLocals, Value.category]; done) | rfl
def Q_nbf_4 (Z : State)  (h0 : Heap) (n0 : Nat) (v : Option Value) (h : Heap) (L : List Loc) : Prop := ∃ (t : Addr), ∃ (k : ClassId), v = some (.ref t) ∧ Fr n0 L ∧ Keep h0 h ([] : List Addr) ∧ h0.size ≤ t ∧ Arv Z h t k .byte (8 : Int32) [(.int 0), (.int 0), (.int 0), (.int 0), (.int 0), (.int 0), (.int 0), (.int 0)] (.int 0)
set_option maxRecDepth 65536 in
set_option maxHeartbeats 40000000 in
theorem rm_nbf_4 (l : Launch) (Z : State) (a0 : Array Value) (hw : ∀ d ∈ tables_1, d.before a0 Z = true) (ws : List Jvm.Cond) (wG1 : Int32) (wG3 : Value) (cx : OwnCx Z a0 wG1 wG3) (hEL : EW Z a0 consts_1) (h0 : Heap) (n0 : Nat) (X00 : Old Z n0 h0)  :
    MetFree l mN4 (head1 (Jvm.Cond.code mN4 jdk_52_method_2_code 1 (some (.array .byte)) :: ws) ({ frames := 1, cells := 1, slots := 8, locals := 12 } : Room)) (fun a U => a = #[(.int 4)] ∧ Z.Warmed39 U.vm ∧ U.heap = h0) (fun _ _ _ _ _ => True) (fun _ U o U' => ∃ v L, o = .returned v ∧ Q_nbf_4 Z  h0 n0 v U'.heap L ∧ FrameEnd U o U' L ({ frames := 1, cells := 1, slots := 8, locals := 12 } : Room).cells ({ frames := 1, cells := 1, slots := 8, locals := 12 } : Room).slots) := by
  refine MetFree.of_bodySF (plainFor_of_name pn_68381282) hisR ?_
  intro p e s m args below meth c s₁ Bd hml0 hP hK
  obtain ⟨rfl, hZ, hh⟩ := hP
  obtain ⟨wO2, wP5, wO4, wrG3, hstr, wUA, wUH, wUL⟩ := id cx
  have hx := Bd.exec
  have hby := Bd.bytes
  have hlk := Bd.notSynchronized
  have hml : c.maxLocals = 1 := hml0
  have hown : s.vm.findClass "java/lang/StringUTF16" = some m.cls := findClass_of_methodNamed Bd.named
  have hnm := (name_of_methodNamed Bd.named Bd.method).1
  have X0 : Stand p l e ({ frames := 1, cells := 1, slots := 8, locals := 12 } : Room) s m #[(.int 4)] below meth c s₁ [] 0 0 := Stand.of_body Bd
  have e0 : s₁.heap = h0 := by rw [← hh, Bd.state]; rfl
  have N0 := Fr.nil n0
  have Z0 : n0 ≤ h0.size := X00.1 ▸ X00.2.1
  have K0 : Keep h0 h0 ([] : List Addr) := Keep.refl _ _
  show OwnGoes p e below (fun o U' => ∃ v L, o = .returned v ∧ Q_nbf_4 Z  h0 n0 v U'.heap L ∧ FrameEnd s o U' L ({ frames := 1, cells := 1, slots := 8, locals := 12 } : Room).cells ({ frames := 1, cells := 1, slots := 8, locals := 12 } : Room).slots) s₁ (entryFrame m #[(.int 4)] 1)
  refine OwnGoes.step (T' := s₁) (g' := (mkF m 0 #[vI 4] [])) (fun tgt kgo => castTop (ef_nbf_4 m ) kgo) ?_
  refine OwnGoes.step (T' := s₁) (g' := (mkF m 1 #[vI 4] [(.int 4)])) (fun tgt kgo => ?_) ?_
  · refine XS.iloadN X0.here hx rfl (hb hby d4_0) rfl ?_
    exact kgo
  obtain ⟨_, _, ⟨T1, L1, k1, n1⟩, -, X1, ⟨Lc1, hQ1, l1, y1, z1⟩, st1⟩ := Jvm.LawKit.callS X0 hx (y := mN3) hown (mvT hZ (own_w hw 93 rfl)) (mvT hZ (own_w hw 94 rfl)) (mvT hZ (own_w hw 43 rfl)) (mvT hZ (own_w hw 95 rfl)) (by decide) (backOf (W := 0) (rm_nbl_4 l Z a0 hw [] wG1 wG3 cx hEL h0 n0 X00 ) hZ (own_w hw 95 rfl) (own_w hw 43 rfl) (by decide) (by decide)) (g := (mkF m 1 #[vI 4] [(.int 4)])) rfl (by rw [hml]; rfl) (argsL := [(.int 4)]) (rest := []) (lenOf pd_92649053 rfl) rfl (Nat.le_of_eq rfl) (hb hby d4_1) (fun _ _ => ⟨rfl, e0, (by decide : 0 + 0 ≤ _), (by decide : 0 + 0 ≤ _)⟩)
  dsimp only [Pt.U, Pt.locs, Pt.cells, Pt.slots] at X1 l1 y1 z1 st1 hQ1
  subst l1 y1 z1
  obtain ⟨rfl, Nq1, eq1⟩ := hQ1
  refine OwnGoes.step (T' := T1) (g' := (mkF m 4 #[vI 4] [(.int 8)])) st1 ?_
  have N1 := Fr.app N0 Nq1
  obtain ⟨T2, h2, k2, X2, e2, E2, A2, st2⟩ := newP X1 hx hZ (own_w hw 24 rfl) eq1 (g := (mkF m 4 #[vI 4] [(.int 8)])) rfl (hb hby d4_4) rfl (by decide) (cap := 8) (by decide) (by decide) (by decide) (by decide)
  obtain ⟨b2, g2⟩ : ∃ z, z = h0.size := ⟨_, rfl⟩
  rw [← g2] at A2 st2
  refine OwnGoes.step (T' := T2) (g' := (mkF m 6 #[vI 4] [(.ref b2)])) st2 ?_
  have V2 : Arv Z h2 b2 k2 .byte (8 : Int32) [(.int 0), (.int 0), (.int 0), (.int 0), (.int 0), (.int 0), (.int 0), (.int 0)] (.int 0) := (Arv.new A2 (by decide)).pad (pad_rep [] (.int 0) 8)
  have g_b2 : n0 ≤ b2 := Nat.le_trans (Nat.le_trans Z0 K0.1) (Nat.le_of_eq g2.symm)
  have s_b2 : h0.size ≤ b2 := Nat.le_trans K0.1 (Nat.le_of_eq g2.symm)
  have Ol2 := X00.ext E2
  have K2 : Keep h0 h2 ([] : List Addr) := K0.ext E2
  have hret : ∀ fs, (∀ (f : JFrame) (acts : List Action), f.method = m → f.locked = none → f.entered = [] → (doReturn e (T2.setTop f) acts (some (.ref b2))).1 = T2.setFrames fs) → Steps p.tables e below (T2.setTop (mkF m 6 #[vI 4] [(.ref b2)])) (T2.setFrames fs) := by
    intro fs hr
    jvm_step X2.here [X2.here.top, hx, (hb hby d4_6), X2.method', Bd.returns, Value.isRef, FieldType.isReference]
    first | (intro acts; rw [hr _ acts rfl rfl rfl]) | rw [hr _ _ rfl rfl rfl]
    exact Steps.refl _
  refine own_leave X2 hlk (v := some (.ref b2)) (fun h => by rw [Bd.returns] at h; cases h) hret (by decide) (by decide) ?_
  show Q_nbf_4 Z  h0 n0 _ T2.heap _
  rw [e2]
  exact ⟨b2, k2, rfl, N1, K2, s_b2, V2⟩
theorem ef_tob_4 (m : MethodId) (x0 : Addr) : entryFrame m #[(.ref x0), (.int 0), (.int 4)] 5 = mkF m 0 #[vR x0, vI 0, vI 4, vU, vU] [] := by
  first | (simp [entryFrame, mkF, argsToLocals, Value.category]; done) | rfl
def Q_tob_4 (Z : State) (ab1 : Addr) (kc : ClassId) (c1 : Int32) (c2 : Int32) (c3 : Int32) (c4 : Int32) (h0 : Heap) (n0 : Nat) (v : Option Value) (h : Heap) (L : List Loc) : Prop := ∃ (t : Addr), ∃ (k : ClassId), v = some (.ref t) ∧ Fr n0 L ∧ Keep h0 h ([] : List Addr) ∧ h0.size ≤ t ∧ Arv Z h t k .byte (8 : Int32) [(.int (nar .byte c1)), (.int (nar .byte (c1 >>> ((8 : Int32) &&& 31)))), (.int (nar .byte c2)), (.int (nar .byte (c2 >>> ((8 : Int32) &&& 31)))), (.int (nar .byte c3)), (.int (nar .byte (c3 >>> ((8 : Int32) &&& 31)))), (.int (nar .byte c4)), (.int (nar .byte (c4 >>> ((8 : Int32) &&& 31))))] (.int 0)
set_option maxRecDepth 65536 in
set_option maxHeartbeats 40000000 in
theorem rm_tob_4 (l : Launch) (Z : State) (a0 : Array Value) (hw : ∀ d ∈ tables_1, d.before a0 Z = true) (ws : List Jvm.Cond) (wG1 : Int32) (wG3 : Value) (cx : OwnCx Z a0 wG1 wG3) (hEL : EW Z a0 consts_1) (h0 : Heap) (n0 : Nat) (X00 : Old Z n0 h0) (ab1 : Addr) (kc : ClassId) (c1 : Int32) (c2 : Int32) (c3 : Int32) (c4 : Int32) (f0 : Arv Z h0 ab1 kc .char (4 : Int32) [(.int c1), (.int c2), (.int c3), (.int c4)] (.int 0)) :
    MetFree l mN5 (head1 (Jvm.Cond.code mN5 jdk_52_method_14_code 5 (some (.array .byte)) :: ws) ({ frames := 2, cells := 1, slots := 8, locals := 24 } : Room)) (fun a U => a = #[(.ref ab1), (.int 0), (.int 4)] ∧ Z.Warmed39 U.vm ∧ U.heap = h0) (fun _ _ _ _ _ => True) (fun _ U o U' => ∃ v L, o = .returned v ∧ Q_tob_4 Z ab1 kc c1 c2 c3 c4 h0 n0 v U'.heap L ∧ FrameEnd U o U' L ({ frames := 2, cells := 1, slots := 8, locals := 24 } : Room).cells ({ frames := 2, cells := 1, slots := 8, locals := 24 } : Room).slots) := by
  refine MetFree.of_bodySF (plainFor_of_name pn_68381282) hisR ?_
  intro p e s m args below meth c s₁ Bd hml0 hP hK
  obtain ⟨rfl, hZ, hh⟩ := hP
  obtain ⟨wO2, wP5, wO4, wrG3, hstr, wUA, wUH, wUL⟩ := id cx
  have hx := Bd.exec
  have hby := Bd.bytes
  have hlk := Bd.notSynchronized
  have hml : c.maxLocals = 5 := hml0
  have hown : s.vm.findClass "java/lang/StringUTF16" = some m.cls := findClass_of_methodNamed Bd.named
  have hnm := (name_of_methodNamed Bd.named Bd.method).1
  have X0 : Stand p l e ({ frames := 2, cells := 1, slots := 8, locals := 24 } : Room) s m #[(.ref ab1), (.int 0), (.int 4)] below meth c s₁ [] 0 0 := Stand.of_body Bd
  have e0 : s₁.heap = h0 := by rw [← hh, Bd.state]; rfl
  have N0 := Fr.nil n0
  have Z0 : n0 ≤ h0.size := X00.1 ▸ X00.2.1
  have K0 : Keep h0 h0 ([] : List Addr) := Keep.refl _ _
  show OwnGoes p e below (fun o U' => ∃ v L, o = .returned v ∧ Q_tob_4 Z ab1 kc c1 c2 c3 c4 h0 n0 v U'.heap L ∧ FrameEnd s o U' L ({ frames := 2, cells := 1, slots := 8, locals := 24 } : Room).cells ({ frames := 2, cells := 1, slots := 8, locals := 24 } : Room).slots) s₁ (entryFrame m #[(.ref ab1), (.int 0), (.int 4)] 5)
  refine OwnGoes.step (T' := s₁) (g' := (mkF m 0 #[vR ab1, vI 0, vI 4, vU, vU] [])) (fun tgt kgo => castTop (ef_tob_4 m ab1) kgo) ?_
  refine OwnGoes.step (T' := s₁) (g' := (mkF m 1 #[vR ab1, vI 0, vI 4, vU, vU] [(.int 4)])) (fun tgt kgo => ?_) ?_
  · refine XS.iloadN X0.here hx rfl (hb hby d5_0) rfl ?_
    exact kgo
  obtain ⟨_, _, ⟨T1, L1, k1, n1⟩, -, X1, ⟨Lc1, hQ1, l1, y1, z1⟩, st1⟩ := Jvm.LawKit.callS X0 hx (y := mN4) hown (mvT hZ (own_w hw 90 rfl)) (mvT hZ (own_w hw 91 rfl)) (mvT hZ (own_w hw 43 rfl)) (mvT hZ (own_w hw 92 rfl)) (by decide) (backOf (W := 0) (rm_nbf_4 l Z a0 hw [] wG1 wG3 cx hEL h0 n0 X00 ) hZ (own_w hw 92 rfl) (own_w hw 43 rfl) (by decide) (by decide)) (g := (mkF m 1 #[vR ab1, vI 0, vI 4, vU, vU] [(.int 4)])) rfl (by rw [hml]; rfl) (argsL := [(.int 4)]) (rest := []) (lenOf pd_63641379 rfl) rfl (Nat.le_of_eq rfl) (hb hby d5_1) (fun _ _ => ⟨rfl, e0, (by decide : 0 + 1 ≤ _), (by decide : 0 + 8 ≤ _)⟩)
  dsimp only [Pt.U, Pt.locs, Pt.cells, Pt.slots] at X1 l1 y1 z1 st1 hQ1
  subst l1 y1 z1
  obtain ⟨t_1, k_1, rfl, Nq1, Kq1, zq1_0, fq1_0⟩ := hQ1
  refine OwnGoes.step (T' := T1) (g' := (mkF m 4 #[vR ab1, vI 0, vI 4, vU, vU] [(.ref t_1)])) st1 ?_
  have N1 := Fr.app N0 Nq1
  have ne_ab1_t_1 : ab1 ≠ t_1 := Nat.ne_of_lt (Nat.lt_of_lt_of_le f0.lt zq1_0)
  have g_t_1 : n0 ≤ t_1 := Nat.le_trans (Nat.le_trans Z0 K0.1) zq1_0
  have s_t_1 : h0.size ≤ t_1 := Nat.le_trans K0.1 zq1_0
  have F1_1 := f0.keep Kq1 nin0
  have Ol1 := X00.keep Kq1 all0
  have K1 : Keep h0 T1.heap ([] : List Addr) := K0.trans Kq1 all0
  refine OwnGoes.step (T' := T1) (g' := (mkF m 20 #[vR ab1, vI 0, vI 4, vR t_1, vI 0] [(.int c1), (.int 0), (.ref t_1)])) (fun tgt kgo => ?_) ?_
  · refine XS.astoreN X1.here hx rfl (hb hby d5_4) rfl rfl (l' := #[vR ab1, vI 0, vI 4, vR t_1, vU]) rfl ?_
    show OwnG p e below T1 m 5 #[vR ab1, vI 0, vI 4, vR t_1, vU] [] tgt
    refine XS.iconst X1.here hx rfl (hb hby d5_5) ?_
    show OwnG p e below T1 m 6 #[vR ab1, vI 0, vI 4, vR t_1, vU] [(.int 0)] tgt
    refine XS.istore X1.here hx rfl (hb hby d5_6) rfl (l' := #[vR ab1, vI 0, vI 4, vR t_1, vI 0]) rfl ?_
    show OwnG p e below T1 m 8 #[vR ab1, vI 0, vI 4, vR t_1, vI 0] [] tgt
    refine XS.iload X1.here hx rfl (hb hby d5_8) rfl ?_
    show OwnG p e below T1 m 10 #[vR ab1, vI 0, vI 4, vR t_1, vI 0] [(.int 0)] tgt
    refine XS.iloadN X1.here hx rfl (hb hby d5_10) rfl ?_
    show OwnG p e below T1 m 11 #[vR ab1, vI 0, vI 4, vR t_1, vI 0] [(.int 4), (.int 0)] tgt
    refine XS.icmpNo X1.here hx rfl (hb hby d5_11) rfl (tlt (by decide : (0 : Int32) < (4 : Int32))).2.1 ?_
    show OwnG p e below T1 m 14 #[vR ab1, vI 0, vI 4, vR t_1, vI 0] [] tgt
    refine XS.aloadN X1.here hx rfl (hb hby d5_14) rfl rfl ?_
    show OwnG p e below T1 m 15 #[vR ab1, vI 0, vI 4, vR t_1, vI 0] [(.ref t_1)] tgt
    refine XS.iload X1.here hx rfl (hb hby d5_15) rfl ?_
    show OwnG p e below T1 m 17 #[vR ab1, vI 0, vI 4, vR t_1, vI 0] [(.int 0), (.ref t_1)] tgt
    refine XS.aloadN X1.here hx rfl (hb hby d5_17) rfl rfl ?_
    show OwnG p e below T1 m 18 #[vR ab1, vI 0, vI 4, vR t_1, vI 0] [(.ref ab1), (.int 0), (.ref t_1)] tgt
    refine XS.iloadN X1.here hx rfl (hb hby d5_18) rfl ?_
    show OwnG p e below T1 m 19 #[vR ab1, vI 0, vI 4, vR t_1, vI 0] [(.int 0), (.ref ab1), (.int 0), (.ref t_1)] tgt
    obtain ⟨cl2, Ar2, q2, S2, M2, H2, G2⟩ := F1_1
    refine X1.caload hx (j := (0 : Int32)) (v := (.int c1)) Ar2.1 (State.isArrayOf_alike hZ.alike Ar2.2.1) Ar2.2.2 (inb_of S2 ⟨by decide, by decide⟩) (Has.at H2 (inb_of S2 ⟨by decide, by decide⟩) rfl) (g := (mkF m 19 #[vR ab1, vI 0, vI 4, vR t_1, vI 0] [(.int 0), (.ref ab1), (.int 0), (.ref t_1)])) rfl rfl (hb hby d5_19) _ ?_
    exact kgo
  obtain ⟨_, _, ⟨T3, L3, k3, n3⟩, -, X3, ⟨Lc3, hQ3, l3, y3, z3⟩, st3⟩ := Jvm.LawKit.callS X1 hx (y := mN1) hown (mvT hZ (own_w hw 97 rfl)) (mvT hZ (own_w hw 98 rfl)) (mvT hZ (own_w hw 43 rfl)) (mvT hZ (own_w hw 99 rfl)) (by decide) (backOf (W := 0) (rm_u16put l Z a0 hw [] wG1 wG3 cx hEL T1.heap n0 Ol1 t_1 k_1 (8 : Int32) [(.int 0), (.int 0), (.int 0), (.int 0), (.int 0), (.int 0), (.int 0), (.int 0)] (0 : Int32) c1 0 fq1_0 g_t_1 ⟨⟨⟨by decide, by decide⟩, rfl, Nat.le_of_ble_eq_true rfl⟩, ⟨⟨by decide, by decide⟩, rfl, Nat.le_of_ble_eq_true rfl⟩⟩) hZ (own_w hw 99 rfl) (own_w hw 43 rfl) (by decide) (by decide)) (g := (mkF m 20 #[vR ab1, vI 0, vI 4, vR t_1, vI 0] [(.int c1), (.int 0), (.ref t_1)])) rfl (by rw [hml]; rfl) (argsL := [(.ref t_1), (.int 0), (.int c1)]) (rest := []) (lenOf pd_52952394 rfl) rfl (Nat.le_of_eq rfl) (hb hby d5_20) (fun _ _ => ⟨rfl, rfl, (by decide : 1 + 0 ≤ _), (by decide : 8 + 0 ≤ _)⟩)
  dsimp only [Pt.U, Pt.locs, Pt.cells, Pt.slots] at X3 l3 y3 z3 st3 hQ3
  subst l3 y3 z3
  obtain ⟨rfl, Nq3, Kq3, fq3_0⟩ := hQ3
  refine OwnGoes.step (T' := T3) (g' := (mkF m 23 #[vR ab1, vI 0, vI 4, vR t_1, vI 0] [])) st3 ?_
  have N3 := Fr.app N1 Nq3
  have F3_2 := F1_1.keep Kq3 (ninS ne_ab1_t_1 nin0)
  have Ol3 := Ol1.keep Kq3 (allS g_t_1 all0)
  have K3 : Keep h0 T3.heap ([] : List Addr) := K1.trans Kq3 (allS (Or.inr s_t_1) all0)
  have Vp4 : Arv Z T3.heap t_1 k_1 .byte (8 : Int32) [(.int (nar .byte c1)), (.int (nar .byte (c1 >>> ((8 : Int32) &&& 31)))), (.int 0), (.int 0), (.int 0), (.int 0), (.int 0), (.int 0)] (.int 0) := fq3_0
  refine OwnGoes.step (T' := T3) (g' := (mkF m 20 #[vR ab1, vI 1, vI 4, vR t_1, vI 1] [(.int c2), (.int 1), (.ref t_1)])) (fun tgt kgo => ?_) ?_
  · refine XS.iinc X3.here hx rfl (hb hby d5_23) rfl (l' := #[vR ab1, vI 1, vI 4, vR t_1, vI 0]) rfl ?_
    show OwnG p e below T3 m 26 #[vR ab1, vI 1, vI 4, vR t_1, vI 0] [] tgt
    refine XS.iinc X3.here hx rfl (hb hby d5_26) rfl (l' := #[vR ab1, vI 1, vI 4, vR t_1, vI 1]) rfl ?_
    show OwnG p e below T3 m 29 #[vR ab1, vI 1, vI 4, vR t_1, vI 1] [] tgt
    refine XS.goto X3.here hx rfl (pc0 := 29) (pc' := 8) rfl (hb hby d5_29) (by decide) (by decide) ?_
    show OwnG p e below T3 m 8 #[vR ab1, vI 1, vI 4, vR t_1, vI 1] [] tgt
    refine XS.iload X3.here hx rfl (hb hby d5_8) rfl ?_
    show OwnG p e below T3 m 10 #[vR ab1, vI 1, vI 4, vR t_1, vI 1] [(.int 1)] tgt
    refine XS.iloadN X3.here hx rfl (hb hby d5_10) rfl ?_
    show OwnG p e below T3 m 11 #[vR ab1, vI 1, vI 4, vR t_1, vI 1] [(.int 4), (.int 1)] tgt
    refine XS.icmpNo X3.here hx rfl (hb hby d5_11) rfl (tlt (by decide : (1 : Int32) < (4 : Int32))).2.1 ?_
    show OwnG p e below T3 m 14 #[vR ab1, vI 1, vI 4, vR t_1, vI 1] [] tgt
    refine XS.aloadN X3.here hx rfl (hb hby d5_14) rfl rfl ?_
    show OwnG p e below T3 m 15 #[vR ab1, vI 1, vI 4, vR t_1, vI 1] [(.ref t_1)] tgt
    refine XS.iload X3.here hx rfl (hb hby d5_15) rfl ?_
    show OwnG p e below T3 m 17 #[vR ab1, vI 1, vI 4, vR t_1, vI 1] [(.int 1), (.ref t_1)] tgt
    refine XS.aloadN X3.here hx rfl (hb hby d5_17) rfl rfl ?_
    show OwnG p e below T3 m 18 #[vR ab1, vI 1, vI 4, vR t_1, vI 1] [(.ref ab1), (.int 1), (.ref t_1)] tgt
    refine XS.iloadN X3.here hx rfl (hb hby d5_18) rfl ?_
    show OwnG p e below T3 m 19 #[vR ab1, vI 1, vI 4, vR t_1, vI 1] [(.int 1), (.ref ab1), (.int 1), (.ref t_1)] tgt
    obtain ⟨cl5, Ar5, q5, S5, M5, H5, G5⟩ := F3_2
    refine X3.caload hx (j := (1 : Int32)) (v := (.int c2)) Ar5.1 (State.isArrayOf_alike hZ.alike Ar5.2.1) Ar5.2.2 (inb_of S5 ⟨by decide, by decide⟩) (Has.at H5 (inb_of S5 ⟨by decide, by decide⟩) rfl) (g := (mkF m 19 #[vR ab1, vI 1, vI 4, vR t_1, vI 1] [(.int 1), (.ref ab1), (.int 1), (.ref t_1)])) rfl rfl (hb hby d5_19) _ ?_
    exact kgo
  obtain ⟨_, _, ⟨T6, L6, k6, n6⟩, -, X6, ⟨Lc6, hQ6, l6, y6, z6⟩, st6⟩ := Jvm.LawKit.callS X3 hx (y := mN1) hown (mvT hZ (own_w hw 97 rfl)) (mvT hZ (own_w hw 98 rfl)) (mvT hZ (own_w hw 43 rfl)) (mvT hZ (own_w hw 99 rfl)) (by decide) (backOf (W := 0) (rm_u16put l Z a0 hw [] wG1 wG3 cx hEL T3.heap n0 Ol3 t_1 k_1 (8 : Int32) [(.int (nar .byte c1)), (.int (nar .byte (c1 >>> ((8 : Int32) &&& 31)))), (.int 0), (.int 0), (.int 0), (.int 0), (.int 0), (.int 0)] (1 : Int32) c2 2 Vp4 g_t_1 ⟨⟨⟨by decide, by decide⟩, rfl, Nat.le_of_ble_eq_true rfl⟩, ⟨⟨by decide, by decide⟩, rfl, Nat.le_of_ble_eq_true rfl⟩⟩) hZ (own_w hw 99 rfl) (own_w hw 43 rfl) (by decide) (by decide)) (g := (mkF m 20 #[vR ab1, vI 1, vI 4, vR t_1, vI 1] [(.int c2), (.int 1), (.ref t_1)])) rfl (by rw [hml]; rfl) (argsL := [(.ref t_1), (.int 1), (.int c2)]) (rest := []) (lenOf pd_52952394 rfl) rfl (Nat.le_of_eq rfl) (hb hby d5_20) (fun _ _ => ⟨rfl, rfl, (by decide : 1 + 0 ≤ _), (by decide : 8 + 0 ≤ _)⟩)
  dsimp only [Pt.U, Pt.locs, Pt.cells, Pt.slots] at X6 l6 y6 z6 st6 hQ6
  subst l6 y6 z6
  obtain ⟨rfl, Nq6, Kq6, fq6_0⟩ := hQ6
  refine OwnGoes.step (T' := T6) (g' := (mkF m 23 #[vR ab1, vI 1, vI 4, vR t_1, vI 1] [])) st6 ?_
  have N6 := Fr.app N3 Nq6
  have F6_3 := F3_2.keep Kq6 (ninS ne_ab1_t_1 nin0)
  have Ol6 := Ol3.keep Kq6 (allS g_t_1 all0)
  have K6 : Keep h0 T6.heap ([] : List Addr) := K3.trans Kq6 (allS (Or.inr s_t_1) all0)
  have Vp7 : Arv Z T6.heap t_1 k_1 .byte (8 : Int32) [(.int (nar .byte c1)), (.int (nar .byte (c1 >>> ((8 : Int32) &&& 31)))), (.int (nar .byte c2)), (.int (nar .byte (c2 >>> ((8 : Int32) &&& 31)))), (.int 0), (.int 0), (.int 0), (.int 0)] (.int 0) := fq6_0
  refine OwnGoes.step (T' := T6) (g' := (mkF m 20 #[vR ab1, vI 2, vI 4, vR t_1, vI 2] [(.int c3), (.int 2), (.ref t_1)])) (fun tgt kgo => ?_) ?_
  · refine XS.iinc X6.here hx rfl (hb hby d5_23) rfl (l' := #[vR ab1, vI 2, vI 4, vR t_1, vI 1]) rfl ?_
    show OwnG p e below T6 m 26 #[vR ab1, vI 2, vI 4, vR t_1, vI 1] [] tgt
    refine XS.iinc X6.here hx rfl (hb hby d5_26) rfl (l' := #[vR ab1, vI 2, vI 4, vR t_1, vI 2]) rfl ?_
    show OwnG p e below T6 m 29 #[vR ab1, vI 2, vI 4, vR t_1, vI 2] [] tgt
    refine XS.goto X6.here hx rfl (pc0 := 29) (pc' := 8) rfl (hb hby d5_29) (by decide) (by decide) ?_
    show OwnG p e below T6 m 8 #[vR ab1, vI 2, vI 4, vR t_1, vI 2] [] tgt
    refine XS.iload X6.here hx rfl (hb hby d5_8) rfl ?_
    show OwnG p e below T6 m 10 #[vR ab1, vI 2, vI 4, vR t_1, vI 2] [(.int 2)] tgt
    refine XS.iloadN X6.here hx rfl (hb hby d5_10) rfl ?_
    show OwnG p e below T6 m 11 #[vR ab1, vI 2, vI 4, vR t_1, vI 2] [(.int 4), (.int 2)] tgt
    refine XS.icmpNo X6.here hx rfl (hb hby d5_11) rfl (tlt (by decide : (2 : Int32) < (4 : Int32))).2.1 ?_
    show OwnG p e below T6 m 14 #[vR ab1, vI 2, vI 4, vR t_1, vI 2] [] tgt
    refine XS.aloadN X6.here hx rfl (hb hby d5_14) rfl rfl ?_
    show OwnG p e below T6 m 15 #[vR ab1, vI 2, vI 4, vR t_1, vI 2] [(.ref t_1)] tgt
    refine XS.iload X6.here hx rfl (hb hby d5_15) rfl ?_
    show OwnG p e below T6 m 17 #[vR ab1, vI 2, vI 4, vR t_1, vI 2] [(.int 2), (.ref t_1)] tgt
    refine XS.aloadN X6.here hx rfl (hb hby d5_17) rfl rfl ?_
    show OwnG p e below T6 m 18 #[vR ab1, vI 2, vI 4, vR t_1, vI 2] [(.ref ab1), (.int 2), (.ref t_1)] tgt
    refine XS.iloadN X6.here hx rfl (hb hby d5_18) rfl ?_
    show OwnG p e below T6 m 19 #[vR ab1, vI 2, vI 4, vR t_1, vI 2] [(.int 2), (.ref ab1), (.int 2), (.ref t_1)] tgt
    obtain ⟨cl8, Ar8, q8, S8, M8, H8, G8⟩ := F6_3
    refine X6.caload hx (j := (2 : Int32)) (v := (.int c3)) Ar8.1 (State.isArrayOf_alike hZ.alike Ar8.2.1) Ar8.2.2 (inb_of S8 ⟨by decide, by decide⟩) (Has.at H8 (inb_of S8 ⟨by decide, by decide⟩) rfl) (g := (mkF m 19 #[vR ab1, vI 2, vI 4, vR t_1, vI 2] [(.int 2), (.ref ab1), (.int 2), (.ref t_1)])) rfl rfl (hb hby d5_19) _ ?_
    exact kgo
  obtain ⟨_, _, ⟨T9, L9, k9, n9⟩, -, X9, ⟨Lc9, hQ9, l9, y9, z9⟩, st9⟩ := Jvm.LawKit.callS X6 hx (y := mN1) hown (mvT hZ (own_w hw 97 rfl)) (mvT hZ (own_w hw 98 rfl)) (mvT hZ (own_w hw 43 rfl)) (mvT hZ (own_w hw 99 rfl)) (by decide) (backOf (W := 0) (rm_u16put l Z a0 hw [] wG1 wG3 cx hEL T6.heap n0 Ol6 t_1 k_1 (8 : Int32) [(.int (nar .byte c1)), (.int (nar .byte (c1 >>> ((8 : Int32) &&& 31)))), (.int (nar .byte c2)), (.int (nar .byte (c2 >>> ((8 : Int32) &&& 31)))), (.int 0), (.int 0), (.int 0), (.int 0)] (2 : Int32) c3 4 Vp7 g_t_1 ⟨⟨⟨by decide, by decide⟩, rfl, Nat.le_of_ble_eq_true rfl⟩, ⟨⟨by decide, by decide⟩, rfl, Nat.le_of_ble_eq_true rfl⟩⟩) hZ (own_w hw 99 rfl) (own_w hw 43 rfl) (by decide) (by decide)) (g := (mkF m 20 #[vR ab1, vI 2, vI 4, vR t_1, vI 2] [(.int c3), (.int 2), (.ref t_1)])) rfl (by rw [hml]; rfl) (argsL := [(.ref t_1), (.int 2), (.int c3)]) (rest := []) (lenOf pd_52952394 rfl) rfl (Nat.le_of_eq rfl) (hb hby d5_20) (fun _ _ => ⟨rfl, rfl, (by decide : 1 + 0 ≤ _), (by decide : 8 + 0 ≤ _)⟩)
  dsimp only [Pt.U, Pt.locs, Pt.cells, Pt.slots] at X9 l9 y9 z9 st9 hQ9
  subst l9 y9 z9
  obtain ⟨rfl, Nq9, Kq9, fq9_0⟩ := hQ9
  refine OwnGoes.step (T' := T9) (g' := (mkF m 23 #[vR ab1, vI 2, vI 4, vR t_1, vI 2] [])) st9 ?_
  have N9 := Fr.app N6 Nq9
  have F9_4 := F6_3.keep Kq9 (ninS ne_ab1_t_1 nin0)
  have Ol9 := Ol6.keep Kq9 (allS g_t_1 all0)
  have K9 : Keep h0 T9.heap ([] : List Addr) := K6.trans Kq9 (allS (Or.inr s_t_1) all0)
  have Vp10 : Arv Z T9.heap t_1 k_1 .byte (8 : Int32) [(.int (nar .byte c1)), (.int (nar .byte (c1 >>> ((8 : Int32) &&& 31)))), (.int (nar .byte c2)), (.int (nar .byte (c2 >>> ((8 : Int32) &&& 31)))), (.int (nar .byte c3)), (.int (nar .byte (c3 >>> ((8 : Int32) &&& 31)))), (.int 0), (.int 0)] (.int 0) := fq9_0
  refine OwnGoes.step (T' := T9) (g' := (mkF m 20 #[vR ab1, vI 3, vI 4, vR t_1, vI 3] [(.int c4), (.int 3), (.ref t_1)])) (fun tgt kgo => ?_) ?_
  · refine XS.iinc X9.here hx rfl (hb hby d5_23) rfl (l' := #[vR ab1, vI 3, vI 4, vR t_1, vI 2]) rfl ?_
    show OwnG p e below T9 m 26 #[vR ab1, vI 3, vI 4, vR t_1, vI 2] [] tgt
    refine XS.iinc X9.here hx rfl (hb hby d5_26) rfl (l' := #[vR ab1, vI 3, vI 4, vR t_1, vI 3]) rfl ?_
    show OwnG p e below T9 m 29 #[vR ab1, vI 3, vI 4, vR t_1, vI 3] [] tgt
    refine XS.goto X9.here hx rfl (pc0 := 29) (pc' := 8) rfl (hb hby d5_29) (by decide) (by decide) ?_
    show OwnG p e below T9 m 8 #[vR ab1, vI 3, vI 4, vR t_1, vI 3] [] tgt
    refine XS.iload X9.here hx rfl (hb hby d5_8) rfl ?_
    show OwnG p e below T9 m 10 #[vR ab1, vI 3, vI 4, vR t_1, vI 3] [(.int 3)] tgt
    refine XS.iloadN X9.here hx rfl (hb hby d5_10) rfl ?_
    show OwnG p e below T9 m 11 #[vR ab1, vI 3, vI 4, vR t_1, vI 3] [(.int 4), (.int 3)] tgt
    refine XS.icmpNo X9.here hx rfl (hb hby d5_11) rfl (tlt (by decide : (3 : Int32) < (4 : Int32))).2.1 ?_
    show OwnG p e below T9 m 14 #[vR ab1, vI 3, vI 4, vR t_1, vI 3] [] tgt
    refine XS.aloadN X9.here hx rfl (hb hby d5_14) rfl rfl ?_
    show OwnG p e below T9 m 15 #[vR ab1, vI 3, vI 4, vR t_1, vI 3] [(.ref t_1)] tgt
    refine XS.iload X9.here hx rfl (hb hby d5_15) rfl ?_
    show OwnG p e below T9 m 17 #[vR ab1, vI 3, vI 4, vR t_1, vI 3] [(.int 3), (.ref t_1)] tgt
    refine XS.aloadN X9.here hx rfl (hb hby d5_17) rfl rfl ?_
    show OwnG p e below T9 m 18 #[vR ab1, vI 3, vI 4, vR t_1, vI 3] [(.ref ab1), (.int 3), (.ref t_1)] tgt
    refine XS.iloadN X9.here hx rfl (hb hby d5_18) rfl ?_
    show OwnG p e below T9 m 19 #[vR ab1, vI 3, vI 4, vR t_1, vI 3] [(.int 3), (.ref ab1), (.int 3), (.ref t_1)] tgt
    obtain ⟨cl11, Ar11, q11, S11, M11, H11, G11⟩ := F9_4
    refine X9.caload hx (j := (3 : Int32)) (v := (.int c4)) Ar11.1 (State.isArrayOf_alike hZ.alike Ar11.2.1) Ar11.2.2 (inb_of S11 ⟨by decide, by decide⟩) (Has.at H11 (inb_of S11 ⟨by decide, by decide⟩) rfl) (g := (mkF m 19 #[vR ab1, vI 3, vI 4, vR t_1, vI 3] [(.int 3), (.ref ab1), (.int 3), (.ref t_1)])) rfl rfl (hb hby d5_19) _ ?_
    exact kgo
  obtain ⟨_, _, ⟨T12, L12, k12, n12⟩, -, X12, ⟨Lc12, hQ12, l12, y12, z12⟩, st12⟩ := Jvm.LawKit.callS X9 hx (y := mN1) hown (mvT hZ (own_w hw 97 rfl)) (mvT hZ (own_w hw 98 rfl)) (mvT hZ (own_w hw 43 rfl)) (mvT hZ (own_w hw 99 rfl)) (by decide) (backOf (W := 0) (rm_u16put l Z a0 hw [] wG1 wG3 cx hEL T9.heap n0 Ol9 t_1 k_1 (8 : Int32) [(.int (nar .byte c1)), (.int (nar .byte (c1 >>> ((8 : Int32) &&& 31)))), (.int (nar .byte c2)), (.int (nar .byte (c2 >>> ((8 : Int32) &&& 31)))), (.int (nar .byte c3)), (.int (nar .byte (c3 >>> ((8 : Int32) &&& 31)))), (.int 0), (.int 0)] (3 : Int32) c4 6 Vp10 g_t_1 ⟨⟨⟨by decide, by decide⟩, rfl, Nat.le_of_ble_eq_true rfl⟩, ⟨⟨by decide, by decide⟩, rfl, Nat.le_of_ble_eq_true rfl⟩⟩) hZ (own_w hw 99 rfl) (own_w hw 43 rfl) (by decide) (by decide)) (g := (mkF m 20 #[vR ab1, vI 3, vI 4, vR t_1, vI 3] [(.int c4), (.int 3), (.ref t_1)])) rfl (by rw [hml]; rfl) (argsL := [(.ref t_1), (.int 3), (.int c4)]) (rest := []) (lenOf pd_52952394 rfl) rfl (Nat.le_of_eq rfl) (hb hby d5_20) (fun _ _ => ⟨rfl, rfl, (by decide : 1 + 0 ≤ _), (by decide : 8 + 0 ≤ _)⟩)
  dsimp only [Pt.U, Pt.locs, Pt.cells, Pt.slots] at X12 l12 y12 z12 st12 hQ12
  subst l12 y12 z12
  obtain ⟨rfl, Nq12, Kq12, fq12_0⟩ := hQ12
  refine OwnGoes.step (T' := T12) (g' := (mkF m 23 #[vR ab1, vI 3, vI 4, vR t_1, vI 3] [])) st12 ?_
  have N12 := Fr.app N9 Nq12
  have F12_5 := F9_4.keep Kq12 (ninS ne_ab1_t_1 nin0)
  have Ol12 := Ol9.keep Kq12 (allS g_t_1 all0)
  have K12 : Keep h0 T12.heap ([] : List Addr) := K9.trans Kq12 (allS (Or.inr s_t_1) all0)
  have Vp13 : Arv Z T12.heap t_1 k_1 .byte (8 : Int32) [(.int (nar .byte c1)), (.int (nar .byte (c1 >>> ((8 : Int32) &&& 31)))), (.int (nar .byte c2)), (.int (nar .byte (c2 >>> ((8 : Int32) &&& 31)))), (.int (nar .byte c3)), (.int (nar .byte (c3 >>> ((8 : Int32) &&& 31)))), (.int (nar .byte c4)), (.int (nar .byte (c4 >>> ((8 : Int32) &&& 31))))] (.int 0) := fq12_0
  refine OwnGoes.step (T' := T12) (g' := (mkF m 33 #[vR ab1, vI 4, vI 4, vR t_1, vI 4] [(.ref t_1)])) (fun tgt kgo => ?_) ?_
  · refine XS.iinc X12.here hx rfl (hb hby d5_23) rfl (l' := #[vR ab1, vI 4, vI 4, vR t_1, vI 3]) rfl ?_
    show OwnG p e below T12 m 26 #[vR ab1, vI 4, vI 4, vR t_1, vI 3] [] tgt
    refine XS.iinc X12.here hx rfl (hb hby d5_26) rfl (l' := #[vR ab1, vI 4, vI 4, vR t_1, vI 4]) rfl ?_
    show OwnG p e below T12 m 29 #[vR ab1, vI 4, vI 4, vR t_1, vI 4] [] tgt
    refine XS.goto X12.here hx rfl (pc0 := 29) (pc' := 8) rfl (hb hby d5_29) (by decide) (by decide) ?_
    show OwnG p e below T12 m 8 #[vR ab1, vI 4, vI 4, vR t_1, vI 4] [] tgt
    refine XS.iload X12.here hx rfl (hb hby d5_8) rfl ?_
    show OwnG p e below T12 m 10 #[vR ab1, vI 4, vI 4, vR t_1, vI 4] [(.int 4)] tgt
    refine XS.iloadN X12.here hx rfl (hb hby d5_10) rfl ?_
    show OwnG p e below T12 m 11 #[vR ab1, vI 4, vI 4, vR t_1, vI 4] [(.int 4), (.int 4)] tgt
    refine XS.icmpYes X12.here hx rfl (pc0 := 11) (pc' := 32) rfl (hb hby d5_11) rfl (flt (by decide : ¬ ((4 : Int32) < (4 : Int32)))).2.1 (by decide) (by decide) ?_
    show OwnG p e below T12 m 32 #[vR ab1, vI 4, vI 4, vR t_1, vI 4] [] tgt
    refine XS.aloadN X12.here hx rfl (hb hby d5_32) rfl rfl ?_
    exact kgo
  have hret : ∀ fs, (∀ (f : JFrame) (acts : List Action), f.method = m → f.locked = none → f.entered = [] → (doReturn e (T12.setTop f) acts (some (.ref t_1))).1 = T12.setFrames fs) → Steps p.tables e below (T12.setTop (mkF m 33 #[vR ab1, vI 4, vI 4, vR t_1, vI 4] [(.ref t_1)])) (T12.setFrames fs) := by
    intro fs hr
    jvm_step X12.here [X12.here.top, hx, (hb hby d5_33), X12.method', Bd.returns, Value.isRef, FieldType.isReference]
    first | (intro acts; rw [hr _ acts rfl rfl rfl]) | rw [hr _ _ rfl rfl rfl]
    exact Steps.refl _
  refine own_leave X12 hlk (v := some (.ref t_1)) (fun h => by rw [Bd.returns] at h; cases h) hret (by decide) (by decide) ?_
  show Q_tob_4 Z ab1 kc c1 c2 c3 c4 h0 n0 _ T12.heap _
  exact ⟨t_1, k_1, rfl, N12, K12, s_t_1, Vp13⟩
theorem ef_c3_4 (m : MethodId) (x0 : Addr) : entryFrame m #[(.ref x0), (.int 0), (.int 4)] 6 = mkF m 0 #[vR x0, vI 0, vI 4, vU, vU, vU] [] := by
  first | (simp [entryFrame, mkF, argsToLocals, Value.category]; done) | rfl
def Q_c3_4 (Z : State) (ab1 : Addr) (kc : ClassId) (c1 : Int32) (c2 : Int32) (c3 : Int32) (c4 : Int32) (h0 : Heap) (n0 : Nat) (v : Option Value) (h : Heap) (L : List Loc) : Prop := ∃ (t : Addr), ∃ (k : ClassId), ∃ (N : Int32), ∃ (vs : List Value), ∃ (cd : Int32), v = some (.ref t) ∧ Fr n0 L ∧ Keep h0 h ([] : List Addr) ∧ h0.size ≤ t ∧ Arv Z h t k .byte N vs (.int 0) ∧ ((N = (4 : Int32) ∧ cd = (0 : Int32) ∧ OwnStr ([c1, c2, c3, c4] : List Int32) cd N vs) ∨ (N = (8 : Int32) ∧ cd = (1 : Int32) ∧ OwnStr ([c1, c2, c3, c4] : List Int32) cd N vs))
set_option maxRecDepth 65536 in
set_option maxHeartbeats 40000000 in
theorem rm_c3_4 (l : Launch) (Z : State) (a0 : Array Value) (hw : ∀ d ∈ tables_1, d.before a0 Z = true) (ws : List Jvm.Cond) (wG1 : Int32) (wG3 : Value) (cx : OwnCx Z a0 wG1 wG3) (hEL : EW Z a0 consts_1) (h0 : Heap) (n0 : Nat) (X00 : Old Z n0 h0) (ab1 : Addr) (kc : ClassId) (c1 : Int32) (c2 : Int32) (c3 : Int32) (c4 : Int32) (f0 : Arv Z h0 ab1 kc .char (4 : Int32) [(.int c1), (.int c2), (.int c3), (.int c4)] (.int 0)) (hw1 : ¬ c1 < 0 ∧ ¬ (65535 : Int32) < c1) (hw2 : ¬ c2 < 0 ∧ ¬ (65535 : Int32) < c2) (hw3 : ¬ c3 < 0 ∧ ¬ (65535 : Int32) < c3) (hw4 : ¬ c4 < 0 ∧ ¬ (65535 : Int32) < c4) :
    MetFree l mN6 (head1 (Jvm.Cond.code mN6 jdk_52_method_16_code 6 (some (.array .byte)) :: ws) ({ frames := 3, cells := 2, slots := 12, locals := 40 } : Room)) (fun a U => a = #[(.ref ab1), (.int 0), (.int 4)] ∧ Z.Warmed39 U.vm ∧ U.heap = h0) (fun _ _ _ _ _ => True) (fun _ U o U' => ∃ v L, o = .returned v ∧ Q_c3_4 Z ab1 kc c1 c2 c3 c4 h0 n0 v U'.heap L ∧ FrameEnd U o U' L ({ frames := 3, cells := 2, slots := 12, locals := 40 } : Room).cells ({ frames := 3, cells := 2, slots := 12, locals := 40 } : Room).slots) := by
  refine MetFree.of_bodySF (plainFor_of_name pn_68381282) hisR ?_
  intro p e s m args below meth c s₁ Bd hml0 hP hK
  obtain ⟨rfl, hZ, hh⟩ := hP
  obtain ⟨wO2, wP5, wO4, wrG3, hstr, wUA, wUH, wUL⟩ := id cx
  have hx := Bd.exec
  have hby := Bd.bytes
  have hlk := Bd.notSynchronized
  have hml : c.maxLocals = 6 := hml0
  have hown : s.vm.findClass "java/lang/StringUTF16" = some m.cls := findClass_of_methodNamed Bd.named
  have hnm := (name_of_methodNamed Bd.named Bd.method).1
  have X0 : Stand p l e ({ frames := 3, cells := 2, slots := 12, locals := 40 } : Room) s m #[(.ref ab1), (.int 0), (.int 4)] below meth c s₁ [] 0 0 := Stand.of_body Bd
  have e0 : s₁.heap = h0 := by rw [← hh, Bd.state]; rfl
  have N0 := Fr.nil n0
  have Z0 : n0 ≤ h0.size := X00.1 ▸ X00.2.1
  have K0 : Keep h0 h0 ([] : List Addr) := Keep.refl _ _
  show OwnGoes p e below (fun o U' => ∃ v L, o = .returned v ∧ Q_c3_4 Z ab1 kc c1 c2 c3 c4 h0 n0 v U'.heap L ∧ FrameEnd s o U' L ({ frames := 3, cells := 2, slots := 12, locals := 40 } : Room).cells ({ frames := 3, cells := 2, slots := 12, locals := 40 } : Room).slots) s₁ (entryFrame m #[(.ref ab1), (.int 0), (.int 4)] 6)
  refine OwnGoes.step (T' := s₁) (g' := (mkF m 0 #[vR ab1, vI 0, vI 4, vU, vU, vU] [])) (fun tgt kgo => castTop (ef_c3_4 m ab1) kgo) ?_
  refine OwnGoes.step (T' := s₁) (g' := (mkF m 1 #[vR ab1, vI 0, vI 4, vU, vU, vU] [(.int 4)])) (fun tgt kgo => ?_) ?_
  · refine XS.iloadN X0.here hx rfl (hb hby d6_0) rfl ?_
    exact kgo
  obtain ⟨T1, h1, k1, X1, e1, E1, A1, st1⟩ := newP X0 hx hZ (own_w hw 24 rfl) e0 (g := (mkF m 1 #[vR ab1, vI 0, vI 4, vU, vU, vU] [(.int 4)])) rfl (hb hby d6_1) rfl (by decide) (cap := 4) (by decide) (by decide) (by decide) (by decide)
  obtain ⟨b1, g1⟩ : ∃ z, z = h0.size := ⟨_, rfl⟩
  rw [← g1] at A1 st1
  refine OwnGoes.step (T' := T1) (g' := (mkF m 3 #[vR ab1, vI 0, vI 4, vU, vU, vU] [(.ref b1)])) st1 ?_
  have V1 : Arv Z h1 b1 k1 .byte (4 : Int32) [(.int 0), (.int 0), (.int 0), (.int 0)] (.int 0) := (Arv.new A1 (by decide)).pad (pad_rep [] (.int 0) 4)
  have ne_ab1_b1 : ab1 ≠ b1 := Nat.ne_of_lt (Nat.lt_of_lt_of_le f0.lt (Nat.le_of_eq g1.symm))
  have g_b1 : n0 ≤ b1 := Nat.le_trans (Nat.le_trans Z0 K0.1) (Nat.le_of_eq g1.symm)
  have s_b1 : h0.size ≤ b1 := Nat.le_trans K0.1 (Nat.le_of_eq g1.symm)
  have F1_1 := f0.ext E1
  have Ol1 := X00.ext E1
  have K1 : Keep h0 h1 ([] : List Addr) := K0.ext E1
  refine OwnGoes.step (T' := T1) (g' := (mkF m 9 #[vR ab1, vI 0, vI 4, vR b1, vU, vU] [(.int 4), (.int 0), (.ref b1), (.int 0), (.ref ab1)])) (fun tgt kgo => ?_) ?_
  · refine XS.astoreN X1.here hx rfl (hb hby d6_3) rfl rfl (l' := #[vR ab1, vI 0, vI 4, vR b1, vU, vU]) rfl ?_
    show OwnG p e below T1 m 4 #[vR ab1, vI 0, vI 4, vR b1, vU, vU] [] tgt
    refine XS.aloadN X1.here hx rfl (hb hby d6_4) rfl rfl ?_
    show OwnG p e below T1 m 5 #[vR ab1, vI 0, vI 4, vR b1, vU, vU] [(.ref ab1)] tgt
    refine XS.iloadN X1.here hx rfl (hb hby d6_5) rfl ?_
    show OwnG p e below T1 m 6 #[vR ab1, vI 0, vI 4, vR b1, vU, vU] [(.int 0), (.ref ab1)] tgt
    refine XS.aloadN X1.here hx rfl (hb hby d6_6) rfl rfl ?_
    show OwnG p e below T1 m 7 #[vR ab1, vI 0, vI 4, vR b1, vU, vU] [(.ref b1), (.int 0), (.ref ab1)] tgt
    refine XS.iconst X1.here hx rfl (hb hby d6_7) ?_
    show OwnG p e below T1 m 8 #[vR ab1, vI 0, vI 4, vR b1, vU, vU] [(.int 0), (.ref b1), (.int 0), (.ref ab1)] tgt
    refine XS.iloadN X1.here hx rfl (hb hby d6_8) rfl ?_
    exact kgo
  obtain ⟨_, _, ⟨T2, L2, k2, n2⟩, -, X2, ⟨Lc2, hQ2, l2, y2, z2⟩, st2⟩ := Jvm.LawKit.callS X1 hx (y := mN2) hown (mvT hZ (own_w hw 45 rfl)) (mvT hZ (own_w hw 46 rfl)) (mvT hZ (own_w hw 43 rfl)) (mvT hZ (own_w hw 47 rfl)) (by decide) (backOf (W := 0) (rm_c5_4 l Z a0 hw [] wG1 wG3 cx hEL h1 n0 Ol1 ab1 b1 kc k1 c1 c2 c3 c4 F1_1 V1 g_b1) hZ (own_w hw 47 rfl) (own_w hw 43 rfl) (by decide) (by decide)) (g := (mkF m 9 #[vR ab1, vI 0, vI 4, vR b1, vU, vU] [(.int 4), (.int 0), (.ref b1), (.int 0), (.ref ab1)])) rfl (by rw [hml]; rfl) (argsL := [(.ref ab1), (.int 0), (.ref b1), (.int 0), (.int 4)]) (rest := []) (lenOf pd_51558503 rfl) rfl (Nat.le_of_eq rfl) (hb hby d6_9) (fun _ _ => ⟨rfl, e1, (by decide : 1 + 0 ≤ _), (by decide : 4 + 0 ≤ _)⟩)
  dsimp only [Pt.U, Pt.locs, Pt.cells, Pt.slots] at X2 l2 y2 z2 st2 hQ2
  subst l2 y2 z2
  obtain ⟨r_2, vs_2, rfl, Nq2, Kq2, fq2_0, pq2_0⟩ := hQ2
  refine OwnGoes.step (T' := T2) (g' := (mkF m 12 #[vR ab1, vI 0, vI 4, vR b1, vU, vU] [(.int r_2)])) st2 ?_
  have N2 := Fr.app N0 Nq2
  have F2_2 := F1_1.keep Kq2 (ninS ne_ab1_b1 nin0)
  have Ol2 := Ol1.keep Kq2 (allS g_b1 all0)
  have K2 : Keep h0 T2.heap ([] : List Addr) := K1.trans Kq2 (allS (Or.inr s_b1) all0)
  refine OwnGoes.step (T' := T2) (g' := (mkF m 14 #[vR ab1, vI 0, vI 4, vR b1, vI r_2, vU] [])) (fun tgt kgo => ?_) ?_
  · refine XS.istore X2.here hx rfl (hb hby d6_12) rfl (l' := #[vR ab1, vI 0, vI 4, vR b1, vI r_2, vU]) rfl ?_
    exact kgo
  rcases pq2_0 with ⟨rfl, rfl, hl0, hl1, hl2, hl3⟩ | ⟨rfl, hbig⟩ | ⟨rfl, hbig⟩ | ⟨rfl, hbig⟩ | ⟨rfl, hbig⟩
  · skip
    refine OwnGoes.step (T' := T2) (g' := (mkF m 58 #[vR ab1, vI 0, vI 4, vR b1, vI 4, vU] [(.ref b1)])) (fun tgt kgo => ?_) ?_
    · refine XS.iload X2.here hx rfl (hb hby d6_14) rfl ?_
      show OwnG p e below T2 m 16 #[vR ab1, vI 0, vI 4, vR b1, vI 4, vU] [(.int 4)] tgt
      refine XS.iloadN X2.here hx rfl (hb hby d6_16) rfl ?_
      show OwnG p e below T2 m 17 #[vR ab1, vI 0, vI 4, vR b1, vI 4, vU] [(.int 4), (.int 4)] tgt
      refine XS.icmpYes X2.here hx rfl (pc0 := 17) (pc' := 57) rfl (hb hby d6_17) rfl (teq (by decide : (4 : Int32) = (4 : Int32))).1 (by decide) (by decide) ?_
      show OwnG p e below T2 m 57 #[vR ab1, vI 0, vI 4, vR b1, vI 4, vU] [] tgt
      refine XS.aloadN X2.here hx rfl (hb hby d6_57) rfl rfl ?_
      exact kgo
    have hret : ∀ fs, (∀ (f : JFrame) (acts : List Action), f.method = m → f.locked = none → f.entered = [] → (doReturn e (T2.setTop f) acts (some (.ref b1))).1 = T2.setFrames fs) → Steps p.tables e below (T2.setTop (mkF m 58 #[vR ab1, vI 0, vI 4, vR b1, vI 4, vU] [(.ref b1)])) (T2.setFrames fs) := by
      intro fs hr
      jvm_step X2.here [X2.here.top, hx, (hb hby d6_58), X2.method', Bd.returns, Value.isRef, FieldType.isReference]
      first | (intro acts; rw [hr _ acts rfl rfl rfl]) | rw [hr _ _ rfl rfl rfl]
      exact Steps.refl _
    refine own_leave X2 hlk (v := some (.ref b1)) (fun h => by rw [Bd.returns] at h; cases h) hret (by decide) (by decide) ?_
    show Q_c3_4 Z ab1 kc c1 c2 c3 c4 h0 n0 _ T2.heap _
    exact ⟨b1, k1, (4 : Int32), [(.int (nar .byte c1)), (.int (nar .byte c2)), (.int (nar .byte c3)), (.int (nar .byte c4))], (0 : Int32), rfl, N2, K2, s_b1, fq2_0, (Or.inl ⟨rfl, rfl, own_str_lat (cs := ([c1, c2, c3, c4] : List Int32)) (n := 4) rfl (by decide) (own_memS ⟨hw1.1, hl0⟩ (own_memS ⟨hw2.1, hl1⟩ (own_memS ⟨hw3.1, hl2⟩ (own_memS ⟨hw4.1, hl3⟩ own_mem0))))⟩)⟩
  · skip
    refine OwnGoes.step (T' := T2) (g' := (mkF m 23 #[vR ab1, vI 0, vI 4, vR b1, vI 0, vU] [(.int 4), (.int 0), (.ref ab1)])) (fun tgt kgo => ?_) ?_
    · refine XS.iload X2.here hx rfl (hb hby d6_14) rfl ?_
      show OwnG p e below T2 m 16 #[vR ab1, vI 0, vI 4, vR b1, vI 0, vU] [(.int 0)] tgt
      refine XS.iloadN X2.here hx rfl (hb hby d6_16) rfl ?_
      show OwnG p e below T2 m 17 #[vR ab1, vI 0, vI 4, vR b1, vI 0, vU] [(.int 4), (.int 0)] tgt
      refine XS.icmpNo X2.here hx rfl (hb hby d6_17) rfl (feq (by decide : ¬ ((0 : Int32) = (4 : Int32)))).1 ?_
      show OwnG p e below T2 m 20 #[vR ab1, vI 0, vI 4, vR b1, vI 0, vU] [] tgt
      refine XS.aloadN X2.here hx rfl (hb hby d6_20) rfl rfl ?_
      show OwnG p e below T2 m 21 #[vR ab1, vI 0, vI 4, vR b1, vI 0, vU] [(.ref ab1)] tgt
      refine XS.iloadN X2.here hx rfl (hb hby d6_21) rfl ?_
      show OwnG p e below T2 m 22 #[vR ab1, vI 0, vI 4, vR b1, vI 0, vU] [(.int 0), (.ref ab1)] tgt
      refine XS.iloadN X2.here hx rfl (hb hby d6_22) rfl ?_
      exact kgo
    obtain ⟨_, _, ⟨T4, L4, k4, n4⟩, -, X4, ⟨Lc4, hQ4, l4, y4, z4⟩, st4⟩ := Jvm.LawKit.callS X2 hx (y := mN5) hown (mvT hZ (own_w hw 87 rfl)) (mvT hZ (own_w hw 88 rfl)) (mvT hZ (own_w hw 43 rfl)) (mvT hZ (own_w hw 89 rfl)) (by decide) (backOf (W := 0) (rm_tob_4 l Z a0 hw [] wG1 wG3 cx hEL T2.heap n0 Ol2 ab1 kc c1 c2 c3 c4 F2_2) hZ (own_w hw 89 rfl) (own_w hw 43 rfl) (by decide) (by decide)) (g := (mkF m 23 #[vR ab1, vI 0, vI 4, vR b1, vI 0, vU] [(.int 4), (.int 0), (.ref ab1)])) rfl (by rw [hml]; rfl) (argsL := [(.ref ab1), (.int 0), (.int 4)]) (rest := []) (lenOf pd_23256262 rfl) rfl (Nat.le_of_eq rfl) (hb hby d6_23) (fun _ _ => ⟨rfl, rfl, (by decide : 1 + 1 ≤ _), (by decide : 4 + 8 ≤ _)⟩)
    dsimp only [Pt.U, Pt.locs, Pt.cells, Pt.slots] at X4 l4 y4 z4 st4 hQ4
    subst l4 y4 z4
    obtain ⟨t_4, k_4, rfl, Nq4, Kq4, zq4_0, fq4_0⟩ := hQ4
    refine OwnGoes.step (T' := T4) (g' := (mkF m 26 #[vR ab1, vI 0, vI 4, vR b1, vI 0, vU] [(.ref t_4)])) st4 ?_
    have N4 := Fr.app N2 Nq4
    have ne_ab1_t_4 : ab1 ≠ t_4 := Nat.ne_of_lt (Nat.lt_of_lt_of_le F2_2.lt zq4_0)
    have ne_b1_t_4 : b1 ≠ t_4 := Nat.ne_of_lt (Nat.lt_of_lt_of_le fq2_0.lt zq4_0)
    have g_t_4 : n0 ≤ t_4 := Nat.le_trans (Nat.le_trans Z0 K2.1) zq4_0
    have s_t_4 : h0.size ≤ t_4 := Nat.le_trans K2.1 zq4_0
    have F4_3 := F2_2.keep Kq4 nin0
    have F4_4 := fq2_0.keep Kq4 nin0
    have Ol4 := Ol2.keep Kq4 all0
    have K4 : Keep h0 T4.heap ([] : List Addr) := K2.trans Kq4 all0
    refine OwnGoes.step (T' := T4) (g' := (mkF m 32 #[vR ab1, vI 0, vI 4, vR b1, vI 0, vR t_4] [(.int 0), (.ref t_4)])) (fun tgt kgo => ?_) ?_
    · refine XS.astore X4.here hx rfl (hb hby d6_26) rfl rfl (l' := #[vR ab1, vI 0, vI 4, vR b1, vI 0, vR t_4]) rfl ?_
      show OwnG p e below T4 m 28 #[vR ab1, vI 0, vI 4, vR b1, vI 0, vR t_4] [] tgt
      refine XS.aload X4.here hx rfl (hb hby d6_28) rfl rfl ?_
      show OwnG p e below T4 m 30 #[vR ab1, vI 0, vI 4, vR b1, vI 0, vR t_4] [(.ref t_4)] tgt
      refine XS.iload X4.here hx rfl (hb hby d6_30) rfl ?_
      exact kgo
    obtain ⟨_, _, ⟨T5, L5, k5, n5⟩, -, X5, ⟨Lc5, hQ5, l5, y5, z5⟩, st5⟩ := Jvm.LawKit.callS X4 hx (y := mN0) hown (mvT hZ (own_w hw 103 rfl)) (mvT hZ (own_w hw 104 rfl)) (mvT hZ (own_w hw 43 rfl)) (mvT hZ (own_w hw 105 rfl)) (by decide) (backOf (W := 0) (rm_u16get l Z a0 hw [] wG1 wG3 cx hEL T4.heap n0 Ol4 t_4 k_4 (8 : Int32) [(.int (nar .byte c1)), (.int (nar .byte (c1 >>> ((8 : Int32) &&& 31)))), (.int (nar .byte c2)), (.int (nar .byte (c2 >>> ((8 : Int32) &&& 31)))), (.int (nar .byte c3)), (.int (nar .byte (c3 >>> ((8 : Int32) &&& 31)))), (.int (nar .byte c4)), (.int (nar .byte (c4 >>> ((8 : Int32) &&& 31))))] (0 : Int32) c1 fq4_0 ⟨_, _, ⟨⟨by decide, by decide⟩, rfl⟩, ⟨⟨by decide, by decide⟩, rfl⟩, own_pair hw1, own_nar_w hw1⟩) hZ (own_w hw 105 rfl) (own_w hw 43 rfl) (by decide) (by decide)) (g := (mkF m 32 #[vR ab1, vI 0, vI 4, vR b1, vI 0, vR t_4] [(.int 0), (.ref t_4)])) rfl (by rw [hml]; rfl) (argsL := [(.ref t_4), (.int 0)]) (rest := []) (lenOf pd_30427418 rfl) rfl (Nat.le_of_eq rfl) (hb hby d6_32) (fun _ _ => ⟨rfl, rfl, (by decide : 2 + 0 ≤ _), (by decide : 12 + 0 ≤ _)⟩)
    dsimp only [Pt.U, Pt.locs, Pt.cells, Pt.slots] at X5 l5 y5 z5 st5 hQ5
    subst l5 y5 z5
    obtain ⟨rfl, Nq5, eq5⟩ := hQ5
    refine OwnGoes.step (T' := T5) (g' := (mkF m 35 #[vR ab1, vI 0, vI 4, vR b1, vI 0, vR t_4] [(.int c1)])) st5 ?_
    have N5 := Fr.app N4 Nq5
    refine OwnGoes.step (T' := T5) (g' := (mkF m 56 #[vR ab1, vI 0, vI 4, vR b1, vI 0, vR t_4] [(.ref t_4)])) (fun tgt kgo => ?_) ?_
    · refine XS.sipush X5.here hx rfl (hb hby d6_35) ?_
      show OwnG p e below T5 m 38 #[vR ab1, vI 0, vI 4, vR b1, vI 0, vR t_4] [(.int 255), (.int c1)] tgt
      refine XS.icmpYes X5.here hx rfl (pc0 := 38) (pc' := 54) rfl (hb hby d6_38) rfl (tlt hbig).2.2.1 (by decide) (by decide) ?_
      show OwnG p e below T5 m 54 #[vR ab1, vI 0, vI 4, vR b1, vI 0, vR t_4] [] tgt
      refine XS.aload X5.here hx rfl (hb hby d6_54) rfl rfl ?_
      exact kgo
    have hret : ∀ fs, (∀ (f : JFrame) (acts : List Action), f.method = m → f.locked = none → f.entered = [] → (doReturn e (T5.setTop f) acts (some (.ref t_4))).1 = T5.setFrames fs) → Steps p.tables e below (T5.setTop (mkF m 56 #[vR ab1, vI 0, vI 4, vR b1, vI 0, vR t_4] [(.ref t_4)])) (T5.setFrames fs) := by
      intro fs hr
      jvm_step X5.here [X5.here.top, hx, (hb hby d6_56), X5.method', Bd.returns, Value.isRef, FieldType.isReference]
      first | (intro acts; rw [hr _ acts rfl rfl rfl]) | rw [hr _ _ rfl rfl rfl]
      exact Steps.refl _
    refine own_leave X5 hlk (v := some (.ref t_4)) (fun h => by rw [Bd.returns] at h; cases h) hret (by decide) (by decide) ?_
    show Q_c3_4 Z ab1 kc c1 c2 c3 c4 h0 n0 _ T5.heap _
    rw [eq5]
    exact ⟨t_4, k_4, (8 : Int32), [(.int (nar .byte c1)), (.int (nar .byte (c1 >>> ((8 : Int32) &&& 31)))), (.int (nar .byte c2)), (.int (nar .byte (c2 >>> ((8 : Int32) &&& 31)))), (.int (nar .byte c3)), (.int (nar .byte (c3 >>> ((8 : Int32) &&& 31)))), (.int (nar .byte c4)), (.int (nar .byte (c4 >>> ((8 : Int32) &&& 31))))], (1 : Int32), rfl, N5, K4, s_t_4, fq4_0, (Or.inr ⟨rfl, rfl, own_str_wide (cs := ([c1, c2, c3, c4] : List Int32)) (n := 4) rfl (by decide) (own_memS hw1 (own_memS hw2 (own_memS hw3 (own_memS hw4 own_mem0)))) ⟨_, List.mem_of_getElem? (i := 0) rfl, hbig⟩⟩)⟩
  · skip
    refine OwnGoes.step (T' := T2) (g' := (mkF m 23 #[vR ab1, vI 0, vI 4, vR b1, vI 1, vU] [(.int 4), (.int 0), (.ref ab1)])) (fun tgt kgo => ?_) ?_
    · refine XS.iload X2.here hx rfl (hb hby d6_14) rfl ?_
      show OwnG p e below T2 m 16 #[vR ab1, vI 0, vI 4, vR b1, vI 1, vU] [(.int 1)] tgt
      refine XS.iloadN X2.here hx rfl (hb hby d6_16) rfl ?_
      show OwnG p e below T2 m 17 #[vR ab1, vI 0, vI 4, vR b1, vI 1, vU] [(.int 4), (.int 1)] tgt
      refine XS.icmpNo X2.here hx rfl (hb hby d6_17) rfl (feq (by decide : ¬ ((1 : Int32) = (4 : Int32)))).1 ?_
      show OwnG p e below T2 m 20 #[vR ab1, vI 0, vI 4, vR b1, vI 1, vU] [] tgt
      refine XS.aloadN X2.here hx rfl (hb hby d6_20) rfl rfl ?_
      show OwnG p e below T2 m 21 #[vR ab1, vI 0, vI 4, vR b1, vI 1, vU] [(.ref ab1)] tgt
      refine XS.iloadN X2.here hx rfl (hb hby d6_21) rfl ?_
      show OwnG p e below T2 m 22 #[vR ab1, vI 0, vI 4, vR b1, vI 1, vU] [(.int 0), (.ref ab1)] tgt
      refine XS.iloadN X2.here hx rfl (hb hby d6_22) rfl ?_
      exact kgo
    obtain ⟨_, _, ⟨T7, L7, k7, n7⟩, -, X7, ⟨Lc7, hQ7, l7, y7, z7⟩, st7⟩ := Jvm.LawKit.callS X2 hx (y := mN5) hown (mvT hZ (own_w hw 87 rfl)) (mvT hZ (own_w hw 88 rfl)) (mvT hZ (own_w hw 43 rfl)) (mvT hZ (own_w hw 89 rfl)) (by decide) (backOf (W := 0) (rm_tob_4 l Z a0 hw [] wG1 wG3 cx hEL T2.heap n0 Ol2 ab1 kc c1 c2 c3 c4 F2_2) hZ (own_w hw 89 rfl) (own_w hw 43 rfl) (by decide) (by decide)) (g := (mkF m 23 #[vR ab1, vI 0, vI 4, vR b1, vI 1, vU] [(.int 4), (.int 0), (.ref ab1)])) rfl (by rw [hml]; rfl) (argsL := [(.ref ab1), (.int 0), (.int 4)]) (rest := []) (lenOf pd_23256262 rfl) rfl (Nat.le_of_eq rfl) (hb hby d6_23) (fun _ _ => ⟨rfl, rfl, (by decide : 1 + 1 ≤ _), (by decide : 4 + 8 ≤ _)⟩)
    dsimp only [Pt.U, Pt.locs, Pt.cells, Pt.slots] at X7 l7 y7 z7 st7 hQ7
    subst l7 y7 z7
    obtain ⟨t_7, k_7, rfl, Nq7, Kq7, zq7_0, fq7_0⟩ := hQ7
    refine OwnGoes.step (T' := T7) (g' := (mkF m 26 #[vR ab1, vI 0, vI 4, vR b1, vI 1, vU] [(.ref t_7)])) st7 ?_
    have N7 := Fr.app N2 Nq7
    have ne_ab1_t_7 : ab1 ≠ t_7 := Nat.ne_of_lt (Nat.lt_of_lt_of_le F2_2.lt zq7_0)
    have ne_b1_t_7 : b1 ≠ t_7 := Nat.ne_of_lt (Nat.lt_of_lt_of_le fq2_0.lt zq7_0)
    have g_t_7 : n0 ≤ t_7 := Nat.le_trans (Nat.le_trans Z0 K2.1) zq7_0
    have s_t_7 : h0.size ≤ t_7 := Nat.le_trans K2.1 zq7_0
    have F7_5 := F2_2.keep Kq7 nin0
    have F7_6 := fq2_0.keep Kq7 nin0
    have Ol7 := Ol2.keep Kq7 all0
    have K7 : Keep h0 T7.heap ([] : List Addr) := K2.trans Kq7 all0
    refine OwnGoes.step (T' := T7) (g' := (mkF m 32 #[vR ab1, vI 0, vI 4, vR b1, vI 1, vR t_7] [(.int 1), (.ref t_7)])) (fun tgt kgo => ?_) ?_
    · refine XS.astore X7.here hx rfl (hb hby d6_26) rfl rfl (l' := #[vR ab1, vI 0, vI 4, vR b1, vI 1, vR t_7]) rfl ?_
      show OwnG p e below T7 m 28 #[vR ab1, vI 0, vI 4, vR b1, vI 1, vR t_7] [] tgt
      refine XS.aload X7.here hx rfl (hb hby d6_28) rfl rfl ?_
      show OwnG p e below T7 m 30 #[vR ab1, vI 0, vI 4, vR b1, vI 1, vR t_7] [(.ref t_7)] tgt
      refine XS.iload X7.here hx rfl (hb hby d6_30) rfl ?_
      exact kgo
    obtain ⟨_, _, ⟨T8, L8, k8, n8⟩, -, X8, ⟨Lc8, hQ8, l8, y8, z8⟩, st8⟩ := Jvm.LawKit.callS X7 hx (y := mN0) hown (mvT hZ (own_w hw 103 rfl)) (mvT hZ (own_w hw 104 rfl)) (mvT hZ (own_w hw 43 rfl)) (mvT hZ (own_w hw 105 rfl)) (by decide) (backOf (W := 0) (rm_u16get l Z a0 hw [] wG1 wG3 cx hEL T7.heap n0 Ol7 t_7 k_7 (8 : Int32) [(.int (nar .byte c1)), (.int (nar .byte (c1 >>> ((8 : Int32) &&& 31)))), (.int (nar .byte c2)), (.int (nar .byte (c2 >>> ((8 : Int32) &&& 31)))), (.int (nar .byte c3)), (.int (nar .byte (c3 >>> ((8 : Int32) &&& 31)))), (.int (nar .byte c4)), (.int (nar .byte (c4 >>> ((8 : Int32) &&& 31))))] (1 : Int32) c2 fq7_0 ⟨_, _, ⟨⟨by decide, by decide⟩, rfl⟩, ⟨⟨by decide, by decide⟩, rfl⟩, own_pair hw2, own_nar_w hw2⟩) hZ (own_w hw 105 rfl) (own_w hw 43 rfl) (by decide) (by decide)) (g := (mkF m 32 #[vR ab1, vI 0, vI 4, vR b1, vI 1, vR t_7] [(.int 1), (.ref t_7)])) rfl (by rw [hml]; rfl) (argsL := [(.ref t_7), (.int 1)]) (rest := []) (lenOf pd_30427418 rfl) rfl (Nat.le_of_eq rfl) (hb hby d6_32) (fun _ _ => ⟨rfl, rfl, (by decide : 2 + 0 ≤ _), (by decide : 12 + 0 ≤ _)⟩)
    dsimp only [Pt.U, Pt.locs, Pt.cells, Pt.slots] at X8 l8 y8 z8 st8 hQ8
    subst l8 y8 z8
    obtain ⟨rfl, Nq8, eq8⟩ := hQ8
    refine OwnGoes.step (T' := T8) (g' := (mkF m 35 #[vR ab1, vI 0, vI 4, vR b1, vI 1, vR t_7] [(.int c2)])) st8 ?_
    have N8 := Fr.app N7 Nq8
    refine OwnGoes.step (T' := T8) (g' := (mkF m 56 #[vR ab1, vI 0, vI 4, vR b1, vI 1, vR t_7] [(.ref t_7)])) (fun tgt kgo => ?_) ?_
    · refine XS.sipush X8.here hx rfl (hb hby d6_35) ?_
      show OwnG p e below T8 m 38 #[vR ab1, vI 0, vI 4, vR b1, vI 1, vR t_7] [(.int 255), (.int c2)] tgt
      refine XS.icmpYes X8.here hx rfl (pc0 := 38) (pc' := 54) rfl (hb hby d6_38) rfl (tlt hbig).2.2.1 (by decide) (by decide) ?_
      show OwnG p e below T8 m 54 #[vR ab1, vI 0, vI 4, vR b1, vI 1, vR t_7] [] tgt
      refine XS.aload X8.here hx rfl (hb hby d6_54) rfl rfl ?_
      exact kgo
    have hret : ∀ fs, (∀ (f : JFrame) (acts : List Action), f.method = m → f.locked = none → f.entered = [] → (doReturn e (T8.setTop f) acts (some (.ref t_7))).1 = T8.setFrames fs) → Steps p.tables e below (T8.setTop (mkF m 56 #[vR ab1, vI 0, vI 4, vR b1, vI 1, vR t_7] [(.ref t_7)])) (T8.setFrames fs) := by
      intro fs hr
      jvm_step X8.here [X8.here.top, hx, (hb hby d6_56), X8.method', Bd.returns, Value.isRef, FieldType.isReference]
      first | (intro acts; rw [hr _ acts rfl rfl rfl]) | rw [hr _ _ rfl rfl rfl]
      exact Steps.refl _
    refine own_leave X8 hlk (v := some (.ref t_7)) (fun h => by rw [Bd.returns] at h; cases h) hret (by decide) (by decide) ?_
    show Q_c3_4 Z ab1 kc c1 c2 c3 c4 h0 n0 _ T8.heap _
    rw [eq8]
    exact ⟨t_7, k_7, (8 : Int32), [(.int (nar .byte c1)), (.int (nar .byte (c1 >>> ((8 : Int32) &&& 31)))), (.int (nar .byte c2)), (.int (nar .byte (c2 >>> ((8 : Int32) &&& 31)))), (.int (nar .byte c3)), (.int (nar .byte (c3 >>> ((8 : Int32) &&& 31)))), (.int (nar .byte c4)), (.int (nar .byte (c4 >>> ((8 : Int32) &&& 31))))], (1 : Int32), rfl, N8, K7, s_t_7, fq7_0, (Or.inr ⟨rfl, rfl, own_str_wide (cs := ([c1, c2, c3, c4] : List Int32)) (n := 4) rfl (by decide) (own_memS hw1 (own_memS hw2 (own_memS hw3 (own_memS hw4 own_mem0)))) ⟨_, List.mem_of_getElem? (i := 1) rfl, hbig⟩⟩)⟩
  · skip
    refine OwnGoes.step (T' := T2) (g' := (mkF m 23 #[vR ab1, vI 0, vI 4, vR b1, vI 2, vU] [(.int 4), (.int 0), (.ref ab1)])) (fun tgt kgo => ?_) ?_
    · refine XS.iload X2.here hx rfl (hb hby d6_14) rfl ?_
      show OwnG p e below T2 m 16 #[vR ab1, vI 0, vI 4, vR b1, vI 2, vU] [(.int 2)] tgt
      refine XS.iloadN X2.here hx rfl (hb hby d6_16) rfl ?_
      show OwnG p e below T2 m 17 #[vR ab1, vI 0, vI 4, vR b1, vI 2, vU] [(.int 4), (.int 2)] tgt
      refine XS.icmpNo X2.here hx rfl (hb hby d6_17) rfl (feq (by decide : ¬ ((2 : Int32) = (4 : Int32)))).1 ?_
      show OwnG p e below T2 m 20 #[vR ab1, vI 0, vI 4, vR b1, vI 2, vU] [] tgt
      refine XS.aloadN X2.here hx rfl (hb hby d6_20) rfl rfl ?_
      show OwnG p e below T2 m 21 #[vR ab1, vI 0, vI 4, vR b1, vI 2, vU] [(.ref ab1)] tgt
      refine XS.iloadN X2.here hx rfl (hb hby d6_21) rfl ?_
      show OwnG p e below T2 m 22 #[vR ab1, vI 0, vI 4, vR b1, vI 2, vU] [(.int 0), (.ref ab1)] tgt
      refine XS.iloadN X2.here hx rfl (hb hby d6_22) rfl ?_
      exact kgo
    obtain ⟨_, _, ⟨T10, L10, k10, n10⟩, -, X10, ⟨Lc10, hQ10, l10, y10, z10⟩, st10⟩ := Jvm.LawKit.callS X2 hx (y := mN5) hown (mvT hZ (own_w hw 87 rfl)) (mvT hZ (own_w hw 88 rfl)) (mvT hZ (own_w hw 43 rfl)) (mvT hZ (own_w hw 89 rfl)) (by decide) (backOf (W := 0) (rm_tob_4 l Z a0 hw [] wG1 wG3 cx hEL T2.heap n0 Ol2 ab1 kc c1 c2 c3 c4 F2_2) hZ (own_w hw 89 rfl) (own_w hw 43 rfl) (by decide) (by decide)) (g := (mkF m 23 #[vR ab1, vI 0, vI 4, vR b1, vI 2, vU] [(.int 4), (.int 0), (.ref ab1)])) rfl (by rw [hml]; rfl) (argsL := [(.ref ab1), (.int 0), (.int 4)]) (rest := []) (lenOf pd_23256262 rfl) rfl (Nat.le_of_eq rfl) (hb hby d6_23) (fun _ _ => ⟨rfl, rfl, (by decide : 1 + 1 ≤ _), (by decide : 4 + 8 ≤ _)⟩)
    dsimp only [Pt.U, Pt.locs, Pt.cells, Pt.slots] at X10 l10 y10 z10 st10 hQ10
    subst l10 y10 z10
    obtain ⟨t_10, k_10, rfl, Nq10, Kq10, zq10_0, fq10_0⟩ := hQ10
    refine OwnGoes.step (T' := T10) (g' := (mkF m 26 #[vR ab1, vI 0, vI 4, vR b1, vI 2, vU] [(.ref t_10)])) st10 ?_
    have N10 := Fr.app N2 Nq10
    have ne_ab1_t_10 : ab1 ≠ t_10 := Nat.ne_of_lt (Nat.lt_of_lt_of_le F2_2.lt zq10_0)
    have ne_b1_t_10 : b1 ≠ t_10 := Nat.ne_of_lt (Nat.lt_of_lt_of_le fq2_0.lt zq10_0)
    have g_t_10 : n0 ≤ t_10 := Nat.le_trans (Nat.le_trans Z0 K2.1) zq10_0
    have s_t_10 : h0.size ≤ t_10 := Nat.le_trans K2.1 zq10_0
    have F10_7 := F2_2.keep Kq10 nin0
    have F10_8 := fq2_0.keep Kq10 nin0
    have Ol10 := Ol2.keep Kq10 all0
    have K10 : Keep h0 T10.heap ([] : List Addr) := K2.trans Kq10 all0
    refine OwnGoes.step (T' := T10) (g' := (mkF m 32 #[vR ab1, vI 0, vI 4, vR b1, vI 2, vR t_10] [(.int 2), (.ref t_10)])) (fun tgt kgo => ?_) ?_
    · refine XS.astore X10.here hx rfl (hb hby d6_26) rfl rfl (l' := #[vR ab1, vI 0, vI 4, vR b1, vI 2, vR t_10]) rfl ?_
      show OwnG p e below T10 m 28 #[vR ab1, vI 0, vI 4, vR b1, vI 2, vR t_10] [] tgt
      refine XS.aload X10.here hx rfl (hb hby d6_28) rfl rfl ?_
      show OwnG p e below T10 m 30 #[vR ab1, vI 0, vI 4, vR b1, vI 2, vR t_10] [(.ref t_10)] tgt
      refine XS.iload X10.here hx rfl (hb hby d6_30) rfl ?_
      exact kgo
    obtain ⟨_, _, ⟨T11, L11, k11, n11⟩, -, X11, ⟨Lc11, hQ11, l11, y11, z11⟩, st11⟩ := Jvm.LawKit.callS X10 hx (y := mN0) hown (mvT hZ (own_w hw 103 rfl)) (mvT hZ (own_w hw 104 rfl)) (mvT hZ (own_w hw 43 rfl)) (mvT hZ (own_w hw 105 rfl)) (by decide) (backOf (W := 0) (rm_u16get l Z a0 hw [] wG1 wG3 cx hEL T10.heap n0 Ol10 t_10 k_10 (8 : Int32) [(.int (nar .byte c1)), (.int (nar .byte (c1 >>> ((8 : Int32) &&& 31)))), (.int (nar .byte c2)), (.int (nar .byte (c2 >>> ((8 : Int32) &&& 31)))), (.int (nar .byte c3)), (.int (nar .byte (c3 >>> ((8 : Int32) &&& 31)))), (.int (nar .byte c4)), (.int (nar .byte (c4 >>> ((8 : Int32) &&& 31))))] (2 : Int32) c3 fq10_0 ⟨_, _, ⟨⟨by decide, by decide⟩, rfl⟩, ⟨⟨by decide, by decide⟩, rfl⟩, own_pair hw3, own_nar_w hw3⟩) hZ (own_w hw 105 rfl) (own_w hw 43 rfl) (by decide) (by decide)) (g := (mkF m 32 #[vR ab1, vI 0, vI 4, vR b1, vI 2, vR t_10] [(.int 2), (.ref t_10)])) rfl (by rw [hml]; rfl) (argsL := [(.ref t_10), (.int 2)]) (rest := []) (lenOf pd_30427418 rfl) rfl (Nat.le_of_eq rfl) (hb hby d6_32) (fun _ _ => ⟨rfl, rfl, (by decide : 2 + 0 ≤ _), (by decide : 12 + 0 ≤ _)⟩)
    dsimp only [Pt.U, Pt.locs, Pt.cells, Pt.slots] at X11 l11 y11 z11 st11 hQ11
    subst l11 y11 z11
    obtain ⟨rfl, Nq11, eq11⟩ := hQ11
    refine OwnGoes.step (T' := T11) (g' := (mkF m 35 #[vR ab1, vI 0, vI 4, vR b1, vI 2, vR t_10] [(.int c3)])) st11 ?_
    have N11 := Fr.app N10 Nq11
    refine OwnGoes.step (T' := T11) (g' := (mkF m 56 #[vR ab1, vI 0, vI 4, vR b1, vI 2, vR t_10] [(.ref t_10)])) (fun tgt kgo => ?_) ?_
    · refine XS.sipush X11.here hx rfl (hb hby d6_35) ?_
      show OwnG p e below T11 m 38 #[vR ab1, vI 0, vI 4, vR b1, vI 2, vR t_10] [(.int 255), (.int c3)] tgt
      refine XS.icmpYes X11.here hx rfl (pc0 := 38) (pc' := 54) rfl (hb hby d6_38) rfl (tlt hbig).2.2.1 (by decide) (by decide) ?_
      show OwnG p e below T11 m 54 #[vR ab1, vI 0, vI 4, vR b1, vI 2, vR t_10] [] tgt
      refine XS.aload X11.here hx rfl (hb hby d6_54) rfl rfl ?_
      exact kgo
    have hret : ∀ fs, (∀ (f : JFrame) (acts : List Action), f.method = m → f.locked = none → f.entered = [] → (doReturn e (T11.setTop f) acts (some (.ref t_10))).1 = T11.setFrames fs) → Steps p.tables e below (T11.setTop (mkF m 56 #[vR ab1, vI 0, vI 4, vR b1, vI 2, vR t_10] [(.ref t_10)])) (T11.setFrames fs) := by
      intro fs hr
      jvm_step X11.here [X11.here.top, hx, (hb hby d6_56), X11.method', Bd.returns, Value.isRef, FieldType.isReference]
      first | (intro acts; rw [hr _ acts rfl rfl rfl]) | rw [hr _ _ rfl rfl rfl]
      exact Steps.refl _
    refine own_leave X11 hlk (v := some (.ref t_10)) (fun h => by rw [Bd.returns] at h; cases h) hret (by decide) (by decide) ?_
    show Q_c3_4 Z ab1 kc c1 c2 c3 c4 h0 n0 _ T11.heap _
    rw [eq11]
    exact ⟨t_10, k_10, (8 : Int32), [(.int (nar .byte c1)), (.int (nar .byte (c1 >>> ((8 : Int32) &&& 31)))), (.int (nar .byte c2)), (.int (nar .byte (c2 >>> ((8 : Int32) &&& 31)))), (.int (nar .byte c3)), (.int (nar .byte (c3 >>> ((8 : Int32) &&& 31)))), (.int (nar .byte c4)), (.int (nar .byte (c4 >>> ((8 : Int32) &&& 31))))], (1 : Int32), rfl, N11, K10, s_t_10, fq10_0, (Or.inr ⟨rfl, rfl, own_str_wide (cs := ([c1, c2, c3, c4] : List Int32)) (n := 4) rfl (by decide) (own_memS hw1 (own_memS hw2 (own_memS hw3 (own_memS hw4 own_mem0)))) ⟨_, List.mem_of_getElem? (i := 2) rfl, hbig⟩⟩)⟩
  refine OwnGoes.step (T' := T2) (g' := (mkF m 23 #[vR ab1, vI 0, vI 4, vR b1, vI 3, vU] [(.int 4), (.int 0), (.ref ab1)])) (fun tgt kgo => ?_) ?_
  · refine XS.iload X2.here hx rfl (hb hby d6_14) rfl ?_
    show OwnG p e below T2 m 16 #[vR ab1, vI 0, vI 4, vR b1, vI 3, vU] [(.int 3)] tgt
    refine XS.iloadN X2.here hx rfl (hb hby d6_16) rfl ?_
    show OwnG p e below T2 m 17 #[vR ab1, vI 0, vI 4, vR b1, vI 3, vU] [(.int 4), (.int 3)] tgt
    refine XS.icmpNo X2.here hx rfl (hb hby d6_17) rfl (feq (by decide : ¬ ((3 : Int32) = (4 : Int32)))).1 ?_
    show OwnG p e below T2 m 20 #[vR ab1, vI 0, vI 4, vR b1, vI 3, vU] [] tgt
    refine XS.aloadN X2.here hx rfl (hb hby d6_20) rfl rfl ?_
    show OwnG p e below T2 m 21 #[vR ab1, vI 0, vI 4, vR b1, vI 3, vU] [(.ref ab1)] tgt
    refine XS.iloadN X2.here hx rfl (hb hby d6_21) rfl ?_
    show OwnG p e below T2 m 22 #[vR ab1, vI 0, vI 4, vR b1, vI 3, vU] [(.int 0), (.ref ab1)] tgt
    refine XS.iloadN X2.here hx rfl (hb hby d6_22) rfl ?_
    exact kgo
  obtain ⟨_, _, ⟨T13, L13, k13, n13⟩, -, X13, ⟨Lc13, hQ13, l13, y13, z13⟩, st13⟩ := Jvm.LawKit.callS X2 hx (y := mN5) hown (mvT hZ (own_w hw 87 rfl)) (mvT hZ (own_w hw 88 rfl)) (mvT hZ (own_w hw 43 rfl)) (mvT hZ (own_w hw 89 rfl)) (by decide) (backOf (W := 0) (rm_tob_4 l Z a0 hw [] wG1 wG3 cx hEL T2.heap n0 Ol2 ab1 kc c1 c2 c3 c4 F2_2) hZ (own_w hw 89 rfl) (own_w hw 43 rfl) (by decide) (by decide)) (g := (mkF m 23 #[vR ab1, vI 0, vI 4, vR b1, vI 3, vU] [(.int 4), (.int 0), (.ref ab1)])) rfl (by rw [hml]; rfl) (argsL := [(.ref ab1), (.int 0), (.int 4)]) (rest := []) (lenOf pd_23256262 rfl) rfl (Nat.le_of_eq rfl) (hb hby d6_23) (fun _ _ => ⟨rfl, rfl, (by decide : 1 + 1 ≤ _), (by decide : 4 + 8 ≤ _)⟩)
  dsimp only [Pt.U, Pt.locs, Pt.cells, Pt.slots] at X13 l13 y13 z13 st13 hQ13
  subst l13 y13 z13
  obtain ⟨t_13, k_13, rfl, Nq13, Kq13, zq13_0, fq13_0⟩ := hQ13
  refine OwnGoes.step (T' := T13) (g' := (mkF m 26 #[vR ab1, vI 0, vI 4, vR b1, vI 3, vU] [(.ref t_13)])) st13 ?_
  have N13 := Fr.app N2 Nq13
  have ne_ab1_t_13 : ab1 ≠ t_13 := Nat.ne_of_lt (Nat.lt_of_lt_of_le F2_2.lt zq13_0)
  have ne_b1_t_13 : b1 ≠ t_13 := Nat.ne_of_lt (Nat.lt_of_lt_of_le fq2_0.lt zq13_0)
  have g_t_13 : n0 ≤ t_13 := Nat.le_trans (Nat.le_trans Z0 K2.1) zq13_0
  have s_t_13 : h0.size ≤ t_13 := Nat.le_trans K2.1 zq13_0
  have F13_9 := F2_2.keep Kq13 nin0
  have F13_10 := fq2_0.keep Kq13 nin0
  have Ol13 := Ol2.keep Kq13 all0
  have K13 : Keep h0 T13.heap ([] : List Addr) := K2.trans Kq13 all0
  refine OwnGoes.step (T' := T13) (g' := (mkF m 32 #[vR ab1, vI 0, vI 4, vR b1, vI 3, vR t_13] [(.int 3), (.ref t_13)])) (fun tgt kgo => ?_) ?_
  · refine XS.astore X13.here hx rfl (hb hby d6_26) rfl rfl (l' := #[vR ab1, vI 0, vI 4, vR b1, vI 3, vR t_13]) rfl ?_
    show OwnG p e below T13 m 28 #[vR ab1, vI 0, vI 4, vR b1, vI 3, vR t_13] [] tgt
    refine XS.aload X13.here hx rfl (hb hby d6_28) rfl rfl ?_
    show OwnG p e below T13 m 30 #[vR ab1, vI 0, vI 4, vR b1, vI 3, vR t_13] [(.ref t_13)] tgt
    refine XS.iload X13.here hx rfl (hb hby d6_30) rfl ?_
    exact kgo
  obtain ⟨_, _, ⟨T14, L14, k14, n14⟩, -, X14, ⟨Lc14, hQ14, l14, y14, z14⟩, st14⟩ := Jvm.LawKit.callS X13 hx (y := mN0) hown (mvT hZ (own_w hw 103 rfl)) (mvT hZ (own_w hw 104 rfl)) (mvT hZ (own_w hw 43 rfl)) (mvT hZ (own_w hw 105 rfl)) (by decide) (backOf (W := 0) (rm_u16get l Z a0 hw [] wG1 wG3 cx hEL T13.heap n0 Ol13 t_13 k_13 (8 : Int32) [(.int (nar .byte c1)), (.int (nar .byte (c1 >>> ((8 : Int32) &&& 31)))), (.int (nar .byte c2)), (.int (nar .byte (c2 >>> ((8 : Int32) &&& 31)))), (.int (nar .byte c3)), (.int (nar .byte (c3 >>> ((8 : Int32) &&& 31)))), (.int (nar .byte c4)), (.int (nar .byte (c4 >>> ((8 : Int32) &&& 31))))] (3 : Int32) c4 fq13_0 ⟨_, _, ⟨⟨by decide, by decide⟩, rfl⟩, ⟨⟨by decide, by decide⟩, rfl⟩, own_pair hw4, own_nar_w hw4⟩) hZ (own_w hw 105 rfl) (own_w hw 43 rfl) (by decide) (by decide)) (g := (mkF m 32 #[vR ab1, vI 0, vI 4, vR b1, vI 3, vR t_13] [(.int 3), (.ref t_13)])) rfl (by rw [hml]; rfl) (argsL := [(.ref t_13), (.int 3)]) (rest := []) (lenOf pd_30427418 rfl) rfl (Nat.le_of_eq rfl) (hb hby d6_32) (fun _ _ => ⟨rfl, rfl, (by decide : 2 + 0 ≤ _), (by decide : 12 + 0 ≤ _)⟩)
  dsimp only [Pt.U, Pt.locs, Pt.cells, Pt.slots] at X14 l14 y14 z14 st14 hQ14
  subst l14 y14 z14
  obtain ⟨rfl, Nq14, eq14⟩ := hQ14
  refine OwnGoes.step (T' := T14) (g' := (mkF m 35 #[vR ab1, vI 0, vI 4, vR b1, vI 3, vR t_13] [(.int c4)])) st14 ?_
  have N14 := Fr.app N13 Nq14
  refine OwnGoes.step (T' := T14) (g' := (mkF m 56 #[vR ab1, vI 0, vI 4, vR b1, vI 3, vR t_13] [(.ref t_13)])) (fun tgt kgo => ?_) ?_
  · refine XS.sipush X14.here hx rfl (hb hby d6_35) ?_
    show OwnG p e below T14 m 38 #[vR ab1, vI 0, vI 4, vR b1, vI 3, vR t_13] [(.int 255), (.int c4)] tgt
    refine XS.icmpYes X14.here hx rfl (pc0 := 38) (pc' := 54) rfl (hb hby d6_38) rfl (tlt hbig).2.2.1 (by decide) (by decide) ?_
    show OwnG p e below T14 m 54 #[vR ab1, vI 0, vI 4, vR b1, vI 3, vR t_13] [] tgt
    refine XS.aload X14.here hx rfl (hb hby d6_54) rfl rfl ?_
    exact kgo
  have hret : ∀ fs, (∀ (f : JFrame) (acts : List Action), f.method = m → f.locked = none → f.entered = [] → (doReturn e (T14.setTop f) acts (some (.ref t_13))).1 = T14.setFrames fs) → Steps p.tables e below (T14.setTop (mkF m 56 #[vR ab1, vI 0, vI 4, vR b1, vI 3, vR t_13] [(.ref t_13)])) (T14.setFrames fs) := by
    intro fs hr
    jvm_step X14.here [X14.here.top, hx, (hb hby d6_56), X14.method', Bd.returns, Value.isRef, FieldType.isReference]
    first | (intro acts; rw [hr _ acts rfl rfl rfl]) | rw [hr _ _ rfl rfl rfl]
    exact Steps.refl _
  refine own_leave X14 hlk (v := some (.ref t_13)) (fun h => by rw [Bd.returns] at h; cases h) hret (by decide) (by decide) ?_
  show Q_c3_4 Z ab1 kc c1 c2 c3 c4 h0 n0 _ T14.heap _
  rw [eq14]
  exact ⟨t_13, k_13, (8 : Int32), [(.int (nar .byte c1)), (.int (nar .byte (c1 >>> ((8 : Int32) &&& 31)))), (.int (nar .byte c2)), (.int (nar .byte (c2 >>> ((8 : Int32) &&& 31)))), (.int (nar .byte c3)), (.int (nar .byte (c3 >>> ((8 : Int32) &&& 31)))), (.int (nar .byte c4)), (.int (nar .byte (c4 >>> ((8 : Int32) &&& 31))))], (1 : Int32), rfl, N14, K13, s_t_13, fq13_0, (Or.inr ⟨rfl, rfl, own_str_wide (cs := ([c1, c2, c3, c4] : List Int32)) (n := 4) rfl (by decide) (own_memS hw1 (own_memS hw2 (own_memS hw3 (own_memS hw4 own_mem0)))) ⟨_, List.mem_of_getElem? (i := 3) rfl, hbig⟩⟩)⟩
theorem ef_cfl_4_4 (m : MethodId) (x0 : Addr) : entryFrame m #[(.ref x0), (.int 4)] 2 = mkF m 0 #[vR x0, vI 4] [] := by
  first | (simp [entryFrame, mkF, argsToLocals, Value.category]; done) | rfl
def Q_cfl_4_4 (Z : State) (tb1 : Addr) (kb1 : ClassId) (vs1 : List Value) (h0 : Heap) (n0 : Nat) (v : Option Value) (h : Heap) (L : List Loc) : Prop := v = some (.int 0) ∧ Fr n0 L ∧ h = h0
set_option maxRecDepth 65536 in
set_option maxHeartbeats 40000000 in
theorem rm_cfl_4_4 (l : Launch) (Z : State) (a0 : Array Value) (hw : ∀ d ∈ tables_1, d.before a0 Z = true) (ws : List Jvm.Cond) (wG1 : Int32) (wG3 : Value) (cx : OwnCx Z a0 wG1 wG3) (hEL : EW Z a0 consts_1) (h0 : Heap) (n0 : Nat) (X00 : Old Z n0 h0) (tb1 : Addr) (kb1 : ClassId) (vs1 : List Value) (f0 : Arv Z h0 tb1 kb1 .byte (4 : Int32) vs1 (.int 0)) :
    MetFree l mN7 (head1 (Jvm.Cond.code mN7 jdk_52_method_15_code 2 (some .byte) :: ws) ({ frames := 0, cells := 0, slots := 0, locals := 0 } : Room)) (fun a U => a = #[(.ref tb1), (.int 4)] ∧ Z.Warmed39 U.vm ∧ U.heap = h0) (fun _ _ _ _ _ => True) (fun _ U o U' => ∃ v L, o = .returned v ∧ Q_cfl_4_4 Z tb1 kb1 vs1 h0 n0 v U'.heap L ∧ FrameEnd U o U' L ({ frames := 0, cells := 0, slots := 0, locals := 0 } : Room).cells ({ frames := 0, cells := 0, slots := 0, locals := 0 } : Room).slots) := by
  refine MetFree.of_bodySF (plainFor_of_name pn_68381282) hisR ?_
  intro p e s m args below meth c s₁ Bd hml0 hP hK
  obtain ⟨rfl, hZ, hh⟩ := hP
  obtain ⟨wO2, wP5, wO4, wrG3, hstr, wUA, wUH, wUL⟩ := id cx
  have hx := Bd.exec
  have hby := Bd.bytes
  have hlk := Bd.notSynchronized
  have hml : c.maxLocals = 2 := hml0
  have hown : s.vm.findClass "java/lang/StringUTF16" = some m.cls := findClass_of_methodNamed Bd.named
  have hnm := (name_of_methodNamed Bd.named Bd.method).1
  have X0 : Stand p l e ({ frames := 0, cells := 0, slots := 0, locals := 0 } : Room) s m #[(.ref tb1), (.int 4)] below meth c s₁ [] 0 0 := Stand.of_body Bd
  have e0 : s₁.heap = h0 := by rw [← hh, Bd.state]; rfl
  have N0 := Fr.nil n0
  have Z0 : n0 ≤ h0.size := X00.1 ▸ X00.2.1
  have K0 : Keep h0 h0 ([] : List Addr) := Keep.refl _ _
  show OwnGoes p e below (fun o U' => ∃ v L, o = .returned v ∧ Q_cfl_4_4 Z tb1 kb1 vs1 h0 n0 v U'.heap L ∧ FrameEnd s o U' L ({ frames := 0, cells := 0, slots := 0, locals := 0 } : Room).cells ({ frames := 0, cells := 0, slots := 0, locals := 0 } : Room).slots) s₁ (entryFrame m #[(.ref tb1), (.int 4)] 2)
  refine OwnGoes.step (T' := s₁) (g' := (mkF m 0 #[vR tb1, vI 4] [])) (fun tgt kgo => castTop (ef_cfl_4_4 m tb1) kgo) ?_
  refine OwnGoes.step (T' := s₁) (g' := (mkF m 8 #[vR tb1, vI 4] [(.int 0)])) (fun tgt kgo => ?_) ?_
  · refine XS.iloadN X0.here hx rfl (hb hby d7_0) rfl ?_
    show OwnG p e below s₁ m 1 #[vR tb1, vI 4] [(.int 4)] tgt
    refine XS.aloadN X0.here hx rfl (hb hby d7_1) rfl rfl ?_
    show OwnG p e below s₁ m 2 #[vR tb1, vI 4] [(.ref tb1), (.int 4)] tgt
    obtain ⟨cl1, Ar1, q1, S1, M1, -, -⟩ := f0
    refine X0.arraylength hx (by rw [e0]; exact Ar1.1) (State.isArrayOf_alike hZ.alike Ar1.2.1) (g := (mkF m 2 #[vR tb1, vI 4] [(.ref tb1), (.int 4)])) rfl rfl (hb hby d7_2) _ ?_
    rw [len_of S1 M1]
    show OwnG p e below s₁ m 3 #[vR tb1, vI 4] [(.int 4), (.int 4)] tgt
    refine XS.isub X0.here hx rfl (hb hby d7_3) rfl ?_
    show OwnG p e below s₁ m 4 #[vR tb1, vI 4] [(.int 0)] tgt
    refine XS.bipush X0.here hx rfl (hb hby d7_4) ?_
    show OwnG p e below s₁ m 6 #[vR tb1, vI 4] [(.int 31), (.int 0)] tgt
    refine XS.iushr X0.here hx rfl (hb hby d7_6) rfl ?_
    show OwnG p e below s₁ m 7 #[vR tb1, vI 4] [(.int 0)] tgt
    refine XS.i2b X0.here hx rfl (hb hby d7_7) rfl ?_
    exact kgo
  refine own_leave X0 hlk (v := some (.int 0)) (fun h => by rw [Bd.returns] at h; cases h) (fun fs hr => retN X0 hx (t := .byte) Bd.returns (by simp) (hb hby d7_8) (by rw [(by decide : nar .byte (0 : Int32) = (0 : Int32))]; exact hr)) (by decide) (by decide) ?_
  show Q_cfl_4_4 Z tb1 kb1 vs1 h0 n0 _ s₁.heap _
  rw [e0]
  exact ⟨rfl, N0, rfl⟩
theorem ef_cfl_4_8 (m : MethodId) (x0 : Addr) : entryFrame m #[(.ref x0), (.int 4)] 2 = mkF m 0 #[vR x0, vI 4] [] := by
  first | (simp [entryFrame, mkF, argsToLocals, Value.category]; done) | rfl
def Q_cfl_4_8 (Z : State) (tb1 : Addr) (kb1 : ClassId) (vs1 : List Value) (h0 : Heap) (n0 : Nat) (v : Option Value) (h : Heap) (L : List Loc) : Prop := v = some (.int 1) ∧ Fr n0 L ∧ h = h0
set_option maxRecDepth 65536 in
set_option maxHeartbeats 40000000 in
theorem rm_cfl_4_8 (l : Launch) (Z : State) (a0 : Array Value) (hw : ∀ d ∈ tables_1, d.before a0 Z = true) (ws : List Jvm.Cond) (wG1 : Int32) (wG3 : Value) (cx : OwnCx Z a0 wG1 wG3) (hEL : EW Z a0 consts_1) (h0 : Heap) (n0 : Nat) (X00 : Old Z n0 h0) (tb1 : Addr) (kb1 : ClassId) (vs1 : List Value) (f0 : Arv Z h0 tb1 kb1 .byte (8 : Int32) vs1 (.int 0)) :
    MetFree l mN7 (head1 (Jvm.Cond.code mN7 jdk_52_method_15_code 2 (some .byte) :: ws) ({ frames := 0, cells := 0, slots := 0, locals := 0 } : Room)) (fun a U => a = #[(.ref tb1), (.int 4)] ∧ Z.Warmed39 U.vm ∧ U.heap = h0) (fun _ _ _ _ _ => True) (fun _ U o U' => ∃ v L, o = .returned v ∧ Q_cfl_4_8 Z tb1 kb1 vs1 h0 n0 v U'.heap L ∧ FrameEnd U o U' L ({ frames := 0, cells := 0, slots := 0, locals := 0 } : Room).cells ({ frames := 0, cells := 0, slots := 0, locals := 0 } : Room).slots) := by
  refine MetFree.of_bodySF (plainFor_of_name pn_68381282) hisR ?_
  intro p e s m args below meth c s₁ Bd hml0 hP hK
  obtain ⟨rfl, hZ, hh⟩ := hP
  obtain ⟨wO2, wP5, wO4, wrG3, hstr, wUA, wUH, wUL⟩ := id cx
  have hx := Bd.exec
  have hby := Bd.bytes
  have hlk := Bd.notSynchronized
  have hml : c.maxLocals = 2 := hml0
  have hown : s.vm.findClass "java/lang/StringUTF16" = some m.cls := findClass_of_methodNamed Bd.named
  have hnm := (name_of_methodNamed Bd.named Bd.method).1
  have X0 : Stand p l e ({ frames := 0, cells := 0, slots := 0, locals := 0 } : Room) s m #[(.ref tb1), (.int 4)] below meth c s₁ [] 0 0 := Stand.of_body Bd
  have e0 : s₁.heap = h0 := by rw [← hh, Bd.state]; rfl
  have N0 := Fr.nil n0
  have Z0 : n0 ≤ h0.size := X00.1 ▸ X00.2.1
  have K0 : Keep h0 h0 ([] : List Addr) := Keep.refl _ _
  show OwnGoes p e below (fun o U' => ∃ v L, o = .returned v ∧ Q_cfl_4_8 Z tb1 kb1 vs1 h0 n0 v U'.heap L ∧ FrameEnd s o U' L ({ frames := 0, cells := 0, slots := 0, locals := 0 } : Room).cells ({ frames := 0, cells := 0, slots := 0, locals := 0 } : Room).slots) s₁ (entryFrame m #[(.ref tb1), (.int 4)] 2)
  refine OwnGoes.step (T' := s₁) (g' := (mkF m 0 #[vR tb1, vI 4] [])) (fun tgt kgo => castTop (ef_cfl_4_8 m tb1) kgo) ?_
  refine OwnGoes.step (T' := s₁) (g' := (mkF m 8 #[vR tb1, vI 4] [(.int 1)])) (fun tgt kgo => ?_) ?_
  · refine XS.iloadN X0.here hx rfl (hb hby d7_0) rfl ?_
    show OwnG p e below s₁ m 1 #[vR tb1, vI 4] [(.int 4)] tgt
    refine XS.aloadN X0.here hx rfl (hb hby d7_1) rfl rfl ?_
    show OwnG p e below s₁ m 2 #[vR tb1, vI 4] [(.ref tb1), (.int 4)] tgt
    obtain ⟨cl1, Ar1, q1, S1, M1, -, -⟩ := f0
    refine X0.arraylength hx (by rw [e0]; exact Ar1.1) (State.isArrayOf_alike hZ.alike Ar1.2.1) (g := (mkF m 2 #[vR tb1, vI 4] [(.ref tb1), (.int 4)])) rfl rfl (hb hby d7_2) _ ?_
    rw [len_of S1 M1]
    show OwnG p e below s₁ m 3 #[vR tb1, vI 4] [(.int 8), (.int 4)] tgt
    refine XS.isub X0.here hx rfl (hb hby d7_3) rfl ?_
    show OwnG p e below s₁ m 4 #[vR tb1, vI 4] [(.int (-4))] tgt
    refine XS.bipush X0.here hx rfl (hb hby d7_4) ?_
    show OwnG p e below s₁ m 6 #[vR tb1, vI 4] [(.int 31), (.int (-4))] tgt
    refine XS.iushr X0.here hx rfl (hb hby d7_6) rfl ?_
    show OwnG p e below s₁ m 7 #[vR tb1, vI 4] [(.int 1)] tgt
    refine XS.i2b X0.here hx rfl (hb hby d7_7) rfl ?_
    exact kgo
  refine own_leave X0 hlk (v := some (.int 1)) (fun h => by rw [Bd.returns] at h; cases h) (fun fs hr => retN X0 hx (t := .byte) Bd.returns (by simp) (hb hby d7_8) (by rw [(by decide : nar .byte (1 : Int32) = (1 : Int32))]; exact hr)) (by decide) (by decide) ?_
  show Q_cfl_4_8 Z tb1 kb1 vs1 h0 n0 _ s₁.heap _
  rw [e0]
  exact ⟨rfl, N0, rfl⟩
theorem ef_si6_4 (m : MethodId) (x0 : Addr) (x1 : Addr) : entryFrame m #[(.ref x0), (.ref x1), (.int 0), (.int 4), .null] 6 = mkF m 0 #[vR x0, vR x1, vI 0, vI 4, .val .null, vU] [] := by
  first | (simp [entryFrame, mkF, argsToLocals, Value.category]; done) | rfl
def Q_si6_4 (Z : State) (a1 : Addr) (ab1 : Addr) (kc : ClassId) (c1 : Int32) (c2 : Int32) (c3 : Int32) (c4 : Int32) (h0 : Heap) (n0 : Nat) (v : Option Value) (h : Heap) (L : List Loc) : Prop := ∃ (t : Addr), ∃ (k : ClassId), ∃ (N : Int32), ∃ (vs : List Value), ∃ (cd : Int32), v = none ∧ Fr n0 L ∧ Keep h0 h ([a1] : List Addr) ∧ h0.size ≤ t ∧ Exa Z h a1 "java/lang/String" ∧ Fld Z h a1 "java/lang/String" "value" "[B" (.ref t) ∧ Fld Z h a1 "java/lang/String" "coder" "B" (.int cd) ∧ Arv Z h t k .byte N vs (.int 0) ∧ (OwnStr ([c1, c2, c3, c4] : List Int32) cd N vs)
set_option maxRecDepth 65536 in
set_option maxHeartbeats 40000000 in
theorem rm_si6_4 (l : Launch) (Z : State) (a0 : Array Value) (hw : ∀ d ∈ tables_1, d.before a0 Z = true) (ws : List Jvm.Cond) (wG1 : Int32) (wG3 : Value) (cx : OwnCx Z a0 wG1 wG3) (hEL : EW Z a0 consts_1) (h0 : Heap) (n0 : Nat) (X00 : Old Z n0 h0) (a1 : Addr) (ab1 : Addr) (kc : ClassId) (c1 : Int32) (c2 : Int32) (c3 : Int32) (c4 : Int32) (f0 : Exa Z h0 a1 "java/lang/String") (f1 : Fld Z h0 a1 "java/lang/String" "value" "[B" .null) (f2 : Fld Z h0 a1 "java/lang/String" "coder" "B" (.int 0)) (f3 : n0 ≤ a1) (f4 : Arv Z h0 ab1 kc .char (4 : Int32) [(.int c1), (.int c2), (.int c3), (.int c4)] (.int 0)) (hw1 : ¬ c1 < 0 ∧ ¬ (65535 : Int32) < c1) (hw2 : ¬ c2 < 0 ∧ ¬ (65535 : Int32) < c2) (hw3 : ¬ c3 < 0 ∧ ¬ (65535 : Int32) < c3) (hw4 : ¬ c4 < 0 ∧ ¬ (65535 : Int32) < c4) :
    MetFree l mN8 (head1 (Jvm.Cond.code mN8 jdk_42_method_149_code 6 none :: ws) ({ frames := 4, cells := 2, slots := 12, locals := 57 } : Room)) (fun a U => a = #[(.ref a1), (.ref ab1), (.int 0), (.int 4), .null] ∧ Z.Warmed39 U.vm ∧ U.heap = h0) (fun _ _ _ _ _ => True) (fun _ U o U' => ∃ v L, o = .returned v ∧ Q_si6_4 Z a1 ab1 kc c1 c2 c3 c4 h0 n0 v U'.heap L ∧ FrameEnd U o U' L ({ frames := 4, cells := 2, slots := 12, locals := 57 } : Room).cells ({ frames := 4, cells := 2, slots := 12, locals := 57 } : Room).slots) := by
  refine MetFree.of_bodySF (plainFor_of_name pn_52039224) hisR ?_
  intro p e s m args below meth c s₁ Bd hml0 hP hK
  obtain ⟨rfl, hZ, hh⟩ := hP
  obtain ⟨wO2, wP5, wO4, wrG3, hstr, wUA, wUH, wUL⟩ := id cx
  have hx := Bd.exec
  have hby := Bd.bytes
  have hlk := Bd.notSynchronized
  have hml : c.maxLocals = 6 := hml0
  have hown : s.vm.findClass "java/lang/String" = some m.cls := findClass_of_methodNamed Bd.named
  have hnm := (name_of_methodNamed Bd.named Bd.method).1
  have X0 : Stand p l e ({ frames := 4, cells := 2, slots := 12, locals := 57 } : Room) s m #[(.ref a1), (.ref ab1), (.int 0), (.int 4), .null] below meth c s₁ [] 0 0 := Stand.of_body Bd
  have e0 : s₁.heap = h0 := by rw [← hh, Bd.state]; rfl
  have N0 := Fr.nil n0
  have Z0 : n0 ≤ h0.size := X00.1 ▸ X00.2.1
  have K0 : Keep h0 h0 ([a1] : List Addr) := Keep.refl _ _
  show OwnGoes p e below (fun o U' => ∃ v L, o = .returned v ∧ Q_si6_4 Z a1 ab1 kc c1 c2 c3 c4 h0 n0 v U'.heap L ∧ FrameEnd s o U' L ({ frames := 4, cells := 2, slots := 12, locals := 57 } : Room).cells ({ frames := 4, cells := 2, slots := 12, locals := 57 } : Room).slots) s₁ (entryFrame m #[(.ref a1), (.ref ab1), (.int 0), (.int 4), .null] 6)
  refine OwnGoes.step (T' := s₁) (g' := (mkF m 0 #[vR a1, vR ab1, vI 0, vI 4, .val .null, vU] [])) (fun tgt kgo => castTop (ef_si6_4 m a1 ab1) kgo) ?_
  refine OwnGoes.step (T' := s₁) (g' := (mkF m 1 #[vR a1, vR ab1, vI 0, vI 4, .val .null, vU] [(.ref a1)])) (fun tgt kgo => ?_) ?_
  · refine XS.aloadN X0.here hx rfl (hb hby d8_0) rfl rfl ?_
    exact kgo
  obtain ⟨T1, X1, e1, st1⟩ := initO X0 hx hZ hown (own_w hw 20 rfl) (own_w hw 21 rfl) (own_w hw 22 rfl) e0 (g := (mkF m 1 #[vR a1, vR ab1, vI 0, vI 4, .val .null, vU] [(.ref a1)])) rfl (by rw [hml]; rfl) rfl (hb hby d8_1) (by decide) (W := 0) (Nat.le_of_eq rfl) (by decide)
  refine OwnGoes.step (T' := T1) (g' := (mkF m 4 #[vR a1, vR ab1, vI 0, vI 4, .val .null, vU] [])) st1 ?_
  refine OwnGoes.step (T' := T1) (g' := (mkF m 27 #[vR a1, vR ab1, vI 0, vI 4, .val .null, vU] [])) (fun tgt kgo => ?_) ?_
  · refine XS.iloadN X1.here hx rfl (hb hby d8_4) rfl ?_
    show OwnG p e below T1 m 5 #[vR a1, vR ab1, vI 0, vI 4, .val .null, vU] [(.int 4)] tgt
    refine XS.ifYes X1.here hx rfl (pc0 := 5) (pc' := 27) rfl (hb hby d8_5) rfl ((if0 _ _).trans (feq (by decide : ¬ ((4 : Int32) = (0 : Int32)))).2) (by decide) (by decide) ?_
    exact kgo
  obtain ⟨T2, X2, e2, st2⟩ := getS2 X1 hx hZ hown (host := "") (Or.inl (own_w hw 40 rfl)) Via.refl e1 (wO2.ext X00.2) (g := (mkF m 27 #[vR a1, vR ab1, vI 0, vI 4, .val .null, vU] [])) rfl (hb hby d8_27)
  refine OwnGoes.step (T' := T2) (g' := (mkF m 30 #[vR a1, vR ab1, vI 0, vI 4, .val .null, vU] [(.int wG1)])) st2 ?_
  refine OwnGoes.step (T' := T2) (g' := (mkF m 36 #[vR a1, vR ab1, vI 0, vI 4, .val .null, vU] [(.int 4), (.int 0), (.ref ab1)])) (fun tgt kgo => ?_) ?_
  · refine XS.ifNo X2.here hx rfl (hb hby d8_30) rfl ((if0 _ _).trans (feq wP5).1) ?_
    show OwnG p e below T2 m 33 #[vR a1, vR ab1, vI 0, vI 4, .val .null, vU] [] tgt
    refine XS.aloadN X2.here hx rfl (hb hby d8_33) rfl rfl ?_
    show OwnG p e below T2 m 34 #[vR a1, vR ab1, vI 0, vI 4, .val .null, vU] [(.ref ab1)] tgt
    refine XS.iloadN X2.here hx rfl (hb hby d8_34) rfl ?_
    show OwnG p e below T2 m 35 #[vR a1, vR ab1, vI 0, vI 4, .val .null, vU] [(.int 0), (.ref ab1)] tgt
    refine XS.iloadN X2.here hx rfl (hb hby d8_35) rfl ?_
    exact kgo
  obtain ⟨_, _, ⟨T3, L3, k3, n3⟩, -, X3, ⟨Lc3, hQ3, l3, y3, z3⟩, st3⟩ := Jvm.LawKit.callS X2 hx (y := mN6) hown (mvT hZ (own_w hw 41 rfl)) (mvT hZ (own_w hw 42 rfl)) (mvT hZ (own_w hw 43 rfl)) (mvT hZ (own_w hw 44 rfl)) (by decide) (backOf (W := 0) (rm_c3_4 l Z a0 hw [] wG1 wG3 cx hEL h0 n0 X00 ab1 kc c1 c2 c3 c4 f4 hw1 hw2 hw3 hw4) hZ (own_w hw 44 rfl) (own_w hw 43 rfl) (by decide) (by decide)) (g := (mkF m 36 #[vR a1, vR ab1, vI 0, vI 4, .val .null, vU] [(.int 4), (.int 0), (.ref ab1)])) rfl (by rw [hml]; rfl) (argsL := [(.ref ab1), (.int 0), (.int 4)]) (rest := []) (lenOf pd_23256262 rfl) rfl (Nat.le_of_eq rfl) (hb hby d8_36) (fun _ _ => ⟨rfl, e2, (by decide : 0 + 2 ≤ _), (by decide : 0 + 12 ≤ _)⟩)
  dsimp only [Pt.U, Pt.locs, Pt.cells, Pt.slots] at X3 l3 y3 z3 st3 hQ3
  subst l3 y3 z3
  obtain ⟨t_3, k_3, N_3, vs_3, cd_3, rfl, Nq3, Kq3, zq3_0, fq3_0, pq3_0⟩ := hQ3
  refine OwnGoes.step (T' := T3) (g' := (mkF m 39 #[vR a1, vR ab1, vI 0, vI 4, .val .null, vU] [(.ref t_3)])) st3 ?_
  have N3 := Fr.app N0 Nq3
  have ne_a1_t_3 : a1 ≠ t_3 := Nat.ne_of_lt (Nat.lt_of_lt_of_le f0.lt zq3_0)
  have ne_ab1_t_3 : ab1 ≠ t_3 := Nat.ne_of_lt (Nat.lt_of_lt_of_le f4.lt zq3_0)
  have g_t_3 : n0 ≤ t_3 := Nat.le_trans (Nat.le_trans Z0 K0.1) zq3_0
  have s_t_3 : h0.size ≤ t_3 := Nat.le_trans K0.1 zq3_0
  have F3_1 := f0.keep Kq3
  have F3_2 := f1.keep Kq3 nin0
  have F3_3 := f2.keep Kq3 nin0
  have F3_4 := f4.keep Kq3 nin0
  have Ol3 := X00.keep Kq3 all0
  have K3 : Keep h0 T3.heap ([a1] : List Addr) := K0.trans Kq3 all0
  refine OwnGoes.step (T' := T3) (g' := (mkF m 41 #[vR a1, vR ab1, vI 0, vI 4, .val .null, vR t_3] [])) (fun tgt kgo => ?_) ?_
  · refine XS.astore X3.here hx rfl (hb hby d8_39) rfl rfl (l' := #[vR a1, vR ab1, vI 0, vI 4, .val .null, vR t_3]) rfl ?_
    exact kgo
  rcases pq3_0 with ⟨rfl, rfl, hos_N_3⟩ | ⟨rfl, rfl, hos_N_3⟩
  · skip
    refine OwnGoes.step (T' := T3) (g' := (mkF m 45 #[vR a1, vR ab1, vI 0, vI 4, .val .null, vR t_3] [(.int 4), (.ref t_3), (.ref a1)])) (fun tgt kgo => ?_) ?_
    · refine XS.aloadN X3.here hx rfl (hb hby d8_41) rfl rfl ?_
      show OwnG p e below T3 m 42 #[vR a1, vR ab1, vI 0, vI 4, .val .null, vR t_3] [(.ref a1)] tgt
      refine XS.aload X3.here hx rfl (hb hby d8_42) rfl rfl ?_
      show OwnG p e below T3 m 44 #[vR a1, vR ab1, vI 0, vI 4, .val .null, vR t_3] [(.ref t_3), (.ref a1)] tgt
      refine XS.iloadN X3.here hx rfl (hb hby d8_44) rfl ?_
      exact kgo
    obtain ⟨_, _, ⟨T4, L4, k4, n4⟩, -, X4, ⟨Lc4, hQ4, l4, y4, z4⟩, st4⟩ := Jvm.LawKit.callS X3 hx (y := mN7) hown (mvT hZ (own_w hw 48 rfl)) (mvT hZ (own_w hw 49 rfl)) (mvT hZ (own_w hw 43 rfl)) (mvT hZ (own_w hw 50 rfl)) (by decide) (backOf (W := 1) (rm_cfl_4_4 l Z a0 hw [] wG1 wG3 cx hEL T3.heap n0 Ol3 t_3 k_3 vs_3 fq3_0) hZ (own_w hw 50 rfl) (own_w hw 43 rfl) (by decide) (by decide)) (g := (mkF m 45 #[vR a1, vR ab1, vI 0, vI 4, .val .null, vR t_3] [(.int 4), (.ref t_3), (.ref a1)])) rfl (by rw [hml]; rfl) (argsL := [(.ref t_3), (.int 4)]) (rest := [(.ref a1)]) (lenOf pd_68873100 rfl) rfl (Nat.le_of_eq rfl) (hb hby d8_45) (fun _ _ => ⟨rfl, rfl, (by decide : 2 + 0 ≤ _), (by decide : 12 + 0 ≤ _)⟩)
    dsimp only [Pt.U, Pt.locs, Pt.cells, Pt.slots] at X4 l4 y4 z4 st4 hQ4
    subst l4 y4 z4
    obtain ⟨rfl, Nq4, eq4⟩ := hQ4
    refine OwnGoes.step (T' := T4) (g' := (mkF m 48 #[vR a1, vR ab1, vI 0, vI 4, .val .null, vR t_3] [(.int 0), (.ref a1)])) st4 ?_
    have N4 := Fr.app N3 Nq4
    obtain ⟨T5, h5, X5, e5, W5, st5⟩ := putFN X4 hx hZ hown (own_w hw 30 rfl) Via.refl eq4 F3_3 F3_1 (Or.inr ⟨(own_w hw 26 rfl), rfl, hnm⟩) (own_w hw 10 rfl) (ty := .byte) (v' := (.int (nar .byte (0 : Int32)))) (by decide) rfl (fits_nar_byte _) (g := (mkF m 48 #[vR a1, vR ab1, vI 0, vI 4, .val .null, vR t_3] [(.int 0), (.ref a1)])) rfl rfl (hb hby d8_48)
    refine OwnGoes.step (T' := T5) (g' := (mkF m 51 #[vR a1, vR ab1, vI 0, vI 4, .val .null, vR t_3] [])) st5 ?_
    have Fw5 := F3_3.same W5
    rw [(by decide : nar .byte (0 : Int32) = (0 : Int32))] at Fw5
    have F5_5 := F3_1.wr W5
    have F5_6 := F3_2.other W5 (Or.inr (slot_ne (Or.inr (own_w hw 25 rfl)) (Or.inr (own_w hw 26 rfl)) (by decide) (t := (.array .byte)) (t' := .byte) (by decide) (by decide)))
    have F5_7 := F3_4.other W5 (Ne.symm (Exa.neArv F3_1 F3_4 (own_w hw 10 rfl)))
    have F5_8 := fq3_0.other W5 (Ne.symm ne_a1_t_3)
    have Ol5 := Ol3.wr W5 f3
    have K5 : Keep h0 h5 ([a1] : List Addr) := K3.wr W5 (Or.inl (List.mem_of_getElem? (i := 0) rfl))
    have N5 := Fr.snoc X5 N4 f3
    refine OwnGoes.step (T' := T5) (g' := (mkF m 54 #[vR a1, vR ab1, vI 0, vI 4, .val .null, vR t_3] [(.ref t_3), (.ref a1)])) (fun tgt kgo => ?_) ?_
    · refine XS.aloadN X5.here hx rfl (hb hby d8_51) rfl rfl ?_
      show OwnG p e below T5 m 52 #[vR a1, vR ab1, vI 0, vI 4, .val .null, vR t_3] [(.ref a1)] tgt
      refine XS.aload X5.here hx rfl (hb hby d8_52) rfl rfl ?_
      exact kgo
    obtain ⟨T6, h6, X6, e6, W6, st6⟩ := putF X5 hx hZ hown (host := "") (Or.inl (own_w hw 29 rfl)) Via.refl e5 F5_6 F5_5 (Or.inr ⟨(own_w hw 25 rfl), rfl, hnm⟩) (own_w hw 10 rfl) (ty := (.array .byte)) (by decide) rfl rfl (g := (mkF m 54 #[vR a1, vR ab1, vI 0, vI 4, .val .null, vR t_3] [(.ref t_3), (.ref a1)])) rfl rfl (hb hby d8_54)
    refine OwnGoes.step (T' := T6) (g' := (mkF m 57 #[vR a1, vR ab1, vI 0, vI 4, .val .null, vR t_3] [])) st6 ?_
    have Fw6 := F5_6.same W6
    have F6_9 := F5_5.wr W6
    have F6_10 := Fw5.other W6 (Or.inr (slot_ne (Or.inr (own_w hw 26 rfl)) (Or.inr (own_w hw 25 rfl)) (by decide) (t := .byte) (t' := (.array .byte)) (by decide) (by decide)))
    have F6_11 := F5_7.other W6 (Ne.symm (Exa.neArv F5_5 F5_7 (own_w hw 10 rfl)))
    have F6_12 := F5_8.other W6 (Ne.symm ne_a1_t_3)
    have Ol6 := Ol5.wr W6 f3
    have K6 : Keep h0 h6 ([a1] : List Addr) := K5.wr W6 (Or.inl (List.mem_of_getElem? (i := 0) rfl))
    have N6 := Fr.snoc X6 N5 f3
    refine own_leave X6 hlk (v := none) (fun _ => rfl) (fun fs hr => X6.returnOut hx Bd.returns (hb hby d8_57) hr) (by decide) (by decide) ?_
    show Q_si6_4 Z a1 ab1 kc c1 c2 c3 c4 h0 n0 _ T6.heap _
    rw [e6]
    exact ⟨t_3, k_3, (4 : Int32), vs_3, (0 : Int32), rfl, N6, K6, s_t_3, F6_9, Fw6, F6_10, F6_12, hos_N_3⟩
  refine OwnGoes.step (T' := T3) (g' := (mkF m 45 #[vR a1, vR ab1, vI 0, vI 4, .val .null, vR t_3] [(.int 4), (.ref t_3), (.ref a1)])) (fun tgt kgo => ?_) ?_
  · refine XS.aloadN X3.here hx rfl (hb hby d8_41) rfl rfl ?_
    show OwnG p e below T3 m 42 #[vR a1, vR ab1, vI 0, vI 4, .val .null, vR t_3] [(.ref a1)] tgt
    refine XS.aload X3.here hx rfl (hb hby d8_42) rfl rfl ?_
    show OwnG p e below T3 m 44 #[vR a1, vR ab1, vI 0, vI 4, .val .null, vR t_3] [(.ref t_3), (.ref a1)] tgt
    refine XS.iloadN X3.here hx rfl (hb hby d8_44) rfl ?_
    exact kgo
  obtain ⟨_, _, ⟨T8, L8, k8, n8⟩, -, X8, ⟨Lc8, hQ8, l8, y8, z8⟩, st8⟩ := Jvm.LawKit.callS X3 hx (y := mN7) hown (mvT hZ (own_w hw 48 rfl)) (mvT hZ (own_w hw 49 rfl)) (mvT hZ (own_w hw 43 rfl)) (mvT hZ (own_w hw 50 rfl)) (by decide) (backOf (W := 1) (rm_cfl_4_8 l Z a0 hw [] wG1 wG3 cx hEL T3.heap n0 Ol3 t_3 k_3 vs_3 fq3_0) hZ (own_w hw 50 rfl) (own_w hw 43 rfl) (by decide) (by decide)) (g := (mkF m 45 #[vR a1, vR ab1, vI 0, vI 4, .val .null, vR t_3] [(.int 4), (.ref t_3), (.ref a1)])) rfl (by rw [hml]; rfl) (argsL := [(.ref t_3), (.int 4)]) (rest := [(.ref a1)]) (lenOf pd_68873100 rfl) rfl (Nat.le_of_eq rfl) (hb hby d8_45) (fun _ _ => ⟨rfl, rfl, (by decide : 2 + 0 ≤ _), (by decide : 12 + 0 ≤ _)⟩)
  dsimp only [Pt.U, Pt.locs, Pt.cells, Pt.slots] at X8 l8 y8 z8 st8 hQ8
  subst l8 y8 z8
  obtain ⟨rfl, Nq8, eq8⟩ := hQ8
  refine OwnGoes.step (T' := T8) (g' := (mkF m 48 #[vR a1, vR ab1, vI 0, vI 4, .val .null, vR t_3] [(.int 1), (.ref a1)])) st8 ?_
  have N8 := Fr.app N3 Nq8
  obtain ⟨T9, h9, X9, e9, W9, st9⟩ := putFN X8 hx hZ hown (own_w hw 30 rfl) Via.refl eq8 F3_3 F3_1 (Or.inr ⟨(own_w hw 26 rfl), rfl, hnm⟩) (own_w hw 10 rfl) (ty := .byte) (v' := (.int (nar .byte (1 : Int32)))) (by decide) rfl (fits_nar_byte _) (g := (mkF m 48 #[vR a1, vR ab1, vI 0, vI 4, .val .null, vR t_3] [(.int 1), (.ref a1)])) rfl rfl (hb hby d8_48)
  refine OwnGoes.step (T' := T9) (g' := (mkF m 51 #[vR a1, vR ab1, vI 0, vI 4, .val .null, vR t_3] [])) st9 ?_
  have Fw9 := F3_3.same W9
  rw [(by decide : nar .byte (1 : Int32) = (1 : Int32))] at Fw9
  have F9_13 := F3_1.wr W9
  have F9_14 := F3_2.other W9 (Or.inr (slot_ne (Or.inr (own_w hw 25 rfl)) (Or.inr (own_w hw 26 rfl)) (by decide) (t := (.array .byte)) (t' := .byte) (by decide) (by decide)))
  have F9_15 := F3_4.other W9 (Ne.symm (Exa.neArv F3_1 F3_4 (own_w hw 10 rfl)))
  have F9_16 := fq3_0.other W9 (Ne.symm ne_a1_t_3)
  have Ol9 := Ol3.wr W9 f3
  have K9 : Keep h0 h9 ([a1] : List Addr) := K3.wr W9 (Or.inl (List.mem_of_getElem? (i := 0) rfl))
  have N9 := Fr.snoc X9 N8 f3
  refine OwnGoes.step (T' := T9) (g' := (mkF m 54 #[vR a1, vR ab1, vI 0, vI 4, .val .null, vR t_3] [(.ref t_3), (.ref a1)])) (fun tgt kgo => ?_) ?_
  · refine XS.aloadN X9.here hx rfl (hb hby d8_51) rfl rfl ?_
    show OwnG p e below T9 m 52 #[vR a1, vR ab1, vI 0, vI 4, .val .null, vR t_3] [(.ref a1)] tgt
    refine XS.aload X9.here hx rfl (hb hby d8_52) rfl rfl ?_
    exact kgo
  obtain ⟨T10, h10, X10, e10, W10, st10⟩ := putF X9 hx hZ hown (host := "") (Or.inl (own_w hw 29 rfl)) Via.refl e9 F9_14 F9_13 (Or.inr ⟨(own_w hw 25 rfl), rfl, hnm⟩) (own_w hw 10 rfl) (ty := (.array .byte)) (by decide) rfl rfl (g := (mkF m 54 #[vR a1, vR ab1, vI 0, vI 4, .val .null, vR t_3] [(.ref t_3), (.ref a1)])) rfl rfl (hb hby d8_54)
  refine OwnGoes.step (T' := T10) (g' := (mkF m 57 #[vR a1, vR ab1, vI 0, vI 4, .val .null, vR t_3] [])) st10 ?_
  have Fw10 := F9_14.same W10
  have F10_17 := F9_13.wr W10
  have F10_18 := Fw9.other W10 (Or.inr (slot_ne (Or.inr (own_w hw 26 rfl)) (Or.inr (own_w hw 25 rfl)) (by decide) (t := .byte) (t' := (.array .byte)) (by decide) (by decide)))
  have F10_19 := F9_15.other W10 (Ne.symm (Exa.neArv F9_13 F9_15 (own_w hw 10 rfl)))
  have F10_20 := F9_16.other W10 (Ne.symm ne_a1_t_3)
  have Ol10 := Ol9.wr W10 f3
  have K10 : Keep h0 h10 ([a1] : List Addr) := K9.wr W10 (Or.inl (List.mem_of_getElem? (i := 0) rfl))
  have N10 := Fr.snoc X10 N9 f3
  refine own_leave X10 hlk (v := none) (fun _ => rfl) (fun fs hr => X10.returnOut hx Bd.returns (hb hby d8_57) hr) (by decide) (by decide) ?_
  show Q_si6_4 Z a1 ab1 kc c1 c2 c3 c4 h0 n0 _ T10.heap _
  rw [e10]
  exact ⟨t_3, k_3, (8 : Int32), vs_3, (1 : Int32), rfl, N10, K10, s_t_3, F10_17, Fw10, F10_18, F10_20, hos_N_3⟩
theorem ef_si2_4 (m : MethodId) (x0 : Addr) (x1 : Addr) : entryFrame m #[(.ref x0), (.ref x1)] 2 = mkF m 0 #[vR x0, vR x1] [] := by
  first | (simp [entryFrame, mkF, argsToLocals, Value.category]; done) | rfl
def Q_si2_4 (Z : State) (a1 : Addr) (ab1 : Addr) (kc : ClassId) (c1 : Int32) (c2 : Int32) (c3 : Int32) (c4 : Int32) (h0 : Heap) (n0 : Nat) (v : Option Value) (h : Heap) (L : List Loc) : Prop := ∃ (t : Addr), ∃ (k : ClassId), ∃ (N : Int32), ∃ (vs : List Value), ∃ (cd : Int32), v = none ∧ Fr n0 L ∧ Keep h0 h ([a1] : List Addr) ∧ h0.size ≤ t ∧ Exa Z h a1 "java/lang/String" ∧ Fld Z h a1 "java/lang/String" "value" "[B" (.ref t) ∧ Fld Z h a1 "java/lang/String" "coder" "B" (.int cd) ∧ Arv Z h t k .byte N vs (.int 0) ∧ (OwnStr ([c1, c2, c3, c4] : List Int32) cd N vs)
set_option maxRecDepth 65536 in
set_option maxHeartbeats 40000000 in
theorem rm_si2_4 (l : Launch) (Z : State) (a0 : Array Value) (hw : ∀ d ∈ tables_1, d.before a0 Z = true) (ws : List Jvm.Cond) (wG1 : Int32) (wG3 : Value) (cx : OwnCx Z a0 wG1 wG3) (hEL : EW Z a0 consts_1) (h0 : Heap) (n0 : Nat) (X00 : Old Z n0 h0) (a1 : Addr) (ab1 : Addr) (kc : ClassId) (c1 : Int32) (c2 : Int32) (c3 : Int32) (c4 : Int32) (f0 : Exa Z h0 a1 "java/lang/String") (f1 : Fld Z h0 a1 "java/lang/String" "value" "[B" .null) (f2 : Fld Z h0 a1 "java/lang/String" "coder" "B" (.int 0)) (f3 : n0 ≤ a1) (f4 : Arv Z h0 ab1 kc .char (4 : Int32) [(.int c1), (.int c2), (.int c3), (.int c4)] (.int 0)) (hw1 : ¬ c1 < 0 ∧ ¬ (65535 : Int32) < c1) (hw2 : ¬ c2 < 0 ∧ ¬ (65535 : Int32) < c2) (hw3 : ¬ c3 < 0 ∧ ¬ (65535 : Int32) < c3) (hw4 : ¬ c4 < 0 ∧ ¬ (65535 : Int32) < c4) :
    MetFree l mN9 (head1 (Jvm.Cond.code mN9 jdk_42_method_3_code 2 none :: ws) ({ frames := 5, cells := 2, slots := 12, locals := 74 } : Room)) (fun a U => a = #[(.ref a1), (.ref ab1)] ∧ Z.Warmed39 U.vm ∧ U.heap = h0) (fun _ _ _ _ _ => True) (fun _ U o U' => ∃ v L, o = .returned v ∧ Q_si2_4 Z a1 ab1 kc c1 c2 c3 c4 h0 n0 v U'.heap L ∧ FrameEnd U o U' L ({ frames := 5, cells := 2, slots := 12, locals := 74 } : Room).cells ({ frames := 5, cells := 2, slots := 12, locals := 74 } : Room).slots) := by
  refine MetFree.of_bodySF (plainFor_of_name pn_52039224) hisR ?_
  intro p e s m args below meth c s₁ Bd hml0 hP hK
  obtain ⟨rfl, hZ, hh⟩ := hP
  obtain ⟨wO2, wP5, wO4, wrG3, hstr, wUA, wUH, wUL⟩ := id cx
  have hx := Bd.exec
  have hby := Bd.bytes
  have hlk := Bd.notSynchronized
  have hml : c.maxLocals = 2 := hml0
  have hown : s.vm.findClass "java/lang/String" = some m.cls := findClass_of_methodNamed Bd.named
  have hnm := (name_of_methodNamed Bd.named Bd.method).1
  have X0 : Stand p l e ({ frames := 5, cells := 2, slots := 12, locals := 74 } : Room) s m #[(.ref a1), (.ref ab1)] below meth c s₁ [] 0 0 := Stand.of_body Bd
  have e0 : s₁.heap = h0 := by rw [← hh, Bd.state]; rfl
  have N0 := Fr.nil n0
  have Z0 : n0 ≤ h0.size := X00.1 ▸ X00.2.1
  have K0 : Keep h0 h0 ([a1] : List Addr) := Keep.refl _ _
  show OwnGoes p e below (fun o U' => ∃ v L, o = .returned v ∧ Q_si2_4 Z a1 ab1 kc c1 c2 c3 c4 h0 n0 v U'.heap L ∧ FrameEnd s o U' L ({ frames := 5, cells := 2, slots := 12, locals := 74 } : Room).cells ({ frames := 5, cells := 2, slots := 12, locals := 74 } : Room).slots) s₁ (entryFrame m #[(.ref a1), (.ref ab1)] 2)
  refine OwnGoes.step (T' := s₁) (g' := (mkF m 0 #[vR a1, vR ab1] [])) (fun tgt kgo => castTop (ef_si2_4 m a1 ab1) kgo) ?_
  refine OwnGoes.step (T' := s₁) (g' := (mkF m 6 #[vR a1, vR ab1] [.null, (.int 4), (.int 0), (.ref ab1), (.ref a1)])) (fun tgt kgo => ?_) ?_
  · refine XS.aloadN X0.here hx rfl (hb hby d9_0) rfl rfl ?_
    show OwnG p e below s₁ m 1 #[vR a1, vR ab1] [(.ref a1)] tgt
    refine XS.aloadN X0.here hx rfl (hb hby d9_1) rfl rfl ?_
    show OwnG p e below s₁ m 2 #[vR a1, vR ab1] [(.ref ab1), (.ref a1)] tgt
    refine XS.iconst X0.here hx rfl (hb hby d9_2) ?_
    show OwnG p e below s₁ m 3 #[vR a1, vR ab1] [(.int 0), (.ref ab1), (.ref a1)] tgt
    refine XS.aloadN X0.here hx rfl (hb hby d9_3) rfl rfl ?_
    show OwnG p e below s₁ m 4 #[vR a1, vR ab1] [(.ref ab1), (.int 0), (.ref ab1), (.ref a1)] tgt
    obtain ⟨cl1, Ar1, q1, S1, M1, -, -⟩ := f4
    refine X0.arraylength hx (by rw [e0]; exact Ar1.1) (State.isArrayOf_alike hZ.alike Ar1.2.1) (g := (mkF m 4 #[vR a1, vR ab1] [(.ref ab1), (.int 0), (.ref ab1), (.ref a1)])) rfl rfl (hb hby d9_4) _ ?_
    rw [len_of S1 M1]
    show OwnG p e below s₁ m 5 #[vR a1, vR ab1] [(.int 4), (.int 0), (.ref ab1), (.ref a1)] tgt
    refine XS.aconstNull X0.here hx rfl (hb hby d9_5) ?_
    exact kgo
  obtain ⟨_, _, ⟨T2, L2, k2, n2⟩, -, X2, ⟨Lc2, hQ2, l2, y2, z2⟩, st2⟩ := X0.specialBack hx (y := mN8) rfl hown (mvT hZ (own_w hw 16 rfl)) (mvT hZ (own_w hw 17 rfl)) (mvT hZ (own_w hw 19 rfl)) (by decide) (backOf (W := 0) (rm_si6_4 l Z a0 hw [] wG1 wG3 cx hEL h0 n0 X00 a1 ab1 kc c1 c2 c3 c4 f0 f1 f2 f3 f4 hw1 hw2 hw3 hw4) hZ (own_w hw 19 rfl) (own_w hw 11 rfl) (by decide) (by decide)) (g := (mkF m 6 #[vR a1, vR ab1] [.null, (.int 4), (.int 0), (.ref ab1), (.ref a1)])) rfl (by rw [hml]; rfl) (Steps.refl _) (a := a1) (argsL := [(.ref ab1), (.int 0), (.int 4), .null]) (rest := []) (lenOf pd_10261703 rfl) rfl (Nat.le_of_eq rfl) (hb hby d9_6) (fun _ _ => ⟨rfl, e0, (by decide : 0 + 2 ≤ _), (by decide : 0 + 12 ≤ _)⟩)
  dsimp only [Pt.U, Pt.locs, Pt.cells, Pt.slots] at X2 l2 y2 z2 st2 hQ2
  subst l2 y2 z2
  obtain ⟨t_2, k_2, N_2, vs_2, cd_2, rfl, Nq2, Kq2, zq2_0, fq2_0, fq2_1, fq2_2, fq2_3, pq2_0⟩ := hQ2
  refine OwnGoes.tr (T' := T2) (g' := (mkF m 9 #[vR a1, vR ab1] [])) st2 ?_
  have N2 := Fr.app N0 Nq2
  have ne_a1_t_2 : a1 ≠ t_2 := Nat.ne_of_lt (Nat.lt_of_lt_of_le f0.lt zq2_0)
  have ne_ab1_t_2 : ab1 ≠ t_2 := Nat.ne_of_lt (Nat.lt_of_lt_of_le f4.lt zq2_0)
  have g_t_2 : n0 ≤ t_2 := Nat.le_trans (Nat.le_trans Z0 K0.1) zq2_0
  have s_t_2 : h0.size ≤ t_2 := Nat.le_trans K0.1 zq2_0
  have F2_1 := f0.keep Kq2
  have F2_2 := f4.keep Kq2 (ninS (Ne.symm (Exa.neArv f0 f4 (own_w hw 10 rfl))) nin0)
  have Ol2 := X00.keep Kq2 (allS f3 all0)
  have K2 : Keep h0 T2.heap ([a1] : List Addr) := K0.trans Kq2 (allS (Or.inl (List.mem_of_getElem? (i := 0) rfl)) all0)
  refine own_leave X2 hlk (v := none) (fun _ => rfl) (fun fs hr => X2.returnOut hx Bd.returns (hb hby d9_9) hr) (by decide) (by decide) ?_
  show Q_si2_4 Z a1 ab1 kc c1 c2 c3 c4 h0 n0 _ T2.heap _
  exact ⟨t_2, k_2, N_2, vs_2, cd_2, rfl, N2, K2, s_t_2, fq2_0, fq2_1, fq2_2, fq2_3, pq2_0⟩
theorem ef_si6e (m : MethodId) (x0 : Addr) (x1 : Addr) : entryFrame m #[(.ref x0), (.ref x1), (.int 0), (.int 0), .null] 6 = mkF m 0 #[vR x0, vR x1, vI 0, vI 0, .val .null, vU] [] := by
  first | (simp [entryFrame, mkF, argsToLocals, Value.category]; done) | rfl
def Q_si6e (Z : State) (a1 : Addr) (b1 : Addr) (h0 : Heap) (n0 : Nat) (v : Option Value) (h : Heap) (L : List Loc) : Prop := ∃ (t : Addr), ∃ (k : ClassId), v = none ∧ Fr n0 L ∧ Keep h0 h ([a1] : List Addr) ∧ Exa Z h a1 "java/lang/String" ∧ Fld Z h a1 "java/lang/String" "value" "[B" (.ref t) ∧ Fld Z h a1 "java/lang/String" "coder" "B" (.int 0) ∧ Arv Z h t k .byte (0 : Int32) [] (.int 0)
theorem d8_8 : decode jdk_42_method_149_code 8 = .ok (.aload_n 0, 1) := by decide +kernel
theorem d8_9 : decode jdk_42_method_149_code 9 = .ok (.ldc 7, 2) := by decide +kernel
theorem d8_11 : decode jdk_42_method_149_code 11 = .ok (.getfield 9, 3) := by decide +kernel
theorem d8_14 : decode jdk_42_method_149_code 14 = .ok (.putfield 9, 3) := by decide +kernel
theorem d8_17 : decode jdk_42_method_149_code 17 = .ok (.aload_n 0, 1) := by decide +kernel
theorem d8_18 : decode jdk_42_method_149_code 18 = .ok (.ldc 7, 2) := by decide +kernel
theorem d8_20 : decode jdk_42_method_149_code 20 = .ok (.getfield 15, 3) := by decide +kernel
theorem d8_23 : decode jdk_42_method_149_code 23 = .ok (.putfield 15, 3) := by decide +kernel
theorem d8_26 : decode jdk_42_method_149_code 26 = .ok (.return_, 1) := by decide +kernel
set_option maxRecDepth 65536 in
set_option maxHeartbeats 40000000 in
theorem rm_si6e (l : Launch) (Z : State) (a0 : Array Value) (hw : ∀ d ∈ tables_1, d.before a0 Z = true) (ws : List Jvm.Cond) (wG1 : Int32) (wG3 : Value) (cx : OwnCx Z a0 wG1 wG3) (hEL : EW Z a0 consts_1) (h0 : Heap) (n0 : Nat) (X00 : Old Z n0 h0) (a1 : Addr) (b1 : Addr) (f0 : Exa Z h0 a1 "java/lang/String") (f1 : Fld Z h0 a1 "java/lang/String" "value" "[B" .null) (f2 : Fld Z h0 a1 "java/lang/String" "coder" "B" (.int 0)) (f3 : n0 ≤ a1) :
    MetFree l mN8 (head1 (Jvm.Cond.code mN8 jdk_42_method_149_code 6 none :: ws) ({ frames := 1, cells := 4, slots := 8, locals := 12 } : Room)) (fun a U => a = #[(.ref a1), (.ref b1), (.int 0), (.int 0), .null] ∧ Z.Warmed39 U.vm ∧ U.heap = h0 ∧ CHv Z consts_1 U.vm h0) (fun _ _ _ _ _ => True) (fun _ U o U' => ∃ v L, o = .returned v ∧ Q_si6e Z a1 b1 h0 n0 v U'.heap L ∧ CHr Z consts_1 U.vm U.heap U'.vm U'.heap ∧ ReturnedEndW U o U' L ({ frames := 1, cells := 4, slots := 8, locals := 12 } : Room).cells ({ frames := 1, cells := 4, slots := 8, locals := 12 } : Room).slots) := by
  refine MetFree.of_bodySF (plainFor_of_name pn_52039224) hisR ?_
  intro p e s m args below meth c s₁ Bd hml0 hP hK
  obtain ⟨rfl, hZ, hh, hH⟩ := hP
  obtain ⟨wO2, wP5, wO4, wrG3, hstr, wUA, wUH, wUL⟩ := id cx
  have hx := Bd.exec
  have hby := Bd.bytes
  have hlk := Bd.notSynchronized
  have hml : c.maxLocals = 6 := hml0
  have hown : s.vm.findClass "java/lang/String" = some m.cls := findClass_of_methodNamed Bd.named
  have hnm := (name_of_methodNamed Bd.named Bd.method).1
  have X0 : Stand p l e ({ frames := 1, cells := 4, slots := 8, locals := 12 } : Room) (s.setVm s.vm) m #[(.ref a1), (.ref b1), (.int 0), (.int 0), .null] below meth c s₁ [] 0 0 := Stand.of_body Bd
  have e0 : s₁.heap = h0 := by rw [← hh, Bd.state]; rfl
  have N0 := Fr.nil n0
  have Z0 : n0 ≤ h0.size := X00.1 ▸ X00.2.1
  have K0 : Keep h0 h0 ([a1] : List Addr) := Keep.refl _ _
  have R0 : CHr Z consts_1 s.vm h0 s.vm h0 := CHr.refl hH
  have hS0 : s.Since s.vm h0.size := State.WarmedH.since (State.WarmedH.refl s) _
  have hk0 : h0.size ≤ h0.size := Nat.le_refl _
  have Sf0_a1 : Safe Z consts_1 s.vm h0 a1 := (own_safe_null (vm := s.vm) hZ.alike (own_w hw 10 rfl) f0 f1)
  show OwnGoes p e below (fun o U' => ∃ v L, o = .returned v ∧ Q_si6e Z a1 b1 h0 n0 v U'.heap L ∧ CHr Z consts_1 s.vm s.heap U'.vm U'.heap ∧ ReturnedEndW s o U' L ({ frames := 1, cells := 4, slots := 8, locals := 12 } : Room).cells ({ frames := 1, cells := 4, slots := 8, locals := 12 } : Room).slots) s₁ (entryFrame m #[(.ref a1), (.ref b1), (.int 0), (.int 0), .null] 6)
  refine OwnGoes.step (T' := s₁) (g' := (mkF m 0 #[vR a1, vR b1, vI 0, vI 0, .val .null, vU] [])) (fun tgt kgo => castTop (ef_si6e m a1 b1) kgo) ?_
  refine OwnGoes.step (T' := s₁) (g' := (mkF m 1 #[vR a1, vR b1, vI 0, vI 0, .val .null, vU] [(.ref a1)])) (fun tgt kgo => ?_) ?_
  · refine XS.aloadN X0.here hx rfl (hb hby d8_0) rfl rfl ?_
    exact kgo
  obtain ⟨T1, X1, e1, st1⟩ := initO X0 hx hZ hown (own_w hw 20 rfl) (own_w hw 21 rfl) (own_w hw 22 rfl) e0 (g := (mkF m 1 #[vR a1, vR b1, vI 0, vI 0, .val .null, vU] [(.ref a1)])) rfl (by rw [hml]; rfl) rfl (hb hby d8_1) (by decide) (W := 0) (Nat.le_of_eq rfl) (by decide)
  refine OwnGoes.step (T' := T1) (g' := (mkF m 4 #[vR a1, vR b1, vI 0, vI 0, .val .null, vU] [])) st1 ?_
  refine OwnGoes.step (T' := T1) (g' := (mkF m 9 #[vR a1, vR b1, vI 0, vI 0, .val .null, vU] [(.ref a1)])) (fun tgt kgo => ?_) ?_
  · refine XS.iloadN X1.here hx rfl (hb hby d8_4) rfl ?_
    show OwnG p e below T1 m 5 #[vR a1, vR b1, vI 0, vI 0, .val .null, vU] [(.int 0)] tgt
    refine XS.ifNo X1.here hx rfl (hb hby d8_5) rfl ((if0 _ _).trans (teq (by decide : (0 : Int32) = (0 : Int32))).2) ?_
    show OwnG p e below T1 m 8 #[vR a1, vR b1, vI 0, vI 0, .val .null, vU] [] tgt
    refine XS.aloadN X1.here hx rfl (hb hby d8_8) rfl rfl ?_
    exact kgo
  obtain ⟨b2, T2, h2, kk2, t2, k2, X2, e2, E2, hS2, hk2, hZ2, ho2, A2, Fc2, Fv2, V2, lt2, lu2, Rc2, Lt2, ns2, st2⟩ := ldcCH X1 hx hZ hown (own_w hw 23 rfl) hstr e1 hS0 hk0 hEL (by decide) R0.1 (vs := []) (z := (0 : Int32)) (by decide +kernel) (by decide) (by decide +kernel) (g := (mkF m 9 #[vR a1, vR b1, vI 0, vI 0, .val .null, vU] [(.ref a1)])) rfl (hb hby d8_9) (n := 0) (by decide) (by decide) (by decide) (by decide)
  refine OwnGoes.step (T' := T2) (g' := (mkF m 11 #[vR a1, vR b1, vI 0, vI 0, .val .null, vU] [(.ref b2), (.ref a1)])) st2 ?_
  have F2_1 := f0.ext E2
  have F2_2 := f1.ext E2
  have F2_3 := f2.ext E2
  have F2_4 := Rc2.safe f0.lt Sf0_a1
  have Ol2 := X00.ext E2
  have K2 : Keep h0 h2 ([a1] : List Addr) := K0.ext E2
  have R2 := R0.trans Rc2
  have nl2_a1 := ns2 _ F2_4
  obtain ⟨T3, X3, e3, st3⟩ := getF X2 hx hZ2 ho2 (host := "") (Or.inl (own_w hw 29 rfl)) Via.refl e2 Fv2 (g := (mkF m 11 #[vR a1, vR b1, vI 0, vI 0, .val .null, vU] [(.ref b2), (.ref a1)])) rfl rfl (hb hby d8_11)
  refine OwnGoes.step (T' := T3) (g' := (mkF m 14 #[vR a1, vR b1, vI 0, vI 0, .val .null, vU] [(.ref t2), (.ref a1)])) st3 ?_
  obtain ⟨T4, h4, X4, e4, W4, st4⟩ := putF X3 hx hZ2 ho2 (host := "") (Or.inl (own_w hw 29 rfl)) Via.refl e3 F2_2 F2_1 (Or.inr ⟨(own_w hw 25 rfl), rfl, hnm⟩) (own_w hw 10 rfl) (ty := (.array .byte)) (by decide) rfl rfl (g := (mkF m 14 #[vR a1, vR b1, vI 0, vI 0, .val .null, vU] [(.ref t2), (.ref a1)])) rfl rfl (hb hby d8_14)
  refine OwnGoes.step (T' := T4) (g' := (mkF m 17 #[vR a1, vR b1, vI 0, vI 0, .val .null, vU] [])) st4 ?_
  have Fw4 := F2_2.same W4
  have F4_5 := F2_1.wr W4
  have F4_6 := F2_3.other W4 (Or.inr (slot_ne (Or.inr (own_w hw 26 rfl)) (Or.inr (own_w hw 25 rfl)) (by decide) (t := .byte) (t' := (.array .byte)) (by decide) (by decide)))
  have F4_7 := Safe.wr W4 F2_4 R2.1 F2_4
  have F4_8 := A2.wr W4
  have F4_9 := Fc2.other W4 (Or.inl (Ne.symm nl2_a1.1))
  have F4_10 := Fv2.other W4 (Or.inl (Ne.symm nl2_a1.1))
  have F4_11 := V2.other W4 (Ne.symm nl2_a1.2)
  have Ol4 := Ol2.wr W4 f3
  have K4 : Keep h0 h4 ([a1] : List Addr) := K2.wr W4 (Or.inl (List.mem_of_getElem? (i := 0) rfl))
  have R4 := R2.trans (CHr.wr W4 F2_4 R2.1)
  have hk4 := Nat.le_trans hk2 (Keep.of_wr W4).1
  have N4 := Fr.snoc X4 N0 f3
  refine OwnGoes.step (T' := T4) (g' := (mkF m 18 #[vR a1, vR b1, vI 0, vI 0, .val .null, vU] [(.ref a1)])) (fun tgt kgo => ?_) ?_
  · refine XS.aloadN X4.here hx rfl (hb hby d8_17) rfl rfl ?_
    exact kgo
  obtain ⟨b5, T5, h5, kk5, t5, k5, X5, e5, E5, hS5, hk5, hZ5, ho5, A5, Fc5, Fv5, V5, lt5, lu5, Rc5, Lt5, ns5, st5⟩ := ldcCH X4 hx hZ2 ho2 (own_w hw 23 rfl) hstr e4 hS2 hk4 hEL (by decide) R4.1 (vs := []) (z := (0 : Int32)) (by decide +kernel) (by decide) (by decide +kernel) (g := (mkF m 18 #[vR a1, vR b1, vI 0, vI 0, .val .null, vU] [(.ref a1)])) rfl (hb hby d8_18) (n := 0) (by decide) (by decide) (by decide) (by decide)
  refine OwnGoes.step (T' := T5) (g' := (mkF m 20 #[vR a1, vR b1, vI 0, vI 0, .val .null, vU] [(.ref b5), (.ref a1)])) st5 ?_
  have F5_12 := F4_5.ext E5
  have F5_13 := Fw4.ext E5
  have F5_14 := F4_6.ext E5
  have F5_15 := Rc5.safe F4_5.lt F4_7
  have F5_16 := F4_8.ext E5
  have F5_17 := F4_9.ext E5
  have F5_18 := F4_10.ext E5
  have F5_19 := F4_11.ext E5
  have Ol5 := Ol4.ext E5
  have K5 : Keep h0 h5 ([a1] : List Addr) := K4.ext E5
  have R5 := R4.trans Rc5
  have nl5_a1 := ns5 _ F5_15
  obtain ⟨T6, X6, e6, st6⟩ := getF X5 hx hZ5 ho5 (host := "") (Or.inl (own_w hw 30 rfl)) Via.refl e5 Fc5 (g := (mkF m 20 #[vR a1, vR b1, vI 0, vI 0, .val .null, vU] [(.ref b5), (.ref a1)])) rfl rfl (hb hby d8_20)
  refine OwnGoes.step (T' := T6) (g' := (mkF m 23 #[vR a1, vR b1, vI 0, vI 0, .val .null, vU] [(.int 0), (.ref a1)])) st6 ?_
  obtain ⟨T7, h7, X7, e7, W7, st7⟩ := putFN X6 hx hZ5 ho5 (own_w hw 30 rfl) Via.refl e6 F5_14 F5_12 (Or.inr ⟨(own_w hw 26 rfl), rfl, hnm⟩) (own_w hw 10 rfl) (ty := .byte) (v' := (.int (nar .byte (0 : Int32)))) (by decide) rfl (fits_nar_byte _) (g := (mkF m 23 #[vR a1, vR b1, vI 0, vI 0, .val .null, vU] [(.int 0), (.ref a1)])) rfl rfl (hb hby d8_23)
  refine OwnGoes.step (T' := T7) (g' := (mkF m 26 #[vR a1, vR b1, vI 0, vI 0, .val .null, vU] [])) st7 ?_
  have Fw7 := F5_14.same W7
  rw [(by decide : nar .byte (0 : Int32) = (0 : Int32))] at Fw7
  have F7_20 := F5_12.wr W7
  have F7_21 := F5_13.other W7 (Or.inr (slot_ne (Or.inr (own_w hw 25 rfl)) (Or.inr (own_w hw 26 rfl)) (by decide) (t := (.array .byte)) (t' := .byte) (by decide) (by decide)))
  have F7_22 := Safe.wr W7 F5_15 R5.1 F5_15
  have F7_23 := F5_16.wr W7
  have F7_24 := F5_17.other W7 (Or.inl (Ne.symm nl2_a1.1))
  have F7_25 := F5_18.other W7 (Or.inl (Ne.symm nl2_a1.1))
  have F7_26 := F5_19.other W7 (Ne.symm nl2_a1.2)
  have F7_27 := A5.wr W7
  have F7_28 := Fc5.other W7 (Or.inl (Ne.symm nl5_a1.1))
  have F7_29 := Fv5.other W7 (Or.inl (Ne.symm nl5_a1.1))
  have F7_30 := V5.other W7 (Ne.symm nl5_a1.2)
  have Ol7 := Ol5.wr W7 f3
  have K7 : Keep h0 h7 ([a1] : List Addr) := K5.wr W7 (Or.inl (List.mem_of_getElem? (i := 0) rfl))
  have R7 := R5.trans (CHr.wr W7 F5_15 R5.1)
  have hk7 := Nat.le_trans hk5 (Keep.of_wr W7).1
  have N7 := Fr.snoc X7 N4 f3
  refine own_leaveW (Z := Z) (EL := consts_1) X7 hS5 (e7 ▸ hk7) hlk (v := none) (fun _ => rfl) (fun fs hr => X7.returnOut hx Bd.returns (hb hby d8_26) hr) (by decide) (by decide) ?_ ?_
  · rw [hh, e7]
    exact R7.trans (CHv.at X7 hZ5 hEL R7.1)
  show Q_si6e Z a1 b1 h0 n0 _ T7.heap _
  rw [e7]
  exact ⟨t2, k2, rfl, N7, K7, F7_20, F7_21, Fw7, F7_26⟩
theorem ef_si2e (m : MethodId) (x0 : Addr) (x1 : Addr) : entryFrame m #[(.ref x0), (.ref x1)] 2 = mkF m 0 #[vR x0, vR x1] [] := by
  first | (simp [entryFrame, mkF, argsToLocals, Value.category]; done) | rfl
def Q_si2e (Z : State) (a1 : Addr) (b1 : Addr) (kc : ClassId) (h0 : Heap) (n0 : Nat) (v : Option Value) (h : Heap) (L : List Loc) : Prop := ∃ (t : Addr), ∃ (k : ClassId), v = none ∧ Fr n0 L ∧ Keep h0 h ([a1] : List Addr) ∧ Exa Z h a1 "java/lang/String" ∧ Fld Z h a1 "java/lang/String" "value" "[B" (.ref t) ∧ Fld Z h a1 "java/lang/String" "coder" "B" (.int 0) ∧ Arv Z h t k .byte (0 : Int32) [] (.int 0)
set_option maxRecDepth 65536 in
set_option maxHeartbeats 40000000 in
theorem rm_si2e (l : Launch) (Z : State) (a0 : Array Value) (hw : ∀ d ∈ tables_1, d.before a0 Z = true) (ws : List Jvm.Cond) (wG1 : Int32) (wG3 : Value) (cx : OwnCx Z a0 wG1 wG3) (hEL : EW Z a0 consts_1) (h0 : Heap) (n0 : Nat) (X00 : Old Z n0 h0) (a1 : Addr) (b1 : Addr) (kc : ClassId) (f0 : Exa Z h0 a1 "java/lang/String") (f1 : Fld Z h0 a1 "java/lang/String" "value" "[B" .null) (f2 : Fld Z h0 a1 "java/lang/String" "coder" "B" (.int 0)) (f3 : n0 ≤ a1) (f4 : Arv Z h0 b1 kc .char (0 : Int32) [] (.int 0)) :
    MetFree l mN9 (head1 (Jvm.Cond.code mN9 jdk_42_method_3_code 2 none :: ws) ({ frames := 2, cells := 4, slots := 8, locals := 29 } : Room)) (fun a U => a = #[(.ref a1), (.ref b1)] ∧ Z.Warmed39 U.vm ∧ U.heap = h0 ∧ CHv Z consts_1 U.vm h0) (fun _ _ _ _ _ => True) (fun _ U o U' => ∃ v L, o = .returned v ∧ Q_si2e Z a1 b1 kc h0 n0 v U'.heap L ∧ CHr Z consts_1 U.vm U.heap U'.vm U'.heap ∧ ReturnedEndW U o U' L ({ frames := 2, cells := 4, slots := 8, locals := 29 } : Room).cells ({ frames := 2, cells := 4, slots := 8, locals := 29 } : Room).slots) := by
  refine MetFree.of_bodySF (plainFor_of_name pn_52039224) hisR ?_
  intro p e s m args below meth c s₁ Bd hml0 hP hK
  obtain ⟨rfl, hZ, hh, hH⟩ := hP
  obtain ⟨wO2, wP5, wO4, wrG3, hstr, wUA, wUH, wUL⟩ := id cx
  have hx := Bd.exec
  have hby := Bd.bytes
  have hlk := Bd.notSynchronized
  have hml : c.maxLocals = 2 := hml0
  have hown : s.vm.findClass "java/lang/String" = some m.cls := findClass_of_methodNamed Bd.named
  have hnm := (name_of_methodNamed Bd.named Bd.method).1
  have X0 : Stand p l e ({ frames := 2, cells := 4, slots := 8, locals := 29 } : Room) (s.setVm s.vm) m #[(.ref a1), (.ref b1)] below meth c s₁ [] 0 0 := Stand.of_body Bd
  have e0 : s₁.heap = h0 := by rw [← hh, Bd.state]; rfl
  have N0 := Fr.nil n0
  have Z0 : n0 ≤ h0.size := X00.1 ▸ X00.2.1
  have K0 : Keep h0 h0 ([a1] : List Addr) := Keep.refl _ _
  have R0 : CHr Z consts_1 s.vm h0 s.vm h0 := CHr.refl hH
  have hS0 : s.Since s.vm h0.size := State.WarmedH.since (State.WarmedH.refl s) _
  have hk0 : h0.size ≤ h0.size := Nat.le_refl _
  have Sf0_a1 : Safe Z consts_1 s.vm h0 a1 := (own_safe_null (vm := s.vm) hZ.alike (own_w hw 10 rfl) f0 f1)
  show OwnGoes p e below (fun o U' => ∃ v L, o = .returned v ∧ Q_si2e Z a1 b1 kc h0 n0 v U'.heap L ∧ CHr Z consts_1 s.vm s.heap U'.vm U'.heap ∧ ReturnedEndW s o U' L ({ frames := 2, cells := 4, slots := 8, locals := 29 } : Room).cells ({ frames := 2, cells := 4, slots := 8, locals := 29 } : Room).slots) s₁ (entryFrame m #[(.ref a1), (.ref b1)] 2)
  refine OwnGoes.step (T' := s₁) (g' := (mkF m 0 #[vR a1, vR b1] [])) (fun tgt kgo => castTop (ef_si2e m a1 b1) kgo) ?_
  refine OwnGoes.step (T' := s₁) (g' := (mkF m 6 #[vR a1, vR b1] [.null, (.int 0), (.int 0), (.ref b1), (.ref a1)])) (fun tgt kgo => ?_) ?_
  · refine XS.aloadN X0.here hx rfl (hb hby d9_0) rfl rfl ?_
    show OwnG p e below s₁ m 1 #[vR a1, vR b1] [(.ref a1)] tgt
    refine XS.aloadN X0.here hx rfl (hb hby d9_1) rfl rfl ?_
    show OwnG p e below s₁ m 2 #[vR a1, vR b1] [(.ref b1), (.ref a1)] tgt
    refine XS.iconst X0.here hx rfl (hb hby d9_2) ?_
    show OwnG p e below s₁ m 3 #[vR a1, vR b1] [(.int 0), (.ref b1), (.ref a1)] tgt
    refine XS.aloadN X0.here hx rfl (hb hby d9_3) rfl rfl ?_
    show OwnG p e below s₁ m 4 #[vR a1, vR b1] [(.ref b1), (.int 0), (.ref b1), (.ref a1)] tgt
    obtain ⟨cl1, Ar1, q1, S1, M1, -, -⟩ := f4
    refine X0.arraylength hx (by rw [e0]; exact Ar1.1) (State.isArrayOf_alike hZ.alike Ar1.2.1) (g := (mkF m 4 #[vR a1, vR b1] [(.ref b1), (.int 0), (.ref b1), (.ref a1)])) rfl rfl (hb hby d9_4) _ ?_
    rw [len_of S1 M1]
    show OwnG p e below s₁ m 5 #[vR a1, vR b1] [(.int 0), (.int 0), (.ref b1), (.ref a1)] tgt
    refine XS.aconstNull X0.here hx rfl (hb hby d9_5) ?_
    exact kgo
  obtain ⟨_, _, ⟨T2, L2, k2, n2⟩, -, X2, Si2, Gr2, ⟨Lc2, hQ2, l2, y2, z2, Rc2⟩, st2⟩ := X0.specialBackS hx (y := mN8) rfl hown (mvT hZ (own_w hw 16 rfl)) (mvT hZ (own_w hw 17 rfl)) (mvT hZ (own_w hw 19 rfl)) (by decide) (backOfSH (W := 0) (rm_si6e l Z a0 hw [] wG1 wG3 cx hEL h0 n0 X00 a1 b1 f0 f1 f2 f3) hZ (own_w hw 19 rfl) (own_w hw 11 rfl) (by decide) (by decide) hEL R0.1) (g := (mkF m 6 #[vR a1, vR b1] [.null, (.int 0), (.int 0), (.ref b1), (.ref a1)])) rfl (by rw [hml]; rfl) (Steps.refl _) (a := a1) (argsL := [(.ref b1), (.int 0), (.int 0), .null]) (rest := []) (lenOf pd_10261703 rfl) rfl (Nat.le_of_eq rfl) (hb hby d9_6) (fun _ _ => ⟨rfl, e0, (by decide : 0 + 4 ≤ _), (by decide : 0 + 8 ≤ _)⟩)
  dsimp only [Pt.U, Pt.locs, Pt.cells, Pt.slots] at X2 l2 y2 z2 st2 hQ2 Si2 Gr2 Rc2
  subst l2 y2 z2
  obtain ⟨t_2, k_2, rfl, Nq2, Kq2, fq2_0, fq2_1, fq2_2, fq2_3⟩ := hQ2
  refine OwnGoes.tr (T' := T2) (g' := (mkF m 9 #[vR a1, vR b1] [])) st2 ?_
  have N2 := Fr.app N0 Nq2
  have gz2 : h0.size ≤ T2.heap.size := Rc2.2.1
  obtain ⟨X2, hS2, hZ2, ho2⟩ := rebS hS0 hk0 X2 Si2 gz2 hZ hown
  have F2_1 := f0.keep Kq2
  have F2_2 := f4.keep Kq2 (ninS (Ne.symm (Exa.neArv f0 f4 (own_w hw 10 rfl))) nin0)
  have F2_3 := Rc2.safe f0.lt Sf0_a1
  have Ol2 := X00.keep Kq2 (allS f3 all0)
  have K2 : Keep h0 T2.heap ([a1] : List Addr) := K0.trans Kq2 (allS (Or.inl (List.mem_of_getElem? (i := 0) rfl)) all0)
  have R2 := R0.trans Rc2
  refine own_leaveW (Z := Z) (EL := consts_1) X2 hS2 (Nat.le_refl _) hlk (v := none) (fun _ => rfl) (fun fs hr => X2.returnOut hx Bd.returns (hb hby d9_9) hr) (by decide) (by decide) ?_ ?_
  · rw [hh]
    exact R2.trans (CHv.at X2 hZ2 hEL R2.1)
  show Q_si2e Z a1 b1 kc h0 n0 _ T2.heap _
  exact ⟨t_2, k_2, rfl, N2, K2, fq2_0, fq2_1, fq2_2, fq2_3⟩
theorem ef_isl1_0 (m : MethodId) (x0 : Addr) : entryFrame m #[(.ref x0)] 1 = mkF m 0 #[vR x0] [] := by
  first | (simp [entryFrame, mkF, argsToLocals, Value.category]; done) | rfl
def Q_isl1_0 (Z : State) (a1 : Addr) (h0 : Heap) (n0 : Nat) (v : Option Value) (h : Heap) (L : List Loc) : Prop := v = some (.int 1) ∧ Fr n0 L ∧ h = h0
theorem d10_0 : decode jdk_42_method_154_code 0 = .ok (.getstatic 38, 3) := by decide +kernel
theorem d10_3 : decode jdk_42_method_154_code 3 = .ok (.ifCond .eq 14, 3) := by decide +kernel
theorem d10_6 : decode jdk_42_method_154_code 6 = .ok (.aload_n 0, 1) := by decide +kernel
theorem d10_7 : decode jdk_42_method_154_code 7 = .ok (.getfield 15, 3) := by decide +kernel
theorem d10_10 : decode jdk_42_method_154_code 10 = .ok (.ifCond .ne 7, 3) := by decide +kernel
theorem d10_13 : decode jdk_42_method_154_code 13 = .ok (.iconst 1, 1) := by decide +kernel
theorem d10_14 : decode jdk_42_method_154_code 14 = .ok (.goto 4, 3) := by decide +kernel
theorem d10_18 : decode jdk_42_method_154_code 18 = .ok (.ireturn, 1) := by decide +kernel
set_option maxRecDepth 65536 in
set_option maxHeartbeats 40000000 in
theorem rm_isl1_0 (l : Launch) (Z : State) (a0 : Array Value) (hw : ∀ d ∈ tables_1, d.before a0 Z = true) (ws : List Jvm.Cond) (wG1 : Int32) (wG3 : Value) (cx : OwnCx Z a0 wG1 wG3) (hEL : EW Z a0 consts_1) (h0 : Heap) (n0 : Nat) (X00 : Old Z n0 h0) (a1 : Addr) (f0 : Exa Z h0 a1 "java/lang/String") (f1 : Fld Z h0 a1 "java/lang/String" "coder" "B" (.int 0)) :
    MetFree l mN10 (head1 (Jvm.Cond.code mN10 jdk_42_method_154_code 1 (some .boolean) :: ws) ({ frames := 0, cells := 0, slots := 0, locals := 0 } : Room)) (fun a U => a = #[(.ref a1)] ∧ Z.Warmed39 U.vm ∧ U.heap = h0) (fun _ _ _ _ _ => True) (fun _ U o U' => ∃ v L, o = .returned v ∧ Q_isl1_0 Z a1 h0 n0 v U'.heap L ∧ FrameEnd U o U' L ({ frames := 0, cells := 0, slots := 0, locals := 0 } : Room).cells ({ frames := 0, cells := 0, slots := 0, locals := 0 } : Room).slots) := by
  refine MetFree.of_bodySF (plainFor_of_name pn_52039224) hisR ?_
  intro p e s m args below meth c s₁ Bd hml0 hP hK
  obtain ⟨rfl, hZ, hh⟩ := hP
  obtain ⟨wO2, wP5, wO4, wrG3, hstr, wUA, wUH, wUL⟩ := id cx
  have hx := Bd.exec
  have hby := Bd.bytes
  have hlk := Bd.notSynchronized
  have hml : c.maxLocals = 1 := hml0
  have hown : s.vm.findClass "java/lang/String" = some m.cls := findClass_of_methodNamed Bd.named
  have hnm := (name_of_methodNamed Bd.named Bd.method).1
  have X0 : Stand p l e ({ frames := 0, cells := 0, slots := 0, locals := 0 } : Room) s m #[(.ref a1)] below meth c s₁ [] 0 0 := Stand.of_body Bd
  have e0 : s₁.heap = h0 := by rw [← hh, Bd.state]; rfl
  have N0 := Fr.nil n0
  have Z0 : n0 ≤ h0.size := X00.1 ▸ X00.2.1
  have K0 : Keep h0 h0 ([] : List Addr) := Keep.refl _ _
  show OwnGoes p e below (fun o U' => ∃ v L, o = .returned v ∧ Q_isl1_0 Z a1 h0 n0 v U'.heap L ∧ FrameEnd s o U' L ({ frames := 0, cells := 0, slots := 0, locals := 0 } : Room).cells ({ frames := 0, cells := 0, slots := 0, locals := 0 } : Room).slots) s₁ (entryFrame m #[(.ref a1)] 1)
  refine OwnGoes.step (T' := s₁) (g' := (mkF m 0 #[vR a1] [])) (fun tgt kgo => castTop (ef_isl1_0 m a1) kgo) ?_
  obtain ⟨T1, X1, e1, st1⟩ := getS2 X0 hx hZ hown (host := "") (Or.inl (own_w hw 40 rfl)) Via.refl e0 (wO2.ext X00.2) (g := (mkF m 0 #[vR a1] [])) rfl (hb hby d10_0)
  refine OwnGoes.step (T' := T1) (g' := (mkF m 3 #[vR a1] [(.int wG1)])) st1 ?_
  refine OwnGoes.step (T' := T1) (g' := (mkF m 7 #[vR a1] [(.ref a1)])) (fun tgt kgo => ?_) ?_
  · refine XS.ifNo X1.here hx rfl (hb hby d10_3) rfl ((if0 _ _).trans (feq wP5).1) ?_
    show OwnG p e below T1 m 6 #[vR a1] [] tgt
    refine XS.aloadN X1.here hx rfl (hb hby d10_6) rfl rfl ?_
    exact kgo
  obtain ⟨T2, X2, e2, st2⟩ := getF X1 hx hZ hown (host := "") (Or.inl (own_w hw 30 rfl)) Via.refl e1 f1 (g := (mkF m 7 #[vR a1] [(.ref a1)])) rfl rfl (hb hby d10_7)
  refine OwnGoes.step (T' := T2) (g' := (mkF m 10 #[vR a1] [(.int 0)])) st2 ?_
  refine OwnGoes.step (T' := T2) (g' := (mkF m 18 #[vR a1] [(.int 1)])) (fun tgt kgo => ?_) ?_
  · refine XS.ifNo X2.here hx rfl (hb hby d10_10) rfl ((if0 _ _).trans (teq (by decide : (0 : Int32) = (0 : Int32))).2) ?_
    show OwnG p e below T2 m 13 #[vR a1] [] tgt
    refine XS.iconst X2.here hx rfl (hb hby d10_13) ?_
    show OwnG p e below T2 m 14 #[vR a1] [(.int 1)] tgt
    refine XS.goto X2.here hx rfl (pc0 := 14) (pc' := 18) rfl (hb hby d10_14) (by decide) (by decide) ?_
    exact kgo
  refine own_leave X2 hlk (v := some (.int 1)) (fun h => by rw [Bd.returns] at h; cases h) (fun fs hr => retN X2 hx (t := .boolean) Bd.returns (by simp) (hb hby d10_18) (by rw [(by decide : nar .boolean (1 : Int32) = (1 : Int32))]; exact hr)) (by decide) (by decide) ?_
  show Q_isl1_0 Z a1 h0 n0 _ T2.heap _
  rw [e2]
  exact ⟨rfl, N0, rfl⟩
theorem ef_isl1_1 (m : MethodId) (x0 : Addr) : entryFrame m #[(.ref x0)] 1 = mkF m 0 #[vR x0] [] := by
  first | (simp [entryFrame, mkF, argsToLocals, Value.category]; done) | rfl
def Q_isl1_1 (Z : State) (a1 : Addr) (h0 : Heap) (n0 : Nat) (v : Option Value) (h : Heap) (L : List Loc) : Prop := v = some (.int 0) ∧ Fr n0 L ∧ h = h0
theorem d10_17 : decode jdk_42_method_154_code 17 = .ok (.iconst 0, 1) := by decide +kernel
set_option maxRecDepth 65536 in
set_option maxHeartbeats 40000000 in
theorem rm_isl1_1 (l : Launch) (Z : State) (a0 : Array Value) (hw : ∀ d ∈ tables_1, d.before a0 Z = true) (ws : List Jvm.Cond) (wG1 : Int32) (wG3 : Value) (cx : OwnCx Z a0 wG1 wG3) (hEL : EW Z a0 consts_1) (h0 : Heap) (n0 : Nat) (X00 : Old Z n0 h0) (a1 : Addr) (f0 : Exa Z h0 a1 "java/lang/String") (f1 : Fld Z h0 a1 "java/lang/String" "coder" "B" (.int 1)) :
    MetFree l mN10 (head1 (Jvm.Cond.code mN10 jdk_42_method_154_code 1 (some .boolean) :: ws) ({ frames := 0, cells := 0, slots := 0, locals := 0 } : Room)) (fun a U => a = #[(.ref a1)] ∧ Z.Warmed39 U.vm ∧ U.heap = h0) (fun _ _ _ _ _ => True) (fun _ U o U' => ∃ v L, o = .returned v ∧ Q_isl1_1 Z a1 h0 n0 v U'.heap L ∧ FrameEnd U o U' L ({ frames := 0, cells := 0, slots := 0, locals := 0 } : Room).cells ({ frames := 0, cells := 0, slots := 0, locals := 0 } : Room).slots) := by
  refine MetFree.of_bodySF (plainFor_of_name pn_52039224) hisR ?_
  intro p e s m args below meth c s₁ Bd hml0 hP hK
  obtain ⟨rfl, hZ, hh⟩ := hP
  obtain ⟨wO2, wP5, wO4, wrG3, hstr, wUA, wUH, wUL⟩ := id cx
  have hx := Bd.exec
  have hby := Bd.bytes
  have hlk := Bd.notSynchronized
  have hml : c.maxLocals = 1 := hml0
  have hown : s.vm.findClass "java/lang/String" = some m.cls := findClass_of_methodNamed Bd.named
  have hnm := (name_of_methodNamed Bd.named Bd.method).1
  have X0 : Stand p l e ({ frames := 0, cells := 0, slots := 0, locals := 0 } : Room) s m #[(.ref a1)] below meth c s₁ [] 0 0 := Stand.of_body Bd
  have e0 : s₁.heap = h0 := by rw [← hh, Bd.state]; rfl
  have N0 := Fr.nil n0
  have Z0 : n0 ≤ h0.size := X00.1 ▸ X00.2.1
  have K0 : Keep h0 h0 ([] : List Addr) := Keep.refl _ _
  show OwnGoes p e below (fun o U' => ∃ v L, o = .returned v ∧ Q_isl1_1 Z a1 h0 n0 v U'.heap L ∧ FrameEnd s o U' L ({ frames := 0, cells := 0, slots := 0, locals := 0 } : Room).cells ({ frames := 0, cells := 0, slots := 0, locals := 0 } : Room).slots) s₁ (entryFrame m #[(.ref a1)] 1)
  refine OwnGoes.step (T' := s₁) (g' := (mkF m 0 #[vR a1] [])) (fun tgt kgo => castTop (ef_isl1_1 m a1) kgo) ?_
  obtain ⟨T1, X1, e1, st1⟩ := getS2 X0 hx hZ hown (host := "") (Or.inl (own_w hw 40 rfl)) Via.refl e0 (wO2.ext X00.2) (g := (mkF m 0 #[vR a1] [])) rfl (hb hby d10_0)
  refine OwnGoes.step (T' := T1) (g' := (mkF m 3 #[vR a1] [(.int wG1)])) st1 ?_
  refine OwnGoes.step (T' := T1) (g' := (mkF m 7 #[vR a1] [(.ref a1)])) (fun tgt kgo => ?_) ?_
  · refine XS.ifNo X1.here hx rfl (hb hby d10_3) rfl ((if0 _ _).trans (feq wP5).1) ?_
    show OwnG p e below T1 m 6 #[vR a1] [] tgt
    refine XS.aloadN X1.here hx rfl (hb hby d10_6) rfl rfl ?_
    exact kgo
  obtain ⟨T2, X2, e2, st2⟩ := getF X1 hx hZ hown (host := "") (Or.inl (own_w hw 30 rfl)) Via.refl e1 f1 (g := (mkF m 7 #[vR a1] [(.ref a1)])) rfl rfl (hb hby d10_7)
  refine OwnGoes.step (T' := T2) (g' := (mkF m 10 #[vR a1] [(.int 1)])) st2 ?_
  refine OwnGoes.step (T' := T2) (g' := (mkF m 18 #[vR a1] [(.int 0)])) (fun tgt kgo => ?_) ?_
  · refine XS.ifYes X2.here hx rfl (pc0 := 10) (pc' := 17) rfl (hb hby d10_10) rfl ((if0 _ _).trans (feq (by decide : ¬ ((1 : Int32) = (0 : Int32)))).2) (by decide) (by decide) ?_
    show OwnG p e below T2 m 17 #[vR a1] [] tgt
    refine XS.iconst X2.here hx rfl (hb hby d10_17) ?_
    exact kgo
  refine own_leave X2 hlk (v := some (.int 0)) (fun h => by rw [Bd.returns] at h; cases h) (fun fs hr => retN X2 hx (t := .boolean) Bd.returns (by simp) (hb hby d10_18) (by rw [(by decide : nar .boolean (0 : Int32) = (0 : Int32))]; exact hr)) (by decide) (by decide) ?_
  show Q_isl1_1 Z a1 h0 n0 _ T2.heap _
  rw [e2]
  exact ⟨rfl, N0, rfl⟩
theorem ef_pci (m : MethodId) (x0 : Int32) (x1 : Int32) (x2 : Value) (hr_x2 : x2.isRef = true) : entryFrame m #[(.int x0), (.int x1), x2] 3 = mkF m 0 #[vI x0, vI x1, .val x2] [] := by
  cases x2 <;> first | (simp [Value.isRef] at hr_x2; done) | (simp [entryFrame, mkF, argsToLocals, Value.category]; done) | rfl
def Q_pci (Z : State) (i1 : Int32) (nb1 : Int32) (h0 : Heap) (n0 : Nat) (v : Option Value) (h : Heap) (L : List Loc) : Prop := v = some (.int i1) ∧ Fr n0 L ∧ h = h0
theorem pn_82171711 : plainName "jdk/internal/util/Preconditions" = true := by first | (simp [plainName, overriddenIn]; done) | decide +kernel
theorem d11_0 : decode jdk_41_method_11_code 0 = .ok (.iload_n 0, 1) := by decide +kernel
theorem d11_1 : decode jdk_41_method_11_code 1 = .ok (.ifCond .lt 8, 3) := by decide +kernel
theorem d11_4 : decode jdk_41_method_11_code 4 = .ok (.iload_n 0, 1) := by decide +kernel
theorem d11_5 : decode jdk_41_method_11_code 5 = .ok (.iload_n 1, 1) := by decide +kernel
theorem d11_6 : decode jdk_41_method_11_code 6 = .ok (.if_icmp .lt 10, 3) := by decide +kernel
theorem d11_16 : decode jdk_41_method_11_code 16 = .ok (.iload_n 0, 1) := by decide +kernel
theorem d11_17 : decode jdk_41_method_11_code 17 = .ok (.ireturn, 1) := by decide +kernel
set_option maxRecDepth 65536 in
set_option maxHeartbeats 40000000 in
theorem rm_pci (l : Launch) (Z : State) (a0 : Array Value) (hw : ∀ d ∈ tables_1, d.before a0 Z = true) (ws : List Jvm.Cond) (wG1 : Int32) (wG3 : Value) (cx : OwnCx Z a0 wG1 wG3) (hEL : EW Z a0 consts_1) (h0 : Heap) (n0 : Nat) (X00 : Old Z n0 h0) (i1 : Int32) (nb1 : Int32) (hi0 : ¬ (i1 < (0 : Int32))) (hi1 : i1 < nb1) :
    MetFree l mN11 (head1 (Jvm.Cond.code mN11 jdk_41_method_11_code 3 (some .int) :: ws) ({ frames := 0, cells := 0, slots := 0, locals := 0 } : Room)) (fun a U => a = #[(.int i1), (.int nb1), wG3] ∧ Z.Warmed39 U.vm ∧ U.heap = h0) (fun _ _ _ _ _ => True) (fun _ U o U' => ∃ v L, o = .returned v ∧ Q_pci Z i1 nb1 h0 n0 v U'.heap L ∧ FrameEnd U o U' L ({ frames := 0, cells := 0, slots := 0, locals := 0 } : Room).cells ({ frames := 0, cells := 0, slots := 0, locals := 0 } : Room).slots) := by
  refine MetFree.of_bodySF (plainFor_of_name pn_82171711) hisR ?_
  intro p e s m args below meth c s₁ Bd hml0 hP hK
  obtain ⟨rfl, hZ, hh⟩ := hP
  obtain ⟨wO2, wP5, wO4, wrG3, hstr, wUA, wUH, wUL⟩ := id cx
  have hx := Bd.exec
  have hby := Bd.bytes
  have hlk := Bd.notSynchronized
  have hml : c.maxLocals = 3 := hml0
  have hown : s.vm.findClass "jdk/internal/util/Preconditions" = some m.cls := findClass_of_methodNamed Bd.named
  have hnm := (name_of_methodNamed Bd.named Bd.method).1
  have X0 : Stand p l e ({ frames := 0, cells := 0, slots := 0, locals := 0 } : Room) s m #[(.int i1), (.int nb1), wG3] below meth c s₁ [] 0 0 := Stand.of_body Bd
  have e0 : s₁.heap = h0 := by rw [← hh, Bd.state]; rfl
  have N0 := Fr.nil n0
  have Z0 : n0 ≤ h0.size := X00.1 ▸ X00.2.1
  have K0 : Keep h0 h0 ([] : List Addr) := Keep.refl _ _
  show OwnGoes p e below (fun o U' => ∃ v L, o = .returned v ∧ Q_pci Z i1 nb1 h0 n0 v U'.heap L ∧ FrameEnd s o U' L ({ frames := 0, cells := 0, slots := 0, locals := 0 } : Room).cells ({ frames := 0, cells := 0, slots := 0, locals := 0 } : Room).slots) s₁ (entryFrame m #[(.int i1), (.int nb1), wG3] 3)
  refine OwnGoes.step (T' := s₁) (g' := (mkF m 0 #[vI i1, vI nb1, .val wG3] [])) (fun tgt kgo => castTop (ef_pci m i1 nb1 wG3 wrG3) kgo) ?_
  refine OwnGoes.step (T' := s₁) (g' := (mkF m 17 #[vI i1, vI nb1, .val wG3] [(.int i1)])) (fun tgt kgo => ?_) ?_
  · refine XS.iloadN X0.here hx rfl (hb hby d11_0) rfl ?_
    show OwnG p e below s₁ m 1 #[vI i1, vI nb1, .val wG3] [(.int i1)] tgt
    refine XS.ifNo X0.here hx rfl (hb hby d11_1) rfl ((if0 _ _).trans (flt hi0).1) ?_
    show OwnG p e below s₁ m 4 #[vI i1, vI nb1, .val wG3] [] tgt
    refine XS.iloadN X0.here hx rfl (hb hby d11_4) rfl ?_
    show OwnG p e below s₁ m 5 #[vI i1, vI nb1, .val wG3] [(.int i1)] tgt
    refine XS.iloadN X0.here hx rfl (hb hby d11_5) rfl ?_
    show OwnG p e below s₁ m 6 #[vI i1, vI nb1, .val wG3] [(.int nb1), (.int i1)] tgt
    refine XS.icmpYes X0.here hx rfl (pc0 := 6) (pc' := 16) rfl (hb hby d11_6) rfl (tlt hi1).1 (by decide) (by decide) ?_
    show OwnG p e below s₁ m 16 #[vI i1, vI nb1, .val wG3] [] tgt
    refine XS.iloadN X0.here hx rfl (hb hby d11_16) rfl ?_
    exact kgo
  refine own_leave X0 hlk (v := some (.int i1)) (fun h => by rw [Bd.returns] at h; cases h) (fun fs hr => retI X0 hx Bd.returns (hb hby d11_17) hr) (by decide) (by decide) ?_
  show Q_pci Z i1 nb1 h0 n0 _ s₁.heap _
  rw [e0]
  exact ⟨rfl, N0, rfl⟩
theorem ef_sci (m : MethodId) (x0 : Int32) (x1 : Int32) : entryFrame m #[(.int x0), (.int x1)] 2 = mkF m 0 #[vI x0, vI x1] [] := by
  first | (simp [entryFrame, mkF, argsToLocals, Value.category]; done) | rfl
def Q_sci (Z : State) (i1 : Int32) (nb1 : Int32) (h0 : Heap) (n0 : Nat) (v : Option Value) (h : Heap) (L : List Loc) : Prop := v = none ∧ Fr n0 L ∧ h = h0
theorem d12_0 : decode jdk_42_method_155_code 0 = .ok (.iload_n 0, 1) := by decide +kernel
theorem d12_1 : decode jdk_42_method_155_code 1 = .ok (.iload_n 1, 1) := by decide +kernel
theorem d12_2 : decode jdk_42_method_155_code 2 = .ok (.getstatic 1053, 3) := by decide +kernel
theorem d12_5 : decode jdk_42_method_155_code 5 = .ok (.invokestatic 1059, 3) := by decide +kernel
theorem pd_25906315 : parseMethodDescriptor "(IILjava/util/function/BiFunction;)I" = some ⟨[.int, .int, (.object "java/util/function/BiFunction")], some .int⟩ := by decide +kernel
theorem d12_8 : decode jdk_42_method_155_code 8 = .ok (.pop, 1) := by decide +kernel
theorem d12_9 : decode jdk_42_method_155_code 9 = .ok (.return_, 1) := by decide +kernel
set_option maxRecDepth 65536 in
set_option maxHeartbeats 40000000 in
theorem rm_sci (l : Launch) (Z : State) (a0 : Array Value) (hw : ∀ d ∈ tables_1, d.before a0 Z = true) (ws : List Jvm.Cond) (wG1 : Int32) (wG3 : Value) (cx : OwnCx Z a0 wG1 wG3) (hEL : EW Z a0 consts_1) (h0 : Heap) (n0 : Nat) (X00 : Old Z n0 h0) (i1 : Int32) (nb1 : Int32) (hi0 : ¬ (i1 < (0 : Int32))) (hi1 : i1 < nb1) :
    MetFree l mN12 (head1 (Jvm.Cond.code mN12 jdk_42_method_155_code 2 none :: ws) ({ frames := 1, cells := 0, slots := 0, locals := 14 } : Room)) (fun a U => a = #[(.int i1), (.int nb1)] ∧ Z.Warmed39 U.vm ∧ U.heap = h0) (fun _ _ _ _ _ => True) (fun _ U o U' => ∃ v L, o = .returned v ∧ Q_sci Z i1 nb1 h0 n0 v U'.heap L ∧ FrameEnd U o U' L ({ frames := 1, cells := 0, slots := 0, locals := 14 } : Room).cells ({ frames := 1, cells := 0, slots := 0, locals := 14 } : Room).slots) := by
  refine MetFree.of_bodySF (plainFor_of_name pn_52039224) hisR ?_
  intro p e s m args below meth c s₁ Bd hml0 hP hK
  obtain ⟨rfl, hZ, hh⟩ := hP
  obtain ⟨wO2, wP5, wO4, wrG3, hstr, wUA, wUH, wUL⟩ := id cx
  have hx := Bd.exec
  have hby := Bd.bytes
  have hlk := Bd.notSynchronized
  have hml : c.maxLocals = 2 := hml0
  have hown : s.vm.findClass "java/lang/String" = some m.cls := findClass_of_methodNamed Bd.named
  have hnm := (name_of_methodNamed Bd.named Bd.method).1
  have X0 : Stand p l e ({ frames := 1, cells := 0, slots := 0, locals := 14 } : Room) s m #[(.int i1), (.int nb1)] below meth c s₁ [] 0 0 := Stand.of_body Bd
  have e0 : s₁.heap = h0 := by rw [← hh, Bd.state]; rfl
  have N0 := Fr.nil n0
  have Z0 : n0 ≤ h0.size := X00.1 ▸ X00.2.1
  have K0 : Keep h0 h0 ([] : List Addr) := Keep.refl _ _
  show OwnGoes p e below (fun o U' => ∃ v L, o = .returned v ∧ Q_sci Z i1 nb1 h0 n0 v U'.heap L ∧ FrameEnd s o U' L ({ frames := 1, cells := 0, slots := 0, locals := 14 } : Room).cells ({ frames := 1, cells := 0, slots := 0, locals := 14 } : Room).slots) s₁ (entryFrame m #[(.int i1), (.int nb1)] 2)
  refine OwnGoes.step (T' := s₁) (g' := (mkF m 0 #[vI i1, vI nb1] [])) (fun tgt kgo => castTop (ef_sci m i1 nb1) kgo) ?_
  refine OwnGoes.step (T' := s₁) (g' := (mkF m 2 #[vI i1, vI nb1] [(.int nb1), (.int i1)])) (fun tgt kgo => ?_) ?_
  · refine XS.iloadN X0.here hx rfl (hb hby d12_0) rfl ?_
    show OwnG p e below s₁ m 1 #[vI i1, vI nb1] [(.int i1)] tgt
    refine XS.iloadN X0.here hx rfl (hb hby d12_1) rfl ?_
    exact kgo
  obtain ⟨T1, X1, e1, st1⟩ := getS2 X0 hx hZ hown (host := "") (Or.inl (own_w hw 81 rfl)) Via.refl e0 (wO4.ext X00.2) (g := (mkF m 2 #[vI i1, vI nb1] [(.int nb1), (.int i1)])) rfl (hb hby d12_2)
  refine OwnGoes.step (T' := T1) (g' := (mkF m 5 #[vI i1, vI nb1] [wG3, (.int nb1), (.int i1)])) st1 ?_
  obtain ⟨_, _, ⟨T2, L2, k2, n2⟩, -, X2, ⟨Lc2, hQ2, l2, y2, z2⟩, st2⟩ := Jvm.LawKit.callS X1 hx (y := mN11) hown (mvT hZ (own_w hw 83 rfl)) (mvT hZ (own_w hw 84 rfl)) (mvT hZ (own_w hw 82 rfl)) (mvT hZ (own_w hw 85 rfl)) (by decide) (backOf (W := 0) (rm_pci l Z a0 hw [] wG1 wG3 cx hEL h0 n0 X00 i1 nb1 hi0 hi1) hZ (own_w hw 85 rfl) (own_w hw 82 rfl) (by decide) (by decide)) (g := (mkF m 5 #[vI i1, vI nb1] [wG3, (.int nb1), (.int i1)])) rfl (by rw [hml]; rfl) (argsL := [(.int i1), (.int nb1), wG3]) (rest := []) (lenOf pd_25906315 rfl) rfl (Nat.le_of_eq rfl) (hb hby d12_5) (fun _ _ => ⟨rfl, e1, (by decide : 0 + 0 ≤ _), (by decide : 0 + 0 ≤ _)⟩)
  dsimp only [Pt.U, Pt.locs, Pt.cells, Pt.slots] at X2 l2 y2 z2 st2 hQ2
  subst l2 y2 z2
  obtain ⟨rfl, Nq2, eq2⟩ := hQ2
  refine OwnGoes.step (T' := T2) (g' := (mkF m 8 #[vI i1, vI nb1] [(.int i1)])) st2 ?_
  have N2 := Fr.app N0 Nq2
  refine OwnGoes.step (T' := T2) (g' := (mkF m 9 #[vI i1, vI nb1] [])) (fun tgt kgo => ?_) ?_
  · refine XS.pop X2.here hx rfl (hb hby d12_8) rfl rfl ?_
    exact kgo
  refine own_leave X2 hlk (v := none) (fun _ => rfl) (fun fs hr => X2.returnOut hx Bd.returns (hb hby d12_9) hr) (by decide) (by decide) ?_
  show Q_sci Z i1 nb1 h0 n0 _ T2.heap _
  rw [eq2]
  exact ⟨rfl, N2, rfl⟩
theorem ef_u16len (m : MethodId) (x0 : Addr) : entryFrame m #[(.ref x0)] 1 = mkF m 0 #[vR x0] [] := by
  first | (simp [entryFrame, mkF, argsToLocals, Value.category]; done) | rfl
def Q_u16len (Z : State) (tb1 : Addr) (kb1 : ClassId) (nB1 : Int32) (vs1 : List Value) (h0 : Heap) (n0 : Nat) (v : Option Value) (h : Heap) (L : List Loc) : Prop := v = some (.int (nB1 >>> ((1 : Int32) &&& 31))) ∧ Fr n0 L ∧ h = h0
theorem d13_0 : decode jdk_52_method_6_code 0 = .ok (.aload_n 0, 1) := by decide +kernel
theorem d13_1 : decode jdk_52_method_6_code 1 = .ok (.arraylength, 1) := by decide +kernel
theorem d13_2 : decode jdk_52_method_6_code 2 = .ok (.iconst 1, 1) := by decide +kernel
theorem d13_3 : decode jdk_52_method_6_code 3 = .ok (.ishr, 1) := by decide +kernel
theorem d13_4 : decode jdk_52_method_6_code 4 = .ok (.ireturn, 1) := by decide +kernel
set_option maxRecDepth 65536 in
set_option maxHeartbeats 40000000 in
theorem rm_u16len (l : Launch) (Z : State) (a0 : Array Value) (hw : ∀ d ∈ tables_1, d.before a0 Z = true) (ws : List Jvm.Cond) (wG1 : Int32) (wG3 : Value) (cx : OwnCx Z a0 wG1 wG3) (hEL : EW Z a0 consts_1) (h0 : Heap) (n0 : Nat) (X00 : Old Z n0 h0) (tb1 : Addr) (kb1 : ClassId) (nB1 : Int32) (vs1 : List Value) (f0 : Arv Z h0 tb1 kb1 .byte nB1 vs1 (.int 0)) :
    MetFree l mN13 (head1 (Jvm.Cond.code mN13 jdk_52_method_6_code 1 (some .int) :: ws) ({ frames := 0, cells := 0, slots := 0, locals := 0 } : Room)) (fun a U => a = #[(.ref tb1)] ∧ Z.Warmed39 U.vm ∧ U.heap = h0) (fun _ _ _ _ _ => True) (fun _ U o U' => ∃ v L, o = .returned v ∧ Q_u16len Z tb1 kb1 nB1 vs1 h0 n0 v U'.heap L ∧ FrameEnd U o U' L ({ frames := 0, cells := 0, slots := 0, locals := 0 } : Room).cells ({ frames := 0, cells := 0, slots := 0, locals := 0 } : Room).slots) := by
  refine MetFree.of_bodySF (plainFor_of_name pn_68381282) hisR ?_
  intro p e s m args below meth c s₁ Bd hml0 hP hK
  obtain ⟨rfl, hZ, hh⟩ := hP
  obtain ⟨wO2, wP5, wO4, wrG3, hstr, wUA, wUH, wUL⟩ := id cx
  have hx := Bd.exec
  have hby := Bd.bytes
  have hlk := Bd.notSynchronized
  have hml : c.maxLocals = 1 := hml0
  have hown : s.vm.findClass "java/lang/StringUTF16" = some m.cls := findClass_of_methodNamed Bd.named
  have hnm := (name_of_methodNamed Bd.named Bd.method).1
  have X0 : Stand p l e ({ frames := 0, cells := 0, slots := 0, locals := 0 } : Room) s m #[(.ref tb1)] below meth c s₁ [] 0 0 := Stand.of_body Bd
  have e0 : s₁.heap = h0 := by rw [← hh, Bd.state]; rfl
  have N0 := Fr.nil n0
  have Z0 : n0 ≤ h0.size := X00.1 ▸ X00.2.1
  have K0 : Keep h0 h0 ([] : List Addr) := Keep.refl _ _
  show OwnGoes p e below (fun o U' => ∃ v L, o = .returned v ∧ Q_u16len Z tb1 kb1 nB1 vs1 h0 n0 v U'.heap L ∧ FrameEnd s o U' L ({ frames := 0, cells := 0, slots := 0, locals := 0 } : Room).cells ({ frames := 0, cells := 0, slots := 0, locals := 0 } : Room).slots) s₁ (entryFrame m #[(.ref tb1)] 1)
  refine OwnGoes.step (T' := s₁) (g' := (mkF m 0 #[vR tb1] [])) (fun tgt kgo => castTop (ef_u16len m tb1) kgo) ?_
  refine OwnGoes.step (T' := s₁) (g' := (mkF m 4 #[vR tb1] [(.int (nB1 >>> ((1 : Int32) &&& 31)))])) (fun tgt kgo => ?_) ?_
  · refine XS.aloadN X0.here hx rfl (hb hby d13_0) rfl rfl ?_
    show OwnG p e below s₁ m 1 #[vR tb1] [(.ref tb1)] tgt
    obtain ⟨cl1, Ar1, q1, S1, M1, -, -⟩ := f0
    refine X0.arraylength hx (by rw [e0]; exact Ar1.1) (State.isArrayOf_alike hZ.alike Ar1.2.1) (g := (mkF m 1 #[vR tb1] [(.ref tb1)])) rfl rfl (hb hby d13_1) _ ?_
    rw [len_of S1 M1]
    show OwnG p e below s₁ m 2 #[vR tb1] [(.int nB1)] tgt
    refine XS.iconst X0.here hx rfl (hb hby d13_2) ?_
    show OwnG p e below s₁ m 3 #[vR tb1] [(.int 1), (.int nB1)] tgt
    refine XS.ishr X0.here hx rfl (hb hby d13_3) rfl ?_
    exact kgo
  refine own_leave X0 hlk (v := some (.int (nB1 >>> ((1 : Int32) &&& 31)))) (fun h => by rw [Bd.returns] at h; cases h) (fun fs hr => retI X0 hx Bd.returns (hb hby d13_4) hr) (by decide) (by decide) ?_
  show Q_u16len Z tb1 kb1 nB1 vs1 h0 n0 _ s₁.heap _
  rw [e0]
  exact ⟨rfl, N0, rfl⟩
theorem ef_u16ci (m : MethodId) (x0 : Int32) (x1 : Addr) : entryFrame m #[(.int x0), (.ref x1)] 2 = mkF m 0 #[vI x0, vR x1] [] := by
  first | (simp [entryFrame, mkF, argsToLocals, Value.category]; done) | rfl
def Q_u16ci (Z : State) (tb1 : Addr) (kb1 : ClassId) (nB1 : Int32) (vs1 : List Value) (i1 : Int32) (h0 : Heap) (n0 : Nat) (v : Option Value) (h : Heap) (L : List Loc) : Prop := v = none ∧ Fr n0 L ∧ h = h0
theorem d14_0 : decode jdk_52_method_91_code 0 = .ok (.iload_n 0, 1) := by decide +kernel
theorem d14_1 : decode jdk_52_method_91_code 1 = .ok (.aload_n 1, 1) := by decide +kernel
theorem d14_2 : decode jdk_52_method_91_code 2 = .ok (.invokestatic 48, 3) := by decide +kernel
theorem pd_31817994 : parseMethodDescriptor "([B)I" = some ⟨[(.array .byte)], some .int⟩ := by decide +kernel
theorem d14_5 : decode jdk_52_method_91_code 5 = .ok (.invokestatic 414, 3) := by decide +kernel
theorem pd_53897226 : parseMethodDescriptor "(II)V" = some ⟨[.int, .int], none⟩ := by decide +kernel
theorem d14_8 : decode jdk_52_method_91_code 8 = .ok (.return_, 1) := by decide +kernel
set_option maxRecDepth 65536 in
set_option maxHeartbeats 40000000 in
theorem rm_u16ci (l : Launch) (Z : State) (a0 : Array Value) (hw : ∀ d ∈ tables_1, d.before a0 Z = true) (ws : List Jvm.Cond) (wG1 : Int32) (wG3 : Value) (cx : OwnCx Z a0 wG1 wG3) (hEL : EW Z a0 consts_1) (h0 : Heap) (n0 : Nat) (X00 : Old Z n0 h0) (tb1 : Addr) (kb1 : ClassId) (nB1 : Int32) (vs1 : List Value) (i1 : Int32) (f0 : Arv Z h0 tb1 kb1 .byte nB1 vs1 (.int 0)) (hi0 : ¬ (i1 < (0 : Int32))) (hi1 : i1 < (nB1 >>> ((1 : Int32) &&& 31))) :
    MetFree l mN14 (head1 (Jvm.Cond.code mN14 jdk_52_method_91_code 2 none :: ws) ({ frames := 2, cells := 0, slots := 0, locals := 27 } : Room)) (fun a U => a = #[(.int i1), (.ref tb1)] ∧ Z.Warmed39 U.vm ∧ U.heap = h0) (fun _ _ _ _ _ => True) (fun _ U o U' => ∃ v L, o = .returned v ∧ Q_u16ci Z tb1 kb1 nB1 vs1 i1 h0 n0 v U'.heap L ∧ FrameEnd U o U' L ({ frames := 2, cells := 0, slots := 0, locals := 27 } : Room).cells ({ frames := 2, cells := 0, slots := 0, locals := 27 } : Room).slots) := by
  refine MetFree.of_bodySF (plainFor_of_name pn_68381282) hisR ?_
  intro p e s m args below meth c s₁ Bd hml0 hP hK
  obtain ⟨rfl, hZ, hh⟩ := hP
  obtain ⟨wO2, wP5, wO4, wrG3, hstr, wUA, wUH, wUL⟩ := id cx
  have hx := Bd.exec
  have hby := Bd.bytes
  have hlk := Bd.notSynchronized
  have hml : c.maxLocals = 2 := hml0
  have hown : s.vm.findClass "java/lang/StringUTF16" = some m.cls := findClass_of_methodNamed Bd.named
  have hnm := (name_of_methodNamed Bd.named Bd.method).1
  have X0 : Stand p l e ({ frames := 2, cells := 0, slots := 0, locals := 27 } : Room) s m #[(.int i1), (.ref tb1)] below meth c s₁ [] 0 0 := Stand.of_body Bd
  have e0 : s₁.heap = h0 := by rw [← hh, Bd.state]; rfl
  have N0 := Fr.nil n0
  have Z0 : n0 ≤ h0.size := X00.1 ▸ X00.2.1
  have K0 : Keep h0 h0 ([] : List Addr) := Keep.refl _ _
  show OwnGoes p e below (fun o U' => ∃ v L, o = .returned v ∧ Q_u16ci Z tb1 kb1 nB1 vs1 i1 h0 n0 v U'.heap L ∧ FrameEnd s o U' L ({ frames := 2, cells := 0, slots := 0, locals := 27 } : Room).cells ({ frames := 2, cells := 0, slots := 0, locals := 27 } : Room).slots) s₁ (entryFrame m #[(.int i1), (.ref tb1)] 2)
  refine OwnGoes.step (T' := s₁) (g' := (mkF m 0 #[vI i1, vR tb1] [])) (fun tgt kgo => castTop (ef_u16ci m i1 tb1) kgo) ?_
  refine OwnGoes.step (T' := s₁) (g' := (mkF m 2 #[vI i1, vR tb1] [(.ref tb1), (.int i1)])) (fun tgt kgo => ?_) ?_
  · refine XS.iloadN X0.here hx rfl (hb hby d14_0) rfl ?_
    show OwnG p e below s₁ m 1 #[vI i1, vR tb1] [(.int i1)] tgt
    refine XS.aloadN X0.here hx rfl (hb hby d14_1) rfl rfl ?_
    exact kgo
  obtain ⟨_, _, ⟨T1, L1, k1, n1⟩, -, X1, ⟨Lc1, hQ1, l1, y1, z1⟩, st1⟩ := Jvm.LawKit.callS X0 hx (y := mN13) hown (mvT hZ (own_w hw 112 rfl)) (mvT hZ (own_w hw 113 rfl)) (mvT hZ (own_w hw 43 rfl)) (mvT hZ (own_w hw 114 rfl)) (by decide) (backOf (W := 1) (rm_u16len l Z a0 hw [] wG1 wG3 cx hEL h0 n0 X00 tb1 kb1 nB1 vs1 f0) hZ (own_w hw 114 rfl) (own_w hw 43 rfl) (by decide) (by decide)) (g := (mkF m 2 #[vI i1, vR tb1] [(.ref tb1), (.int i1)])) rfl (by rw [hml]; rfl) (argsL := [(.ref tb1)]) (rest := [(.int i1)]) (lenOf pd_31817994 rfl) rfl (Nat.le_of_eq rfl) (hb hby d14_2) (fun _ _ => ⟨rfl, e0, (by decide : 0 + 0 ≤ _), (by decide : 0 + 0 ≤ _)⟩)
  dsimp only [Pt.U, Pt.locs, Pt.cells, Pt.slots] at X1 l1 y1 z1 st1 hQ1
  subst l1 y1 z1
  obtain ⟨rfl, Nq1, eq1⟩ := hQ1
  refine OwnGoes.step (T' := T1) (g' := (mkF m 5 #[vI i1, vR tb1] [(.int (nB1 >>> ((1 : Int32) &&& 31))), (.int i1)])) st1 ?_
  have N1 := Fr.app N0 Nq1
  obtain ⟨_, _, ⟨T2, L2, k2, n2⟩, -, X2, ⟨Lc2, hQ2, l2, y2, z2⟩, st2⟩ := Jvm.LawKit.callS X1 hx (y := mN12) hown (mvT hZ (own_w hw 115 rfl)) (mvT hZ (own_w hw 79 rfl)) (mvT hZ (own_w hw 11 rfl)) (mvT hZ (own_w hw 80 rfl)) (by decide) (backOf (W := 0) (rm_sci l Z a0 hw [] wG1 wG3 cx hEL h0 n0 X00 i1 (nB1 >>> ((1 : Int32) &&& 31)) hi0 hi1) hZ (own_w hw 80 rfl) (own_w hw 11 rfl) (by decide) (by decide)) (g := (mkF m 5 #[vI i1, vR tb1] [(.int (nB1 >>> ((1 : Int32) &&& 31))), (.int i1)])) rfl (by rw [hml]; rfl) (argsL := [(.int i1), (.int (nB1 >>> ((1 : Int32) &&& 31)))]) (rest := []) (lenOf pd_53897226 rfl) rfl (Nat.le_of_eq rfl) (hb hby d14_5) (fun _ _ => ⟨rfl, eq1, (by decide : 0 + 0 ≤ _), (by decide : 0 + 0 ≤ _)⟩)
  dsimp only [Pt.U, Pt.locs, Pt.cells, Pt.slots] at X2 l2 y2 z2 st2 hQ2
  subst l2 y2 z2
  obtain ⟨rfl, Nq2, eq2⟩ := hQ2
  refine OwnGoes.step (T' := T2) (g' := (mkF m 8 #[vI i1, vR tb1] [])) st2 ?_
  have N2 := Fr.app N1 Nq2
  refine own_leave X2 hlk (v := none) (fun _ => rfl) (fun fs hr => X2.returnOut hx Bd.returns (hb hby d14_8) hr) (by decide) (by decide) ?_
  show Q_u16ci Z tb1 kb1 nB1 vs1 i1 h0 n0 _ T2.heap _
  rw [eq2]
  exact ⟨rfl, N2, rfl⟩
theorem ef_u16ch (m : MethodId) (x0 : Addr) (x1 : Int32) : entryFrame m #[(.ref x0), (.int x1)] 2 = mkF m 0 #[vR x0, vI x1] [] := by
  first | (simp [entryFrame, mkF, argsToLocals, Value.category]; done) | rfl
def Q_u16ch (Z : State) (tb1 : Addr) (kb1 : ClassId) (nB1 : Int32) (vs1 : List Value) (i1 : Int32) (c1 : Int32) (h0 : Heap) (n0 : Nat) (v : Option Value) (h : Heap) (L : List Loc) : Prop := v = some (.int c1) ∧ Fr n0 L ∧ h = h0
theorem d15_0 : decode jdk_52_method_83_code 0 = .ok (.iload_n 1, 1) := by decide +kernel
theorem d15_1 : decode jdk_52_method_83_code 1 = .ok (.aload_n 0, 1) := by decide +kernel
theorem d15_2 : decode jdk_52_method_83_code 2 = .ok (.invokestatic 67, 3) := by decide +kernel
theorem pd_93580263 : parseMethodDescriptor "(I[B)V" = some ⟨[.int, (.array .byte)], none⟩ := by decide +kernel
theorem d15_5 : decode jdk_52_method_83_code 5 = .ok (.aload_n 0, 1) := by decide +kernel
theorem d15_6 : decode jdk_52_method_83_code 6 = .ok (.iload_n 1, 1) := by decide +kernel
theorem d15_7 : decode jdk_52_method_83_code 7 = .ok (.invokestatic 71, 3) := by decide +kernel
theorem d15_10 : decode jdk_52_method_83_code 10 = .ok (.ireturn, 1) := by decide +kernel
set_option maxRecDepth 65536 in
set_option maxHeartbeats 40000000 in
theorem rm_u16ch (l : Launch) (Z : State) (a0 : Array Value) (hw : ∀ d ∈ tables_1, d.before a0 Z = true) (ws : List Jvm.Cond) (wG1 : Int32) (wG3 : Value) (cx : OwnCx Z a0 wG1 wG3) (hEL : EW Z a0 consts_1) (h0 : Heap) (n0 : Nat) (X00 : Old Z n0 h0) (tb1 : Addr) (kb1 : ClassId) (nB1 : Int32) (vs1 : List Value) (i1 : Int32) (c1 : Int32) (f0 : Arv Z h0 tb1 kb1 .byte nB1 vs1 (.int 0)) (hi0 : ¬ (i1 < (0 : Int32))) (hi1 : i1 < (nB1 >>> ((1 : Int32) &&& 31))) (hg : OwnGet nB1 vs1 i1 c1) :
    MetFree l mN15 (head1 (Jvm.Cond.code mN15 jdk_52_method_83_code 2 (some .char) :: ws) ({ frames := 3, cells := 0, slots := 0, locals := 40 } : Room)) (fun a U => a = #[(.ref tb1), (.int i1)] ∧ Z.Warmed39 U.vm ∧ U.heap = h0) (fun _ _ _ _ _ => True) (fun _ U o U' => ∃ v L, o = .returned v ∧ Q_u16ch Z tb1 kb1 nB1 vs1 i1 c1 h0 n0 v U'.heap L ∧ FrameEnd U o U' L ({ frames := 3, cells := 0, slots := 0, locals := 40 } : Room).cells ({ frames := 3, cells := 0, slots := 0, locals := 40 } : Room).slots) := by
  refine MetFree.of_bodySF (plainFor_of_name pn_68381282) hisR ?_
  intro p e s m args below meth c s₁ Bd hml0 hP hK
  obtain ⟨rfl, hZ, hh⟩ := hP
  obtain ⟨wO2, wP5, wO4, wrG3, hstr, wUA, wUH, wUL⟩ := id cx
  have hx := Bd.exec
  have hby := Bd.bytes
  have hlk := Bd.notSynchronized
  have hml : c.maxLocals = 2 := hml0
  have hown : s.vm.findClass "java/lang/StringUTF16" = some m.cls := findClass_of_methodNamed Bd.named
  have hnm := (name_of_methodNamed Bd.named Bd.method).1
  have X0 : Stand p l e ({ frames := 3, cells := 0, slots := 0, locals := 40 } : Room) s m #[(.ref tb1), (.int i1)] below meth c s₁ [] 0 0 := Stand.of_body Bd
  have e0 : s₁.heap = h0 := by rw [← hh, Bd.state]; rfl
  have N0 := Fr.nil n0
  have Z0 : n0 ≤ h0.size := X00.1 ▸ X00.2.1
  have K0 : Keep h0 h0 ([] : List Addr) := Keep.refl _ _
  show OwnGoes p e below (fun o U' => ∃ v L, o = .returned v ∧ Q_u16ch Z tb1 kb1 nB1 vs1 i1 c1 h0 n0 v U'.heap L ∧ FrameEnd s o U' L ({ frames := 3, cells := 0, slots := 0, locals := 40 } : Room).cells ({ frames := 3, cells := 0, slots := 0, locals := 40 } : Room).slots) s₁ (entryFrame m #[(.ref tb1), (.int i1)] 2)
  refine OwnGoes.step (T' := s₁) (g' := (mkF m 0 #[vR tb1, vI i1] [])) (fun tgt kgo => castTop (ef_u16ch m tb1 i1) kgo) ?_
  obtain ⟨_, _, _, _, _, hn⟩ := id hg
  refine OwnGoes.step (T' := s₁) (g' := (mkF m 2 #[vR tb1, vI i1] [(.ref tb1), (.int i1)])) (fun tgt kgo => ?_) ?_
  · refine XS.iloadN X0.here hx rfl (hb hby d15_0) rfl ?_
    show OwnG p e below s₁ m 1 #[vR tb1, vI i1] [(.int i1)] tgt
    refine XS.aloadN X0.here hx rfl (hb hby d15_1) rfl rfl ?_
    exact kgo
  obtain ⟨_, _, ⟨T1, L1, k1, n1⟩, -, X1, ⟨Lc1, hQ1, l1, y1, z1⟩, st1⟩ := Jvm.LawKit.callS X0 hx (y := mN14) hown (mvT hZ (own_w hw 109 rfl)) (mvT hZ (own_w hw 110 rfl)) (mvT hZ (own_w hw 43 rfl)) (mvT hZ (own_w hw 111 rfl)) (by decide) (backOf (W := 0) (rm_u16ci l Z a0 hw [] wG1 wG3 cx hEL h0 n0 X00 tb1 kb1 nB1 vs1 i1 f0 hi0 hi1) hZ (own_w hw 111 rfl) (own_w hw 43 rfl) (by decide) (by decide)) (g := (mkF m 2 #[vR tb1, vI i1] [(.ref tb1), (.int i1)])) rfl (by rw [hml]; rfl) (argsL := [(.int i1), (.ref tb1)]) (rest := []) (lenOf pd_93580263 rfl) rfl (Nat.le_of_eq rfl) (hb hby d15_2) (fun _ _ => ⟨rfl, e0, (by decide : 0 + 0 ≤ _), (by decide : 0 + 0 ≤ _)⟩)
  dsimp only [Pt.U, Pt.locs, Pt.cells, Pt.slots] at X1 l1 y1 z1 st1 hQ1
  subst l1 y1 z1
  obtain ⟨rfl, Nq1, eq1⟩ := hQ1
  refine OwnGoes.step (T' := T1) (g' := (mkF m 5 #[vR tb1, vI i1] [])) st1 ?_
  have N1 := Fr.app N0 Nq1
  refine OwnGoes.step (T' := T1) (g' := (mkF m 7 #[vR tb1, vI i1] [(.int i1), (.ref tb1)])) (fun tgt kgo => ?_) ?_
  · refine XS.aloadN X1.here hx rfl (hb hby d15_5) rfl rfl ?_
    show OwnG p e below T1 m 6 #[vR tb1, vI i1] [(.ref tb1)] tgt
    refine XS.iloadN X1.here hx rfl (hb hby d15_6) rfl ?_
    exact kgo
  obtain ⟨_, _, ⟨T2, L2, k2, n2⟩, -, X2, ⟨Lc2, hQ2, l2, y2, z2⟩, st2⟩ := Jvm.LawKit.callS X1 hx (y := mN0) hown (mvT hZ (own_w hw 103 rfl)) (mvT hZ (own_w hw 104 rfl)) (mvT hZ (own_w hw 43 rfl)) (mvT hZ (own_w hw 105 rfl)) (by decide) (backOf (W := 0) (rm_u16get l Z a0 hw [] wG1 wG3 cx hEL h0 n0 X00 tb1 kb1 nB1 vs1 i1 c1 f0 hg) hZ (own_w hw 105 rfl) (own_w hw 43 rfl) (by decide) (by decide)) (g := (mkF m 7 #[vR tb1, vI i1] [(.int i1), (.ref tb1)])) rfl (by rw [hml]; rfl) (argsL := [(.ref tb1), (.int i1)]) (rest := []) (lenOf pd_30427418 rfl) rfl (Nat.le_of_eq rfl) (hb hby d15_7) (fun _ _ => ⟨rfl, eq1, (by decide : 0 + 0 ≤ _), (by decide : 0 + 0 ≤ _)⟩)
  dsimp only [Pt.U, Pt.locs, Pt.cells, Pt.slots] at X2 l2 y2 z2 st2 hQ2
  subst l2 y2 z2
  obtain ⟨rfl, Nq2, eq2⟩ := hQ2
  refine OwnGoes.step (T' := T2) (g' := (mkF m 10 #[vR tb1, vI i1] [(.int c1)])) st2 ?_
  have N2 := Fr.app N1 Nq2
  refine own_leave X2 hlk (v := some (.int c1)) (fun h => by rw [Bd.returns] at h; cases h) (fun fs hr => retN X2 hx (t := .char) Bd.returns (by simp) (hb hby d15_10) (by rw [hn]; exact hr)) (by decide) (by decide) ?_
  show Q_u16ch Z tb1 kb1 nB1 vs1 i1 c1 h0 n0 _ T2.heap _
  rw [eq2]
  exact ⟨rfl, N2, rfl⟩
theorem ef_l1ch (m : MethodId) (x0 : Addr) (x1 : Int32) : entryFrame m #[(.ref x0), (.int x1)] 2 = mkF m 0 #[vR x0, vI x1] [] := by
  first | (simp [entryFrame, mkF, argsToLocals, Value.category]; done) | rfl
def Q_l1ch (Z : State) (tb1 : Addr) (kb1 : ClassId) (nB1 : Int32) (vs1 : List Value) (i1 : Int32) (c1 : Int32) (h0 : Heap) (n0 : Nat) (v : Option Value) (h : Heap) (L : List Loc) : Prop := v = some (.int c1) ∧ Fr n0 L ∧ h = h0
theorem pn_54843740 : plainName "java/lang/StringLatin1" = true := by first | (simp [plainName, overriddenIn]; done) | decide +kernel
theorem d16_0 : decode jdk_43_method_2_code 0 = .ok (.iload_n 1, 1) := by decide +kernel
theorem d16_1 : decode jdk_43_method_2_code 1 = .ok (.aload_n 0, 1) := by decide +kernel
theorem d16_2 : decode jdk_43_method_2_code 2 = .ok (.arraylength, 1) := by decide +kernel
theorem d16_3 : decode jdk_43_method_2_code 3 = .ok (.invokestatic 9, 3) := by decide +kernel
theorem d16_6 : decode jdk_43_method_2_code 6 = .ok (.aload_n 0, 1) := by decide +kernel
theorem d16_7 : decode jdk_43_method_2_code 7 = .ok (.iload_n 1, 1) := by decide +kernel
theorem d16_8 : decode jdk_43_method_2_code 8 = .ok (.baload, 1) := by decide +kernel
theorem d16_9 : decode jdk_43_method_2_code 9 = .ok (.sipush 255, 3) := by decide +kernel
theorem d16_12 : decode jdk_43_method_2_code 12 = .ok (.iand, 1) := by decide +kernel
theorem d16_13 : decode jdk_43_method_2_code 13 = .ok (.i2c, 1) := by decide +kernel
theorem d16_14 : decode jdk_43_method_2_code 14 = .ok (.ireturn, 1) := by decide +kernel
set_option maxRecDepth 65536 in
set_option maxHeartbeats 40000000 in
theorem rm_l1ch (l : Launch) (Z : State) (a0 : Array Value) (hw : ∀ d ∈ tables_1, d.before a0 Z = true) (ws : List Jvm.Cond) (wG1 : Int32) (wG3 : Value) (cx : OwnCx Z a0 wG1 wG3) (hEL : EW Z a0 consts_1) (h0 : Heap) (n0 : Nat) (X00 : Old Z n0 h0) (tb1 : Addr) (kb1 : ClassId) (nB1 : Int32) (vs1 : List Value) (i1 : Int32) (c1 : Int32) (f0 : Arv Z h0 tb1 kb1 .byte nB1 vs1 (.int 0)) (hg : OwnL nB1 vs1 i1 c1) :
    MetFree l mN16 (head1 (Jvm.Cond.code mN16 jdk_43_method_2_code 2 (some .char) :: ws) ({ frames := 2, cells := 0, slots := 0, locals := 27 } : Room)) (fun a U => a = #[(.ref tb1), (.int i1)] ∧ Z.Warmed39 U.vm ∧ U.heap = h0) (fun _ _ _ _ _ => True) (fun _ U o U' => ∃ v L, o = .returned v ∧ Q_l1ch Z tb1 kb1 nB1 vs1 i1 c1 h0 n0 v U'.heap L ∧ FrameEnd U o U' L ({ frames := 2, cells := 0, slots := 0, locals := 27 } : Room).cells ({ frames := 2, cells := 0, slots := 0, locals := 27 } : Room).slots) := by
  refine MetFree.of_bodySF (plainFor_of_name pn_54843740) hisR ?_
  intro p e s m args below meth c s₁ Bd hml0 hP hK
  obtain ⟨rfl, hZ, hh⟩ := hP
  obtain ⟨wO2, wP5, wO4, wrG3, hstr, wUA, wUH, wUL⟩ := id cx
  have hx := Bd.exec
  have hby := Bd.bytes
  have hlk := Bd.notSynchronized
  have hml : c.maxLocals = 2 := hml0
  have hown : s.vm.findClass "java/lang/StringLatin1" = some m.cls := findClass_of_methodNamed Bd.named
  have hnm := (name_of_methodNamed Bd.named Bd.method).1
  have X0 : Stand p l e ({ frames := 2, cells := 0, slots := 0, locals := 27 } : Room) s m #[(.ref tb1), (.int i1)] below meth c s₁ [] 0 0 := Stand.of_body Bd
  have e0 : s₁.heap = h0 := by rw [← hh, Bd.state]; rfl
  have N0 := Fr.nil n0
  have Z0 : n0 ≤ h0.size := X00.1 ▸ X00.2.1
  have K0 : Keep h0 h0 ([] : List Addr) := Keep.refl _ _
  show OwnGoes p e below (fun o U' => ∃ v L, o = .returned v ∧ Q_l1ch Z tb1 kb1 nB1 vs1 i1 c1 h0 n0 v U'.heap L ∧ FrameEnd s o U' L ({ frames := 2, cells := 0, slots := 0, locals := 27 } : Room).cells ({ frames := 2, cells := 0, slots := 0, locals := 27 } : Room).slots) s₁ (entryFrame m #[(.ref tb1), (.int i1)] 2)
  refine OwnGoes.step (T' := s₁) (g' := (mkF m 0 #[vR tb1, vI i1] [])) (fun tgt kgo => castTop (ef_l1ch m tb1 i1) kgo) ?_
  obtain ⟨v0, hi, hv, hp, hn⟩ := hg
  refine OwnGoes.step (T' := s₁) (g' := (mkF m 3 #[vR tb1, vI i1] [(.int nB1), (.int i1)])) (fun tgt kgo => ?_) ?_
  · refine XS.iloadN X0.here hx rfl (hb hby d16_0) rfl ?_
    show OwnG p e below s₁ m 1 #[vR tb1, vI i1] [(.int i1)] tgt
    refine XS.aloadN X0.here hx rfl (hb hby d16_1) rfl rfl ?_
    show OwnG p e below s₁ m 2 #[vR tb1, vI i1] [(.ref tb1), (.int i1)] tgt
    obtain ⟨cl1, Ar1, q1, S1, M1, -, -⟩ := f0
    refine X0.arraylength hx (by rw [e0]; exact Ar1.1) (State.isArrayOf_alike hZ.alike Ar1.2.1) (g := (mkF m 2 #[vR tb1, vI i1] [(.ref tb1), (.int i1)])) rfl rfl (hb hby d16_2) _ ?_
    rw [len_of S1 M1]
    exact kgo
  obtain ⟨_, _, ⟨T2, L2, k2, n2⟩, -, X2, ⟨Lc2, hQ2, l2, y2, z2⟩, st2⟩ := Jvm.LawKit.callS X0 hx (y := mN12) hown (mvT hZ (own_w hw 78 rfl)) (mvT hZ (own_w hw 79 rfl)) (mvT hZ (own_w hw 11 rfl)) (mvT hZ (own_w hw 80 rfl)) (by decide) (backOf (W := 0) (rm_sci l Z a0 hw [] wG1 wG3 cx hEL h0 n0 X00 i1 nB1 hi.1 hi.2) hZ (own_w hw 80 rfl) (own_w hw 11 rfl) (by decide) (by decide)) (g := (mkF m 3 #[vR tb1, vI i1] [(.int nB1), (.int i1)])) rfl (by rw [hml]; rfl) (argsL := [(.int i1), (.int nB1)]) (rest := []) (lenOf pd_53897226 rfl) rfl (Nat.le_of_eq rfl) (hb hby d16_3) (fun _ _ => ⟨rfl, e0, (by decide : 0 + 0 ≤ _), (by decide : 0 + 0 ≤ _)⟩)
  dsimp only [Pt.U, Pt.locs, Pt.cells, Pt.slots] at X2 l2 y2 z2 st2 hQ2
  subst l2 y2 z2
  obtain ⟨rfl, Nq2, eq2⟩ := hQ2
  refine OwnGoes.step (T' := T2) (g' := (mkF m 6 #[vR tb1, vI i1] [])) st2 ?_
  have N2 := Fr.app N0 Nq2
  refine OwnGoes.step (T' := T2) (g' := (mkF m 14 #[vR tb1, vI i1] [(.int (nar .char (v0 &&& (255 : Int32))))])) (fun tgt kgo => ?_) ?_
  · refine XS.aloadN X2.here hx rfl (hb hby d16_6) rfl rfl ?_
    show OwnG p e below T2 m 7 #[vR tb1, vI i1] [(.ref tb1)] tgt
    refine XS.iloadN X2.here hx rfl (hb hby d16_7) rfl ?_
    show OwnG p e below T2 m 8 #[vR tb1, vI i1] [(.int i1), (.ref tb1)] tgt
    obtain ⟨cl3, Ar3, q3, S3, M3, H3, G3⟩ := f0
    refine X2.baloadBytes hx (j := i1) (v := (.int v0)) (by rw [eq2]; exact Ar3.1) (State.isArrayOf_alike hZ.alike Ar3.2.1) Ar3.2.2 (inb_of S3 hi) (Has.at H3 (inb_of S3 hi) hv) (g := (mkF m 8 #[vR tb1, vI i1] [(.int i1), (.ref tb1)])) rfl rfl (hb hby d16_8) _ ?_
    show OwnG p e below T2 m 9 #[vR tb1, vI i1] [(.int v0)] tgt
    refine XS.sipush X2.here hx rfl (hb hby d16_9) ?_
    show OwnG p e below T2 m 12 #[vR tb1, vI i1] [(.int 255), (.int v0)] tgt
    refine XS.iand X2.here hx rfl (hb hby d16_12) rfl ?_
    show OwnG p e below T2 m 13 #[vR tb1, vI i1] [(.int (v0 &&& (255 : Int32)))] tgt
    refine XS.i2c X2.here hx rfl (hb hby d16_13) rfl ?_
    exact kgo
  refine OwnGoes.step (T' := T2) (g' := (mkF m 14 #[vR tb1, vI i1] [(.int c1)])) (fun tgt kgo => castTop (by rw [hp]) kgo) ?_
  refine own_leave X2 hlk (v := some (.int c1)) (fun h => by rw [Bd.returns] at h; cases h) (fun fs hr => retN X2 hx (t := .char) Bd.returns (by simp) (hb hby d16_14) (by rw [hn]; exact hr)) (by decide) (by decide) ?_
  show Q_l1ch Z tb1 kb1 nB1 vs1 i1 c1 h0 n0 _ T2.heap _
  rw [eq2]
  exact ⟨rfl, N2, rfl⟩
theorem ef_chA (m : MethodId) (x0 : Addr) (x1 : Int32) : entryFrame m #[(.ref x0), (.int x1)] 2 = mkF m 0 #[vR x0, vI x1] [] := by
  first | (simp [entryFrame, mkF, argsToLocals, Value.category]; done) | rfl
def Q_chA (Z : State) (a1 : Addr) (cd1 : Int32) (tb1 : Addr) (kb1 : ClassId) (nB1 : Int32) (vs1 : List Value) (i1 : Int32) (c1 : Int32) (h0 : Heap) (n0 : Nat) (v : Option Value) (h : Heap) (L : List Loc) : Prop := v = some (.int c1) ∧ Fr n0 L ∧ h = h0
theorem d17_0 : decode jdk_42_method_56_code 0 = .ok (.aload_n 0, 1) := by decide +kernel
theorem d17_1 : decode jdk_42_method_56_code 1 = .ok (.invokevirtual 492, 3) := by decide +kernel
theorem pd_15861835 : parseMethodDescriptor "()Z" = some ⟨[], some .boolean⟩ := by decide +kernel
theorem d17_4 : decode jdk_42_method_56_code 4 = .ok (.ifCond .eq 12, 3) := by decide +kernel
theorem d17_7 : decode jdk_42_method_56_code 7 = .ok (.aload_n 0, 1) := by decide +kernel
theorem d17_8 : decode jdk_42_method_56_code 8 = .ok (.getfield 9, 3) := by decide +kernel
theorem d17_11 : decode jdk_42_method_56_code 11 = .ok (.iload_n 1, 1) := by decide +kernel
theorem d17_12 : decode jdk_42_method_56_code 12 = .ok (.invokestatic 495, 3) := by decide +kernel
theorem d17_15 : decode jdk_42_method_56_code 15 = .ok (.ireturn, 1) := by decide +kernel
theorem d17_16 : decode jdk_42_method_56_code 16 = .ok (.aload_n 0, 1) := by decide +kernel
theorem d17_17 : decode jdk_42_method_56_code 17 = .ok (.getfield 9, 3) := by decide +kernel
theorem d17_20 : decode jdk_42_method_56_code 20 = .ok (.iload_n 1, 1) := by decide +kernel
theorem d17_21 : decode jdk_42_method_56_code 21 = .ok (.invokestatic 498, 3) := by decide +kernel
theorem d17_24 : decode jdk_42_method_56_code 24 = .ok (.ireturn, 1) := by decide +kernel
set_option maxRecDepth 65536 in
set_option maxHeartbeats 40000000 in
theorem rm_chA (l : Launch) (Z : State) (a0 : Array Value) (hw : ∀ d ∈ tables_1, d.before a0 Z = true) (ws : List Jvm.Cond) (wG1 : Int32) (wG3 : Value) (cx : OwnCx Z a0 wG1 wG3) (hEL : EW Z a0 consts_1) (h0 : Heap) (n0 : Nat) (X00 : Old Z n0 h0) (a1 : Addr) (cd1 : Int32) (tb1 : Addr) (kb1 : ClassId) (nB1 : Int32) (vs1 : List Value) (i1 : Int32) (c1 : Int32) (f0 : Exa Z h0 a1 "java/lang/String") (f1 : Fld Z h0 a1 "java/lang/String" "value" "[B" (.ref tb1)) (f2 : Fld Z h0 a1 "java/lang/String" "coder" "B" (.int cd1)) (f3 : Arv Z h0 tb1 kb1 .byte nB1 vs1 (.int 0)) (hch : OwnCh cd1 nB1 vs1 i1 c1) :
    MetFree l mN17 (head1 (Jvm.Cond.code mN17 jdk_42_method_56_code 2 (some .char) :: ws) ({ frames := 4, cells := 0, slots := 0, locals := 53 } : Room)) (fun a U => a = #[(.ref a1), (.int i1)] ∧ Z.Warmed39 U.vm ∧ U.heap = h0) (fun _ _ _ _ _ => True) (fun _ U o U' => ∃ v L, o = .returned v ∧ Q_chA Z a1 cd1 tb1 kb1 nB1 vs1 i1 c1 h0 n0 v U'.heap L ∧ FrameEnd U o U' L ({ frames := 4, cells := 0, slots := 0, locals := 53 } : Room).cells ({ frames := 4, cells := 0, slots := 0, locals := 53 } : Room).slots) := by
  refine MetFree.of_bodySF (plainFor_of_name pn_52039224) hisR ?_
  intro p e s m args below meth c s₁ Bd hml0 hP hK
  obtain ⟨rfl, hZ, hh⟩ := hP
  obtain ⟨wO2, wP5, wO4, wrG3, hstr, wUA, wUH, wUL⟩ := id cx
  have hx := Bd.exec
  have hby := Bd.bytes
  have hlk := Bd.notSynchronized
  have hml : c.maxLocals = 2 := hml0
  have hown : s.vm.findClass "java/lang/String" = some m.cls := findClass_of_methodNamed Bd.named
  have hnm := (name_of_methodNamed Bd.named Bd.method).1
  have X0 : Stand p l e ({ frames := 4, cells := 0, slots := 0, locals := 53 } : Room) s m #[(.ref a1), (.int i1)] below meth c s₁ [] 0 0 := Stand.of_body Bd
  have e0 : s₁.heap = h0 := by rw [← hh, Bd.state]; rfl
  have N0 := Fr.nil n0
  have Z0 : n0 ≤ h0.size := X00.1 ▸ X00.2.1
  have K0 : Keep h0 h0 ([] : List Addr) := Keep.refl _ _
  show OwnGoes p e below (fun o U' => ∃ v L, o = .returned v ∧ Q_chA Z a1 cd1 tb1 kb1 nB1 vs1 i1 c1 h0 n0 v U'.heap L ∧ FrameEnd s o U' L ({ frames := 4, cells := 0, slots := 0, locals := 53 } : Room).cells ({ frames := 4, cells := 0, slots := 0, locals := 53 } : Room).slots) s₁ (entryFrame m #[(.ref a1), (.int i1)] 2)
  refine OwnGoes.step (T' := s₁) (g' := (mkF m 0 #[vR a1, vI i1] [])) (fun tgt kgo => castTop (ef_chA m a1 i1) kgo) ?_
  rcases hch with ⟨rfl, hg⟩ | ⟨rfl, hi, hg⟩
  · skip
    obtain ⟨_, _, _, _, hn⟩ := id hg
    refine OwnGoes.step (T' := s₁) (g' := (mkF m 1 #[vR a1, vI i1] [(.ref a1)])) (fun tgt kgo => ?_) ?_
    · refine XS.aloadN X0.here hx rfl (hb hby d17_0) rfl rfl ?_
      exact kgo
    obtain ⟨cq1, kq1, q1a, q1b, q1c⟩ := isOf (s := s) hZ e0 f0
    obtain ⟨_, _, ⟨T1, L1, k1, n1⟩, -, X1, ⟨Lc1, hQ1, l1, y1, z1⟩, st1⟩ := X0.virtualBack hx (y := mN10) (z := mN10) hown (mvT hZ (own_w hw 69 rfl)) (mvT hZ (own_w hw 70 rfl)) (notFace_of_selects (args := #[]) (mvT hZ (own_w hw 72 rfl))) (mvT hZ (own_w hw 72 rfl)) (mvT hZ (own_w hw 71 rfl)) (by decide) (backOf (W := 0) (rm_isl1_0 l Z a0 hw [] wG1 wG3 cx hEL h0 n0 X00 a1 f0 f2) hZ (own_w hw 73 rfl) (own_w hw 11 rfl) (by decide) (by decide)) q1a q1c (g := (mkF m 1 #[vR a1, vI i1] [(.ref a1)])) rfl (by rw [hml]; rfl) (Steps.refl _) (argsL := []) (rest := []) (lenOf pd_15861835 rfl) rfl (Nat.le_of_eq rfl) (hb hby d17_1) (fun _ _ => ⟨rfl, e0, (by decide : 0 + 0 ≤ _), (by decide : 0 + 0 ≤ _)⟩)
    dsimp only [Pt.U, Pt.locs, Pt.cells, Pt.slots] at X1 l1 y1 z1 st1 hQ1
    subst l1 y1 z1
    obtain ⟨rfl, Nq1, eq1⟩ := hQ1
    refine OwnGoes.tr (T' := T1) (g' := (mkF m 4 #[vR a1, vI i1] [(.int 1)])) st1 ?_
    have N1 := Fr.app N0 Nq1
    refine OwnGoes.step (T' := T1) (g' := (mkF m 8 #[vR a1, vI i1] [(.ref a1)])) (fun tgt kgo => ?_) ?_
    · refine XS.ifNo X1.here hx rfl (hb hby d17_4) rfl ((if0 _ _).trans (feq (by decide : ¬ ((1 : Int32) = (0 : Int32)))).1) ?_
      show OwnG p e below T1 m 7 #[vR a1, vI i1] [] tgt
      refine XS.aloadN X1.here hx rfl (hb hby d17_7) rfl rfl ?_
      exact kgo
    obtain ⟨T2, X2, e2, st2⟩ := getF X1 hx hZ hown (host := "") (Or.inl (own_w hw 29 rfl)) Via.refl eq1 f1 (g := (mkF m 8 #[vR a1, vI i1] [(.ref a1)])) rfl rfl (hb hby d17_8)
    refine OwnGoes.step (T' := T2) (g' := (mkF m 11 #[vR a1, vI i1] [(.ref tb1)])) st2 ?_
    refine OwnGoes.step (T' := T2) (g' := (mkF m 12 #[vR a1, vI i1] [(.int i1), (.ref tb1)])) (fun tgt kgo => ?_) ?_
    · refine XS.iloadN X2.here hx rfl (hb hby d17_11) rfl ?_
      exact kgo
    obtain ⟨_, _, ⟨T3, L3, k3, n3⟩, -, X3, ⟨Lc3, hQ3, l3, y3, z3⟩, st3⟩ := Jvm.LawKit.callS X2 hx (y := mN16) hown (mvT hZ (own_w hw 74 rfl)) (mvT hZ (own_w hw 75 rfl)) (mvT hZ (own_w hw 76 rfl)) (mvT hZ (own_w hw 77 rfl)) (by decide) (backOf (W := 0) (rm_l1ch l Z a0 hw [] wG1 wG3 cx hEL h0 n0 X00 tb1 kb1 nB1 vs1 i1 c1 f3 hg) hZ (own_w hw 77 rfl) (own_w hw 76 rfl) (by decide) (by decide)) (g := (mkF m 12 #[vR a1, vI i1] [(.int i1), (.ref tb1)])) rfl (by rw [hml]; rfl) (argsL := [(.ref tb1), (.int i1)]) (rest := []) (lenOf pd_30427418 rfl) rfl (Nat.le_of_eq rfl) (hb hby d17_12) (fun _ _ => ⟨rfl, e2, (by decide : 0 + 0 ≤ _), (by decide : 0 + 0 ≤ _)⟩)
    dsimp only [Pt.U, Pt.locs, Pt.cells, Pt.slots] at X3 l3 y3 z3 st3 hQ3
    subst l3 y3 z3
    obtain ⟨rfl, Nq3, eq3⟩ := hQ3
    refine OwnGoes.step (T' := T3) (g' := (mkF m 15 #[vR a1, vI i1] [(.int c1)])) st3 ?_
    have N3 := Fr.app N1 Nq3
    refine own_leave X3 hlk (v := some (.int c1)) (fun h => by rw [Bd.returns] at h; cases h) (fun fs hr => retN X3 hx (t := .char) Bd.returns (by simp) (hb hby d17_15) (by rw [hn]; exact hr)) (by decide) (by decide) ?_
    show Q_chA Z a1 (0 : Int32) tb1 kb1 nB1 vs1 i1 c1 h0 n0 _ T3.heap _
    rw [eq3]
    exact ⟨rfl, N3, rfl⟩
  obtain ⟨_, _, _, _, _, hn⟩ := id hg
  refine OwnGoes.step (T' := s₁) (g' := (mkF m 1 #[vR a1, vI i1] [(.ref a1)])) (fun tgt kgo => ?_) ?_
  · refine XS.aloadN X0.here hx rfl (hb hby d17_0) rfl rfl ?_
    exact kgo
  obtain ⟨cq5, kq5, q5a, q5b, q5c⟩ := isOf (s := s) hZ e0 f0
  obtain ⟨_, _, ⟨T5, L5, k5, n5⟩, -, X5, ⟨Lc5, hQ5, l5, y5, z5⟩, st5⟩ := X0.virtualBack hx (y := mN10) (z := mN10) hown (mvT hZ (own_w hw 69 rfl)) (mvT hZ (own_w hw 70 rfl)) (notFace_of_selects (args := #[]) (mvT hZ (own_w hw 72 rfl))) (mvT hZ (own_w hw 72 rfl)) (mvT hZ (own_w hw 71 rfl)) (by decide) (backOf (W := 0) (rm_isl1_1 l Z a0 hw [] wG1 wG3 cx hEL h0 n0 X00 a1 f0 f2) hZ (own_w hw 73 rfl) (own_w hw 11 rfl) (by decide) (by decide)) q5a q5c (g := (mkF m 1 #[vR a1, vI i1] [(.ref a1)])) rfl (by rw [hml]; rfl) (Steps.refl _) (argsL := []) (rest := []) (lenOf pd_15861835 rfl) rfl (Nat.le_of_eq rfl) (hb hby d17_1) (fun _ _ => ⟨rfl, e0, (by decide : 0 + 0 ≤ _), (by decide : 0 + 0 ≤ _)⟩)
  dsimp only [Pt.U, Pt.locs, Pt.cells, Pt.slots] at X5 l5 y5 z5 st5 hQ5
  subst l5 y5 z5
  obtain ⟨rfl, Nq5, eq5⟩ := hQ5
  refine OwnGoes.tr (T' := T5) (g' := (mkF m 4 #[vR a1, vI i1] [(.int 0)])) st5 ?_
  have N5 := Fr.app N0 Nq5
  refine OwnGoes.step (T' := T5) (g' := (mkF m 17 #[vR a1, vI i1] [(.ref a1)])) (fun tgt kgo => ?_) ?_
  · refine XS.ifYes X5.here hx rfl (pc0 := 4) (pc' := 16) rfl (hb hby d17_4) rfl ((if0 _ _).trans (teq (by decide : (0 : Int32) = (0 : Int32))).1) (by decide) (by decide) ?_
    show OwnG p e below T5 m 16 #[vR a1, vI i1] [] tgt
    refine XS.aloadN X5.here hx rfl (hb hby d17_16) rfl rfl ?_
    exact kgo
  obtain ⟨T6, X6, e6, st6⟩ := getF X5 hx hZ hown (host := "") (Or.inl (own_w hw 29 rfl)) Via.refl eq5 f1 (g := (mkF m 17 #[vR a1, vI i1] [(.ref a1)])) rfl rfl (hb hby d17_17)
  refine OwnGoes.step (T' := T6) (g' := (mkF m 20 #[vR a1, vI i1] [(.ref tb1)])) st6 ?_
  refine OwnGoes.step (T' := T6) (g' := (mkF m 21 #[vR a1, vI i1] [(.int i1), (.ref tb1)])) (fun tgt kgo => ?_) ?_
  · refine XS.iloadN X6.here hx rfl (hb hby d17_20) rfl ?_
    exact kgo
  obtain ⟨_, _, ⟨T7, L7, k7, n7⟩, -, X7, ⟨Lc7, hQ7, l7, y7, z7⟩, st7⟩ := Jvm.LawKit.callS X6 hx (y := mN15) hown (mvT hZ (own_w hw 106 rfl)) (mvT hZ (own_w hw 107 rfl)) (mvT hZ (own_w hw 43 rfl)) (mvT hZ (own_w hw 108 rfl)) (by decide) (backOf (W := 0) (rm_u16ch l Z a0 hw [] wG1 wG3 cx hEL h0 n0 X00 tb1 kb1 nB1 vs1 i1 c1 f3 hi.1 hi.2 hg) hZ (own_w hw 108 rfl) (own_w hw 43 rfl) (by decide) (by decide)) (g := (mkF m 21 #[vR a1, vI i1] [(.int i1), (.ref tb1)])) rfl (by rw [hml]; rfl) (argsL := [(.ref tb1), (.int i1)]) (rest := []) (lenOf pd_30427418 rfl) rfl (Nat.le_of_eq rfl) (hb hby d17_21) (fun _ _ => ⟨rfl, e6, (by decide : 0 + 0 ≤ _), (by decide : 0 + 0 ≤ _)⟩)
  dsimp only [Pt.U, Pt.locs, Pt.cells, Pt.slots] at X7 l7 y7 z7 st7 hQ7
  subst l7 y7 z7
  obtain ⟨rfl, Nq7, eq7⟩ := hQ7
  refine OwnGoes.step (T' := T7) (g' := (mkF m 24 #[vR a1, vI i1] [(.int c1)])) st7 ?_
  have N7 := Fr.app N5 Nq7
  refine own_leave X7 hlk (v := some (.int c1)) (fun h => by rw [Bd.returns] at h; cases h) (fun fs hr => retN X7 hx (t := .char) Bd.returns (by simp) (hb hby d17_24) (by rw [hn]; exact hr)) (by decide) (by decide) ?_
  show Q_chA Z a1 (1 : Int32) tb1 kb1 nB1 vs1 i1 c1 h0 n0 _ T7.heap _
  rw [eq7]
  exact ⟨rfl, N7, rfl⟩
theorem ef_coder (m : MethodId) (x0 : Addr) : entryFrame m #[(.ref x0)] 1 = mkF m 0 #[vR x0] [] := by
  first | (simp [entryFrame, mkF, argsToLocals, Value.category]; done) | rfl
def Q_coder (Z : State) (a1 : Addr) (cd1 : Int32) (h0 : Heap) (n0 : Nat) (v : Option Value) (h : Heap) (L : List Loc) : Prop := v = some (.int cd1) ∧ Fr n0 L ∧ h = h0
theorem d18_0 : decode jdk_42_method_152_code 0 = .ok (.getstatic 38, 3) := by decide +kernel
theorem d18_3 : decode jdk_42_method_152_code 3 = .ok (.ifCond .eq 10, 3) := by decide +kernel
theorem d18_6 : decode jdk_42_method_152_code 6 = .ok (.aload_n 0, 1) := by decide +kernel
theorem d18_7 : decode jdk_42_method_152_code 7 = .ok (.getfield 15, 3) := by decide +kernel
theorem d18_10 : decode jdk_42_method_152_code 10 = .ok (.goto 4, 3) := by decide +kernel
theorem d18_14 : decode jdk_42_method_152_code 14 = .ok (.ireturn, 1) := by decide +kernel
set_option maxRecDepth 65536 in
set_option maxHeartbeats 40000000 in
theorem rm_coder (l : Launch) (Z : State) (a0 : Array Value) (hw : ∀ d ∈ tables_1, d.before a0 Z = true) (ws : List Jvm.Cond) (wG1 : Int32) (wG3 : Value) (cx : OwnCx Z a0 wG1 wG3) (hEL : EW Z a0 consts_1) (h0 : Heap) (n0 : Nat) (X00 : Old Z n0 h0) (a1 : Addr) (cd1 : Int32) (f0 : Exa Z h0 a1 "java/lang/String") (f1 : Fld Z h0 a1 "java/lang/String" "coder" "B" (.int cd1)) (hnb : nar .byte cd1 = cd1) :
    MetFree l mN18 (head1 (Jvm.Cond.code mN18 jdk_42_method_152_code 1 (some .byte) :: ws) ({ frames := 0, cells := 0, slots := 0, locals := 0 } : Room)) (fun a U => a = #[(.ref a1)] ∧ Z.Warmed39 U.vm ∧ U.heap = h0) (fun _ _ _ _ _ => True) (fun _ U o U' => ∃ v L, o = .returned v ∧ Q_coder Z a1 cd1 h0 n0 v U'.heap L ∧ FrameEnd U o U' L ({ frames := 0, cells := 0, slots := 0, locals := 0 } : Room).cells ({ frames := 0, cells := 0, slots := 0, locals := 0 } : Room).slots) := by
  refine MetFree.of_bodySF (plainFor_of_name pn_52039224) hisR ?_
  intro p e s m args below meth c s₁ Bd hml0 hP hK
  obtain ⟨rfl, hZ, hh⟩ := hP
  obtain ⟨wO2, wP5, wO4, wrG3, hstr, wUA, wUH, wUL⟩ := id cx
  have hx := Bd.exec
  have hby := Bd.bytes
  have hlk := Bd.notSynchronized
  have hml : c.maxLocals = 1 := hml0
  have hown : s.vm.findClass "java/lang/String" = some m.cls := findClass_of_methodNamed Bd.named
  have hnm := (name_of_methodNamed Bd.named Bd.method).1
  have X0 : Stand p l e ({ frames := 0, cells := 0, slots := 0, locals := 0 } : Room) s m #[(.ref a1)] below meth c s₁ [] 0 0 := Stand.of_body Bd
  have e0 : s₁.heap = h0 := by rw [← hh, Bd.state]; rfl
  have N0 := Fr.nil n0
  have Z0 : n0 ≤ h0.size := X00.1 ▸ X00.2.1
  have K0 : Keep h0 h0 ([] : List Addr) := Keep.refl _ _
  show OwnGoes p e below (fun o U' => ∃ v L, o = .returned v ∧ Q_coder Z a1 cd1 h0 n0 v U'.heap L ∧ FrameEnd s o U' L ({ frames := 0, cells := 0, slots := 0, locals := 0 } : Room).cells ({ frames := 0, cells := 0, slots := 0, locals := 0 } : Room).slots) s₁ (entryFrame m #[(.ref a1)] 1)
  refine OwnGoes.step (T' := s₁) (g' := (mkF m 0 #[vR a1] [])) (fun tgt kgo => castTop (ef_coder m a1) kgo) ?_
  obtain ⟨T1, X1, e1, st1⟩ := getS2 X0 hx hZ hown (host := "") (Or.inl (own_w hw 40 rfl)) Via.refl e0 (wO2.ext X00.2) (g := (mkF m 0 #[vR a1] [])) rfl (hb hby d18_0)
  refine OwnGoes.step (T' := T1) (g' := (mkF m 3 #[vR a1] [(.int wG1)])) st1 ?_
  refine OwnGoes.step (T' := T1) (g' := (mkF m 7 #[vR a1] [(.ref a1)])) (fun tgt kgo => ?_) ?_
  · refine XS.ifNo X1.here hx rfl (hb hby d18_3) rfl ((if0 _ _).trans (feq wP5).1) ?_
    show OwnG p e below T1 m 6 #[vR a1] [] tgt
    refine XS.aloadN X1.here hx rfl (hb hby d18_6) rfl rfl ?_
    exact kgo
  obtain ⟨T2, X2, e2, st2⟩ := getF X1 hx hZ hown (host := "") (Or.inl (own_w hw 30 rfl)) Via.refl e1 f1 (g := (mkF m 7 #[vR a1] [(.ref a1)])) rfl rfl (hb hby d18_7)
  refine OwnGoes.step (T' := T2) (g' := (mkF m 10 #[vR a1] [(.int cd1)])) st2 ?_
  refine OwnGoes.step (T' := T2) (g' := (mkF m 14 #[vR a1] [(.int cd1)])) (fun tgt kgo => ?_) ?_
  · refine XS.goto X2.here hx rfl (pc0 := 10) (pc' := 14) rfl (hb hby d18_10) (by decide) (by decide) ?_
    exact kgo
  refine own_leave X2 hlk (v := some (.int cd1)) (fun h => by rw [Bd.returns] at h; cases h) (fun fs hr => retN X2 hx (t := .byte) Bd.returns (by simp) (hb hby d18_14) (by rw [hnb]; exact hr)) (by decide) (by decide) ?_
  show Q_coder Z a1 cd1 h0 n0 _ T2.heap _
  rw [e2]
  exact ⟨rfl, N0, rfl⟩
theorem ef_lenA (m : MethodId) (x0 : Addr) : entryFrame m #[(.ref x0)] 1 = mkF m 0 #[vR x0] [] := by
  first | (simp [entryFrame, mkF, argsToLocals, Value.category]; done) | rfl
def Q_lenA (Z : State) (a1 : Addr) (cd1 : Int32) (ln1 : Int32) (tb1 : Addr) (kb1 : ClassId) (nB1 : Int32) (vs1 : List Value) (h0 : Heap) (n0 : Nat) (v : Option Value) (h : Heap) (L : List Loc) : Prop := v = some (.int ln1) ∧ Fr n0 L ∧ h = h0
theorem d19_0 : decode jdk_42_method_54_code 0 = .ok (.aload_n 0, 1) := by decide +kernel
theorem d19_1 : decode jdk_42_method_54_code 1 = .ok (.getfield 9, 3) := by decide +kernel
theorem d19_4 : decode jdk_42_method_54_code 4 = .ok (.arraylength, 1) := by decide +kernel
theorem d19_5 : decode jdk_42_method_54_code 5 = .ok (.aload_n 0, 1) := by decide +kernel
theorem d19_6 : decode jdk_42_method_54_code 6 = .ok (.invokevirtual 335, 3) := by decide +kernel
theorem pd_61459997 : parseMethodDescriptor "()B" = some ⟨[], some .byte⟩ := by decide +kernel
theorem d19_9 : decode jdk_42_method_54_code 9 = .ok (.ishr, 1) := by decide +kernel
theorem d19_10 : decode jdk_42_method_54_code 10 = .ok (.ireturn, 1) := by decide +kernel
set_option maxRecDepth 65536 in
set_option maxHeartbeats 40000000 in
theorem rm_lenA (l : Launch) (Z : State) (a0 : Array Value) (hw : ∀ d ∈ tables_1, d.before a0 Z = true) (ws : List Jvm.Cond) (wG1 : Int32) (wG3 : Value) (cx : OwnCx Z a0 wG1 wG3) (hEL : EW Z a0 consts_1) (h0 : Heap) (n0 : Nat) (X00 : Old Z n0 h0) (a1 : Addr) (cd1 : Int32) (ln1 : Int32) (tb1 : Addr) (kb1 : ClassId) (nB1 : Int32) (vs1 : List Value) (f0 : Exa Z h0 a1 "java/lang/String") (f1 : Fld Z h0 a1 "java/lang/String" "value" "[B" (.ref tb1)) (f2 : Fld Z h0 a1 "java/lang/String" "coder" "B" (.int cd1)) (f3 : Arv Z h0 tb1 kb1 .byte nB1 vs1 (.int 0)) (hln : OwnLen cd1 nB1 ln1) :
    MetFree l mN19 (head1 (Jvm.Cond.code mN19 jdk_42_method_54_code 1 (some .int) :: ws) ({ frames := 1, cells := 0, slots := 0, locals := 13 } : Room)) (fun a U => a = #[(.ref a1)] ∧ Z.Warmed39 U.vm ∧ U.heap = h0) (fun _ _ _ _ _ => True) (fun _ U o U' => ∃ v L, o = .returned v ∧ Q_lenA Z a1 cd1 ln1 tb1 kb1 nB1 vs1 h0 n0 v U'.heap L ∧ FrameEnd U o U' L ({ frames := 1, cells := 0, slots := 0, locals := 13 } : Room).cells ({ frames := 1, cells := 0, slots := 0, locals := 13 } : Room).slots) := by
  refine MetFree.of_bodySF (plainFor_of_name pn_52039224) hisR ?_
  intro p e s m args below meth c s₁ Bd hml0 hP hK
  obtain ⟨rfl, hZ, hh⟩ := hP
  obtain ⟨wO2, wP5, wO4, wrG3, hstr, wUA, wUH, wUL⟩ := id cx
  have hx := Bd.exec
  have hby := Bd.bytes
  have hlk := Bd.notSynchronized
  have hml : c.maxLocals = 1 := hml0
  have hown : s.vm.findClass "java/lang/String" = some m.cls := findClass_of_methodNamed Bd.named
  have hnm := (name_of_methodNamed Bd.named Bd.method).1
  have X0 : Stand p l e ({ frames := 1, cells := 0, slots := 0, locals := 13 } : Room) s m #[(.ref a1)] below meth c s₁ [] 0 0 := Stand.of_body Bd
  have e0 : s₁.heap = h0 := by rw [← hh, Bd.state]; rfl
  have N0 := Fr.nil n0
  have Z0 : n0 ≤ h0.size := X00.1 ▸ X00.2.1
  have K0 : Keep h0 h0 ([] : List Addr) := Keep.refl _ _
  show OwnGoes p e below (fun o U' => ∃ v L, o = .returned v ∧ Q_lenA Z a1 cd1 ln1 tb1 kb1 nB1 vs1 h0 n0 v U'.heap L ∧ FrameEnd s o U' L ({ frames := 1, cells := 0, slots := 0, locals := 13 } : Room).cells ({ frames := 1, cells := 0, slots := 0, locals := 13 } : Room).slots) s₁ (entryFrame m #[(.ref a1)] 1)
  refine OwnGoes.step (T' := s₁) (g' := (mkF m 0 #[vR a1] [])) (fun tgt kgo => castTop (ef_lenA m a1) kgo) ?_
  refine OwnGoes.step (T' := s₁) (g' := (mkF m 1 #[vR a1] [(.ref a1)])) (fun tgt kgo => ?_) ?_
  · refine XS.aloadN X0.here hx rfl (hb hby d19_0) rfl rfl ?_
    exact kgo
  obtain ⟨T1, X1, e1, st1⟩ := getF X0 hx hZ hown (host := "") (Or.inl (own_w hw 29 rfl)) Via.refl e0 f1 (g := (mkF m 1 #[vR a1] [(.ref a1)])) rfl rfl (hb hby d19_1)
  refine OwnGoes.step (T' := T1) (g' := (mkF m 4 #[vR a1] [(.ref tb1)])) st1 ?_
  refine OwnGoes.step (T' := T1) (g' := (mkF m 6 #[vR a1] [(.ref a1), (.int nB1)])) (fun tgt kgo => ?_) ?_
  · obtain ⟨cl2, Ar2, q2, S2, M2, -, -⟩ := f3
    refine X1.arraylength hx (by rw [e1]; exact Ar2.1) (State.isArrayOf_alike hZ.alike Ar2.2.1) (g := (mkF m 4 #[vR a1] [(.ref tb1)])) rfl rfl (hb hby d19_4) _ ?_
    rw [len_of S2 M2]
    show OwnG p e below T1 m 5 #[vR a1] [(.int nB1)] tgt
    refine XS.aloadN X1.here hx rfl (hb hby d19_5) rfl rfl ?_
    exact kgo
  obtain ⟨cq3, kq3, q3a, q3b, q3c⟩ := isOf (s := s) hZ e1 f0
  obtain ⟨_, _, ⟨T3, L3, k3, n3⟩, -, X3, ⟨Lc3, hQ3, l3, y3, z3⟩, st3⟩ := X1.virtualBack hx (y := mN18) (z := mN18) hown (mvT hZ (own_w hw 59 rfl)) (mvT hZ (own_w hw 60 rfl)) (notFace_of_selects (args := #[]) (mvT hZ (own_w hw 62 rfl))) (mvT hZ (own_w hw 62 rfl)) (mvT hZ (own_w hw 61 rfl)) (by decide) (backOf (W := 1) (rm_coder l Z a0 hw [] wG1 wG3 cx hEL h0 n0 X00 a1 cd1 f0 f2 hln.2) hZ (own_w hw 63 rfl) (own_w hw 11 rfl) (by decide) (by decide)) q3a q3c (g := (mkF m 6 #[vR a1] [(.ref a1), (.int nB1)])) rfl (by rw [hml]; rfl) (Steps.refl _) (argsL := []) (rest := [(.int nB1)]) (lenOf pd_61459997 rfl) rfl (Nat.le_of_eq rfl) (hb hby d19_6) (fun _ _ => ⟨rfl, e1, (by decide : 0 + 0 ≤ _), (by decide : 0 + 0 ≤ _)⟩)
  dsimp only [Pt.U, Pt.locs, Pt.cells, Pt.slots] at X3 l3 y3 z3 st3 hQ3
  subst l3 y3 z3
  obtain ⟨rfl, Nq3, eq3⟩ := hQ3
  refine OwnGoes.tr (T' := T3) (g' := (mkF m 9 #[vR a1] [(.int cd1), (.int nB1)])) st3 ?_
  have N3 := Fr.app N0 Nq3
  refine OwnGoes.step (T' := T3) (g' := (mkF m 10 #[vR a1] [(.int (nB1 >>> (cd1 &&& 31)))])) (fun tgt kgo => ?_) ?_
  · refine XS.ishr X3.here hx rfl (hb hby d19_9) rfl ?_
    exact kgo
  refine OwnGoes.step (T' := T3) (g' := (mkF m 10 #[vR a1] [(.int ln1)])) (fun tgt kgo => castTop (by rw [hln.1]) kgo) ?_
  refine own_leave X3 hlk (v := some (.int ln1)) (fun h => by rw [Bd.returns] at h; cases h) (fun fs hr => retI X3 hx Bd.returns (hb hby d19_10) hr) (by decide) (by decide) ?_
  show Q_lenA Z a1 cd1 ln1 tb1 kb1 nB1 vs1 h0 n0 _ T3.heap _
  rw [eq3]
  exact ⟨rfl, N3, rfl⟩
theorem ef_empA (m : MethodId) (x0 : Addr) : entryFrame m #[(.ref x0)] 1 = mkF m 0 #[vR x0] [] := by
  first | (simp [entryFrame, mkF, argsToLocals, Value.category]; done) | rfl
def Q_empA (Z : State) (a1 : Addr) (tb1 : Addr) (kb1 : ClassId) (nB1 : Int32) (vs1 : List Value) (h0 : Heap) (n0 : Nat) (v : Option Value) (h : Heap) (L : List Loc) : Prop := v = some (.int 0) ∧ Fr n0 L ∧ h = h0
theorem d20_0 : decode jdk_42_method_55_code 0 = .ok (.aload_n 0, 1) := by decide +kernel
theorem d20_1 : decode jdk_42_method_55_code 1 = .ok (.getfield 9, 3) := by decide +kernel
theorem d20_4 : decode jdk_42_method_55_code 4 = .ok (.arraylength, 1) := by decide +kernel
theorem d20_5 : decode jdk_42_method_55_code 5 = .ok (.ifCond .ne 7, 3) := by decide +kernel
theorem d20_12 : decode jdk_42_method_55_code 12 = .ok (.iconst 0, 1) := by decide +kernel
theorem d20_13 : decode jdk_42_method_55_code 13 = .ok (.ireturn, 1) := by decide +kernel
set_option maxRecDepth 65536 in
set_option maxHeartbeats 40000000 in
theorem rm_empA (l : Launch) (Z : State) (a0 : Array Value) (hw : ∀ d ∈ tables_1, d.before a0 Z = true) (ws : List Jvm.Cond) (wG1 : Int32) (wG3 : Value) (cx : OwnCx Z a0 wG1 wG3) (hEL : EW Z a0 consts_1) (h0 : Heap) (n0 : Nat) (X00 : Old Z n0 h0) (a1 : Addr) (tb1 : Addr) (kb1 : ClassId) (nB1 : Int32) (vs1 : List Value) (f0 : Exa Z h0 a1 "java/lang/String") (f1 : Fld Z h0 a1 "java/lang/String" "value" "[B" (.ref tb1)) (f2 : Arv Z h0 tb1 kb1 .byte nB1 vs1 (.int 0)) (hnz : ¬ (nB1 = (0 : Int32))) :
    MetFree l mN20 (head1 (Jvm.Cond.code mN20 jdk_42_method_55_code 1 (some .boolean) :: ws) ({ frames := 0, cells := 0, slots := 0, locals := 0 } : Room)) (fun a U => a = #[(.ref a1)] ∧ Z.Warmed39 U.vm ∧ U.heap = h0) (fun _ _ _ _ _ => True) (fun _ U o U' => ∃ v L, o = .returned v ∧ Q_empA Z a1 tb1 kb1 nB1 vs1 h0 n0 v U'.heap L ∧ FrameEnd U o U' L ({ frames := 0, cells := 0, slots := 0, locals := 0 } : Room).cells ({ frames := 0, cells := 0, slots := 0, locals := 0 } : Room).slots) := by
  refine MetFree.of_bodySF (plainFor_of_name pn_52039224) hisR ?_
  intro p e s m args below meth c s₁ Bd hml0 hP hK
  obtain ⟨rfl, hZ, hh⟩ := hP
  obtain ⟨wO2, wP5, wO4, wrG3, hstr, wUA, wUH, wUL⟩ := id cx
  have hx := Bd.exec
  have hby := Bd.bytes
  have hlk := Bd.notSynchronized
  have hml : c.maxLocals = 1 := hml0
  have hown : s.vm.findClass "java/lang/String" = some m.cls := findClass_of_methodNamed Bd.named
  have hnm := (name_of_methodNamed Bd.named Bd.method).1
  have X0 : Stand p l e ({ frames := 0, cells := 0, slots := 0, locals := 0 } : Room) s m #[(.ref a1)] below meth c s₁ [] 0 0 := Stand.of_body Bd
  have e0 : s₁.heap = h0 := by rw [← hh, Bd.state]; rfl
  have N0 := Fr.nil n0
  have Z0 : n0 ≤ h0.size := X00.1 ▸ X00.2.1
  have K0 : Keep h0 h0 ([] : List Addr) := Keep.refl _ _
  show OwnGoes p e below (fun o U' => ∃ v L, o = .returned v ∧ Q_empA Z a1 tb1 kb1 nB1 vs1 h0 n0 v U'.heap L ∧ FrameEnd s o U' L ({ frames := 0, cells := 0, slots := 0, locals := 0 } : Room).cells ({ frames := 0, cells := 0, slots := 0, locals := 0 } : Room).slots) s₁ (entryFrame m #[(.ref a1)] 1)
  refine OwnGoes.step (T' := s₁) (g' := (mkF m 0 #[vR a1] [])) (fun tgt kgo => castTop (ef_empA m a1) kgo) ?_
  refine OwnGoes.step (T' := s₁) (g' := (mkF m 1 #[vR a1] [(.ref a1)])) (fun tgt kgo => ?_) ?_
  · refine XS.aloadN X0.here hx rfl (hb hby d20_0) rfl rfl ?_
    exact kgo
  obtain ⟨T1, X1, e1, st1⟩ := getF X0 hx hZ hown (host := "") (Or.inl (own_w hw 29 rfl)) Via.refl e0 f1 (g := (mkF m 1 #[vR a1] [(.ref a1)])) rfl rfl (hb hby d20_1)
  refine OwnGoes.step (T' := T1) (g' := (mkF m 4 #[vR a1] [(.ref tb1)])) st1 ?_
  refine OwnGoes.step (T' := T1) (g' := (mkF m 13 #[vR a1] [(.int 0)])) (fun tgt kgo => ?_) ?_
  · obtain ⟨cl2, Ar2, q2, S2, M2, -, -⟩ := f2
    refine X1.arraylength hx (by rw [e1]; exact Ar2.1) (State.isArrayOf_alike hZ.alike Ar2.2.1) (g := (mkF m 4 #[vR a1] [(.ref tb1)])) rfl rfl (hb hby d20_4) _ ?_
    rw [len_of S2 M2]
    show OwnG p e below T1 m 5 #[vR a1] [(.int nB1)] tgt
    refine XS.ifYes X1.here hx rfl (pc0 := 5) (pc' := 12) rfl (hb hby d20_5) rfl ((if0 _ _).trans (feq hnz).2) (by decide) (by decide) ?_
    show OwnG p e below T1 m 12 #[vR a1] [] tgt
    refine XS.iconst X1.here hx rfl (hb hby d20_12) ?_
    exact kgo
  refine own_leave X1 hlk (v := some (.int 0)) (fun h => by rw [Bd.returns] at h; cases h) (fun fs hr => retN X1 hx (t := .boolean) Bd.returns (by simp) (hb hby d20_13) (by rw [(by decide : nar .boolean (0 : Int32) = (0 : Int32))]; exact hr)) (by decide) (by decide) ?_
  show Q_empA Z a1 tb1 kb1 nB1 vs1 h0 n0 _ T1.heap _
  rw [e1]
  exact ⟨rfl, N0, rfl⟩
theorem ef_emp0 (m : MethodId) (x0 : Addr) : entryFrame m #[(.ref x0)] 1 = mkF m 0 #[vR x0] [] := by
  first | (simp [entryFrame, mkF, argsToLocals, Value.category]; done) | rfl
def Q_emp0 (Z : State) (a1 : Addr) (tb1 : Addr) (kb1 : ClassId) (vs1 : List Value) (h0 : Heap) (n0 : Nat) (v : Option Value) (h : Heap) (L : List Loc) : Prop := v = some (.int 1) ∧ Fr n0 L ∧ h = h0
theorem d20_8 : decode jdk_42_method_55_code 8 = .ok (.iconst 1, 1) := by decide +kernel
theorem d20_9 : decode jdk_42_method_55_code 9 = .ok (.goto 4, 3) := by decide +kernel
set_option maxRecDepth 65536 in
set_option maxHeartbeats 40000000 in
theorem rm_emp0 (l : Launch) (Z : State) (a0 : Array Value) (hw : ∀ d ∈ tables_1, d.before a0 Z = true) (ws : List Jvm.Cond) (wG1 : Int32) (wG3 : Value) (cx : OwnCx Z a0 wG1 wG3) (hEL : EW Z a0 consts_1) (h0 : Heap) (n0 : Nat) (X00 : Old Z n0 h0) (a1 : Addr) (tb1 : Addr) (kb1 : ClassId) (vs1 : List Value) (f0 : Exa Z h0 a1 "java/lang/String") (f1 : Fld Z h0 a1 "java/lang/String" "value" "[B" (.ref tb1)) (f2 : Arv Z h0 tb1 kb1 .byte (0 : Int32) vs1 (.int 0)) :
    MetFree l mN20 (head1 (Jvm.Cond.code mN20 jdk_42_method_55_code 1 (some .boolean) :: ws) ({ frames := 0, cells := 0, slots := 0, locals := 0 } : Room)) (fun a U => a = #[(.ref a1)] ∧ Z.Warmed39 U.vm ∧ U.heap = h0) (fun _ _ _ _ _ => True) (fun _ U o U' => ∃ v L, o = .returned v ∧ Q_emp0 Z a1 tb1 kb1 vs1 h0 n0 v U'.heap L ∧ FrameEnd U o U' L ({ frames := 0, cells := 0, slots := 0, locals := 0 } : Room).cells ({ frames := 0, cells := 0, slots := 0, locals := 0 } : Room).slots) := by
  refine MetFree.of_bodySF (plainFor_of_name pn_52039224) hisR ?_
  intro p e s m args below meth c s₁ Bd hml0 hP hK
  obtain ⟨rfl, hZ, hh⟩ := hP
  obtain ⟨wO2, wP5, wO4, wrG3, hstr, wUA, wUH, wUL⟩ := id cx
  have hx := Bd.exec
  have hby := Bd.bytes
  have hlk := Bd.notSynchronized
  have hml : c.maxLocals = 1 := hml0
  have hown : s.vm.findClass "java/lang/String" = some m.cls := findClass_of_methodNamed Bd.named
  have hnm := (name_of_methodNamed Bd.named Bd.method).1
  have X0 : Stand p l e ({ frames := 0, cells := 0, slots := 0, locals := 0 } : Room) s m #[(.ref a1)] below meth c s₁ [] 0 0 := Stand.of_body Bd
  have e0 : s₁.heap = h0 := by rw [← hh, Bd.state]; rfl
  have N0 := Fr.nil n0
  have Z0 : n0 ≤ h0.size := X00.1 ▸ X00.2.1
  have K0 : Keep h0 h0 ([] : List Addr) := Keep.refl _ _
  show OwnGoes p e below (fun o U' => ∃ v L, o = .returned v ∧ Q_emp0 Z a1 tb1 kb1 vs1 h0 n0 v U'.heap L ∧ FrameEnd s o U' L ({ frames := 0, cells := 0, slots := 0, locals := 0 } : Room).cells ({ frames := 0, cells := 0, slots := 0, locals := 0 } : Room).slots) s₁ (entryFrame m #[(.ref a1)] 1)
  refine OwnGoes.step (T' := s₁) (g' := (mkF m 0 #[vR a1] [])) (fun tgt kgo => castTop (ef_emp0 m a1) kgo) ?_
  refine OwnGoes.step (T' := s₁) (g' := (mkF m 1 #[vR a1] [(.ref a1)])) (fun tgt kgo => ?_) ?_
  · refine XS.aloadN X0.here hx rfl (hb hby d20_0) rfl rfl ?_
    exact kgo
  obtain ⟨T1, X1, e1, st1⟩ := getF X0 hx hZ hown (host := "") (Or.inl (own_w hw 29 rfl)) Via.refl e0 f1 (g := (mkF m 1 #[vR a1] [(.ref a1)])) rfl rfl (hb hby d20_1)
  refine OwnGoes.step (T' := T1) (g' := (mkF m 4 #[vR a1] [(.ref tb1)])) st1 ?_
  refine OwnGoes.step (T' := T1) (g' := (mkF m 13 #[vR a1] [(.int 1)])) (fun tgt kgo => ?_) ?_
  · obtain ⟨cl2, Ar2, q2, S2, M2, -, -⟩ := f2
    refine X1.arraylength hx (by rw [e1]; exact Ar2.1) (State.isArrayOf_alike hZ.alike Ar2.2.1) (g := (mkF m 4 #[vR a1] [(.ref tb1)])) rfl rfl (hb hby d20_4) _ ?_
    rw [len_of S2 M2]
    show OwnG p e below T1 m 5 #[vR a1] [(.int 0)] tgt
    refine XS.ifNo X1.here hx rfl (hb hby d20_5) rfl ((if0 _ _).trans (teq (by decide : (0 : Int32) = (0 : Int32))).2) ?_
    show OwnG p e below T1 m 8 #[vR a1] [] tgt
    refine XS.iconst X1.here hx rfl (hb hby d20_8) ?_
    show OwnG p e below T1 m 9 #[vR a1] [(.int 1)] tgt
    refine XS.goto X1.here hx rfl (pc0 := 9) (pc' := 13) rfl (hb hby d20_9) (by decide) (by decide) ?_
    exact kgo
  refine own_leave X1 hlk (v := some (.int 1)) (fun h => by rw [Bd.returns] at h; cases h) (fun fs hr => retN X1 hx (t := .boolean) Bd.returns (by simp) (hb hby d20_13) (by rw [(by decide : nar .boolean (1 : Int32) = (1 : Int32))]; exact hr)) (by decide) (by decide) ?_
  show Q_emp0 Z a1 tb1 kb1 vs1 h0 n0 _ T1.heap _
  rw [e1]
  exact ⟨rfl, N0, rfl⟩
def OwnOk (c : Int32) : Prop := (32 : Int32) < c ∧ c < (127 : Int32)
theorem own_ok1 {c : Int32} (h1 : ¬ c < (33 : Int32)) (h2 : ¬ (126 : Int32) < c) : OwnOk c := by
  rw [Int32.lt_iff_toInt_lt] at h1 h2
  have e1 : (33 : Int32).toInt = 33 := rfl
  have e2 : (126 : Int32).toInt = 126 := rfl
  have e3 : (32 : Int32).toInt = 32 := rfl
  have e4 : (127 : Int32).toInt = 127 := rfl
  constructor <;> rw [Int32.lt_iff_toInt_lt] <;> omega
theorem own_ok0 {c : Int32} (h : c < (33 : Int32) ∨ (126 : Int32) < c) : ¬ OwnOk c := by
  rintro ⟨q1, q2⟩
  rw [Int32.lt_iff_toInt_lt] at q1 q2
  have e1 : (33 : Int32).toInt = 33 := rfl
  have e2 : (126 : Int32).toInt = 126 := rfl
  have e3 : (32 : Int32).toInt = 32 := rfl
  have e4 : (127 : Int32).toInt = 127 := rfl
  rcases h with h | h <;> rw [Int32.lt_iff_toInt_lt] at h <;> omega
theorem own_mod5 (x : Int32) : ((x &&& (2147483647 : Int32)) % (5 : Int32)) = 0 ∨ ((x &&& (2147483647 : Int32)) % (5 : Int32)) = 1 ∨ ((x &&& (2147483647 : Int32)) % (5 : Int32)) = 2 ∨ ((x &&& (2147483647 : Int32)) % (5 : Int32)) = 3 ∨ ((x &&& (2147483647 : Int32)) % (5 : Int32)) = 4 := by
  have h : (x &&& 2147483647).toBitVec.toNat < 2147483648 := by
    simp only [Int32.toBitVec_and, BitVec.toNat_and]
    exact Nat.lt_succ_of_le Nat.and_le_right
  have e : (x &&& 2147483647).toInt = ((x &&& 2147483647).toBitVec.toNat : Int) := BitVec.toInt_eq_toNat_of_lt (by omega)
  have e5 : (5 : Int32).toInt = 5 := rfl
  have em : ((x &&& 2147483647) % 5).toInt = (x &&& 2147483647).toInt.tmod 5 := by rw [Int32.toInt_mod, e5]
  have hb : 0 ≤ (x &&& 2147483647).toInt.tmod 5 ∧ (x &&& 2147483647).toInt.tmod 5 < 5 := by rw [Int.tmod_eq_emod_of_nonneg (by omega)]; omega
  have key : ∀ k : Int32, ((x &&& 2147483647) % 5).toInt = k.toInt → ((x &&& 2147483647) % 5) = k := fun k q => Int32.toInt_inj.mp q
  have e0 : (0 : Int32).toInt = 0 := rfl
  have e1 : (1 : Int32).toInt = 1 := rfl
  have e2 : (2 : Int32).toInt = 2 := rfl
  have e3 : (3 : Int32).toInt = 3 := rfl
  have e4 : (4 : Int32).toInt = 4 := rfl
  rcases (by omega : (x &&& 2147483647).toInt.tmod 5 = 0 ∨ (x &&& 2147483647).toInt.tmod 5 = 1 ∨ (x &&& 2147483647).toInt.tmod 5 = 2 ∨ (x &&& 2147483647).toInt.tmod 5 = 3 ∨ (x &&& 2147483647).toInt.tmod 5 = 4) with q | q | q | q | q
  · exact Or.inl (key 0 (by omega))
  · exact Or.inr (Or.inl (key 1 (by omega)))
  · exact Or.inr (Or.inr (Or.inl (key 2 (by omega))))
  · exact Or.inr (Or.inr (Or.inr (Or.inl (key 3 (by omega)))))
  · exact Or.inr (Or.inr (Or.inr (Or.inr (key 4 (by omega)))))
theorem ef_ch (m : MethodId) (x0 : Int32) : entryFrame m #[(.int x0)] 1 = mkF m 0 #[vI x0] [] := by
  first | (simp [entryFrame, mkF, argsToLocals, Value.category]; done) | rfl
def Q_ch (Z : State) (p1 : Int32) (h0 : Heap) (n0 : Nat) (v : Option Value) (h : Heap) (L : List Loc) : Prop := ∃ (c : Int32), v = some (.int c) ∧ Fr n0 L ∧ h = h0 ∧ (¬ c < 0 ∧ ¬ (65535 : Int32) < c)
theorem pn_60594471 : plainName "io/holdfast/cli/HttpHeadIsTargetPinLaw" = true := by first | (simp [plainName, overriddenIn]; done) | decide +kernel
theorem d21_0 : decode method_2_code 0 = .ok (.iload_n 0, 1) := by decide +kernel
theorem d21_1 : decode method_2_code 1 = .ok (.ldc 7, 2) := by decide +kernel
theorem d21_3 : decode method_2_code 3 = .ok (.iand, 1) := by decide +kernel
theorem d21_4 : decode method_2_code 4 = .ok (.ifCond .eq 9, 3) := by decide +kernel
theorem d21_13 : decode method_2_code 13 = .ok (.iload_n 0, 1) := by decide +kernel
theorem d21_14 : decode method_2_code 14 = .ok (.sipush 255, 3) := by decide +kernel
theorem d21_17 : decode method_2_code 17 = .ok (.iand, 1) := by decide +kernel
theorem d21_18 : decode method_2_code 18 = .ok (.i2c, 1) := by decide +kernel
theorem d21_19 : decode method_2_code 19 = .ok (.ireturn, 1) := by decide +kernel
theorem d21_7 : decode method_2_code 7 = .ok (.iload_n 0, 1) := by decide +kernel
theorem d21_8 : decode method_2_code 8 = .ok (.ldc 8, 2) := by decide +kernel
theorem d21_10 : decode method_2_code 10 = .ok (.iand, 1) := by decide +kernel
theorem d21_11 : decode method_2_code 11 = .ok (.i2c, 1) := by decide +kernel
theorem d21_12 : decode method_2_code 12 = .ok (.ireturn, 1) := by decide +kernel
set_option maxRecDepth 65536 in
set_option maxHeartbeats 40000000 in
theorem rm_ch (l : Launch) (Z : State) (a0 : Array Value) (hw : ∀ d ∈ tables_1, d.before a0 Z = true) (ws : List Jvm.Cond) (wG1 : Int32) (wG3 : Value) (cx : OwnCx Z a0 wG1 wG3) (hEL : EW Z a0 consts_1) (h0 : Heap) (n0 : Nat) (X00 : Old Z n0 h0) (p1 : Int32) :
    MetFree l mN21 (head1 (Jvm.Cond.code mN21 method_2_code 1 (some .char) :: ws) ({ frames := 0, cells := 0, slots := 0, locals := 0 } : Room)) (fun a U => a = #[(.int p1)] ∧ Z.Warmed39 U.vm ∧ U.heap = h0) (fun _ _ _ _ _ => True) (fun _ U o U' => ∃ v L, o = .returned v ∧ Q_ch Z p1 h0 n0 v U'.heap L ∧ FrameEnd U o U' L ({ frames := 0, cells := 0, slots := 0, locals := 0 } : Room).cells ({ frames := 0, cells := 0, slots := 0, locals := 0 } : Room).slots) := by
  refine MetFree.of_bodySF (plainFor_of_name pn_60594471) hisR ?_
  intro p e s m args below meth c s₁ Bd hml0 hP hK
  obtain ⟨rfl, hZ, hh⟩ := hP
  obtain ⟨wO2, wP5, wO4, wrG3, hstr, wUA, wUH, wUL⟩ := id cx
  have hx := Bd.exec
  have hby := Bd.bytes
  have hlk := Bd.notSynchronized
  have hml : c.maxLocals = 1 := hml0
  have hown : s.vm.findClass "io/holdfast/cli/HttpHeadIsTargetPinLaw" = some m.cls := findClass_of_methodNamed Bd.named
  have hnm := (name_of_methodNamed Bd.named Bd.method).1
  have X0 : Stand p l e ({ frames := 0, cells := 0, slots := 0, locals := 0 } : Room) s m #[(.int p1)] below meth c s₁ [] 0 0 := Stand.of_body Bd
  have e0 : s₁.heap = h0 := by rw [← hh, Bd.state]; rfl
  have N0 := Fr.nil n0
  have Z0 : n0 ≤ h0.size := X00.1 ▸ X00.2.1
  have K0 : Keep h0 h0 ([] : List Addr) := Keep.refl _ _
  show OwnGoes p e below (fun o U' => ∃ v L, o = .returned v ∧ Q_ch Z p1 h0 n0 v U'.heap L ∧ FrameEnd s o U' L ({ frames := 0, cells := 0, slots := 0, locals := 0 } : Room).cells ({ frames := 0, cells := 0, slots := 0, locals := 0 } : Room).slots) s₁ (entryFrame m #[(.int p1)] 1)
  refine OwnGoes.step (T' := s₁) (g' := (mkF m 0 #[vI p1] [])) (fun tgt kgo => castTop (ef_ch m p1) kgo) ?_
  refine OwnGoes.step (T' := s₁) (g' := (mkF m 4 #[vI p1] [(.int (p1 &&& (65536 : Int32)))])) (fun tgt kgo => ?_) ?_
  · refine XS.iloadN X0.here hx rfl (hb hby d21_0) rfl ?_
    show OwnG p e below s₁ m 1 #[vI p1] [(.int p1)] tgt
    refine X0.ldcInt hx hown (mvT hZ (own_w hw 5 rfl)) (g := (mkF m 1 #[vI p1] [(.int p1)])) rfl (hb hby d21_1) _ ?_
    show OwnG p e below s₁ m 3 #[vI p1] [(.int 65536), (.int p1)] tgt
    refine XS.iand X0.here hx rfl (hb hby d21_3) rfl ?_
    exact kgo
  by_cases cc1 : (p1 &&& (65536 : Int32)) = (0 : Int32)
  · skip
    refine OwnGoes.step (T' := s₁) (g' := (mkF m 19 #[vI p1] [(.int (nar .char (p1 &&& (255 : Int32))))])) (fun tgt kgo => ?_) ?_
    · refine XS.ifYes X0.here hx rfl (pc0 := 4) (pc' := 13) rfl (hb hby d21_4) rfl ((if0 _ _).trans (teq cc1).1) (by decide) (by decide) ?_
      show OwnG p e below s₁ m 13 #[vI p1] [] tgt
      refine XS.iloadN X0.here hx rfl (hb hby d21_13) rfl ?_
      show OwnG p e below s₁ m 14 #[vI p1] [(.int p1)] tgt
      refine XS.sipush X0.here hx rfl (hb hby d21_14) ?_
      show OwnG p e below s₁ m 17 #[vI p1] [(.int 255), (.int p1)] tgt
      refine XS.iand X0.here hx rfl (hb hby d21_17) rfl ?_
      show OwnG p e below s₁ m 18 #[vI p1] [(.int (p1 &&& (255 : Int32)))] tgt
      refine XS.i2c X0.here hx rfl (hb hby d21_18) rfl ?_
      exact kgo
    refine own_leave X0 hlk (v := some (.int (nar .char (p1 &&& (255 : Int32))))) (fun h => by rw [Bd.returns] at h; cases h) (fun fs hr => retN X0 hx (t := .char) Bd.returns (by simp) (hb hby d21_19) (by rw [own_nar2_char]; exact hr)) (by decide) (by decide) ?_
    show Q_ch Z p1 h0 n0 _ s₁.heap _
    rw [e0]
    exact ⟨(nar .char (p1 &&& (255 : Int32))), rfl, N0, rfl, (own_wide _)⟩
  refine OwnGoes.step (T' := s₁) (g' := (mkF m 12 #[vI p1] [(.int (nar .char (p1 &&& (65535 : Int32))))])) (fun tgt kgo => ?_) ?_
  · refine XS.ifNo X0.here hx rfl (hb hby d21_4) rfl ((if0 _ _).trans (feq cc1).1) ?_
    show OwnG p e below s₁ m 7 #[vI p1] [] tgt
    refine XS.iloadN X0.here hx rfl (hb hby d21_7) rfl ?_
    show OwnG p e below s₁ m 8 #[vI p1] [(.int p1)] tgt
    refine X0.ldcInt hx hown (mvT hZ (own_w hw 86 rfl)) (g := (mkF m 8 #[vI p1] [(.int p1)])) rfl (hb hby d21_8) _ ?_
    show OwnG p e below s₁ m 10 #[vI p1] [(.int 65535), (.int p1)] tgt
    refine XS.iand X0.here hx rfl (hb hby d21_10) rfl ?_
    show OwnG p e below s₁ m 11 #[vI p1] [(.int (p1 &&& (65535 : Int32)))] tgt
    refine XS.i2c X0.here hx rfl (hb hby d21_11) rfl ?_
    exact kgo
  refine own_leave X0 hlk (v := some (.int (nar .char (p1 &&& (65535 : Int32))))) (fun h => by rw [Bd.returns] at h; cases h) (fun fs hr => retN X0 hx (t := .char) Bd.returns (by simp) (hb hby d21_12) (by rw [own_nar2_char]; exact hr)) (by decide) (by decide) ?_
  show Q_ch Z p1 h0 n0 _ s₁.heap _
  rw [e0]
  exact ⟨(nar .char (p1 &&& (65535 : Int32))), rfl, N0, rfl, (own_wide _)⟩
theorem ef_ok (m : MethodId) (x0 : Int32) : entryFrame m #[(.int x0)] 1 = mkF m 0 #[vI x0] [] := by
  first | (simp [entryFrame, mkF, argsToLocals, Value.category]; done) | rfl
def Q_ok (Z : State) (c1 : Int32) (h0 : Heap) (n0 : Nat) (v : Option Value) (h : Heap) (L : List Loc) : Prop := ∃ (r : Int32), v = some (.int r) ∧ Fr n0 L ∧ h = h0 ∧ ((r = (1 : Int32) ∧ OwnOk c1) ∨ (r = (0 : Int32) ∧ ¬ OwnOk c1))
theorem d22_0 : decode method_3_code 0 = .ok (.iload_n 0, 1) := by decide +kernel
theorem d22_1 : decode method_3_code 1 = .ok (.bipush 33, 2) := by decide +kernel
theorem d22_3 : decode method_3_code 3 = .ok (.if_icmp .lt 13, 3) := by decide +kernel
theorem d22_16 : decode method_3_code 16 = .ok (.iconst 0, 1) := by decide +kernel
theorem d22_17 : decode method_3_code 17 = .ok (.ireturn, 1) := by decide +kernel
theorem d22_6 : decode method_3_code 6 = .ok (.iload_n 0, 1) := by decide +kernel
theorem d22_7 : decode method_3_code 7 = .ok (.bipush 126, 2) := by decide +kernel
theorem d22_9 : decode method_3_code 9 = .ok (.if_icmp .gt 7, 3) := by decide +kernel
theorem d22_12 : decode method_3_code 12 = .ok (.iconst 1, 1) := by decide +kernel
theorem d22_13 : decode method_3_code 13 = .ok (.goto 4, 3) := by decide +kernel
set_option maxRecDepth 65536 in
set_option maxHeartbeats 40000000 in
theorem rm_ok (l : Launch) (Z : State) (a0 : Array Value) (hw : ∀ d ∈ tables_1, d.before a0 Z = true) (ws : List Jvm.Cond) (wG1 : Int32) (wG3 : Value) (cx : OwnCx Z a0 wG1 wG3) (hEL : EW Z a0 consts_1) (h0 : Heap) (n0 : Nat) (X00 : Old Z n0 h0) (c1 : Int32) :
    MetFree l mN22 (head1 (Jvm.Cond.code mN22 method_3_code 1 (some .boolean) :: ws) ({ frames := 0, cells := 0, slots := 0, locals := 0 } : Room)) (fun a U => a = #[(.int c1)] ∧ Z.Warmed39 U.vm ∧ U.heap = h0) (fun _ _ _ _ _ => True) (fun _ U o U' => ∃ v L, o = .returned v ∧ Q_ok Z c1 h0 n0 v U'.heap L ∧ FrameEnd U o U' L ({ frames := 0, cells := 0, slots := 0, locals := 0 } : Room).cells ({ frames := 0, cells := 0, slots := 0, locals := 0 } : Room).slots) := by
  refine MetFree.of_bodySF (plainFor_of_name pn_60594471) hisR ?_
  intro p e s m args below meth c s₁ Bd hml0 hP hK
  obtain ⟨rfl, hZ, hh⟩ := hP
  obtain ⟨wO2, wP5, wO4, wrG3, hstr, wUA, wUH, wUL⟩ := id cx
  have hx := Bd.exec
  have hby := Bd.bytes
  have hlk := Bd.notSynchronized
  have hml : c.maxLocals = 1 := hml0
  have hown : s.vm.findClass "io/holdfast/cli/HttpHeadIsTargetPinLaw" = some m.cls := findClass_of_methodNamed Bd.named
  have hnm := (name_of_methodNamed Bd.named Bd.method).1
  have X0 : Stand p l e ({ frames := 0, cells := 0, slots := 0, locals := 0 } : Room) s m #[(.int c1)] below meth c s₁ [] 0 0 := Stand.of_body Bd
  have e0 : s₁.heap = h0 := by rw [← hh, Bd.state]; rfl
  have N0 := Fr.nil n0
  have Z0 : n0 ≤ h0.size := X00.1 ▸ X00.2.1
  have K0 : Keep h0 h0 ([] : List Addr) := Keep.refl _ _
  show OwnGoes p e below (fun o U' => ∃ v L, o = .returned v ∧ Q_ok Z c1 h0 n0 v U'.heap L ∧ FrameEnd s o U' L ({ frames := 0, cells := 0, slots := 0, locals := 0 } : Room).cells ({ frames := 0, cells := 0, slots := 0, locals := 0 } : Room).slots) s₁ (entryFrame m #[(.int c1)] 1)
  refine OwnGoes.step (T' := s₁) (g' := (mkF m 0 #[vI c1] [])) (fun tgt kgo => castTop (ef_ok m c1) kgo) ?_
  refine OwnGoes.step (T' := s₁) (g' := (mkF m 3 #[vI c1] [(.int 33), (.int c1)])) (fun tgt kgo => ?_) ?_
  · refine XS.iloadN X0.here hx rfl (hb hby d22_0) rfl ?_
    show OwnG p e below s₁ m 1 #[vI c1] [(.int c1)] tgt
    refine XS.bipush X0.here hx rfl (hb hby d22_1) ?_
    exact kgo
  by_cases cc1 : c1 < (33 : Int32)
  · skip
    refine OwnGoes.step (T' := s₁) (g' := (mkF m 17 #[vI c1] [(.int 0)])) (fun tgt kgo => ?_) ?_
    · refine XS.icmpYes X0.here hx rfl (pc0 := 3) (pc' := 16) rfl (hb hby d22_3) rfl (tlt cc1).1 (by decide) (by decide) ?_
      show OwnG p e below s₁ m 16 #[vI c1] [] tgt
      refine XS.iconst X0.here hx rfl (hb hby d22_16) ?_
      exact kgo
    refine own_leave X0 hlk (v := some (.int 0)) (fun h => by rw [Bd.returns] at h; cases h) (fun fs hr => retN X0 hx (t := .boolean) Bd.returns (by simp) (hb hby d22_17) (by rw [(by decide : nar .boolean (0 : Int32) = (0 : Int32))]; exact hr)) (by decide) (by decide) ?_
    show Q_ok Z c1 h0 n0 _ s₁.heap _
    rw [e0]
    exact ⟨(0 : Int32), rfl, N0, rfl, (Or.inr ⟨rfl, own_ok0 (Or.inl cc1)⟩)⟩
  refine OwnGoes.step (T' := s₁) (g' := (mkF m 9 #[vI c1] [(.int 126), (.int c1)])) (fun tgt kgo => ?_) ?_
  · refine XS.icmpNo X0.here hx rfl (hb hby d22_3) rfl (flt cc1).1 ?_
    show OwnG p e below s₁ m 6 #[vI c1] [] tgt
    refine XS.iloadN X0.here hx rfl (hb hby d22_6) rfl ?_
    show OwnG p e below s₁ m 7 #[vI c1] [(.int c1)] tgt
    refine XS.bipush X0.here hx rfl (hb hby d22_7) ?_
    exact kgo
  by_cases cc3 : (126 : Int32) < c1
  · skip
    refine OwnGoes.step (T' := s₁) (g' := (mkF m 17 #[vI c1] [(.int 0)])) (fun tgt kgo => ?_) ?_
    · refine XS.icmpYes X0.here hx rfl (pc0 := 9) (pc' := 16) rfl (hb hby d22_9) rfl (tlt cc3).2.2.1 (by decide) (by decide) ?_
      show OwnG p e below s₁ m 16 #[vI c1] [] tgt
      refine XS.iconst X0.here hx rfl (hb hby d22_16) ?_
      exact kgo
    refine own_leave X0 hlk (v := some (.int 0)) (fun h => by rw [Bd.returns] at h; cases h) (fun fs hr => retN X0 hx (t := .boolean) Bd.returns (by simp) (hb hby d22_17) (by rw [(by decide : nar .boolean (0 : Int32) = (0 : Int32))]; exact hr)) (by decide) (by decide) ?_
    show Q_ok Z c1 h0 n0 _ s₁.heap _
    rw [e0]
    exact ⟨(0 : Int32), rfl, N0, rfl, (Or.inr ⟨rfl, own_ok0 (Or.inr cc3)⟩)⟩
  refine OwnGoes.step (T' := s₁) (g' := (mkF m 17 #[vI c1] [(.int 1)])) (fun tgt kgo => ?_) ?_
  · refine XS.icmpNo X0.here hx rfl (hb hby d22_9) rfl (flt cc3).2.2.1 ?_
    show OwnG p e below s₁ m 12 #[vI c1] [] tgt
    refine XS.iconst X0.here hx rfl (hb hby d22_12) ?_
    show OwnG p e below s₁ m 13 #[vI c1] [(.int 1)] tgt
    refine XS.goto X0.here hx rfl (pc0 := 13) (pc' := 17) rfl (hb hby d22_13) (by decide) (by decide) ?_
    exact kgo
  refine own_leave X0 hlk (v := some (.int 1)) (fun h => by rw [Bd.returns] at h; cases h) (fun fs hr => retN X0 hx (t := .boolean) Bd.returns (by simp) (hb hby d22_17) (by rw [(by decide : nar .boolean (1 : Int32) = (1 : Int32))]; exact hr)) (by decide) (by decide) ?_
  show Q_ok Z c1 h0 n0 _ s₁.heap _
  rw [e0]
  exact ⟨(1 : Int32), rfl, N0, rfl, (Or.inl ⟨rfl, own_ok1 cc1 cc3⟩)⟩
theorem ef_str_0 (m : MethodId) (x1 : Int32) (x2 : Int32) (x3 : Int32) (x4 : Int32) : entryFrame m #[(.int 0), (.int x1), (.int x2), (.int x3), (.int x4)] 5 = mkF m 0 #[vI 0, vI x1, vI x2, vI x3, vI x4] [] := by
  first | (simp [entryFrame, mkF, argsToLocals, Value.category]; done) | rfl
def Q_str_0 (Z : State) (c1 : Int32) (c2 : Int32) (c3 : Int32) (c4 : Int32) (h0 : Heap) (n0 : Nat) (v : Option Value) (h : Heap) (L : List Loc) : Prop := ∃ (x : Addr), ∃ (t : Addr), ∃ (k : ClassId), v = some (.ref x) ∧ Fr n0 L ∧ Keep h0 h ([] : List Addr) ∧ Exa Z h x "java/lang/String" ∧ Fld Z h x "java/lang/String" "value" "[B" (.ref t) ∧ Fld Z h x "java/lang/String" "coder" "B" (.int 0) ∧ Arv Z h t k .byte (0 : Int32) [] (.int 0)
theorem d23_0 : decode method_4_code 0 = .ok (.iload_n 0, 1) := by decide +kernel
theorem d23_1 : decode method_4_code 1 = .ok (.ifCond .ne 14, 3) := by decide +kernel
theorem d23_4 : decode method_4_code 4 = .ok (.new 9, 3) := by decide +kernel
theorem d23_7 : decode method_4_code 7 = .ok (.dup, 1) := by decide +kernel
theorem d23_8 : decode method_4_code 8 = .ok (.iconst 0, 1) := by decide +kernel
theorem d23_9 : decode method_4_code 9 = .ok (.newarray .char, 2) := by decide +kernel
theorem d23_11 : decode method_4_code 11 = .ok (.invokespecial 11, 3) := by decide +kernel
theorem pd_68446664 : parseMethodDescriptor "([C)V" = some ⟨[(.array .char)], none⟩ := by decide +kernel
theorem d23_14 : decode method_4_code 14 = .ok (.areturn, 1) := by decide +kernel
set_option maxRecDepth 65536 in
set_option maxHeartbeats 40000000 in
theorem rm_str_0 (l : Launch) (Z : State) (a0 : Array Value) (hw : ∀ d ∈ tables_1, d.before a0 Z = true) (ws : List Jvm.Cond) (wG1 : Int32) (wG3 : Value) (cx : OwnCx Z a0 wG1 wG3) (hEL : EW Z a0 consts_1) (h0 : Heap) (n0 : Nat) (X00 : Old Z n0 h0) (c1 : Int32) (c2 : Int32) (c3 : Int32) (c4 : Int32) :
    MetFree l mN23 (head1 (Jvm.Cond.code mN23 method_4_code 5 (some (.object "java/lang/String")) :: ws) ({ frames := 3, cells := 6, slots := 12, locals := 43 } : Room)) (fun a U => a = #[(.int 0), (.int c1), (.int c2), (.int c3), (.int c4)] ∧ Z.Warmed39 U.vm ∧ U.heap = h0 ∧ CHv Z consts_1 U.vm h0) (fun _ _ _ _ _ => True) (fun _ U o U' => ∃ v L, o = .returned v ∧ Q_str_0 Z c1 c2 c3 c4 h0 n0 v U'.heap L ∧ CHr Z consts_1 U.vm U.heap U'.vm U'.heap ∧ ReturnedEndW U o U' L ({ frames := 3, cells := 6, slots := 12, locals := 43 } : Room).cells ({ frames := 3, cells := 6, slots := 12, locals := 43 } : Room).slots) := by
  refine MetFree.of_bodySF (plainFor_of_name pn_60594471) hisR ?_
  intro p e s m args below meth c s₁ Bd hml0 hP hK
  obtain ⟨rfl, hZ, hh, hH⟩ := hP
  obtain ⟨wO2, wP5, wO4, wrG3, hstr, wUA, wUH, wUL⟩ := id cx
  have hx := Bd.exec
  have hby := Bd.bytes
  have hlk := Bd.notSynchronized
  have hml : c.maxLocals = 5 := hml0
  have hown : s.vm.findClass "io/holdfast/cli/HttpHeadIsTargetPinLaw" = some m.cls := findClass_of_methodNamed Bd.named
  have hnm := (name_of_methodNamed Bd.named Bd.method).1
  have X0 : Stand p l e ({ frames := 3, cells := 6, slots := 12, locals := 43 } : Room) (s.setVm s.vm) m #[(.int 0), (.int c1), (.int c2), (.int c3), (.int c4)] below meth c s₁ [] 0 0 := Stand.of_body Bd
  have e0 : s₁.heap = h0 := by rw [← hh, Bd.state]; rfl
  have N0 := Fr.nil n0
  have Z0 : n0 ≤ h0.size := X00.1 ▸ X00.2.1
  have K0 : Keep h0 h0 ([] : List Addr) := Keep.refl _ _
  have R0 : CHr Z consts_1 s.vm h0 s.vm h0 := CHr.refl hH
  have hS0 : s.Since s.vm h0.size := State.WarmedH.since (State.WarmedH.refl s) _
  have hk0 : h0.size ≤ h0.size := Nat.le_refl _
  show OwnGoes p e below (fun o U' => ∃ v L, o = .returned v ∧ Q_str_0 Z c1 c2 c3 c4 h0 n0 v U'.heap L ∧ CHr Z consts_1 s.vm s.heap U'.vm U'.heap ∧ ReturnedEndW s o U' L ({ frames := 3, cells := 6, slots := 12, locals := 43 } : Room).cells ({ frames := 3, cells := 6, slots := 12, locals := 43 } : Room).slots) s₁ (entryFrame m #[(.int 0), (.int c1), (.int c2), (.int c3), (.int c4)] 5)
  refine OwnGoes.step (T' := s₁) (g' := (mkF m 0 #[vI 0, vI c1, vI c2, vI c3, vI c4] [])) (fun tgt kgo => castTop (ef_str_0 m c1 c2 c3 c4) kgo) ?_
  refine OwnGoes.step (T' := s₁) (g' := (mkF m 4 #[vI 0, vI c1, vI c2, vI c3, vI c4] [])) (fun tgt kgo => ?_) ?_
  · refine XS.iloadN X0.here hx rfl (hb hby d23_0) rfl ?_
    show OwnG p e below s₁ m 1 #[vI 0, vI c1, vI c2, vI c3, vI c4] [(.int 0)] tgt
    refine XS.ifNo X0.here hx rfl (hb hby d23_1) rfl ((if0 _ _).trans (teq (by decide : (0 : Int32) = (0 : Int32))).2) ?_
    exact kgo
  obtain ⟨T1, h1, X1, e1, E1, A1, D1, U1, st1⟩ := newO X0 hx hZ hown (own_w hw 9 rfl) (own_w hw 10 rfl) (own_w hw 11 rfl) e0 (g := (mkF m 4 #[vI 0, vI c1, vI c2, vI c3, vI c4] [])) rfl (hb hby d23_4) (by decide) (by decide)
  obtain ⟨b1, g1⟩ : ∃ z, z = h0.size := ⟨_, rfl⟩
  rw [← g1] at A1 D1 U1 st1
  refine OwnGoes.step (T' := T1) (g' := (mkF m 7 #[vI 0, vI c1, vI c2, vI c3, vI c4] [(.ref b1)])) st1 ?_
  have g_b1 : n0 ≤ b1 := Nat.le_trans (Nat.le_trans Z0 K0.1) (Nat.le_of_eq g1.symm)
  have s_b1 : h0.size ≤ b1 := Nat.le_trans K0.1 (Nat.le_of_eq g1.symm)
  have Sf1 : Safe Z consts_1 s.vm h1 b1 := Safe.ext E1 R0.1 (Safe.new (Nat.le_of_eq g1.symm))
  have Ol1 := X00.ext E1
  have K1 : Keep h0 h1 ([] : List Addr) := K0.ext E1
  have R1 := R0.trans (CHr.ext E1 R0.1)
  have hk1 := Nat.le_trans hk0 E1.1
  have F1_1 : Fld Z h1 b1 "java/lang/String" "value" "[B" .null := D1 (Or.inr (own_w hw 25 rfl)) (ty := (.array .byte)) (by decide)
  have F1_2 : Fld Z h1 b1 "java/lang/String" "coder" "B" (.int 0) := D1 (Or.inr (own_w hw 26 rfl)) (ty := .byte) (by decide)
  refine OwnGoes.step (T' := T1) (g' := (mkF m 9 #[vI 0, vI c1, vI c2, vI c3, vI c4] [(.int 0), (.ref b1), (.ref b1)])) (fun tgt kgo => ?_) ?_
  · refine XS.dup X1.here hx rfl (hb hby d23_7) rfl rfl ?_
    show OwnG p e below T1 m 8 #[vI 0, vI c1, vI c2, vI c3, vI c4] [(.ref b1), (.ref b1)] tgt
    refine XS.iconst X1.here hx rfl (hb hby d23_8) ?_
    exact kgo
  obtain ⟨T2, h2, k2, X2, e2, E2, A2, st2⟩ := newP X1 hx hZ (own_w hw 12 rfl) e1 (g := (mkF m 9 #[vI 0, vI c1, vI c2, vI c3, vI c4] [(.int 0), (.ref b1), (.ref b1)])) rfl (hb hby d23_9) rfl (by decide) (cap := 0) (by decide) (by decide) (by decide) (by decide)
  obtain ⟨b2, g2⟩ : ∃ z, z = h1.size := ⟨_, rfl⟩
  rw [← g2] at A2 st2
  refine OwnGoes.step (T' := T2) (g' := (mkF m 11 #[vI 0, vI c1, vI c2, vI c3, vI c4] [(.ref b2), (.ref b1), (.ref b1)])) st2 ?_
  have V2 : Arv Z h2 b2 k2 .char (0 : Int32) [] (.int 0) := (Arv.new A2 (by decide)).pad (pad_rep [] (.int 0) 0)
  have ne_b1_b2 : b1 ≠ b2 := Nat.ne_of_lt (Nat.lt_of_lt_of_le A1.lt (Nat.le_of_eq g2.symm))
  have g_b2 : n0 ≤ b2 := Nat.le_trans (Nat.le_trans Z0 K1.1) (Nat.le_of_eq g2.symm)
  have s_b2 : h0.size ≤ b2 := Nat.le_trans K1.1 (Nat.le_of_eq g2.symm)
  have Sf2 : Safe Z consts_1 s.vm h2 b2 := Safe.ext E2 R1.1 (Safe.new (Nat.le_of_eq g2.symm))
  have F2_3 := Safe.ext E2 R1.1 Sf1
  have F2_4 := A1.ext E2
  have F2_5 := F1_1.ext E2
  have F2_6 := F1_2.ext E2
  have Ol2 := Ol1.ext E2
  have K2 : Keep h0 h2 ([] : List Addr) := K1.ext E2
  have R2 := R1.trans (CHr.ext E2 R1.1)
  have hk2 := Nat.le_trans hk1 E2.1
  obtain ⟨_, _, ⟨T3, L3, k3, n3⟩, -, X3, Si3, Gr3, ⟨Lc3, hQ3, l3, y3, z3, Rc3⟩, st3⟩ := X2.specialBackS hx (y := mN9) rfl hown (mvT hZ (own_w hw 13 rfl)) (mvT hZ (own_w hw 14 rfl)) (mvT hZ (own_w hw 15 rfl)) (by decide) (backOfSH (W := 1) (rm_si2e l Z a0 hw [] wG1 wG3 cx hEL h2 n0 Ol2 b1 b2 k2 F2_4 F2_5 F2_6 g_b1 V2) hZ (own_w hw 15 rfl) (own_w hw 11 rfl) (by decide) (by decide) hEL R2.1) (g := (mkF m 11 #[vI 0, vI c1, vI c2, vI c3, vI c4] [(.ref b2), (.ref b1), (.ref b1)])) rfl (by rw [hml]; rfl) (Steps.refl _) (a := b1) (argsL := [(.ref b2)]) (rest := [(.ref b1)]) (lenOf pd_68446664 rfl) rfl (Nat.le_of_eq rfl) (hb hby d23_11) (fun _ _ => ⟨rfl, e2, (by decide : 2 + 4 ≤ _), (by decide : 4 + 8 ≤ _)⟩)
  dsimp only [Pt.U, Pt.locs, Pt.cells, Pt.slots] at X3 l3 y3 z3 st3 hQ3 Si3 Gr3 Rc3
  subst l3 y3 z3
  obtain ⟨t_3, k_3, rfl, Nq3, Kq3, fq3_0, fq3_1, fq3_2, fq3_3⟩ := hQ3
  refine OwnGoes.tr (T' := T3) (g' := (mkF m 14 #[vI 0, vI c1, vI c2, vI c3, vI c4] [(.ref b1)])) st3 ?_
  have N3 := Fr.app N0 Nq3
  have gz3 : h2.size ≤ T3.heap.size := Rc3.2.1
  obtain ⟨X3, hS3, hZ3, ho3⟩ := rebS hS0 hk2 X3 Si3 gz3 hZ hown
  have F3_7 := Rc3.safe F2_4.lt F2_3
  have F3_8 := F2_4.keep Kq3
  have F3_9 := Rc3.safe V2.lt Sf2
  have F3_10 := V2.keep Kq3 (ninS (Ne.symm ne_b1_b2) nin0)
  have Ol3 := Ol2.keep Kq3 (allS g_b1 all0)
  have K3 : Keep h0 T3.heap ([] : List Addr) := K2.trans Kq3 (allS (Or.inr s_b1) all0)
  have R3 := R2.trans Rc3
  have hret : ∀ fs, (∀ (f : JFrame) (acts : List Action), f.method = m → f.locked = none → f.entered = [] → (doReturn e (T3.setTop f) acts (some (.ref b1))).1 = T3.setFrames fs) → Steps p.tables e below (T3.setTop (mkF m 14 #[vI 0, vI c1, vI c2, vI c3, vI c4] [(.ref b1)])) (T3.setFrames fs) := by
    intro fs hr
    jvm_step X3.here [X3.here.top, hx, (hb hby d23_14), X3.method', Bd.returns, Value.isRef, FieldType.isReference]
    first | (intro acts; rw [hr _ acts rfl rfl rfl]) | rw [hr _ _ rfl rfl rfl]
    exact Steps.refl _
  refine own_leaveW (Z := Z) (EL := consts_1) X3 hS3 (Nat.le_refl _) hlk (v := some (.ref b1)) (fun h => by rw [Bd.returns] at h; cases h) hret (by decide) (by decide) ?_ ?_
  · rw [hh]
    exact R3.trans (CHv.at X3 hZ3 hEL R3.1)
  show Q_str_0 Z c1 c2 c3 c4 h0 n0 _ T3.heap _
  exact ⟨b1, t_3, k_3, rfl, N3, K3, fq3_0, fq3_1, fq3_2, fq3_3⟩
theorem ef_str_1 (m : MethodId) (x1 : Int32) (x2 : Int32) (x3 : Int32) (x4 : Int32) : entryFrame m #[(.int 1), (.int x1), (.int x2), (.int x3), (.int x4)] 5 = mkF m 0 #[vI 1, vI x1, vI x2, vI x3, vI x4] [] := by
  first | (simp [entryFrame, mkF, argsToLocals, Value.category]; done) | rfl
def Q_str_1 (Z : State) (c1 : Int32) (c2 : Int32) (c3 : Int32) (c4 : Int32) (h0 : Heap) (n0 : Nat) (v : Option Value) (h : Heap) (L : List Loc) : Prop := ∃ (x : Addr), ∃ (t : Addr), ∃ (k : ClassId), ∃ (N : Int32), ∃ (vs : List Value), ∃ (cd : Int32), v = some (.ref x) ∧ Fr n0 L ∧ Keep h0 h ([] : List Addr) ∧ h0.size ≤ x ∧ h0.size ≤ t ∧ Exa Z h x "java/lang/String" ∧ Fld Z h x "java/lang/String" "value" "[B" (.ref t) ∧ Fld Z h x "java/lang/String" "coder" "B" (.int cd) ∧ Arv Z h t k .byte N vs (.int 0) ∧ (OwnStr ([c1] : List Int32) cd N vs)
theorem d23_15 : decode method_4_code 15 = .ok (.iload_n 0, 1) := by decide +kernel
theorem d23_16 : decode method_4_code 16 = .ok (.iconst 1, 1) := by decide +kernel
theorem d23_17 : decode method_4_code 17 = .ok (.if_icmp .ne 18, 3) := by decide +kernel
theorem d23_20 : decode method_4_code 20 = .ok (.new 9, 3) := by decide +kernel
theorem d23_23 : decode method_4_code 23 = .ok (.dup, 1) := by decide +kernel
theorem d23_24 : decode method_4_code 24 = .ok (.iconst 1, 1) := by decide +kernel
theorem d23_25 : decode method_4_code 25 = .ok (.newarray .char, 2) := by decide +kernel
theorem d23_27 : decode method_4_code 27 = .ok (.dup, 1) := by decide +kernel
theorem d23_28 : decode method_4_code 28 = .ok (.iconst 0, 1) := by decide +kernel
theorem d23_29 : decode method_4_code 29 = .ok (.iload_n 1, 1) := by decide +kernel
theorem d23_30 : decode method_4_code 30 = .ok (.castore, 1) := by decide +kernel
theorem d23_31 : decode method_4_code 31 = .ok (.invokespecial 11, 3) := by decide +kernel
theorem d23_34 : decode method_4_code 34 = .ok (.areturn, 1) := by decide +kernel
set_option maxRecDepth 65536 in
set_option maxHeartbeats 40000000 in
theorem rm_str_1 (l : Launch) (Z : State) (a0 : Array Value) (hw : ∀ d ∈ tables_1, d.before a0 Z = true) (ws : List Jvm.Cond) (wG1 : Int32) (wG3 : Value) (cx : OwnCx Z a0 wG1 wG3) (hEL : EW Z a0 consts_1) (h0 : Heap) (n0 : Nat) (X00 : Old Z n0 h0) (c1 : Int32) (c2 : Int32) (c3 : Int32) (c4 : Int32) (hw1 : ¬ c1 < 0 ∧ ¬ (65535 : Int32) < c1) :
    MetFree l mN23 (head1 (Jvm.Cond.code mN23 method_4_code 5 (some (.object "java/lang/String")) :: ws) ({ frames := 6, cells := 4, slots := 8, locals := 88 } : Room)) (fun a U => a = #[(.int 1), (.int c1), (.int c2), (.int c3), (.int c4)] ∧ Z.Warmed39 U.vm ∧ U.heap = h0) (fun _ _ _ _ _ => True) (fun _ U o U' => ∃ v L, o = .returned v ∧ Q_str_1 Z c1 c2 c3 c4 h0 n0 v U'.heap L ∧ FrameEnd U o U' L ({ frames := 6, cells := 4, slots := 8, locals := 88 } : Room).cells ({ frames := 6, cells := 4, slots := 8, locals := 88 } : Room).slots) := by
  refine MetFree.of_bodySF (plainFor_of_name pn_60594471) hisR ?_
  intro p e s m args below meth c s₁ Bd hml0 hP hK
  obtain ⟨rfl, hZ, hh⟩ := hP
  obtain ⟨wO2, wP5, wO4, wrG3, hstr, wUA, wUH, wUL⟩ := id cx
  have hx := Bd.exec
  have hby := Bd.bytes
  have hlk := Bd.notSynchronized
  have hml : c.maxLocals = 5 := hml0
  have hown : s.vm.findClass "io/holdfast/cli/HttpHeadIsTargetPinLaw" = some m.cls := findClass_of_methodNamed Bd.named
  have hnm := (name_of_methodNamed Bd.named Bd.method).1
  have X0 : Stand p l e ({ frames := 6, cells := 4, slots := 8, locals := 88 } : Room) s m #[(.int 1), (.int c1), (.int c2), (.int c3), (.int c4)] below meth c s₁ [] 0 0 := Stand.of_body Bd
  have e0 : s₁.heap = h0 := by rw [← hh, Bd.state]; rfl
  have N0 := Fr.nil n0
  have Z0 : n0 ≤ h0.size := X00.1 ▸ X00.2.1
  have K0 : Keep h0 h0 ([] : List Addr) := Keep.refl _ _
  show OwnGoes p e below (fun o U' => ∃ v L, o = .returned v ∧ Q_str_1 Z c1 c2 c3 c4 h0 n0 v U'.heap L ∧ FrameEnd s o U' L ({ frames := 6, cells := 4, slots := 8, locals := 88 } : Room).cells ({ frames := 6, cells := 4, slots := 8, locals := 88 } : Room).slots) s₁ (entryFrame m #[(.int 1), (.int c1), (.int c2), (.int c3), (.int c4)] 5)
  refine OwnGoes.step (T' := s₁) (g' := (mkF m 0 #[vI 1, vI c1, vI c2, vI c3, vI c4] [])) (fun tgt kgo => castTop (ef_str_1 m c1 c2 c3 c4) kgo) ?_
  refine OwnGoes.step (T' := s₁) (g' := (mkF m 20 #[vI 1, vI c1, vI c2, vI c3, vI c4] [])) (fun tgt kgo => ?_) ?_
  · refine XS.iloadN X0.here hx rfl (hb hby d23_0) rfl ?_
    show OwnG p e below s₁ m 1 #[vI 1, vI c1, vI c2, vI c3, vI c4] [(.int 1)] tgt
    refine XS.ifYes X0.here hx rfl (pc0 := 1) (pc' := 15) rfl (hb hby d23_1) rfl ((if0 _ _).trans (feq (by decide : ¬ ((1 : Int32) = (0 : Int32)))).2) (by decide) (by decide) ?_
    show OwnG p e below s₁ m 15 #[vI 1, vI c1, vI c2, vI c3, vI c4] [] tgt
    refine XS.iloadN X0.here hx rfl (hb hby d23_15) rfl ?_
    show OwnG p e below s₁ m 16 #[vI 1, vI c1, vI c2, vI c3, vI c4] [(.int 1)] tgt
    refine XS.iconst X0.here hx rfl (hb hby d23_16) ?_
    show OwnG p e below s₁ m 17 #[vI 1, vI c1, vI c2, vI c3, vI c4] [(.int 1), (.int 1)] tgt
    refine XS.icmpNo X0.here hx rfl (hb hby d23_17) rfl (teq (by decide : (1 : Int32) = (1 : Int32))).2 ?_
    exact kgo
  obtain ⟨T1, h1, X1, e1, E1, A1, D1, U1, st1⟩ := newO X0 hx hZ hown (own_w hw 9 rfl) (own_w hw 10 rfl) (own_w hw 11 rfl) e0 (g := (mkF m 20 #[vI 1, vI c1, vI c2, vI c3, vI c4] [])) rfl (hb hby d23_20) (by decide) (by decide)
  obtain ⟨b1, g1⟩ : ∃ z, z = h0.size := ⟨_, rfl⟩
  rw [← g1] at A1 D1 U1 st1
  refine OwnGoes.step (T' := T1) (g' := (mkF m 23 #[vI 1, vI c1, vI c2, vI c3, vI c4] [(.ref b1)])) st1 ?_
  have g_b1 : n0 ≤ b1 := Nat.le_trans (Nat.le_trans Z0 K0.1) (Nat.le_of_eq g1.symm)
  have s_b1 : h0.size ≤ b1 := Nat.le_trans K0.1 (Nat.le_of_eq g1.symm)
  have Ol1 := X00.ext E1
  have K1 : Keep h0 h1 ([] : List Addr) := K0.ext E1
  have F1_1 : Fld Z h1 b1 "java/lang/String" "value" "[B" .null := D1 (Or.inr (own_w hw 25 rfl)) (ty := (.array .byte)) (by decide)
  have F1_2 : Fld Z h1 b1 "java/lang/String" "coder" "B" (.int 0) := D1 (Or.inr (own_w hw 26 rfl)) (ty := .byte) (by decide)
  refine OwnGoes.step (T' := T1) (g' := (mkF m 25 #[vI 1, vI c1, vI c2, vI c3, vI c4] [(.int 1), (.ref b1), (.ref b1)])) (fun tgt kgo => ?_) ?_
  · refine XS.dup X1.here hx rfl (hb hby d23_23) rfl rfl ?_
    show OwnG p e below T1 m 24 #[vI 1, vI c1, vI c2, vI c3, vI c4] [(.ref b1), (.ref b1)] tgt
    refine XS.iconst X1.here hx rfl (hb hby d23_24) ?_
    exact kgo
  obtain ⟨T2, h2, k2, X2, e2, E2, A2, st2⟩ := newP X1 hx hZ (own_w hw 12 rfl) e1 (g := (mkF m 25 #[vI 1, vI c1, vI c2, vI c3, vI c4] [(.int 1), (.ref b1), (.ref b1)])) rfl (hb hby d23_25) rfl (by decide) (cap := 1) (by decide) (by decide) (by decide) (by decide)
  obtain ⟨b2, g2⟩ : ∃ z, z = h1.size := ⟨_, rfl⟩
  rw [← g2] at A2 st2
  refine OwnGoes.step (T' := T2) (g' := (mkF m 27 #[vI 1, vI c1, vI c2, vI c3, vI c4] [(.ref b2), (.ref b1), (.ref b1)])) st2 ?_
  have V2 : Arv Z h2 b2 k2 .char (1 : Int32) [(.int 0)] (.int 0) := (Arv.new A2 (by decide)).pad (pad_rep [] (.int 0) 1)
  have ne_b1_b2 : b1 ≠ b2 := Nat.ne_of_lt (Nat.lt_of_lt_of_le A1.lt (Nat.le_of_eq g2.symm))
  have g_b2 : n0 ≤ b2 := Nat.le_trans (Nat.le_trans Z0 K1.1) (Nat.le_of_eq g2.symm)
  have s_b2 : h0.size ≤ b2 := Nat.le_trans K1.1 (Nat.le_of_eq g2.symm)
  have F2_3 := A1.ext E2
  have F2_4 := F1_1.ext E2
  have F2_5 := F1_2.ext E2
  have Ol2 := Ol1.ext E2
  have K2 : Keep h0 h2 ([] : List Addr) := K1.ext E2
  refine OwnGoes.step (T' := T2) (g' := (mkF m 30 #[vI 1, vI c1, vI c2, vI c3, vI c4] [(.int c1), (.int 0), (.ref b2), (.ref b2), (.ref b1), (.ref b1)])) (fun tgt kgo => ?_) ?_
  · refine XS.dup X2.here hx rfl (hb hby d23_27) rfl rfl ?_
    show OwnG p e below T2 m 28 #[vI 1, vI c1, vI c2, vI c3, vI c4] [(.ref b2), (.ref b2), (.ref b1), (.ref b1)] tgt
    refine XS.iconst X2.here hx rfl (hb hby d23_28) ?_
    show OwnG p e below T2 m 29 #[vI 1, vI c1, vI c2, vI c3, vI c4] [(.int 0), (.ref b2), (.ref b2), (.ref b1), (.ref b1)] tgt
    refine XS.iloadN X2.here hx rfl (hb hby d23_29) rfl ?_
    exact kgo
  obtain ⟨cl3, Ar3, q3, S3, M3, H3, G3⟩ := id V2
  obtain ⟨T3, h3, X3, e3, W3, st3⟩ := stC X2 hx hZ e2 Ar3 (j := (0 : Int32)) (inb_of S3 ⟨by decide, by decide⟩) (g := (mkF m 30 #[vI 1, vI c1, vI c2, vI c3, vI c4] [(.int c1), (.int 0), (.ref b2), (.ref b2), (.ref b1), (.ref b1)])) rfl rfl (hb hby d23_30)
  refine OwnGoes.step (T' := T3) (g' := (mkF m 31 #[vI 1, vI c1, vI c2, vI c3, vI c4] [(.ref b2), (.ref b1), (.ref b1)])) st3 ?_
  have V3 : Arv Z h3 b2 k2 .char (1 : Int32) [(.int (nar .char c1))] (.int 0) := Arv.set Ar3 q3 S3 M3 H3 G3 (fits_nar_char _) W3 0 rfl (Nat.le_of_ble_eq_true rfl)
  rw [(own_nar_w hw1)] at V3
  have V3' : Arv Z h3 b2 k2 .char (1 : Int32) [(.int c1)] (.int 0) := V3
  have F3_6 := F2_3.wr W3
  have F3_7 := F2_4.other W3 (Or.inl ne_b1_b2)
  have F3_8 := F2_5.other W3 (Or.inl ne_b1_b2)
  have Ol3 := Ol2.wr W3 g_b2
  have K3 : Keep h0 h3 ([] : List Addr) := K2.wr W3 (Or.inr s_b2)
  have N3 := Fr.snoc X3 N0 g_b2
  obtain ⟨_, _, ⟨T4, L4, k4, n4⟩, -, X4, ⟨Lc4, hQ4, l4, y4, z4⟩, st4⟩ := X3.specialBack hx (y := mN9) rfl hown (mvT hZ (own_w hw 13 rfl)) (mvT hZ (own_w hw 14 rfl)) (mvT hZ (own_w hw 15 rfl)) (by decide) (backOf (W := 1) (rm_si2_1 l Z a0 hw [] wG1 wG3 cx hEL h3 n0 Ol3 b1 b2 k2 c1 F3_6 F3_7 F3_8 g_b1 V3' hw1) hZ (own_w hw 15 rfl) (own_w hw 11 rfl) (by decide) (by decide)) (g := (mkF m 31 #[vI 1, vI c1, vI c2, vI c3, vI c4] [(.ref b2), (.ref b1), (.ref b1)])) rfl (by rw [hml]; rfl) (Steps.refl _) (a := b1) (argsL := [(.ref b2)]) (rest := [(.ref b1)]) (lenOf pd_68446664 rfl) rfl (Nat.le_of_eq rfl) (hb hby d23_31) (fun _ _ => ⟨rfl, e3, (by decide : 2 + 2 ≤ _), (by decide : 5 + 3 ≤ _)⟩)
  dsimp only [Pt.U, Pt.locs, Pt.cells, Pt.slots] at X4 l4 y4 z4 st4 hQ4
  subst l4 y4 z4
  obtain ⟨t_4, k_4, N_4, vs_4, cd_4, rfl, Nq4, Kq4, zq4_0, fq4_0, fq4_1, fq4_2, fq4_3, pq4_0⟩ := hQ4
  refine OwnGoes.tr (T' := T4) (g' := (mkF m 34 #[vI 1, vI c1, vI c2, vI c3, vI c4] [(.ref b1)])) st4 ?_
  have N4 := Fr.app N3 Nq4
  have ne_b1_t_4 : b1 ≠ t_4 := Nat.ne_of_lt (Nat.lt_of_lt_of_le F3_6.lt zq4_0)
  have ne_b2_t_4 : b2 ≠ t_4 := Nat.ne_of_lt (Nat.lt_of_lt_of_le V3'.lt zq4_0)
  have g_t_4 : n0 ≤ t_4 := Nat.le_trans (Nat.le_trans Z0 K3.1) zq4_0
  have s_t_4 : h0.size ≤ t_4 := Nat.le_trans K3.1 zq4_0
  have F4_9 := F3_6.keep Kq4
  have F4_10 := V3'.keep Kq4 (ninS (Ne.symm ne_b1_b2) nin0)
  have Ol4 := Ol3.keep Kq4 (allS g_b1 all0)
  have K4 : Keep h0 T4.heap ([] : List Addr) := K3.trans Kq4 (allS (Or.inr s_b1) all0)
  have hret : ∀ fs, (∀ (f : JFrame) (acts : List Action), f.method = m → f.locked = none → f.entered = [] → (doReturn e (T4.setTop f) acts (some (.ref b1))).1 = T4.setFrames fs) → Steps p.tables e below (T4.setTop (mkF m 34 #[vI 1, vI c1, vI c2, vI c3, vI c4] [(.ref b1)])) (T4.setFrames fs) := by
    intro fs hr
    jvm_step X4.here [X4.here.top, hx, (hb hby d23_34), X4.method', Bd.returns, Value.isRef, FieldType.isReference]
    first | (intro acts; rw [hr _ acts rfl rfl rfl]) | rw [hr _ _ rfl rfl rfl]
    exact Steps.refl _
  refine own_leave X4 hlk (v := some (.ref b1)) (fun h => by rw [Bd.returns] at h; cases h) hret (by decide) (by decide) ?_
  show Q_str_1 Z c1 c2 c3 c4 h0 n0 _ T4.heap _
  exact ⟨b1, t_4, k_4, N_4, vs_4, cd_4, rfl, N4, K4, s_b1, s_t_4, fq4_0, fq4_1, fq4_2, fq4_3, pq4_0⟩
theorem ef_str_2 (m : MethodId) (x1 : Int32) (x2 : Int32) (x3 : Int32) (x4 : Int32) : entryFrame m #[(.int 2), (.int x1), (.int x2), (.int x3), (.int x4)] 5 = mkF m 0 #[vI 2, vI x1, vI x2, vI x3, vI x4] [] := by
  first | (simp [entryFrame, mkF, argsToLocals, Value.category]; done) | rfl
def Q_str_2 (Z : State) (c1 : Int32) (c2 : Int32) (c3 : Int32) (c4 : Int32) (h0 : Heap) (n0 : Nat) (v : Option Value) (h : Heap) (L : List Loc) : Prop := ∃ (x : Addr), ∃ (t : Addr), ∃ (k : ClassId), ∃ (N : Int32), ∃ (vs : List Value), ∃ (cd : Int32), v = some (.ref x) ∧ Fr n0 L ∧ Keep h0 h ([] : List Addr) ∧ h0.size ≤ x ∧ h0.size ≤ t ∧ Exa Z h x "java/lang/String" ∧ Fld Z h x "java/lang/String" "value" "[B" (.ref t) ∧ Fld Z h x "java/lang/String" "coder" "B" (.int cd) ∧ Arv Z h t k .byte N vs (.int 0) ∧ (OwnStr ([c1, c2] : List Int32) cd N vs)
theorem d23_35 : decode method_4_code 35 = .ok (.iload_n 0, 1) := by decide +kernel
theorem d23_36 : decode method_4_code 36 = .ok (.iconst 2, 1) := by decide +kernel
theorem d23_37 : decode method_4_code 37 = .ok (.if_icmp .ne 22, 3) := by decide +kernel
theorem d23_40 : decode method_4_code 40 = .ok (.new 9, 3) := by decide +kernel
theorem d23_43 : decode method_4_code 43 = .ok (.dup, 1) := by decide +kernel
theorem d23_44 : decode method_4_code 44 = .ok (.iconst 2, 1) := by decide +kernel
theorem d23_45 : decode method_4_code 45 = .ok (.newarray .char, 2) := by decide +kernel
theorem d23_47 : decode method_4_code 47 = .ok (.dup, 1) := by decide +kernel
theorem d23_48 : decode method_4_code 48 = .ok (.iconst 0, 1) := by decide +kernel
theorem d23_49 : decode method_4_code 49 = .ok (.iload_n 1, 1) := by decide +kernel
theorem d23_50 : decode method_4_code 50 = .ok (.castore, 1) := by decide +kernel
theorem d23_51 : decode method_4_code 51 = .ok (.dup, 1) := by decide +kernel
theorem d23_52 : decode method_4_code 52 = .ok (.iconst 1, 1) := by decide +kernel
theorem d23_53 : decode method_4_code 53 = .ok (.iload_n 2, 1) := by decide +kernel
theorem d23_54 : decode method_4_code 54 = .ok (.castore, 1) := by decide +kernel
theorem d23_55 : decode method_4_code 55 = .ok (.invokespecial 11, 3) := by decide +kernel
theorem d23_58 : decode method_4_code 58 = .ok (.areturn, 1) := by decide +kernel
set_option maxRecDepth 65536 in
set_option maxHeartbeats 40000000 in
theorem rm_str_2 (l : Launch) (Z : State) (a0 : Array Value) (hw : ∀ d ∈ tables_1, d.before a0 Z = true) (ws : List Jvm.Cond) (wG1 : Int32) (wG3 : Value) (cx : OwnCx Z a0 wG1 wG3) (hEL : EW Z a0 consts_1) (h0 : Heap) (n0 : Nat) (X00 : Old Z n0 h0) (c1 : Int32) (c2 : Int32) (c3 : Int32) (c4 : Int32) (hw1 : ¬ c1 < 0 ∧ ¬ (65535 : Int32) < c1) (hw2 : ¬ c2 < 0 ∧ ¬ (65535 : Int32) < c2) :
    MetFree l mN23 (head1 (Jvm.Cond.code mN23 method_4_code 5 (some (.object "java/lang/String")) :: ws) ({ frames := 6, cells := 4, slots := 12, locals := 88 } : Room)) (fun a U => a = #[(.int 2), (.int c1), (.int c2), (.int c3), (.int c4)] ∧ Z.Warmed39 U.vm ∧ U.heap = h0) (fun _ _ _ _ _ => True) (fun _ U o U' => ∃ v L, o = .returned v ∧ Q_str_2 Z c1 c2 c3 c4 h0 n0 v U'.heap L ∧ FrameEnd U o U' L ({ frames := 6, cells := 4, slots := 12, locals := 88 } : Room).cells ({ frames := 6, cells := 4, slots := 12, locals := 88 } : Room).slots) := by
  refine MetFree.of_bodySF (plainFor_of_name pn_60594471) hisR ?_
  intro p e s m args below meth c s₁ Bd hml0 hP hK
  obtain ⟨rfl, hZ, hh⟩ := hP
  obtain ⟨wO2, wP5, wO4, wrG3, hstr, wUA, wUH, wUL⟩ := id cx
  have hx := Bd.exec
  have hby := Bd.bytes
  have hlk := Bd.notSynchronized
  have hml : c.maxLocals = 5 := hml0
  have hown : s.vm.findClass "io/holdfast/cli/HttpHeadIsTargetPinLaw" = some m.cls := findClass_of_methodNamed Bd.named
  have hnm := (name_of_methodNamed Bd.named Bd.method).1
  have X0 : Stand p l e ({ frames := 6, cells := 4, slots := 12, locals := 88 } : Room) s m #[(.int 2), (.int c1), (.int c2), (.int c3), (.int c4)] below meth c s₁ [] 0 0 := Stand.of_body Bd
  have e0 : s₁.heap = h0 := by rw [← hh, Bd.state]; rfl
  have N0 := Fr.nil n0
  have Z0 : n0 ≤ h0.size := X00.1 ▸ X00.2.1
  have K0 : Keep h0 h0 ([] : List Addr) := Keep.refl _ _
  show OwnGoes p e below (fun o U' => ∃ v L, o = .returned v ∧ Q_str_2 Z c1 c2 c3 c4 h0 n0 v U'.heap L ∧ FrameEnd s o U' L ({ frames := 6, cells := 4, slots := 12, locals := 88 } : Room).cells ({ frames := 6, cells := 4, slots := 12, locals := 88 } : Room).slots) s₁ (entryFrame m #[(.int 2), (.int c1), (.int c2), (.int c3), (.int c4)] 5)
  refine OwnGoes.step (T' := s₁) (g' := (mkF m 0 #[vI 2, vI c1, vI c2, vI c3, vI c4] [])) (fun tgt kgo => castTop (ef_str_2 m c1 c2 c3 c4) kgo) ?_
  refine OwnGoes.step (T' := s₁) (g' := (mkF m 40 #[vI 2, vI c1, vI c2, vI c3, vI c4] [])) (fun tgt kgo => ?_) ?_
  · refine XS.iloadN X0.here hx rfl (hb hby d23_0) rfl ?_
    show OwnG p e below s₁ m 1 #[vI 2, vI c1, vI c2, vI c3, vI c4] [(.int 2)] tgt
    refine XS.ifYes X0.here hx rfl (pc0 := 1) (pc' := 15) rfl (hb hby d23_1) rfl ((if0 _ _).trans (feq (by decide : ¬ ((2 : Int32) = (0 : Int32)))).2) (by decide) (by decide) ?_
    show OwnG p e below s₁ m 15 #[vI 2, vI c1, vI c2, vI c3, vI c4] [] tgt
    refine XS.iloadN X0.here hx rfl (hb hby d23_15) rfl ?_
    show OwnG p e below s₁ m 16 #[vI 2, vI c1, vI c2, vI c3, vI c4] [(.int 2)] tgt
    refine XS.iconst X0.here hx rfl (hb hby d23_16) ?_
    show OwnG p e below s₁ m 17 #[vI 2, vI c1, vI c2, vI c3, vI c4] [(.int 1), (.int 2)] tgt
    refine XS.icmpYes X0.here hx rfl (pc0 := 17) (pc' := 35) rfl (hb hby d23_17) rfl (feq (by decide : ¬ ((2 : Int32) = (1 : Int32)))).2 (by decide) (by decide) ?_
    show OwnG p e below s₁ m 35 #[vI 2, vI c1, vI c2, vI c3, vI c4] [] tgt
    refine XS.iloadN X0.here hx rfl (hb hby d23_35) rfl ?_
    show OwnG p e below s₁ m 36 #[vI 2, vI c1, vI c2, vI c3, vI c4] [(.int 2)] tgt
    refine XS.iconst X0.here hx rfl (hb hby d23_36) ?_
    show OwnG p e below s₁ m 37 #[vI 2, vI c1, vI c2, vI c3, vI c4] [(.int 2), (.int 2)] tgt
    refine XS.icmpNo X0.here hx rfl (hb hby d23_37) rfl (teq (by decide : (2 : Int32) = (2 : Int32))).2 ?_
    exact kgo
  obtain ⟨T1, h1, X1, e1, E1, A1, D1, U1, st1⟩ := newO X0 hx hZ hown (own_w hw 9 rfl) (own_w hw 10 rfl) (own_w hw 11 rfl) e0 (g := (mkF m 40 #[vI 2, vI c1, vI c2, vI c3, vI c4] [])) rfl (hb hby d23_40) (by decide) (by decide)
  obtain ⟨b1, g1⟩ : ∃ z, z = h0.size := ⟨_, rfl⟩
  rw [← g1] at A1 D1 U1 st1
  refine OwnGoes.step (T' := T1) (g' := (mkF m 43 #[vI 2, vI c1, vI c2, vI c3, vI c4] [(.ref b1)])) st1 ?_
  have g_b1 : n0 ≤ b1 := Nat.le_trans (Nat.le_trans Z0 K0.1) (Nat.le_of_eq g1.symm)
  have s_b1 : h0.size ≤ b1 := Nat.le_trans K0.1 (Nat.le_of_eq g1.symm)
  have Ol1 := X00.ext E1
  have K1 : Keep h0 h1 ([] : List Addr) := K0.ext E1
  have F1_1 : Fld Z h1 b1 "java/lang/String" "value" "[B" .null := D1 (Or.inr (own_w hw 25 rfl)) (ty := (.array .byte)) (by decide)
  have F1_2 : Fld Z h1 b1 "java/lang/String" "coder" "B" (.int 0) := D1 (Or.inr (own_w hw 26 rfl)) (ty := .byte) (by decide)
  refine OwnGoes.step (T' := T1) (g' := (mkF m 45 #[vI 2, vI c1, vI c2, vI c3, vI c4] [(.int 2), (.ref b1), (.ref b1)])) (fun tgt kgo => ?_) ?_
  · refine XS.dup X1.here hx rfl (hb hby d23_43) rfl rfl ?_
    show OwnG p e below T1 m 44 #[vI 2, vI c1, vI c2, vI c3, vI c4] [(.ref b1), (.ref b1)] tgt
    refine XS.iconst X1.here hx rfl (hb hby d23_44) ?_
    exact kgo
  obtain ⟨T2, h2, k2, X2, e2, E2, A2, st2⟩ := newP X1 hx hZ (own_w hw 12 rfl) e1 (g := (mkF m 45 #[vI 2, vI c1, vI c2, vI c3, vI c4] [(.int 2), (.ref b1), (.ref b1)])) rfl (hb hby d23_45) rfl (by decide) (cap := 2) (by decide) (by decide) (by decide) (by decide)
  obtain ⟨b2, g2⟩ : ∃ z, z = h1.size := ⟨_, rfl⟩
  rw [← g2] at A2 st2
  refine OwnGoes.step (T' := T2) (g' := (mkF m 47 #[vI 2, vI c1, vI c2, vI c3, vI c4] [(.ref b2), (.ref b1), (.ref b1)])) st2 ?_
  have V2 : Arv Z h2 b2 k2 .char (2 : Int32) [(.int 0), (.int 0)] (.int 0) := (Arv.new A2 (by decide)).pad (pad_rep [] (.int 0) 2)
  have ne_b1_b2 : b1 ≠ b2 := Nat.ne_of_lt (Nat.lt_of_lt_of_le A1.lt (Nat.le_of_eq g2.symm))
  have g_b2 : n0 ≤ b2 := Nat.le_trans (Nat.le_trans Z0 K1.1) (Nat.le_of_eq g2.symm)
  have s_b2 : h0.size ≤ b2 := Nat.le_trans K1.1 (Nat.le_of_eq g2.symm)
  have F2_3 := A1.ext E2
  have F2_4 := F1_1.ext E2
  have F2_5 := F1_2.ext E2
  have Ol2 := Ol1.ext E2
  have K2 : Keep h0 h2 ([] : List Addr) := K1.ext E2
  refine OwnGoes.step (T' := T2) (g' := (mkF m 50 #[vI 2, vI c1, vI c2, vI c3, vI c4] [(.int c1), (.int 0), (.ref b2), (.ref b2), (.ref b1), (.ref b1)])) (fun tgt kgo => ?_) ?_
  · refine XS.dup X2.here hx rfl (hb hby d23_47) rfl rfl ?_
    show OwnG p e below T2 m 48 #[vI 2, vI c1, vI c2, vI c3, vI c4] [(.ref b2), (.ref b2), (.ref b1), (.ref b1)] tgt
    refine XS.iconst X2.here hx rfl (hb hby d23_48) ?_
    show OwnG p e below T2 m 49 #[vI 2, vI c1, vI c2, vI c3, vI c4] [(.int 0), (.ref b2), (.ref b2), (.ref b1), (.ref b1)] tgt
    refine XS.iloadN X2.here hx rfl (hb hby d23_49) rfl ?_
    exact kgo
  obtain ⟨cl3, Ar3, q3, S3, M3, H3, G3⟩ := id V2
  obtain ⟨T3, h3, X3, e3, W3, st3⟩ := stC X2 hx hZ e2 Ar3 (j := (0 : Int32)) (inb_of S3 ⟨by decide, by decide⟩) (g := (mkF m 50 #[vI 2, vI c1, vI c2, vI c3, vI c4] [(.int c1), (.int 0), (.ref b2), (.ref b2), (.ref b1), (.ref b1)])) rfl rfl (hb hby d23_50)
  refine OwnGoes.step (T' := T3) (g' := (mkF m 51 #[vI 2, vI c1, vI c2, vI c3, vI c4] [(.ref b2), (.ref b1), (.ref b1)])) st3 ?_
  have V3 : Arv Z h3 b2 k2 .char (2 : Int32) [(.int (nar .char c1)), (.int 0)] (.int 0) := Arv.set Ar3 q3 S3 M3 H3 G3 (fits_nar_char _) W3 0 rfl (Nat.le_of_ble_eq_true rfl)
  rw [(own_nar_w hw1)] at V3
  have V3' : Arv Z h3 b2 k2 .char (2 : Int32) [(.int c1), (.int 0)] (.int 0) := V3
  have F3_6 := F2_3.wr W3
  have F3_7 := F2_4.other W3 (Or.inl ne_b1_b2)
  have F3_8 := F2_5.other W3 (Or.inl ne_b1_b2)
  have Ol3 := Ol2.wr W3 g_b2
  have K3 : Keep h0 h3 ([] : List Addr) := K2.wr W3 (Or.inr s_b2)
  have N3 := Fr.snoc X3 N0 g_b2
  refine OwnGoes.step (T' := T3) (g' := (mkF m 54 #[vI 2, vI c1, vI c2, vI c3, vI c4] [(.int c2), (.int 1), (.ref b2), (.ref b2), (.ref b1), (.ref b1)])) (fun tgt kgo => ?_) ?_
  · refine XS.dup X3.here hx rfl (hb hby d23_51) rfl rfl ?_
    show OwnG p e below T3 m 52 #[vI 2, vI c1, vI c2, vI c3, vI c4] [(.ref b2), (.ref b2), (.ref b1), (.ref b1)] tgt
    refine XS.iconst X3.here hx rfl (hb hby d23_52) ?_
    show OwnG p e below T3 m 53 #[vI 2, vI c1, vI c2, vI c3, vI c4] [(.int 1), (.ref b2), (.ref b2), (.ref b1), (.ref b1)] tgt
    refine XS.iloadN X3.here hx rfl (hb hby d23_53) rfl ?_
    exact kgo
  obtain ⟨cl4, Ar4, q4, S4, M4, H4, G4⟩ := id V3'
  obtain ⟨T4, h4, X4, e4, W4, st4⟩ := stC X3 hx hZ e3 Ar4 (j := (1 : Int32)) (inb_of S4 ⟨by decide, by decide⟩) (g := (mkF m 54 #[vI 2, vI c1, vI c2, vI c3, vI c4] [(.int c2), (.int 1), (.ref b2), (.ref b2), (.ref b1), (.ref b1)])) rfl rfl (hb hby d23_54)
  refine OwnGoes.step (T' := T4) (g' := (mkF m 55 #[vI 2, vI c1, vI c2, vI c3, vI c4] [(.ref b2), (.ref b1), (.ref b1)])) st4 ?_
  have V4 : Arv Z h4 b2 k2 .char (2 : Int32) [(.int c1), (.int (nar .char c2))] (.int 0) := Arv.set Ar4 q4 S4 M4 H4 G4 (fits_nar_char _) W4 1 rfl (Nat.le_of_ble_eq_true rfl)
  rw [(own_nar_w hw2)] at V4
  have V4' : Arv Z h4 b2 k2 .char (2 : Int32) [(.int c1), (.int c2)] (.int 0) := V4
  have F4_9 := F3_6.wr W4
  have F4_10 := F3_7.other W4 (Or.inl ne_b1_b2)
  have F4_11 := F3_8.other W4 (Or.inl ne_b1_b2)
  have Ol4 := Ol3.wr W4 g_b2
  have K4 : Keep h0 h4 ([] : List Addr) := K3.wr W4 (Or.inr s_b2)
  have N4 := Fr.snoc X4 N3 g_b2
  obtain ⟨_, _, ⟨T5, L5, k5, n5⟩, -, X5, ⟨Lc5, hQ5, l5, y5, z5⟩, st5⟩ := X4.specialBack hx (y := mN9) rfl hown (mvT hZ (own_w hw 13 rfl)) (mvT hZ (own_w hw 14 rfl)) (mvT hZ (own_w hw 15 rfl)) (by decide) (backOf (W := 1) (rm_si2_2 l Z a0 hw [] wG1 wG3 cx hEL h4 n0 Ol4 b1 b2 k2 c1 c2 F4_9 F4_10 F4_11 g_b1 V4' hw1 hw2) hZ (own_w hw 15 rfl) (own_w hw 11 rfl) (by decide) (by decide)) (g := (mkF m 55 #[vI 2, vI c1, vI c2, vI c3, vI c4] [(.ref b2), (.ref b1), (.ref b1)])) rfl (by rw [hml]; rfl) (Steps.refl _) (a := b1) (argsL := [(.ref b2)]) (rest := [(.ref b1)]) (lenOf pd_68446664 rfl) rfl (Nat.le_of_eq rfl) (hb hby d23_55) (fun _ _ => ⟨rfl, e4, (by decide : 2 + 2 ≤ _), (by decide : 6 + 6 ≤ _)⟩)
  dsimp only [Pt.U, Pt.locs, Pt.cells, Pt.slots] at X5 l5 y5 z5 st5 hQ5
  subst l5 y5 z5
  obtain ⟨t_5, k_5, N_5, vs_5, cd_5, rfl, Nq5, Kq5, zq5_0, fq5_0, fq5_1, fq5_2, fq5_3, pq5_0⟩ := hQ5
  refine OwnGoes.tr (T' := T5) (g' := (mkF m 58 #[vI 2, vI c1, vI c2, vI c3, vI c4] [(.ref b1)])) st5 ?_
  have N5 := Fr.app N4 Nq5
  have ne_b1_t_5 : b1 ≠ t_5 := Nat.ne_of_lt (Nat.lt_of_lt_of_le F4_9.lt zq5_0)
  have ne_b2_t_5 : b2 ≠ t_5 := Nat.ne_of_lt (Nat.lt_of_lt_of_le V4'.lt zq5_0)
  have g_t_5 : n0 ≤ t_5 := Nat.le_trans (Nat.le_trans Z0 K4.1) zq5_0
  have s_t_5 : h0.size ≤ t_5 := Nat.le_trans K4.1 zq5_0
  have F5_12 := F4_9.keep Kq5
  have F5_13 := V4'.keep Kq5 (ninS (Ne.symm ne_b1_b2) nin0)
  have Ol5 := Ol4.keep Kq5 (allS g_b1 all0)
  have K5 : Keep h0 T5.heap ([] : List Addr) := K4.trans Kq5 (allS (Or.inr s_b1) all0)
  have hret : ∀ fs, (∀ (f : JFrame) (acts : List Action), f.method = m → f.locked = none → f.entered = [] → (doReturn e (T5.setTop f) acts (some (.ref b1))).1 = T5.setFrames fs) → Steps p.tables e below (T5.setTop (mkF m 58 #[vI 2, vI c1, vI c2, vI c3, vI c4] [(.ref b1)])) (T5.setFrames fs) := by
    intro fs hr
    jvm_step X5.here [X5.here.top, hx, (hb hby d23_58), X5.method', Bd.returns, Value.isRef, FieldType.isReference]
    first | (intro acts; rw [hr _ acts rfl rfl rfl]) | rw [hr _ _ rfl rfl rfl]
    exact Steps.refl _
  refine own_leave X5 hlk (v := some (.ref b1)) (fun h => by rw [Bd.returns] at h; cases h) hret (by decide) (by decide) ?_
  show Q_str_2 Z c1 c2 c3 c4 h0 n0 _ T5.heap _
  exact ⟨b1, t_5, k_5, N_5, vs_5, cd_5, rfl, N5, K5, s_b1, s_t_5, fq5_0, fq5_1, fq5_2, fq5_3, pq5_0⟩
theorem ef_str_3 (m : MethodId) (x1 : Int32) (x2 : Int32) (x3 : Int32) (x4 : Int32) : entryFrame m #[(.int 3), (.int x1), (.int x2), (.int x3), (.int x4)] 5 = mkF m 0 #[vI 3, vI x1, vI x2, vI x3, vI x4] [] := by
  first | (simp [entryFrame, mkF, argsToLocals, Value.category]; done) | rfl
def Q_str_3 (Z : State) (c1 : Int32) (c2 : Int32) (c3 : Int32) (c4 : Int32) (h0 : Heap) (n0 : Nat) (v : Option Value) (h : Heap) (L : List Loc) : Prop := ∃ (x : Addr), ∃ (t : Addr), ∃ (k : ClassId), ∃ (N : Int32), ∃ (vs : List Value), ∃ (cd : Int32), v = some (.ref x) ∧ Fr n0 L ∧ Keep h0 h ([] : List Addr) ∧ h0.size ≤ x ∧ h0.size ≤ t ∧ Exa Z h x "java/lang/String" ∧ Fld Z h x "java/lang/String" "value" "[B" (.ref t) ∧ Fld Z h x "java/lang/String" "coder" "B" (.int cd) ∧ Arv Z h t k .byte N vs (.int 0) ∧ (OwnStr ([c1, c2, c3] : List Int32) cd N vs)
theorem d23_59 : decode method_4_code 59 = .ok (.iload_n 0, 1) := by decide +kernel
theorem d23_60 : decode method_4_code 60 = .ok (.iconst 3, 1) := by decide +kernel
theorem d23_61 : decode method_4_code 61 = .ok (.if_icmp .ne 26, 3) := by decide +kernel
theorem d23_64 : decode method_4_code 64 = .ok (.new 9, 3) := by decide +kernel
theorem d23_67 : decode method_4_code 67 = .ok (.dup, 1) := by decide +kernel
theorem d23_68 : decode method_4_code 68 = .ok (.iconst 3, 1) := by decide +kernel
theorem d23_69 : decode method_4_code 69 = .ok (.newarray .char, 2) := by decide +kernel
theorem d23_71 : decode method_4_code 71 = .ok (.dup, 1) := by decide +kernel
theorem d23_72 : decode method_4_code 72 = .ok (.iconst 0, 1) := by decide +kernel
theorem d23_73 : decode method_4_code 73 = .ok (.iload_n 1, 1) := by decide +kernel
theorem d23_74 : decode method_4_code 74 = .ok (.castore, 1) := by decide +kernel
theorem d23_75 : decode method_4_code 75 = .ok (.dup, 1) := by decide +kernel
theorem d23_76 : decode method_4_code 76 = .ok (.iconst 1, 1) := by decide +kernel
theorem d23_77 : decode method_4_code 77 = .ok (.iload_n 2, 1) := by decide +kernel
theorem d23_78 : decode method_4_code 78 = .ok (.castore, 1) := by decide +kernel
theorem d23_79 : decode method_4_code 79 = .ok (.dup, 1) := by decide +kernel
theorem d23_80 : decode method_4_code 80 = .ok (.iconst 2, 1) := by decide +kernel
theorem d23_81 : decode method_4_code 81 = .ok (.iload_n 3, 1) := by decide +kernel
theorem d23_82 : decode method_4_code 82 = .ok (.castore, 1) := by decide +kernel
theorem d23_83 : decode method_4_code 83 = .ok (.invokespecial 11, 3) := by decide +kernel
theorem d23_86 : decode method_4_code 86 = .ok (.areturn, 1) := by decide +kernel
set_option maxRecDepth 65536 in
set_option maxHeartbeats 40000000 in
theorem rm_str_3 (l : Launch) (Z : State) (a0 : Array Value) (hw : ∀ d ∈ tables_1, d.before a0 Z = true) (ws : List Jvm.Cond) (wG1 : Int32) (wG3 : Value) (cx : OwnCx Z a0 wG1 wG3) (hEL : EW Z a0 consts_1) (h0 : Heap) (n0 : Nat) (X00 : Old Z n0 h0) (c1 : Int32) (c2 : Int32) (c3 : Int32) (c4 : Int32) (hw1 : ¬ c1 < 0 ∧ ¬ (65535 : Int32) < c1) (hw2 : ¬ c2 < 0 ∧ ¬ (65535 : Int32) < c2) (hw3 : ¬ c3 < 0 ∧ ¬ (65535 : Int32) < c3) :
    MetFree l mN23 (head1 (Jvm.Cond.code mN23 method_4_code 5 (some (.object "java/lang/String")) :: ws) ({ frames := 6, cells := 4, slots := 16, locals := 88 } : Room)) (fun a U => a = #[(.int 3), (.int c1), (.int c2), (.int c3), (.int c4)] ∧ Z.Warmed39 U.vm ∧ U.heap = h0) (fun _ _ _ _ _ => True) (fun _ U o U' => ∃ v L, o = .returned v ∧ Q_str_3 Z c1 c2 c3 c4 h0 n0 v U'.heap L ∧ FrameEnd U o U' L ({ frames := 6, cells := 4, slots := 16, locals := 88 } : Room).cells ({ frames := 6, cells := 4, slots := 16, locals := 88 } : Room).slots) := by
  refine MetFree.of_bodySF (plainFor_of_name pn_60594471) hisR ?_
  intro p e s m args below meth c s₁ Bd hml0 hP hK
  obtain ⟨rfl, hZ, hh⟩ := hP
  obtain ⟨wO2, wP5, wO4, wrG3, hstr, wUA, wUH, wUL⟩ := id cx
  have hx := Bd.exec
  have hby := Bd.bytes
  have hlk := Bd.notSynchronized
  have hml : c.maxLocals = 5 := hml0
  have hown : s.vm.findClass "io/holdfast/cli/HttpHeadIsTargetPinLaw" = some m.cls := findClass_of_methodNamed Bd.named
  have hnm := (name_of_methodNamed Bd.named Bd.method).1
  have X0 : Stand p l e ({ frames := 6, cells := 4, slots := 16, locals := 88 } : Room) s m #[(.int 3), (.int c1), (.int c2), (.int c3), (.int c4)] below meth c s₁ [] 0 0 := Stand.of_body Bd
  have e0 : s₁.heap = h0 := by rw [← hh, Bd.state]; rfl
  have N0 := Fr.nil n0
  have Z0 : n0 ≤ h0.size := X00.1 ▸ X00.2.1
  have K0 : Keep h0 h0 ([] : List Addr) := Keep.refl _ _
  show OwnGoes p e below (fun o U' => ∃ v L, o = .returned v ∧ Q_str_3 Z c1 c2 c3 c4 h0 n0 v U'.heap L ∧ FrameEnd s o U' L ({ frames := 6, cells := 4, slots := 16, locals := 88 } : Room).cells ({ frames := 6, cells := 4, slots := 16, locals := 88 } : Room).slots) s₁ (entryFrame m #[(.int 3), (.int c1), (.int c2), (.int c3), (.int c4)] 5)
  refine OwnGoes.step (T' := s₁) (g' := (mkF m 0 #[vI 3, vI c1, vI c2, vI c3, vI c4] [])) (fun tgt kgo => castTop (ef_str_3 m c1 c2 c3 c4) kgo) ?_
  refine OwnGoes.step (T' := s₁) (g' := (mkF m 64 #[vI 3, vI c1, vI c2, vI c3, vI c4] [])) (fun tgt kgo => ?_) ?_
  · refine XS.iloadN X0.here hx rfl (hb hby d23_0) rfl ?_
    show OwnG p e below s₁ m 1 #[vI 3, vI c1, vI c2, vI c3, vI c4] [(.int 3)] tgt
    refine XS.ifYes X0.here hx rfl (pc0 := 1) (pc' := 15) rfl (hb hby d23_1) rfl ((if0 _ _).trans (feq (by decide : ¬ ((3 : Int32) = (0 : Int32)))).2) (by decide) (by decide) ?_
    show OwnG p e below s₁ m 15 #[vI 3, vI c1, vI c2, vI c3, vI c4] [] tgt
    refine XS.iloadN X0.here hx rfl (hb hby d23_15) rfl ?_
    show OwnG p e below s₁ m 16 #[vI 3, vI c1, vI c2, vI c3, vI c4] [(.int 3)] tgt
    refine XS.iconst X0.here hx rfl (hb hby d23_16) ?_
    show OwnG p e below s₁ m 17 #[vI 3, vI c1, vI c2, vI c3, vI c4] [(.int 1), (.int 3)] tgt
    refine XS.icmpYes X0.here hx rfl (pc0 := 17) (pc' := 35) rfl (hb hby d23_17) rfl (feq (by decide : ¬ ((3 : Int32) = (1 : Int32)))).2 (by decide) (by decide) ?_
    show OwnG p e below s₁ m 35 #[vI 3, vI c1, vI c2, vI c3, vI c4] [] tgt
    refine XS.iloadN X0.here hx rfl (hb hby d23_35) rfl ?_
    show OwnG p e below s₁ m 36 #[vI 3, vI c1, vI c2, vI c3, vI c4] [(.int 3)] tgt
    refine XS.iconst X0.here hx rfl (hb hby d23_36) ?_
    show OwnG p e below s₁ m 37 #[vI 3, vI c1, vI c2, vI c3, vI c4] [(.int 2), (.int 3)] tgt
    refine XS.icmpYes X0.here hx rfl (pc0 := 37) (pc' := 59) rfl (hb hby d23_37) rfl (feq (by decide : ¬ ((3 : Int32) = (2 : Int32)))).2 (by decide) (by decide) ?_
    show OwnG p e below s₁ m 59 #[vI 3, vI c1, vI c2, vI c3, vI c4] [] tgt
    refine XS.iloadN X0.here hx rfl (hb hby d23_59) rfl ?_
    show OwnG p e below s₁ m 60 #[vI 3, vI c1, vI c2, vI c3, vI c4] [(.int 3)] tgt
    refine XS.iconst X0.here hx rfl (hb hby d23_60) ?_
    show OwnG p e below s₁ m 61 #[vI 3, vI c1, vI c2, vI c3, vI c4] [(.int 3), (.int 3)] tgt
    refine XS.icmpNo X0.here hx rfl (hb hby d23_61) rfl (teq (by decide : (3 : Int32) = (3 : Int32))).2 ?_
    exact kgo
  obtain ⟨T1, h1, X1, e1, E1, A1, D1, U1, st1⟩ := newO X0 hx hZ hown (own_w hw 9 rfl) (own_w hw 10 rfl) (own_w hw 11 rfl) e0 (g := (mkF m 64 #[vI 3, vI c1, vI c2, vI c3, vI c4] [])) rfl (hb hby d23_64) (by decide) (by decide)
  obtain ⟨b1, g1⟩ : ∃ z, z = h0.size := ⟨_, rfl⟩
  rw [← g1] at A1 D1 U1 st1
  refine OwnGoes.step (T' := T1) (g' := (mkF m 67 #[vI 3, vI c1, vI c2, vI c3, vI c4] [(.ref b1)])) st1 ?_
  have g_b1 : n0 ≤ b1 := Nat.le_trans (Nat.le_trans Z0 K0.1) (Nat.le_of_eq g1.symm)
  have s_b1 : h0.size ≤ b1 := Nat.le_trans K0.1 (Nat.le_of_eq g1.symm)
  have Ol1 := X00.ext E1
  have K1 : Keep h0 h1 ([] : List Addr) := K0.ext E1
  have F1_1 : Fld Z h1 b1 "java/lang/String" "value" "[B" .null := D1 (Or.inr (own_w hw 25 rfl)) (ty := (.array .byte)) (by decide)
  have F1_2 : Fld Z h1 b1 "java/lang/String" "coder" "B" (.int 0) := D1 (Or.inr (own_w hw 26 rfl)) (ty := .byte) (by decide)
  refine OwnGoes.step (T' := T1) (g' := (mkF m 69 #[vI 3, vI c1, vI c2, vI c3, vI c4] [(.int 3), (.ref b1), (.ref b1)])) (fun tgt kgo => ?_) ?_
  · refine XS.dup X1.here hx rfl (hb hby d23_67) rfl rfl ?_
    show OwnG p e below T1 m 68 #[vI 3, vI c1, vI c2, vI c3, vI c4] [(.ref b1), (.ref b1)] tgt
    refine XS.iconst X1.here hx rfl (hb hby d23_68) ?_
    exact kgo
  obtain ⟨T2, h2, k2, X2, e2, E2, A2, st2⟩ := newP X1 hx hZ (own_w hw 12 rfl) e1 (g := (mkF m 69 #[vI 3, vI c1, vI c2, vI c3, vI c4] [(.int 3), (.ref b1), (.ref b1)])) rfl (hb hby d23_69) rfl (by decide) (cap := 3) (by decide) (by decide) (by decide) (by decide)
  obtain ⟨b2, g2⟩ : ∃ z, z = h1.size := ⟨_, rfl⟩
  rw [← g2] at A2 st2
  refine OwnGoes.step (T' := T2) (g' := (mkF m 71 #[vI 3, vI c1, vI c2, vI c3, vI c4] [(.ref b2), (.ref b1), (.ref b1)])) st2 ?_
  have V2 : Arv Z h2 b2 k2 .char (3 : Int32) [(.int 0), (.int 0), (.int 0)] (.int 0) := (Arv.new A2 (by decide)).pad (pad_rep [] (.int 0) 3)
  have ne_b1_b2 : b1 ≠ b2 := Nat.ne_of_lt (Nat.lt_of_lt_of_le A1.lt (Nat.le_of_eq g2.symm))
  have g_b2 : n0 ≤ b2 := Nat.le_trans (Nat.le_trans Z0 K1.1) (Nat.le_of_eq g2.symm)
  have s_b2 : h0.size ≤ b2 := Nat.le_trans K1.1 (Nat.le_of_eq g2.symm)
  have F2_3 := A1.ext E2
  have F2_4 := F1_1.ext E2
  have F2_5 := F1_2.ext E2
  have Ol2 := Ol1.ext E2
  have K2 : Keep h0 h2 ([] : List Addr) := K1.ext E2
  refine OwnGoes.step (T' := T2) (g' := (mkF m 74 #[vI 3, vI c1, vI c2, vI c3, vI c4] [(.int c1), (.int 0), (.ref b2), (.ref b2), (.ref b1), (.ref b1)])) (fun tgt kgo => ?_) ?_
  · refine XS.dup X2.here hx rfl (hb hby d23_71) rfl rfl ?_
    show OwnG p e below T2 m 72 #[vI 3, vI c1, vI c2, vI c3, vI c4] [(.ref b2), (.ref b2), (.ref b1), (.ref b1)] tgt
    refine XS.iconst X2.here hx rfl (hb hby d23_72) ?_
    show OwnG p e below T2 m 73 #[vI 3, vI c1, vI c2, vI c3, vI c4] [(.int 0), (.ref b2), (.ref b2), (.ref b1), (.ref b1)] tgt
    refine XS.iloadN X2.here hx rfl (hb hby d23_73) rfl ?_
    exact kgo
  obtain ⟨cl3, Ar3, q3, S3, M3, H3, G3⟩ := id V2
  obtain ⟨T3, h3, X3, e3, W3, st3⟩ := stC X2 hx hZ e2 Ar3 (j := (0 : Int32)) (inb_of S3 ⟨by decide, by decide⟩) (g := (mkF m 74 #[vI 3, vI c1, vI c2, vI c3, vI c4] [(.int c1), (.int 0), (.ref b2), (.ref b2), (.ref b1), (.ref b1)])) rfl rfl (hb hby d23_74)
  refine OwnGoes.step (T' := T3) (g' := (mkF m 75 #[vI 3, vI c1, vI c2, vI c3, vI c4] [(.ref b2), (.ref b1), (.ref b1)])) st3 ?_
  have V3 : Arv Z h3 b2 k2 .char (3 : Int32) [(.int (nar .char c1)), (.int 0), (.int 0)] (.int 0) := Arv.set Ar3 q3 S3 M3 H3 G3 (fits_nar_char _) W3 0 rfl (Nat.le_of_ble_eq_true rfl)
  rw [(own_nar_w hw1)] at V3
  have V3' : Arv Z h3 b2 k2 .char (3 : Int32) [(.int c1), (.int 0), (.int 0)] (.int 0) := V3
  have F3_6 := F2_3.wr W3
  have F3_7 := F2_4.other W3 (Or.inl ne_b1_b2)
  have F3_8 := F2_5.other W3 (Or.inl ne_b1_b2)
  have Ol3 := Ol2.wr W3 g_b2
  have K3 : Keep h0 h3 ([] : List Addr) := K2.wr W3 (Or.inr s_b2)
  have N3 := Fr.snoc X3 N0 g_b2
  refine OwnGoes.step (T' := T3) (g' := (mkF m 78 #[vI 3, vI c1, vI c2, vI c3, vI c4] [(.int c2), (.int 1), (.ref b2), (.ref b2), (.ref b1), (.ref b1)])) (fun tgt kgo => ?_) ?_
  · refine XS.dup X3.here hx rfl (hb hby d23_75) rfl rfl ?_
    show OwnG p e below T3 m 76 #[vI 3, vI c1, vI c2, vI c3, vI c4] [(.ref b2), (.ref b2), (.ref b1), (.ref b1)] tgt
    refine XS.iconst X3.here hx rfl (hb hby d23_76) ?_
    show OwnG p e below T3 m 77 #[vI 3, vI c1, vI c2, vI c3, vI c4] [(.int 1), (.ref b2), (.ref b2), (.ref b1), (.ref b1)] tgt
    refine XS.iloadN X3.here hx rfl (hb hby d23_77) rfl ?_
    exact kgo
  obtain ⟨cl4, Ar4, q4, S4, M4, H4, G4⟩ := id V3'
  obtain ⟨T4, h4, X4, e4, W4, st4⟩ := stC X3 hx hZ e3 Ar4 (j := (1 : Int32)) (inb_of S4 ⟨by decide, by decide⟩) (g := (mkF m 78 #[vI 3, vI c1, vI c2, vI c3, vI c4] [(.int c2), (.int 1), (.ref b2), (.ref b2), (.ref b1), (.ref b1)])) rfl rfl (hb hby d23_78)
  refine OwnGoes.step (T' := T4) (g' := (mkF m 79 #[vI 3, vI c1, vI c2, vI c3, vI c4] [(.ref b2), (.ref b1), (.ref b1)])) st4 ?_
  have V4 : Arv Z h4 b2 k2 .char (3 : Int32) [(.int c1), (.int (nar .char c2)), (.int 0)] (.int 0) := Arv.set Ar4 q4 S4 M4 H4 G4 (fits_nar_char _) W4 1 rfl (Nat.le_of_ble_eq_true rfl)
  rw [(own_nar_w hw2)] at V4
  have V4' : Arv Z h4 b2 k2 .char (3 : Int32) [(.int c1), (.int c2), (.int 0)] (.int 0) := V4
  have F4_9 := F3_6.wr W4
  have F4_10 := F3_7.other W4 (Or.inl ne_b1_b2)
  have F4_11 := F3_8.other W4 (Or.inl ne_b1_b2)
  have Ol4 := Ol3.wr W4 g_b2
  have K4 : Keep h0 h4 ([] : List Addr) := K3.wr W4 (Or.inr s_b2)
  have N4 := Fr.snoc X4 N3 g_b2
  refine OwnGoes.step (T' := T4) (g' := (mkF m 82 #[vI 3, vI c1, vI c2, vI c3, vI c4] [(.int c3), (.int 2), (.ref b2), (.ref b2), (.ref b1), (.ref b1)])) (fun tgt kgo => ?_) ?_
  · refine XS.dup X4.here hx rfl (hb hby d23_79) rfl rfl ?_
    show OwnG p e below T4 m 80 #[vI 3, vI c1, vI c2, vI c3, vI c4] [(.ref b2), (.ref b2), (.ref b1), (.ref b1)] tgt
    refine XS.iconst X4.here hx rfl (hb hby d23_80) ?_
    show OwnG p e below T4 m 81 #[vI 3, vI c1, vI c2, vI c3, vI c4] [(.int 2), (.ref b2), (.ref b2), (.ref b1), (.ref b1)] tgt
    refine XS.iloadN X4.here hx rfl (hb hby d23_81) rfl ?_
    exact kgo
  obtain ⟨cl5, Ar5, q5, S5, M5, H5, G5⟩ := id V4'
  obtain ⟨T5, h5, X5, e5, W5, st5⟩ := stC X4 hx hZ e4 Ar5 (j := (2 : Int32)) (inb_of S5 ⟨by decide, by decide⟩) (g := (mkF m 82 #[vI 3, vI c1, vI c2, vI c3, vI c4] [(.int c3), (.int 2), (.ref b2), (.ref b2), (.ref b1), (.ref b1)])) rfl rfl (hb hby d23_82)
  refine OwnGoes.step (T' := T5) (g' := (mkF m 83 #[vI 3, vI c1, vI c2, vI c3, vI c4] [(.ref b2), (.ref b1), (.ref b1)])) st5 ?_
  have V5 : Arv Z h5 b2 k2 .char (3 : Int32) [(.int c1), (.int c2), (.int (nar .char c3))] (.int 0) := Arv.set Ar5 q5 S5 M5 H5 G5 (fits_nar_char _) W5 2 rfl (Nat.le_of_ble_eq_true rfl)
  rw [(own_nar_w hw3)] at V5
  have V5' : Arv Z h5 b2 k2 .char (3 : Int32) [(.int c1), (.int c2), (.int c3)] (.int 0) := V5
  have F5_12 := F4_9.wr W5
  have F5_13 := F4_10.other W5 (Or.inl ne_b1_b2)
  have F5_14 := F4_11.other W5 (Or.inl ne_b1_b2)
  have Ol5 := Ol4.wr W5 g_b2
  have K5 : Keep h0 h5 ([] : List Addr) := K4.wr W5 (Or.inr s_b2)
  have N5 := Fr.snoc X5 N4 g_b2
  obtain ⟨_, _, ⟨T6, L6, k6, n6⟩, -, X6, ⟨Lc6, hQ6, l6, y6, z6⟩, st6⟩ := X5.specialBack hx (y := mN9) rfl hown (mvT hZ (own_w hw 13 rfl)) (mvT hZ (own_w hw 14 rfl)) (mvT hZ (own_w hw 15 rfl)) (by decide) (backOf (W := 1) (rm_si2_3 l Z a0 hw [] wG1 wG3 cx hEL h5 n0 Ol5 b1 b2 k2 c1 c2 c3 F5_12 F5_13 F5_14 g_b1 V5' hw1 hw2 hw3) hZ (own_w hw 15 rfl) (own_w hw 11 rfl) (by decide) (by decide)) (g := (mkF m 83 #[vI 3, vI c1, vI c2, vI c3, vI c4] [(.ref b2), (.ref b1), (.ref b1)])) rfl (by rw [hml]; rfl) (Steps.refl _) (a := b1) (argsL := [(.ref b2)]) (rest := [(.ref b1)]) (lenOf pd_68446664 rfl) rfl (Nat.le_of_eq rfl) (hb hby d23_83) (fun _ _ => ⟨rfl, e5, (by decide : 2 + 2 ≤ _), (by decide : 7 + 9 ≤ _)⟩)
  dsimp only [Pt.U, Pt.locs, Pt.cells, Pt.slots] at X6 l6 y6 z6 st6 hQ6
  subst l6 y6 z6
  obtain ⟨t_6, k_6, N_6, vs_6, cd_6, rfl, Nq6, Kq6, zq6_0, fq6_0, fq6_1, fq6_2, fq6_3, pq6_0⟩ := hQ6
  refine OwnGoes.tr (T' := T6) (g' := (mkF m 86 #[vI 3, vI c1, vI c2, vI c3, vI c4] [(.ref b1)])) st6 ?_
  have N6 := Fr.app N5 Nq6
  have ne_b1_t_6 : b1 ≠ t_6 := Nat.ne_of_lt (Nat.lt_of_lt_of_le F5_12.lt zq6_0)
  have ne_b2_t_6 : b2 ≠ t_6 := Nat.ne_of_lt (Nat.lt_of_lt_of_le V5'.lt zq6_0)
  have g_t_6 : n0 ≤ t_6 := Nat.le_trans (Nat.le_trans Z0 K5.1) zq6_0
  have s_t_6 : h0.size ≤ t_6 := Nat.le_trans K5.1 zq6_0
  have F6_15 := F5_12.keep Kq6
  have F6_16 := V5'.keep Kq6 (ninS (Ne.symm ne_b1_b2) nin0)
  have Ol6 := Ol5.keep Kq6 (allS g_b1 all0)
  have K6 : Keep h0 T6.heap ([] : List Addr) := K5.trans Kq6 (allS (Or.inr s_b1) all0)
  have hret : ∀ fs, (∀ (f : JFrame) (acts : List Action), f.method = m → f.locked = none → f.entered = [] → (doReturn e (T6.setTop f) acts (some (.ref b1))).1 = T6.setFrames fs) → Steps p.tables e below (T6.setTop (mkF m 86 #[vI 3, vI c1, vI c2, vI c3, vI c4] [(.ref b1)])) (T6.setFrames fs) := by
    intro fs hr
    jvm_step X6.here [X6.here.top, hx, (hb hby d23_86), X6.method', Bd.returns, Value.isRef, FieldType.isReference]
    first | (intro acts; rw [hr _ acts rfl rfl rfl]) | rw [hr _ _ rfl rfl rfl]
    exact Steps.refl _
  refine own_leave X6 hlk (v := some (.ref b1)) (fun h => by rw [Bd.returns] at h; cases h) hret (by decide) (by decide) ?_
  show Q_str_3 Z c1 c2 c3 c4 h0 n0 _ T6.heap _
  exact ⟨b1, t_6, k_6, N_6, vs_6, cd_6, rfl, N6, K6, s_b1, s_t_6, fq6_0, fq6_1, fq6_2, fq6_3, pq6_0⟩
theorem ef_str_4 (m : MethodId) (x1 : Int32) (x2 : Int32) (x3 : Int32) (x4 : Int32) : entryFrame m #[(.int 4), (.int x1), (.int x2), (.int x3), (.int x4)] 5 = mkF m 0 #[vI 4, vI x1, vI x2, vI x3, vI x4] [] := by
  first | (simp [entryFrame, mkF, argsToLocals, Value.category]; done) | rfl
def Q_str_4 (Z : State) (c1 : Int32) (c2 : Int32) (c3 : Int32) (c4 : Int32) (h0 : Heap) (n0 : Nat) (v : Option Value) (h : Heap) (L : List Loc) : Prop := ∃ (x : Addr), ∃ (t : Addr), ∃ (k : ClassId), ∃ (N : Int32), ∃ (vs : List Value), ∃ (cd : Int32), v = some (.ref x) ∧ Fr n0 L ∧ Keep h0 h ([] : List Addr) ∧ h0.size ≤ x ∧ h0.size ≤ t ∧ Exa Z h x "java/lang/String" ∧ Fld Z h x "java/lang/String" "value" "[B" (.ref t) ∧ Fld Z h x "java/lang/String" "coder" "B" (.int cd) ∧ Arv Z h t k .byte N vs (.int 0) ∧ (OwnStr ([c1, c2, c3, c4] : List Int32) cd N vs)
theorem d23_87 : decode method_4_code 87 = .ok (.new 9, 3) := by decide +kernel
theorem d23_90 : decode method_4_code 90 = .ok (.dup, 1) := by decide +kernel
theorem d23_91 : decode method_4_code 91 = .ok (.iconst 4, 1) := by decide +kernel
theorem d23_92 : decode method_4_code 92 = .ok (.newarray .char, 2) := by decide +kernel
theorem d23_94 : decode method_4_code 94 = .ok (.dup, 1) := by decide +kernel
theorem d23_95 : decode method_4_code 95 = .ok (.iconst 0, 1) := by decide +kernel
theorem d23_96 : decode method_4_code 96 = .ok (.iload_n 1, 1) := by decide +kernel
theorem d23_97 : decode method_4_code 97 = .ok (.castore, 1) := by decide +kernel
theorem d23_98 : decode method_4_code 98 = .ok (.dup, 1) := by decide +kernel
theorem d23_99 : decode method_4_code 99 = .ok (.iconst 1, 1) := by decide +kernel
theorem d23_100 : decode method_4_code 100 = .ok (.iload_n 2, 1) := by decide +kernel
theorem d23_101 : decode method_4_code 101 = .ok (.castore, 1) := by decide +kernel
theorem d23_102 : decode method_4_code 102 = .ok (.dup, 1) := by decide +kernel
theorem d23_103 : decode method_4_code 103 = .ok (.iconst 2, 1) := by decide +kernel
theorem d23_104 : decode method_4_code 104 = .ok (.iload_n 3, 1) := by decide +kernel
theorem d23_105 : decode method_4_code 105 = .ok (.castore, 1) := by decide +kernel
theorem d23_106 : decode method_4_code 106 = .ok (.dup, 1) := by decide +kernel
theorem d23_107 : decode method_4_code 107 = .ok (.iconst 3, 1) := by decide +kernel
theorem d23_108 : decode method_4_code 108 = .ok (.iload 4, 2) := by decide +kernel
theorem d23_110 : decode method_4_code 110 = .ok (.castore, 1) := by decide +kernel
theorem d23_111 : decode method_4_code 111 = .ok (.invokespecial 11, 3) := by decide +kernel
theorem d23_114 : decode method_4_code 114 = .ok (.areturn, 1) := by decide +kernel
set_option maxRecDepth 65536 in
set_option maxHeartbeats 40000000 in
theorem rm_str_4 (l : Launch) (Z : State) (a0 : Array Value) (hw : ∀ d ∈ tables_1, d.before a0 Z = true) (ws : List Jvm.Cond) (wG1 : Int32) (wG3 : Value) (cx : OwnCx Z a0 wG1 wG3) (hEL : EW Z a0 consts_1) (h0 : Heap) (n0 : Nat) (X00 : Old Z n0 h0) (c1 : Int32) (c2 : Int32) (c3 : Int32) (c4 : Int32) (hw1 : ¬ c1 < 0 ∧ ¬ (65535 : Int32) < c1) (hw2 : ¬ c2 < 0 ∧ ¬ (65535 : Int32) < c2) (hw3 : ¬ c3 < 0 ∧ ¬ (65535 : Int32) < c3) (hw4 : ¬ c4 < 0 ∧ ¬ (65535 : Int32) < c4) :
    MetFree l mN23 (head1 (Jvm.Cond.code mN23 method_4_code 5 (some (.object "java/lang/String")) :: ws) ({ frames := 6, cells := 4, slots := 20, locals := 88 } : Room)) (fun a U => a = #[(.int 4), (.int c1), (.int c2), (.int c3), (.int c4)] ∧ Z.Warmed39 U.vm ∧ U.heap = h0) (fun _ _ _ _ _ => True) (fun _ U o U' => ∃ v L, o = .returned v ∧ Q_str_4 Z c1 c2 c3 c4 h0 n0 v U'.heap L ∧ FrameEnd U o U' L ({ frames := 6, cells := 4, slots := 20, locals := 88 } : Room).cells ({ frames := 6, cells := 4, slots := 20, locals := 88 } : Room).slots) := by
  refine MetFree.of_bodySF (plainFor_of_name pn_60594471) hisR ?_
  intro p e s m args below meth c s₁ Bd hml0 hP hK
  obtain ⟨rfl, hZ, hh⟩ := hP
  obtain ⟨wO2, wP5, wO4, wrG3, hstr, wUA, wUH, wUL⟩ := id cx
  have hx := Bd.exec
  have hby := Bd.bytes
  have hlk := Bd.notSynchronized
  have hml : c.maxLocals = 5 := hml0
  have hown : s.vm.findClass "io/holdfast/cli/HttpHeadIsTargetPinLaw" = some m.cls := findClass_of_methodNamed Bd.named
  have hnm := (name_of_methodNamed Bd.named Bd.method).1
  have X0 : Stand p l e ({ frames := 6, cells := 4, slots := 20, locals := 88 } : Room) s m #[(.int 4), (.int c1), (.int c2), (.int c3), (.int c4)] below meth c s₁ [] 0 0 := Stand.of_body Bd
  have e0 : s₁.heap = h0 := by rw [← hh, Bd.state]; rfl
  have N0 := Fr.nil n0
  have Z0 : n0 ≤ h0.size := X00.1 ▸ X00.2.1
  have K0 : Keep h0 h0 ([] : List Addr) := Keep.refl _ _
  show OwnGoes p e below (fun o U' => ∃ v L, o = .returned v ∧ Q_str_4 Z c1 c2 c3 c4 h0 n0 v U'.heap L ∧ FrameEnd s o U' L ({ frames := 6, cells := 4, slots := 20, locals := 88 } : Room).cells ({ frames := 6, cells := 4, slots := 20, locals := 88 } : Room).slots) s₁ (entryFrame m #[(.int 4), (.int c1), (.int c2), (.int c3), (.int c4)] 5)
  refine OwnGoes.step (T' := s₁) (g' := (mkF m 0 #[vI 4, vI c1, vI c2, vI c3, vI c4] [])) (fun tgt kgo => castTop (ef_str_4 m c1 c2 c3 c4) kgo) ?_
  refine OwnGoes.step (T' := s₁) (g' := (mkF m 87 #[vI 4, vI c1, vI c2, vI c3, vI c4] [])) (fun tgt kgo => ?_) ?_
  · refine XS.iloadN X0.here hx rfl (hb hby d23_0) rfl ?_
    show OwnG p e below s₁ m 1 #[vI 4, vI c1, vI c2, vI c3, vI c4] [(.int 4)] tgt
    refine XS.ifYes X0.here hx rfl (pc0 := 1) (pc' := 15) rfl (hb hby d23_1) rfl ((if0 _ _).trans (feq (by decide : ¬ ((4 : Int32) = (0 : Int32)))).2) (by decide) (by decide) ?_
    show OwnG p e below s₁ m 15 #[vI 4, vI c1, vI c2, vI c3, vI c4] [] tgt
    refine XS.iloadN X0.here hx rfl (hb hby d23_15) rfl ?_
    show OwnG p e below s₁ m 16 #[vI 4, vI c1, vI c2, vI c3, vI c4] [(.int 4)] tgt
    refine XS.iconst X0.here hx rfl (hb hby d23_16) ?_
    show OwnG p e below s₁ m 17 #[vI 4, vI c1, vI c2, vI c3, vI c4] [(.int 1), (.int 4)] tgt
    refine XS.icmpYes X0.here hx rfl (pc0 := 17) (pc' := 35) rfl (hb hby d23_17) rfl (feq (by decide : ¬ ((4 : Int32) = (1 : Int32)))).2 (by decide) (by decide) ?_
    show OwnG p e below s₁ m 35 #[vI 4, vI c1, vI c2, vI c3, vI c4] [] tgt
    refine XS.iloadN X0.here hx rfl (hb hby d23_35) rfl ?_
    show OwnG p e below s₁ m 36 #[vI 4, vI c1, vI c2, vI c3, vI c4] [(.int 4)] tgt
    refine XS.iconst X0.here hx rfl (hb hby d23_36) ?_
    show OwnG p e below s₁ m 37 #[vI 4, vI c1, vI c2, vI c3, vI c4] [(.int 2), (.int 4)] tgt
    refine XS.icmpYes X0.here hx rfl (pc0 := 37) (pc' := 59) rfl (hb hby d23_37) rfl (feq (by decide : ¬ ((4 : Int32) = (2 : Int32)))).2 (by decide) (by decide) ?_
    show OwnG p e below s₁ m 59 #[vI 4, vI c1, vI c2, vI c3, vI c4] [] tgt
    refine XS.iloadN X0.here hx rfl (hb hby d23_59) rfl ?_
    show OwnG p e below s₁ m 60 #[vI 4, vI c1, vI c2, vI c3, vI c4] [(.int 4)] tgt
    refine XS.iconst X0.here hx rfl (hb hby d23_60) ?_
    show OwnG p e below s₁ m 61 #[vI 4, vI c1, vI c2, vI c3, vI c4] [(.int 3), (.int 4)] tgt
    refine XS.icmpYes X0.here hx rfl (pc0 := 61) (pc' := 87) rfl (hb hby d23_61) rfl (feq (by decide : ¬ ((4 : Int32) = (3 : Int32)))).2 (by decide) (by decide) ?_
    exact kgo
  obtain ⟨T1, h1, X1, e1, E1, A1, D1, U1, st1⟩ := newO X0 hx hZ hown (own_w hw 9 rfl) (own_w hw 10 rfl) (own_w hw 11 rfl) e0 (g := (mkF m 87 #[vI 4, vI c1, vI c2, vI c3, vI c4] [])) rfl (hb hby d23_87) (by decide) (by decide)
  obtain ⟨b1, g1⟩ : ∃ z, z = h0.size := ⟨_, rfl⟩
  rw [← g1] at A1 D1 U1 st1
  refine OwnGoes.step (T' := T1) (g' := (mkF m 90 #[vI 4, vI c1, vI c2, vI c3, vI c4] [(.ref b1)])) st1 ?_
  have g_b1 : n0 ≤ b1 := Nat.le_trans (Nat.le_trans Z0 K0.1) (Nat.le_of_eq g1.symm)
  have s_b1 : h0.size ≤ b1 := Nat.le_trans K0.1 (Nat.le_of_eq g1.symm)
  have Ol1 := X00.ext E1
  have K1 : Keep h0 h1 ([] : List Addr) := K0.ext E1
  have F1_1 : Fld Z h1 b1 "java/lang/String" "value" "[B" .null := D1 (Or.inr (own_w hw 25 rfl)) (ty := (.array .byte)) (by decide)
  have F1_2 : Fld Z h1 b1 "java/lang/String" "coder" "B" (.int 0) := D1 (Or.inr (own_w hw 26 rfl)) (ty := .byte) (by decide)
  refine OwnGoes.step (T' := T1) (g' := (mkF m 92 #[vI 4, vI c1, vI c2, vI c3, vI c4] [(.int 4), (.ref b1), (.ref b1)])) (fun tgt kgo => ?_) ?_
  · refine XS.dup X1.here hx rfl (hb hby d23_90) rfl rfl ?_
    show OwnG p e below T1 m 91 #[vI 4, vI c1, vI c2, vI c3, vI c4] [(.ref b1), (.ref b1)] tgt
    refine XS.iconst X1.here hx rfl (hb hby d23_91) ?_
    exact kgo
  obtain ⟨T2, h2, k2, X2, e2, E2, A2, st2⟩ := newP X1 hx hZ (own_w hw 12 rfl) e1 (g := (mkF m 92 #[vI 4, vI c1, vI c2, vI c3, vI c4] [(.int 4), (.ref b1), (.ref b1)])) rfl (hb hby d23_92) rfl (by decide) (cap := 4) (by decide) (by decide) (by decide) (by decide)
  obtain ⟨b2, g2⟩ : ∃ z, z = h1.size := ⟨_, rfl⟩
  rw [← g2] at A2 st2
  refine OwnGoes.step (T' := T2) (g' := (mkF m 94 #[vI 4, vI c1, vI c2, vI c3, vI c4] [(.ref b2), (.ref b1), (.ref b1)])) st2 ?_
  have V2 : Arv Z h2 b2 k2 .char (4 : Int32) [(.int 0), (.int 0), (.int 0), (.int 0)] (.int 0) := (Arv.new A2 (by decide)).pad (pad_rep [] (.int 0) 4)
  have ne_b1_b2 : b1 ≠ b2 := Nat.ne_of_lt (Nat.lt_of_lt_of_le A1.lt (Nat.le_of_eq g2.symm))
  have g_b2 : n0 ≤ b2 := Nat.le_trans (Nat.le_trans Z0 K1.1) (Nat.le_of_eq g2.symm)
  have s_b2 : h0.size ≤ b2 := Nat.le_trans K1.1 (Nat.le_of_eq g2.symm)
  have F2_3 := A1.ext E2
  have F2_4 := F1_1.ext E2
  have F2_5 := F1_2.ext E2
  have Ol2 := Ol1.ext E2
  have K2 : Keep h0 h2 ([] : List Addr) := K1.ext E2
  refine OwnGoes.step (T' := T2) (g' := (mkF m 97 #[vI 4, vI c1, vI c2, vI c3, vI c4] [(.int c1), (.int 0), (.ref b2), (.ref b2), (.ref b1), (.ref b1)])) (fun tgt kgo => ?_) ?_
  · refine XS.dup X2.here hx rfl (hb hby d23_94) rfl rfl ?_
    show OwnG p e below T2 m 95 #[vI 4, vI c1, vI c2, vI c3, vI c4] [(.ref b2), (.ref b2), (.ref b1), (.ref b1)] tgt
    refine XS.iconst X2.here hx rfl (hb hby d23_95) ?_
    show OwnG p e below T2 m 96 #[vI 4, vI c1, vI c2, vI c3, vI c4] [(.int 0), (.ref b2), (.ref b2), (.ref b1), (.ref b1)] tgt
    refine XS.iloadN X2.here hx rfl (hb hby d23_96) rfl ?_
    exact kgo
  obtain ⟨cl3, Ar3, q3, S3, M3, H3, G3⟩ := id V2
  obtain ⟨T3, h3, X3, e3, W3, st3⟩ := stC X2 hx hZ e2 Ar3 (j := (0 : Int32)) (inb_of S3 ⟨by decide, by decide⟩) (g := (mkF m 97 #[vI 4, vI c1, vI c2, vI c3, vI c4] [(.int c1), (.int 0), (.ref b2), (.ref b2), (.ref b1), (.ref b1)])) rfl rfl (hb hby d23_97)
  refine OwnGoes.step (T' := T3) (g' := (mkF m 98 #[vI 4, vI c1, vI c2, vI c3, vI c4] [(.ref b2), (.ref b1), (.ref b1)])) st3 ?_
  have V3 : Arv Z h3 b2 k2 .char (4 : Int32) [(.int (nar .char c1)), (.int 0), (.int 0), (.int 0)] (.int 0) := Arv.set Ar3 q3 S3 M3 H3 G3 (fits_nar_char _) W3 0 rfl (Nat.le_of_ble_eq_true rfl)
  rw [(own_nar_w hw1)] at V3
  have V3' : Arv Z h3 b2 k2 .char (4 : Int32) [(.int c1), (.int 0), (.int 0), (.int 0)] (.int 0) := V3
  have F3_6 := F2_3.wr W3
  have F3_7 := F2_4.other W3 (Or.inl ne_b1_b2)
  have F3_8 := F2_5.other W3 (Or.inl ne_b1_b2)
  have Ol3 := Ol2.wr W3 g_b2
  have K3 : Keep h0 h3 ([] : List Addr) := K2.wr W3 (Or.inr s_b2)
  have N3 := Fr.snoc X3 N0 g_b2
  refine OwnGoes.step (T' := T3) (g' := (mkF m 101 #[vI 4, vI c1, vI c2, vI c3, vI c4] [(.int c2), (.int 1), (.ref b2), (.ref b2), (.ref b1), (.ref b1)])) (fun tgt kgo => ?_) ?_
  · refine XS.dup X3.here hx rfl (hb hby d23_98) rfl rfl ?_
    show OwnG p e below T3 m 99 #[vI 4, vI c1, vI c2, vI c3, vI c4] [(.ref b2), (.ref b2), (.ref b1), (.ref b1)] tgt
    refine XS.iconst X3.here hx rfl (hb hby d23_99) ?_
    show OwnG p e below T3 m 100 #[vI 4, vI c1, vI c2, vI c3, vI c4] [(.int 1), (.ref b2), (.ref b2), (.ref b1), (.ref b1)] tgt
    refine XS.iloadN X3.here hx rfl (hb hby d23_100) rfl ?_
    exact kgo
  obtain ⟨cl4, Ar4, q4, S4, M4, H4, G4⟩ := id V3'
  obtain ⟨T4, h4, X4, e4, W4, st4⟩ := stC X3 hx hZ e3 Ar4 (j := (1 : Int32)) (inb_of S4 ⟨by decide, by decide⟩) (g := (mkF m 101 #[vI 4, vI c1, vI c2, vI c3, vI c4] [(.int c2), (.int 1), (.ref b2), (.ref b2), (.ref b1), (.ref b1)])) rfl rfl (hb hby d23_101)
  refine OwnGoes.step (T' := T4) (g' := (mkF m 102 #[vI 4, vI c1, vI c2, vI c3, vI c4] [(.ref b2), (.ref b1), (.ref b1)])) st4 ?_
  have V4 : Arv Z h4 b2 k2 .char (4 : Int32) [(.int c1), (.int (nar .char c2)), (.int 0), (.int 0)] (.int 0) := Arv.set Ar4 q4 S4 M4 H4 G4 (fits_nar_char _) W4 1 rfl (Nat.le_of_ble_eq_true rfl)
  rw [(own_nar_w hw2)] at V4
  have V4' : Arv Z h4 b2 k2 .char (4 : Int32) [(.int c1), (.int c2), (.int 0), (.int 0)] (.int 0) := V4
  have F4_9 := F3_6.wr W4
  have F4_10 := F3_7.other W4 (Or.inl ne_b1_b2)
  have F4_11 := F3_8.other W4 (Or.inl ne_b1_b2)
  have Ol4 := Ol3.wr W4 g_b2
  have K4 : Keep h0 h4 ([] : List Addr) := K3.wr W4 (Or.inr s_b2)
  have N4 := Fr.snoc X4 N3 g_b2
  refine OwnGoes.step (T' := T4) (g' := (mkF m 105 #[vI 4, vI c1, vI c2, vI c3, vI c4] [(.int c3), (.int 2), (.ref b2), (.ref b2), (.ref b1), (.ref b1)])) (fun tgt kgo => ?_) ?_
  · refine XS.dup X4.here hx rfl (hb hby d23_102) rfl rfl ?_
    show OwnG p e below T4 m 103 #[vI 4, vI c1, vI c2, vI c3, vI c4] [(.ref b2), (.ref b2), (.ref b1), (.ref b1)] tgt
    refine XS.iconst X4.here hx rfl (hb hby d23_103) ?_
    show OwnG p e below T4 m 104 #[vI 4, vI c1, vI c2, vI c3, vI c4] [(.int 2), (.ref b2), (.ref b2), (.ref b1), (.ref b1)] tgt
    refine XS.iloadN X4.here hx rfl (hb hby d23_104) rfl ?_
    exact kgo
  obtain ⟨cl5, Ar5, q5, S5, M5, H5, G5⟩ := id V4'
  obtain ⟨T5, h5, X5, e5, W5, st5⟩ := stC X4 hx hZ e4 Ar5 (j := (2 : Int32)) (inb_of S5 ⟨by decide, by decide⟩) (g := (mkF m 105 #[vI 4, vI c1, vI c2, vI c3, vI c4] [(.int c3), (.int 2), (.ref b2), (.ref b2), (.ref b1), (.ref b1)])) rfl rfl (hb hby d23_105)
  refine OwnGoes.step (T' := T5) (g' := (mkF m 106 #[vI 4, vI c1, vI c2, vI c3, vI c4] [(.ref b2), (.ref b1), (.ref b1)])) st5 ?_
  have V5 : Arv Z h5 b2 k2 .char (4 : Int32) [(.int c1), (.int c2), (.int (nar .char c3)), (.int 0)] (.int 0) := Arv.set Ar5 q5 S5 M5 H5 G5 (fits_nar_char _) W5 2 rfl (Nat.le_of_ble_eq_true rfl)
  rw [(own_nar_w hw3)] at V5
  have V5' : Arv Z h5 b2 k2 .char (4 : Int32) [(.int c1), (.int c2), (.int c3), (.int 0)] (.int 0) := V5
  have F5_12 := F4_9.wr W5
  have F5_13 := F4_10.other W5 (Or.inl ne_b1_b2)
  have F5_14 := F4_11.other W5 (Or.inl ne_b1_b2)
  have Ol5 := Ol4.wr W5 g_b2
  have K5 : Keep h0 h5 ([] : List Addr) := K4.wr W5 (Or.inr s_b2)
  have N5 := Fr.snoc X5 N4 g_b2
  refine OwnGoes.step (T' := T5) (g' := (mkF m 110 #[vI 4, vI c1, vI c2, vI c3, vI c4] [(.int c4), (.int 3), (.ref b2), (.ref b2), (.ref b1), (.ref b1)])) (fun tgt kgo => ?_) ?_
  · refine XS.dup X5.here hx rfl (hb hby d23_106) rfl rfl ?_
    show OwnG p e below T5 m 107 #[vI 4, vI c1, vI c2, vI c3, vI c4] [(.ref b2), (.ref b2), (.ref b1), (.ref b1)] tgt
    refine XS.iconst X5.here hx rfl (hb hby d23_107) ?_
    show OwnG p e below T5 m 108 #[vI 4, vI c1, vI c2, vI c3, vI c4] [(.int 3), (.ref b2), (.ref b2), (.ref b1), (.ref b1)] tgt
    refine XS.iload X5.here hx rfl (hb hby d23_108) rfl ?_
    exact kgo
  obtain ⟨cl6, Ar6, q6, S6, M6, H6, G6⟩ := id V5'
  obtain ⟨T6, h6, X6, e6, W6, st6⟩ := stC X5 hx hZ e5 Ar6 (j := (3 : Int32)) (inb_of S6 ⟨by decide, by decide⟩) (g := (mkF m 110 #[vI 4, vI c1, vI c2, vI c3, vI c4] [(.int c4), (.int 3), (.ref b2), (.ref b2), (.ref b1), (.ref b1)])) rfl rfl (hb hby d23_110)
  refine OwnGoes.step (T' := T6) (g' := (mkF m 111 #[vI 4, vI c1, vI c2, vI c3, vI c4] [(.ref b2), (.ref b1), (.ref b1)])) st6 ?_
  have V6 : Arv Z h6 b2 k2 .char (4 : Int32) [(.int c1), (.int c2), (.int c3), (.int (nar .char c4))] (.int 0) := Arv.set Ar6 q6 S6 M6 H6 G6 (fits_nar_char _) W6 3 rfl (Nat.le_of_ble_eq_true rfl)
  rw [(own_nar_w hw4)] at V6
  have V6' : Arv Z h6 b2 k2 .char (4 : Int32) [(.int c1), (.int c2), (.int c3), (.int c4)] (.int 0) := V6
  have F6_15 := F5_12.wr W6
  have F6_16 := F5_13.other W6 (Or.inl ne_b1_b2)
  have F6_17 := F5_14.other W6 (Or.inl ne_b1_b2)
  have Ol6 := Ol5.wr W6 g_b2
  have K6 : Keep h0 h6 ([] : List Addr) := K5.wr W6 (Or.inr s_b2)
  have N6 := Fr.snoc X6 N5 g_b2
  obtain ⟨_, _, ⟨T7, L7, k7, n7⟩, -, X7, ⟨Lc7, hQ7, l7, y7, z7⟩, st7⟩ := X6.specialBack hx (y := mN9) rfl hown (mvT hZ (own_w hw 13 rfl)) (mvT hZ (own_w hw 14 rfl)) (mvT hZ (own_w hw 15 rfl)) (by decide) (backOf (W := 1) (rm_si2_4 l Z a0 hw [] wG1 wG3 cx hEL h6 n0 Ol6 b1 b2 k2 c1 c2 c3 c4 F6_15 F6_16 F6_17 g_b1 V6' hw1 hw2 hw3 hw4) hZ (own_w hw 15 rfl) (own_w hw 11 rfl) (by decide) (by decide)) (g := (mkF m 111 #[vI 4, vI c1, vI c2, vI c3, vI c4] [(.ref b2), (.ref b1), (.ref b1)])) rfl (by rw [hml]; rfl) (Steps.refl _) (a := b1) (argsL := [(.ref b2)]) (rest := [(.ref b1)]) (lenOf pd_68446664 rfl) rfl (Nat.le_of_eq rfl) (hb hby d23_111) (fun _ _ => ⟨rfl, e6, (by decide : 2 + 2 ≤ _), (by decide : 8 + 12 ≤ _)⟩)
  dsimp only [Pt.U, Pt.locs, Pt.cells, Pt.slots] at X7 l7 y7 z7 st7 hQ7
  subst l7 y7 z7
  obtain ⟨t_7, k_7, N_7, vs_7, cd_7, rfl, Nq7, Kq7, zq7_0, fq7_0, fq7_1, fq7_2, fq7_3, pq7_0⟩ := hQ7
  refine OwnGoes.tr (T' := T7) (g' := (mkF m 114 #[vI 4, vI c1, vI c2, vI c3, vI c4] [(.ref b1)])) st7 ?_
  have N7 := Fr.app N6 Nq7
  have ne_b1_t_7 : b1 ≠ t_7 := Nat.ne_of_lt (Nat.lt_of_lt_of_le F6_15.lt zq7_0)
  have ne_b2_t_7 : b2 ≠ t_7 := Nat.ne_of_lt (Nat.lt_of_lt_of_le V6'.lt zq7_0)
  have g_t_7 : n0 ≤ t_7 := Nat.le_trans (Nat.le_trans Z0 K6.1) zq7_0
  have s_t_7 : h0.size ≤ t_7 := Nat.le_trans K6.1 zq7_0
  have F7_18 := F6_15.keep Kq7
  have F7_19 := V6'.keep Kq7 (ninS (Ne.symm ne_b1_b2) nin0)
  have Ol7 := Ol6.keep Kq7 (allS g_b1 all0)
  have K7 : Keep h0 T7.heap ([] : List Addr) := K6.trans Kq7 (allS (Or.inr s_b1) all0)
  have hret : ∀ fs, (∀ (f : JFrame) (acts : List Action), f.method = m → f.locked = none → f.entered = [] → (doReturn e (T7.setTop f) acts (some (.ref b1))).1 = T7.setFrames fs) → Steps p.tables e below (T7.setTop (mkF m 114 #[vI 4, vI c1, vI c2, vI c3, vI c4] [(.ref b1)])) (T7.setFrames fs) := by
    intro fs hr
    jvm_step X7.here [X7.here.top, hx, (hb hby d23_114), X7.method', Bd.returns, Value.isRef, FieldType.isReference]
    first | (intro acts; rw [hr _ acts rfl rfl rfl]) | rw [hr _ _ rfl rfl rfl]
    exact Steps.refl _
  refine own_leave X7 hlk (v := some (.ref b1)) (fun h => by rw [Bd.returns] at h; cases h) hret (by decide) (by decide) ?_
  show Q_str_4 Z c1 c2 c3 c4 h0 n0 _ T7.heap _
  exact ⟨b1, t_7, k_7, N_7, vs_7, cd_7, rfl, N7, K7, s_b1, s_t_7, fq7_0, fq7_1, fq7_2, fq7_3, pq7_0⟩
theorem ef_isT_0 (m : MethodId) (x0 : Addr) : entryFrame m #[(.ref x0)] 3 = mkF m 0 #[vR x0, vU, vU] [] := by
  first | (simp [entryFrame, mkF, argsToLocals, Value.category]; done) | rfl
def Q_isT_0 (Z : State) (a1 : Addr) (tb1 : Addr) (kb1 : ClassId) (vs1 : List Value) (h0 : Heap) (n0 : Nat) (v : Option Value) (h : Heap) (L : List Loc) : Prop := v = some (.int 0) ∧ Fr n0 L ∧ h = h0
theorem pn_95124969 : plainName "io/holdfast/cli/HttpHead" = true := by first | (simp [plainName, overriddenIn]; done) | decide +kernel
theorem d24_0 : decode prog_1_method_5_code 0 = .ok (.aload_n 0, 1) := by decide +kernel
theorem d24_1 : decode prog_1_method_5_code 1 = .ok (.invokevirtual 102, 3) := by decide +kernel
theorem d24_4 : decode prog_1_method_5_code 4 = .ok (.ifCond .eq 5, 3) := by decide +kernel
theorem d24_7 : decode prog_1_method_5_code 7 = .ok (.iconst 0, 1) := by decide +kernel
theorem d24_8 : decode prog_1_method_5_code 8 = .ok (.ireturn, 1) := by decide +kernel
set_option maxRecDepth 65536 in
set_option maxHeartbeats 40000000 in
theorem rm_isT_0 (l : Launch) (Z : State) (a0 : Array Value) (hw : ∀ d ∈ tables_1, d.before a0 Z = true) (ws : List Jvm.Cond) (wG1 : Int32) (wG3 : Value) (cx : OwnCx Z a0 wG1 wG3) (hEL : EW Z a0 consts_1) (h0 : Heap) (n0 : Nat) (X00 : Old Z n0 h0) (a1 : Addr) (tb1 : Addr) (kb1 : ClassId) (vs1 : List Value) (f0 : Exa Z h0 a1 "java/lang/String") (f1 : Fld Z h0 a1 "java/lang/String" "value" "[B" (.ref tb1)) (f2 : Fld Z h0 a1 "java/lang/String" "coder" "B" (.int 0)) (f3 : Arv Z h0 tb1 kb1 .byte (0 : Int32) vs1 (.int 0)) (hos : OwnStr ([] : List Int32) (0 : Int32) (0 : Int32) vs1) :
    MetFree l mN24 (head1 (Jvm.Cond.code mN24 prog_1_method_5_code 3 (some .boolean) :: ws) ({ frames := 1, cells := 0, slots := 0, locals := 12 } : Room)) (fun a U => a = #[(.ref a1)] ∧ Z.Warmed39 U.vm ∧ U.heap = h0) (fun _ _ _ _ _ => True) (fun _ U o U' => ∃ v L, o = .returned v ∧ Q_isT_0 Z a1 tb1 kb1 vs1 h0 n0 v U'.heap L ∧ FrameEnd U o U' L ({ frames := 1, cells := 0, slots := 0, locals := 12 } : Room).cells ({ frames := 1, cells := 0, slots := 0, locals := 12 } : Room).slots) := by
  refine MetFree.of_bodySF (plainFor_of_name pn_95124969) hisR ?_
  intro p e s m args below meth c s₁ Bd hml0 hP hK
  obtain ⟨rfl, hZ, hh⟩ := hP
  obtain ⟨wO2, wP5, wO4, wrG3, hstr, wUA, wUH, wUL⟩ := id cx
  have hx := Bd.exec
  have hby := Bd.bytes
  have hlk := Bd.notSynchronized
  have hml : c.maxLocals = 3 := hml0
  have hown : s.vm.findClass "io/holdfast/cli/HttpHead" = some m.cls := findClass_of_methodNamed Bd.named
  have hnm := (name_of_methodNamed Bd.named Bd.method).1
  have X0 : Stand p l e ({ frames := 1, cells := 0, slots := 0, locals := 12 } : Room) s m #[(.ref a1)] below meth c s₁ [] 0 0 := Stand.of_body Bd
  have e0 : s₁.heap = h0 := by rw [← hh, Bd.state]; rfl
  have N0 := Fr.nil n0
  have Z0 : n0 ≤ h0.size := X00.1 ▸ X00.2.1
  have K0 : Keep h0 h0 ([] : List Addr) := Keep.refl _ _
  show OwnGoes p e below (fun o U' => ∃ v L, o = .returned v ∧ Q_isT_0 Z a1 tb1 kb1 vs1 h0 n0 v U'.heap L ∧ FrameEnd s o U' L ({ frames := 1, cells := 0, slots := 0, locals := 12 } : Room).cells ({ frames := 1, cells := 0, slots := 0, locals := 12 } : Room).slots) s₁ (entryFrame m #[(.ref a1)] 3)
  refine OwnGoes.step (T' := s₁) (g' := (mkF m 0 #[vR a1, vU, vU] [])) (fun tgt kgo => castTop (ef_isT_0 m a1) kgo) ?_
  refine OwnGoes.step (T' := s₁) (g' := (mkF m 1 #[vR a1, vU, vU] [(.ref a1)])) (fun tgt kgo => ?_) ?_
  · refine XS.aloadN X0.here hx rfl (hb hby d24_0) rfl rfl ?_
    exact kgo
  obtain ⟨cq1, kq1, q1a, q1b, q1c⟩ := isOf (s := s) hZ e0 f0
  obtain ⟨_, _, ⟨T1, L1, k1, n1⟩, -, X1, ⟨Lc1, hQ1, l1, y1, z1⟩, st1⟩ := X0.virtualBack hx (y := mN20) (z := mN20) hown (mvT hZ (own_w hw 35 rfl)) (mvT hZ (own_w hw 36 rfl)) (notFace_of_selects (args := #[]) (mvT hZ (own_w hw 38 rfl))) (mvT hZ (own_w hw 38 rfl)) (mvT hZ (own_w hw 37 rfl)) (by decide) (backOf (W := 0) (rm_emp0 l Z a0 hw [] wG1 wG3 cx hEL h0 n0 X00 a1 tb1 kb1 vs1 f0 f1 f3) hZ (own_w hw 39 rfl) (own_w hw 11 rfl) (by decide) (by decide)) q1a q1c (g := (mkF m 1 #[vR a1, vU, vU] [(.ref a1)])) rfl (by rw [hml]; rfl) (Steps.refl _) (argsL := []) (rest := []) (lenOf pd_15861835 rfl) rfl (Nat.le_of_eq rfl) (hb hby d24_1) (fun _ _ => ⟨rfl, e0, (by decide : 0 + 0 ≤ _), (by decide : 0 + 0 ≤ _)⟩)
  dsimp only [Pt.U, Pt.locs, Pt.cells, Pt.slots] at X1 l1 y1 z1 st1 hQ1
  subst l1 y1 z1
  obtain ⟨rfl, Nq1, eq1⟩ := hQ1
  refine OwnGoes.tr (T' := T1) (g' := (mkF m 4 #[vR a1, vU, vU] [(.int 1)])) st1 ?_
  have N1 := Fr.app N0 Nq1
  refine OwnGoes.step (T' := T1) (g' := (mkF m 8 #[vR a1, vU, vU] [(.int 0)])) (fun tgt kgo => ?_) ?_
  · refine XS.ifNo X1.here hx rfl (hb hby d24_4) rfl ((if0 _ _).trans (feq (by decide : ¬ ((1 : Int32) = (0 : Int32)))).1) ?_
    show OwnG p e below T1 m 7 #[vR a1, vU, vU] [] tgt
    refine XS.iconst X1.here hx rfl (hb hby d24_7) ?_
    exact kgo
  refine own_leave X1 hlk (v := some (.int 0)) (fun h => by rw [Bd.returns] at h; cases h) (fun fs hr => retN X1 hx (t := .boolean) Bd.returns (by simp) (hb hby d24_8) (by rw [(by decide : nar .boolean (0 : Int32) = (0 : Int32))]; exact hr)) (by decide) (by decide) ?_
  show Q_isT_0 Z a1 tb1 kb1 vs1 h0 n0 _ T1.heap _
  rw [eq1]
  exact ⟨rfl, N1, rfl⟩
theorem ef_isT_1 (m : MethodId) (x0 : Addr) : entryFrame m #[(.ref x0)] 3 = mkF m 0 #[vR x0, vU, vU] [] := by
  first | (simp [entryFrame, mkF, argsToLocals, Value.category]; done) | rfl
def Q_isT_1 (Z : State) (a1 : Addr) (tb1 : Addr) (kb1 : ClassId) (cd1 : Int32) (nB1 : Int32) (vs1 : List Value) (c1 : Int32) (h0 : Heap) (n0 : Nat) (v : Option Value) (h : Heap) (L : List Loc) : Prop := ∃ (r : Int32), v = some (.int r) ∧ Fr n0 L ∧ h = h0 ∧ ((r = (1 : Int32) ∧ (OwnOk c1)) ∨ (r = (0 : Int32) ∧ ¬ (OwnOk c1)))
theorem d24_9 : decode prog_1_method_5_code 9 = .ok (.iconst 0, 1) := by decide +kernel
theorem d24_10 : decode prog_1_method_5_code 10 = .ok (.istore_n 1, 1) := by decide +kernel
theorem d24_11 : decode prog_1_method_5_code 11 = .ok (.iload_n 1, 1) := by decide +kernel
theorem d24_12 : decode prog_1_method_5_code 12 = .ok (.aload_n 0, 1) := by decide +kernel
theorem d24_13 : decode prog_1_method_5_code 13 = .ok (.invokevirtual 103, 3) := by decide +kernel
theorem pd_86913941 : parseMethodDescriptor "()I" = some ⟨[], some .int⟩ := by decide +kernel
theorem d24_16 : decode prog_1_method_5_code 16 = .ok (.if_icmp .ge 29, 3) := by decide +kernel
theorem d24_19 : decode prog_1_method_5_code 19 = .ok (.aload_n 0, 1) := by decide +kernel
theorem d24_20 : decode prog_1_method_5_code 20 = .ok (.iload_n 1, 1) := by decide +kernel
theorem d24_21 : decode prog_1_method_5_code 21 = .ok (.invokevirtual 107, 3) := by decide +kernel
theorem pd_17647939 : parseMethodDescriptor "(I)C" = some ⟨[.int], some .char⟩ := by decide +kernel
theorem d24_24 : decode prog_1_method_5_code 24 = .ok (.istore_n 2, 1) := by decide +kernel
theorem d24_25 : decode prog_1_method_5_code 25 = .ok (.iload_n 2, 1) := by decide +kernel
theorem d24_26 : decode prog_1_method_5_code 26 = .ok (.bipush 32, 2) := by decide +kernel
theorem d24_28 : decode prog_1_method_5_code 28 = .ok (.if_icmp .le 9, 3) := by decide +kernel
theorem d24_31 : decode prog_1_method_5_code 31 = .ok (.iload_n 2, 1) := by decide +kernel
theorem d24_32 : decode prog_1_method_5_code 32 = .ok (.bipush 127, 2) := by decide +kernel
theorem d24_34 : decode prog_1_method_5_code 34 = .ok (.if_icmp .lt 5, 3) := by decide +kernel
theorem d24_39 : decode prog_1_method_5_code 39 = .ok (.iinc 1 1, 3) := by decide +kernel
theorem d24_42 : decode prog_1_method_5_code 42 = .ok (.goto (-31), 3) := by decide +kernel
theorem d24_45 : decode prog_1_method_5_code 45 = .ok (.iconst 1, 1) := by decide +kernel
theorem d24_46 : decode prog_1_method_5_code 46 = .ok (.ireturn, 1) := by decide +kernel
theorem d24_37 : decode prog_1_method_5_code 37 = .ok (.iconst 0, 1) := by decide +kernel
theorem d24_38 : decode prog_1_method_5_code 38 = .ok (.ireturn, 1) := by decide +kernel
set_option maxRecDepth 65536 in
set_option maxHeartbeats 40000000 in
theorem rm_isT_1 (l : Launch) (Z : State) (a0 : Array Value) (hw : ∀ d ∈ tables_1, d.before a0 Z = true) (ws : List Jvm.Cond) (wG1 : Int32) (wG3 : Value) (cx : OwnCx Z a0 wG1 wG3) (hEL : EW Z a0 consts_1) (h0 : Heap) (n0 : Nat) (X00 : Old Z n0 h0) (a1 : Addr) (tb1 : Addr) (kb1 : ClassId) (cd1 : Int32) (nB1 : Int32) (vs1 : List Value) (c1 : Int32) (f0 : Exa Z h0 a1 "java/lang/String") (f1 : Fld Z h0 a1 "java/lang/String" "value" "[B" (.ref tb1)) (f2 : Fld Z h0 a1 "java/lang/String" "coder" "B" (.int cd1)) (f3 : Arv Z h0 tb1 kb1 .byte nB1 vs1 (.int 0)) (hos : OwnStr ([c1] : List Int32) cd1 nB1 vs1) :
    MetFree l mN24 (head1 (Jvm.Cond.code mN24 prog_1_method_5_code 3 (some .boolean) :: ws) ({ frames := 5, cells := 0, slots := 0, locals := 66 } : Room)) (fun a U => a = #[(.ref a1)] ∧ Z.Warmed39 U.vm ∧ U.heap = h0) (fun _ _ _ _ _ => True) (fun _ U o U' => ∃ v L, o = .returned v ∧ Q_isT_1 Z a1 tb1 kb1 cd1 nB1 vs1 c1 h0 n0 v U'.heap L ∧ FrameEnd U o U' L ({ frames := 5, cells := 0, slots := 0, locals := 66 } : Room).cells ({ frames := 5, cells := 0, slots := 0, locals := 66 } : Room).slots) := by
  refine MetFree.of_bodySF (plainFor_of_name pn_95124969) hisR ?_
  intro p e s m args below meth c s₁ Bd hml0 hP hK
  obtain ⟨rfl, hZ, hh⟩ := hP
  obtain ⟨wO2, wP5, wO4, wrG3, hstr, wUA, wUH, wUL⟩ := id cx
  have hx := Bd.exec
  have hby := Bd.bytes
  have hlk := Bd.notSynchronized
  have hml : c.maxLocals = 3 := hml0
  have hown : s.vm.findClass "io/holdfast/cli/HttpHead" = some m.cls := findClass_of_methodNamed Bd.named
  have hnm := (name_of_methodNamed Bd.named Bd.method).1
  have X0 : Stand p l e ({ frames := 5, cells := 0, slots := 0, locals := 66 } : Room) s m #[(.ref a1)] below meth c s₁ [] 0 0 := Stand.of_body Bd
  have e0 : s₁.heap = h0 := by rw [← hh, Bd.state]; rfl
  have N0 := Fr.nil n0
  have Z0 : n0 ≤ h0.size := X00.1 ▸ X00.2.1
  have K0 : Keep h0 h0 ([] : List Addr) := Keep.refl _ _
  show OwnGoes p e below (fun o U' => ∃ v L, o = .returned v ∧ Q_isT_1 Z a1 tb1 kb1 cd1 nB1 vs1 c1 h0 n0 v U'.heap L ∧ FrameEnd s o U' L ({ frames := 5, cells := 0, slots := 0, locals := 66 } : Room).cells ({ frames := 5, cells := 0, slots := 0, locals := 66 } : Room).slots) s₁ (entryFrame m #[(.ref a1)] 3)
  refine OwnGoes.step (T' := s₁) (g' := (mkF m 0 #[vR a1, vU, vU] [])) (fun tgt kgo => castTop (ef_isT_1 m a1) kgo) ?_
  refine OwnGoes.step (T' := s₁) (g' := (mkF m 1 #[vR a1, vU, vU] [(.ref a1)])) (fun tgt kgo => ?_) ?_
  · refine XS.aloadN X0.here hx rfl (hb hby d24_0) rfl rfl ?_
    exact kgo
  obtain ⟨cq1, kq1, q1a, q1b, q1c⟩ := isOf (s := s) hZ e0 f0
  obtain ⟨_, _, ⟨T1, L1, k1, n1⟩, -, X1, ⟨Lc1, hQ1, l1, y1, z1⟩, st1⟩ := X0.virtualBack hx (y := mN20) (z := mN20) hown (mvT hZ (own_w hw 35 rfl)) (mvT hZ (own_w hw 36 rfl)) (notFace_of_selects (args := #[]) (mvT hZ (own_w hw 38 rfl))) (mvT hZ (own_w hw 38 rfl)) (mvT hZ (own_w hw 37 rfl)) (by decide) (backOf (W := 0) (rm_empA l Z a0 hw [] wG1 wG3 cx hEL h0 n0 X00 a1 tb1 kb1 nB1 vs1 f0 f1 f3 (own_nz hos (Nat.le_of_ble_eq_true rfl))) hZ (own_w hw 39 rfl) (own_w hw 11 rfl) (by decide) (by decide)) q1a q1c (g := (mkF m 1 #[vR a1, vU, vU] [(.ref a1)])) rfl (by rw [hml]; rfl) (Steps.refl _) (argsL := []) (rest := []) (lenOf pd_15861835 rfl) rfl (Nat.le_of_eq rfl) (hb hby d24_1) (fun _ _ => ⟨rfl, e0, (by decide : 0 + 0 ≤ _), (by decide : 0 + 0 ≤ _)⟩)
  dsimp only [Pt.U, Pt.locs, Pt.cells, Pt.slots] at X1 l1 y1 z1 st1 hQ1
  subst l1 y1 z1
  obtain ⟨rfl, Nq1, eq1⟩ := hQ1
  refine OwnGoes.tr (T' := T1) (g' := (mkF m 4 #[vR a1, vU, vU] [(.int 0)])) st1 ?_
  have N1 := Fr.app N0 Nq1
  refine OwnGoes.step (T' := T1) (g' := (mkF m 13 #[vR a1, vI 0, vU] [(.ref a1), (.int 0)])) (fun tgt kgo => ?_) ?_
  · refine XS.ifYes X1.here hx rfl (pc0 := 4) (pc' := 9) rfl (hb hby d24_4) rfl ((if0 _ _).trans (teq (by decide : (0 : Int32) = (0 : Int32))).1) (by decide) (by decide) ?_
    show OwnG p e below T1 m 9 #[vR a1, vU, vU] [] tgt
    refine XS.iconst X1.here hx rfl (hb hby d24_9) ?_
    show OwnG p e below T1 m 10 #[vR a1, vU, vU] [(.int 0)] tgt
    refine XS.istoreN X1.here hx rfl (hb hby d24_10) rfl (l' := #[vR a1, vI 0, vU]) rfl ?_
    show OwnG p e below T1 m 11 #[vR a1, vI 0, vU] [] tgt
    refine XS.iloadN X1.here hx rfl (hb hby d24_11) rfl ?_
    show OwnG p e below T1 m 12 #[vR a1, vI 0, vU] [(.int 0)] tgt
    refine XS.aloadN X1.here hx rfl (hb hby d24_12) rfl rfl ?_
    exact kgo
  obtain ⟨cq2, kq2, q2a, q2b, q2c⟩ := isOf (s := s) hZ eq1 f0
  obtain ⟨_, _, ⟨T2, L2, k2, n2⟩, -, X2, ⟨Lc2, hQ2, l2, y2, z2⟩, st2⟩ := X1.virtualBack hx (y := mN19) (z := mN19) hown (mvT hZ (own_w hw 54 rfl)) (mvT hZ (own_w hw 55 rfl)) (notFace_of_selects (args := #[]) (mvT hZ (own_w hw 57 rfl))) (mvT hZ (own_w hw 57 rfl)) (mvT hZ (own_w hw 56 rfl)) (by decide) (backOf (W := 1) (rm_lenA l Z a0 hw [] wG1 wG3 cx hEL h0 n0 X00 a1 cd1 (1 : Int32) tb1 kb1 nB1 vs1 f0 f1 f2 f3 (own_len hos (n := 1) rfl)) hZ (own_w hw 58 rfl) (own_w hw 11 rfl) (by decide) (by decide)) q2a q2c (g := (mkF m 13 #[vR a1, vI 0, vU] [(.ref a1), (.int 0)])) rfl (by rw [hml]; rfl) (Steps.refl _) (argsL := []) (rest := [(.int 0)]) (lenOf pd_86913941 rfl) rfl (Nat.le_of_eq rfl) (hb hby d24_13) (fun _ _ => ⟨rfl, eq1, (by decide : 0 + 0 ≤ _), (by decide : 0 + 0 ≤ _)⟩)
  dsimp only [Pt.U, Pt.locs, Pt.cells, Pt.slots] at X2 l2 y2 z2 st2 hQ2
  subst l2 y2 z2
  obtain ⟨rfl, Nq2, eq2⟩ := hQ2
  refine OwnGoes.tr (T' := T2) (g' := (mkF m 16 #[vR a1, vI 0, vU] [(.int 1), (.int 0)])) st2 ?_
  have N2 := Fr.app N1 Nq2
  refine OwnGoes.step (T' := T2) (g' := (mkF m 21 #[vR a1, vI 0, vU] [(.int 0), (.ref a1)])) (fun tgt kgo => ?_) ?_
  · refine XS.icmpNo X2.here hx rfl (hb hby d24_16) rfl (tlt (by decide : (0 : Int32) < (1 : Int32))).2.1 ?_
    show OwnG p e below T2 m 19 #[vR a1, vI 0, vU] [] tgt
    refine XS.aloadN X2.here hx rfl (hb hby d24_19) rfl rfl ?_
    show OwnG p e below T2 m 20 #[vR a1, vI 0, vU] [(.ref a1)] tgt
    refine XS.iloadN X2.here hx rfl (hb hby d24_20) rfl ?_
    exact kgo
  obtain ⟨cq3, kq3, q3a, q3b, q3c⟩ := isOf (s := s) hZ eq2 f0
  obtain ⟨_, _, ⟨T3, L3, k3, n3⟩, -, X3, ⟨Lc3, hQ3, l3, y3, z3⟩, st3⟩ := X2.virtualBack hx (y := mN17) (z := mN17) hown (mvT hZ (own_w hw 64 rfl)) (mvT hZ (own_w hw 65 rfl)) (notFace_of_selects (args := #[]) (mvT hZ (own_w hw 67 rfl))) (mvT hZ (own_w hw 67 rfl)) (mvT hZ (own_w hw 66 rfl)) (by decide) (backOf (W := 0) (rm_chA l Z a0 hw [] wG1 wG3 cx hEL h0 n0 X00 a1 cd1 tb1 kb1 nB1 vs1 (0 : Int32) c1 f0 f1 f2 f3 (own_ch hos (j := 0) (Nat.le_of_ble_eq_true rfl) rfl)) hZ (own_w hw 68 rfl) (own_w hw 11 rfl) (by decide) (by decide)) q3a q3c (g := (mkF m 21 #[vR a1, vI 0, vU] [(.int 0), (.ref a1)])) rfl (by rw [hml]; rfl) (Steps.refl _) (argsL := [(.int 0)]) (rest := []) (lenOf pd_17647939 rfl) rfl (Nat.le_of_eq rfl) (hb hby d24_21) (fun _ _ => ⟨rfl, eq2, (by decide : 0 + 0 ≤ _), (by decide : 0 + 0 ≤ _)⟩)
  dsimp only [Pt.U, Pt.locs, Pt.cells, Pt.slots] at X3 l3 y3 z3 st3 hQ3
  subst l3 y3 z3
  obtain ⟨rfl, Nq3, eq3⟩ := hQ3
  refine OwnGoes.tr (T' := T3) (g' := (mkF m 24 #[vR a1, vI 0, vU] [(.int c1)])) st3 ?_
  have N3 := Fr.app N2 Nq3
  refine OwnGoes.step (T' := T3) (g' := (mkF m 28 #[vR a1, vI 0, vI c1] [(.int 32), (.int c1)])) (fun tgt kgo => ?_) ?_
  · refine XS.istoreN X3.here hx rfl (hb hby d24_24) rfl (l' := #[vR a1, vI 0, vI c1]) rfl ?_
    show OwnG p e below T3 m 25 #[vR a1, vI 0, vI c1] [] tgt
    refine XS.iloadN X3.here hx rfl (hb hby d24_25) rfl ?_
    show OwnG p e below T3 m 26 #[vR a1, vI 0, vI c1] [(.int c1)] tgt
    refine XS.bipush X3.here hx rfl (hb hby d24_26) ?_
    exact kgo
  by_cases cc4 : (32 : Int32) < c1
  · skip
    refine OwnGoes.step (T' := T3) (g' := (mkF m 34 #[vR a1, vI 0, vI c1] [(.int 127), (.int c1)])) (fun tgt kgo => ?_) ?_
    · refine XS.icmpNo X3.here hx rfl (hb hby d24_28) rfl (tlt cc4).2.2.2 ?_
      show OwnG p e below T3 m 31 #[vR a1, vI 0, vI c1] [] tgt
      refine XS.iloadN X3.here hx rfl (hb hby d24_31) rfl ?_
      show OwnG p e below T3 m 32 #[vR a1, vI 0, vI c1] [(.int c1)] tgt
      refine XS.bipush X3.here hx rfl (hb hby d24_32) ?_
      exact kgo
    by_cases cc5 : c1 < (127 : Int32)
    · skip
      refine OwnGoes.step (T' := T3) (g' := (mkF m 13 #[vR a1, vI 1, vI c1] [(.ref a1), (.int 1)])) (fun tgt kgo => ?_) ?_
      · refine XS.icmpYes X3.here hx rfl (pc0 := 34) (pc' := 39) rfl (hb hby d24_34) rfl (tlt cc5).1 (by decide) (by decide) ?_
        show OwnG p e below T3 m 39 #[vR a1, vI 0, vI c1] [] tgt
        refine XS.iinc X3.here hx rfl (hb hby d24_39) rfl (l' := #[vR a1, vI 1, vI c1]) rfl ?_
        show OwnG p e below T3 m 42 #[vR a1, vI 1, vI c1] [] tgt
        refine XS.goto X3.here hx rfl (pc0 := 42) (pc' := 11) rfl (hb hby d24_42) (by decide) (by decide) ?_
        show OwnG p e below T3 m 11 #[vR a1, vI 1, vI c1] [] tgt
        refine XS.iloadN X3.here hx rfl (hb hby d24_11) rfl ?_
        show OwnG p e below T3 m 12 #[vR a1, vI 1, vI c1] [(.int 1)] tgt
        refine XS.aloadN X3.here hx rfl (hb hby d24_12) rfl rfl ?_
        exact kgo
      obtain ⟨cq6, kq6, q6a, q6b, q6c⟩ := isOf (s := s) hZ eq3 f0
      obtain ⟨_, _, ⟨T6, L6, k6, n6⟩, -, X6, ⟨Lc6, hQ6, l6, y6, z6⟩, st6⟩ := X3.virtualBack hx (y := mN19) (z := mN19) hown (mvT hZ (own_w hw 54 rfl)) (mvT hZ (own_w hw 55 rfl)) (notFace_of_selects (args := #[]) (mvT hZ (own_w hw 57 rfl))) (mvT hZ (own_w hw 57 rfl)) (mvT hZ (own_w hw 56 rfl)) (by decide) (backOf (W := 1) (rm_lenA l Z a0 hw [] wG1 wG3 cx hEL h0 n0 X00 a1 cd1 (1 : Int32) tb1 kb1 nB1 vs1 f0 f1 f2 f3 (own_len hos (n := 1) rfl)) hZ (own_w hw 58 rfl) (own_w hw 11 rfl) (by decide) (by decide)) q6a q6c (g := (mkF m 13 #[vR a1, vI 1, vI c1] [(.ref a1), (.int 1)])) rfl (by rw [hml]; rfl) (Steps.refl _) (argsL := []) (rest := [(.int 1)]) (lenOf pd_86913941 rfl) rfl (Nat.le_of_eq rfl) (hb hby d24_13) (fun _ _ => ⟨rfl, eq3, (by decide : 0 + 0 ≤ _), (by decide : 0 + 0 ≤ _)⟩)
      dsimp only [Pt.U, Pt.locs, Pt.cells, Pt.slots] at X6 l6 y6 z6 st6 hQ6
      subst l6 y6 z6
      obtain ⟨rfl, Nq6, eq6⟩ := hQ6
      refine OwnGoes.tr (T' := T6) (g' := (mkF m 16 #[vR a1, vI 1, vI c1] [(.int 1), (.int 1)])) st6 ?_
      have N6 := Fr.app N3 Nq6
      refine OwnGoes.step (T' := T6) (g' := (mkF m 46 #[vR a1, vI 1, vI c1] [(.int 1)])) (fun tgt kgo => ?_) ?_
      · refine XS.icmpYes X6.here hx rfl (pc0 := 16) (pc' := 45) rfl (hb hby d24_16) rfl (flt (by decide : ¬ ((1 : Int32) < (1 : Int32)))).2.1 (by decide) (by decide) ?_
        show OwnG p e below T6 m 45 #[vR a1, vI 1, vI c1] [] tgt
        refine XS.iconst X6.here hx rfl (hb hby d24_45) ?_
        exact kgo
      refine own_leave X6 hlk (v := some (.int 1)) (fun h => by rw [Bd.returns] at h; cases h) (fun fs hr => retN X6 hx (t := .boolean) Bd.returns (by simp) (hb hby d24_46) (by rw [(by decide : nar .boolean (1 : Int32) = (1 : Int32))]; exact hr)) (by decide) (by decide) ?_
      show Q_isT_1 Z a1 tb1 kb1 cd1 nB1 vs1 c1 h0 n0 _ T6.heap _
      rw [eq6]
      exact ⟨(1 : Int32), rfl, N6, rfl, (Or.inl ⟨rfl, ⟨cc4, cc5⟩⟩)⟩
    refine OwnGoes.step (T' := T3) (g' := (mkF m 38 #[vR a1, vI 0, vI c1] [(.int 0)])) (fun tgt kgo => ?_) ?_
    · refine XS.icmpNo X3.here hx rfl (hb hby d24_34) rfl (flt cc5).1 ?_
      show OwnG p e below T3 m 37 #[vR a1, vI 0, vI c1] [] tgt
      refine XS.iconst X3.here hx rfl (hb hby d24_37) ?_
      exact kgo
    refine own_leave X3 hlk (v := some (.int 0)) (fun h => by rw [Bd.returns] at h; cases h) (fun fs hr => retN X3 hx (t := .boolean) Bd.returns (by simp) (hb hby d24_38) (by rw [(by decide : nar .boolean (0 : Int32) = (0 : Int32))]; exact hr)) (by decide) (by decide) ?_
    show Q_isT_1 Z a1 tb1 kb1 cd1 nB1 vs1 c1 h0 n0 _ T3.heap _
    rw [eq3]
    exact ⟨(0 : Int32), rfl, N3, rfl, (Or.inr ⟨rfl, fun zz => (fun z => cc5 z.2) zz⟩)⟩
  refine OwnGoes.step (T' := T3) (g' := (mkF m 38 #[vR a1, vI 0, vI c1] [(.int 0)])) (fun tgt kgo => ?_) ?_
  · refine XS.icmpYes X3.here hx rfl (pc0 := 28) (pc' := 37) rfl (hb hby d24_28) rfl (flt cc4).2.2.2 (by decide) (by decide) ?_
    show OwnG p e below T3 m 37 #[vR a1, vI 0, vI c1] [] tgt
    refine XS.iconst X3.here hx rfl (hb hby d24_37) ?_
    exact kgo
  refine own_leave X3 hlk (v := some (.int 0)) (fun h => by rw [Bd.returns] at h; cases h) (fun fs hr => retN X3 hx (t := .boolean) Bd.returns (by simp) (hb hby d24_38) (by rw [(by decide : nar .boolean (0 : Int32) = (0 : Int32))]; exact hr)) (by decide) (by decide) ?_
  show Q_isT_1 Z a1 tb1 kb1 cd1 nB1 vs1 c1 h0 n0 _ T3.heap _
  rw [eq3]
  exact ⟨(0 : Int32), rfl, N3, rfl, (Or.inr ⟨rfl, fun zz => (fun z => cc4 z.1) zz⟩)⟩
theorem ef_isT_2 (m : MethodId) (x0 : Addr) : entryFrame m #[(.ref x0)] 3 = mkF m 0 #[vR x0, vU, vU] [] := by
  first | (simp [entryFrame, mkF, argsToLocals, Value.category]; done) | rfl
def Q_isT_2 (Z : State) (a1 : Addr) (tb1 : Addr) (kb1 : ClassId) (cd1 : Int32) (nB1 : Int32) (vs1 : List Value) (c1 : Int32) (c2 : Int32) (h0 : Heap) (n0 : Nat) (v : Option Value) (h : Heap) (L : List Loc) : Prop := ∃ (r : Int32), v = some (.int r) ∧ Fr n0 L ∧ h = h0 ∧ ((r = (1 : Int32) ∧ (OwnOk c1 ∧ OwnOk c2)) ∨ (r = (0 : Int32) ∧ ¬ (OwnOk c1 ∧ OwnOk c2)))
set_option maxRecDepth 65536 in
set_option maxHeartbeats 40000000 in
theorem rm_isT_2 (l : Launch) (Z : State) (a0 : Array Value) (hw : ∀ d ∈ tables_1, d.before a0 Z = true) (ws : List Jvm.Cond) (wG1 : Int32) (wG3 : Value) (cx : OwnCx Z a0 wG1 wG3) (hEL : EW Z a0 consts_1) (h0 : Heap) (n0 : Nat) (X00 : Old Z n0 h0) (a1 : Addr) (tb1 : Addr) (kb1 : ClassId) (cd1 : Int32) (nB1 : Int32) (vs1 : List Value) (c1 : Int32) (c2 : Int32) (f0 : Exa Z h0 a1 "java/lang/String") (f1 : Fld Z h0 a1 "java/lang/String" "value" "[B" (.ref tb1)) (f2 : Fld Z h0 a1 "java/lang/String" "coder" "B" (.int cd1)) (f3 : Arv Z h0 tb1 kb1 .byte nB1 vs1 (.int 0)) (hos : OwnStr ([c1, c2] : List Int32) cd1 nB1 vs1) :
    MetFree l mN24 (head1 (Jvm.Cond.code mN24 prog_1_method_5_code 3 (some .boolean) :: ws) ({ frames := 5, cells := 0, slots := 0, locals := 66 } : Room)) (fun a U => a = #[(.ref a1)] ∧ Z.Warmed39 U.vm ∧ U.heap = h0) (fun _ _ _ _ _ => True) (fun _ U o U' => ∃ v L, o = .returned v ∧ Q_isT_2 Z a1 tb1 kb1 cd1 nB1 vs1 c1 c2 h0 n0 v U'.heap L ∧ FrameEnd U o U' L ({ frames := 5, cells := 0, slots := 0, locals := 66 } : Room).cells ({ frames := 5, cells := 0, slots := 0, locals := 66 } : Room).slots) := by
  refine MetFree.of_bodySF (plainFor_of_name pn_95124969) hisR ?_
  intro p e s m args below meth c s₁ Bd hml0 hP hK
  obtain ⟨rfl, hZ, hh⟩ := hP
  obtain ⟨wO2, wP5, wO4, wrG3, hstr, wUA, wUH, wUL⟩ := id cx
  have hx := Bd.exec
  have hby := Bd.bytes
  have hlk := Bd.notSynchronized
  have hml : c.maxLocals = 3 := hml0
  have hown : s.vm.findClass "io/holdfast/cli/HttpHead" = some m.cls := findClass_of_methodNamed Bd.named
  have hnm := (name_of_methodNamed Bd.named Bd.method).1
  have X0 : Stand p l e ({ frames := 5, cells := 0, slots := 0, locals := 66 } : Room) s m #[(.ref a1)] below meth c s₁ [] 0 0 := Stand.of_body Bd
  have e0 : s₁.heap = h0 := by rw [← hh, Bd.state]; rfl
  have N0 := Fr.nil n0
  have Z0 : n0 ≤ h0.size := X00.1 ▸ X00.2.1
  have K0 : Keep h0 h0 ([] : List Addr) := Keep.refl _ _
  show OwnGoes p e below (fun o U' => ∃ v L, o = .returned v ∧ Q_isT_2 Z a1 tb1 kb1 cd1 nB1 vs1 c1 c2 h0 n0 v U'.heap L ∧ FrameEnd s o U' L ({ frames := 5, cells := 0, slots := 0, locals := 66 } : Room).cells ({ frames := 5, cells := 0, slots := 0, locals := 66 } : Room).slots) s₁ (entryFrame m #[(.ref a1)] 3)
  refine OwnGoes.step (T' := s₁) (g' := (mkF m 0 #[vR a1, vU, vU] [])) (fun tgt kgo => castTop (ef_isT_2 m a1) kgo) ?_
  refine OwnGoes.step (T' := s₁) (g' := (mkF m 1 #[vR a1, vU, vU] [(.ref a1)])) (fun tgt kgo => ?_) ?_
  · refine XS.aloadN X0.here hx rfl (hb hby d24_0) rfl rfl ?_
    exact kgo
  obtain ⟨cq1, kq1, q1a, q1b, q1c⟩ := isOf (s := s) hZ e0 f0
  obtain ⟨_, _, ⟨T1, L1, k1, n1⟩, -, X1, ⟨Lc1, hQ1, l1, y1, z1⟩, st1⟩ := X0.virtualBack hx (y := mN20) (z := mN20) hown (mvT hZ (own_w hw 35 rfl)) (mvT hZ (own_w hw 36 rfl)) (notFace_of_selects (args := #[]) (mvT hZ (own_w hw 38 rfl))) (mvT hZ (own_w hw 38 rfl)) (mvT hZ (own_w hw 37 rfl)) (by decide) (backOf (W := 0) (rm_empA l Z a0 hw [] wG1 wG3 cx hEL h0 n0 X00 a1 tb1 kb1 nB1 vs1 f0 f1 f3 (own_nz hos (Nat.le_of_ble_eq_true rfl))) hZ (own_w hw 39 rfl) (own_w hw 11 rfl) (by decide) (by decide)) q1a q1c (g := (mkF m 1 #[vR a1, vU, vU] [(.ref a1)])) rfl (by rw [hml]; rfl) (Steps.refl _) (argsL := []) (rest := []) (lenOf pd_15861835 rfl) rfl (Nat.le_of_eq rfl) (hb hby d24_1) (fun _ _ => ⟨rfl, e0, (by decide : 0 + 0 ≤ _), (by decide : 0 + 0 ≤ _)⟩)
  dsimp only [Pt.U, Pt.locs, Pt.cells, Pt.slots] at X1 l1 y1 z1 st1 hQ1
  subst l1 y1 z1
  obtain ⟨rfl, Nq1, eq1⟩ := hQ1
  refine OwnGoes.tr (T' := T1) (g' := (mkF m 4 #[vR a1, vU, vU] [(.int 0)])) st1 ?_
  have N1 := Fr.app N0 Nq1
  refine OwnGoes.step (T' := T1) (g' := (mkF m 13 #[vR a1, vI 0, vU] [(.ref a1), (.int 0)])) (fun tgt kgo => ?_) ?_
  · refine XS.ifYes X1.here hx rfl (pc0 := 4) (pc' := 9) rfl (hb hby d24_4) rfl ((if0 _ _).trans (teq (by decide : (0 : Int32) = (0 : Int32))).1) (by decide) (by decide) ?_
    show OwnG p e below T1 m 9 #[vR a1, vU, vU] [] tgt
    refine XS.iconst X1.here hx rfl (hb hby d24_9) ?_
    show OwnG p e below T1 m 10 #[vR a1, vU, vU] [(.int 0)] tgt
    refine XS.istoreN X1.here hx rfl (hb hby d24_10) rfl (l' := #[vR a1, vI 0, vU]) rfl ?_
    show OwnG p e below T1 m 11 #[vR a1, vI 0, vU] [] tgt
    refine XS.iloadN X1.here hx rfl (hb hby d24_11) rfl ?_
    show OwnG p e below T1 m 12 #[vR a1, vI 0, vU] [(.int 0)] tgt
    refine XS.aloadN X1.here hx rfl (hb hby d24_12) rfl rfl ?_
    exact kgo
  obtain ⟨cq2, kq2, q2a, q2b, q2c⟩ := isOf (s := s) hZ eq1 f0
  obtain ⟨_, _, ⟨T2, L2, k2, n2⟩, -, X2, ⟨Lc2, hQ2, l2, y2, z2⟩, st2⟩ := X1.virtualBack hx (y := mN19) (z := mN19) hown (mvT hZ (own_w hw 54 rfl)) (mvT hZ (own_w hw 55 rfl)) (notFace_of_selects (args := #[]) (mvT hZ (own_w hw 57 rfl))) (mvT hZ (own_w hw 57 rfl)) (mvT hZ (own_w hw 56 rfl)) (by decide) (backOf (W := 1) (rm_lenA l Z a0 hw [] wG1 wG3 cx hEL h0 n0 X00 a1 cd1 (2 : Int32) tb1 kb1 nB1 vs1 f0 f1 f2 f3 (own_len hos (n := 2) rfl)) hZ (own_w hw 58 rfl) (own_w hw 11 rfl) (by decide) (by decide)) q2a q2c (g := (mkF m 13 #[vR a1, vI 0, vU] [(.ref a1), (.int 0)])) rfl (by rw [hml]; rfl) (Steps.refl _) (argsL := []) (rest := [(.int 0)]) (lenOf pd_86913941 rfl) rfl (Nat.le_of_eq rfl) (hb hby d24_13) (fun _ _ => ⟨rfl, eq1, (by decide : 0 + 0 ≤ _), (by decide : 0 + 0 ≤ _)⟩)
  dsimp only [Pt.U, Pt.locs, Pt.cells, Pt.slots] at X2 l2 y2 z2 st2 hQ2
  subst l2 y2 z2
  obtain ⟨rfl, Nq2, eq2⟩ := hQ2
  refine OwnGoes.tr (T' := T2) (g' := (mkF m 16 #[vR a1, vI 0, vU] [(.int 2), (.int 0)])) st2 ?_
  have N2 := Fr.app N1 Nq2
  refine OwnGoes.step (T' := T2) (g' := (mkF m 21 #[vR a1, vI 0, vU] [(.int 0), (.ref a1)])) (fun tgt kgo => ?_) ?_
  · refine XS.icmpNo X2.here hx rfl (hb hby d24_16) rfl (tlt (by decide : (0 : Int32) < (2 : Int32))).2.1 ?_
    show OwnG p e below T2 m 19 #[vR a1, vI 0, vU] [] tgt
    refine XS.aloadN X2.here hx rfl (hb hby d24_19) rfl rfl ?_
    show OwnG p e below T2 m 20 #[vR a1, vI 0, vU] [(.ref a1)] tgt
    refine XS.iloadN X2.here hx rfl (hb hby d24_20) rfl ?_
    exact kgo
  obtain ⟨cq3, kq3, q3a, q3b, q3c⟩ := isOf (s := s) hZ eq2 f0
  obtain ⟨_, _, ⟨T3, L3, k3, n3⟩, -, X3, ⟨Lc3, hQ3, l3, y3, z3⟩, st3⟩ := X2.virtualBack hx (y := mN17) (z := mN17) hown (mvT hZ (own_w hw 64 rfl)) (mvT hZ (own_w hw 65 rfl)) (notFace_of_selects (args := #[]) (mvT hZ (own_w hw 67 rfl))) (mvT hZ (own_w hw 67 rfl)) (mvT hZ (own_w hw 66 rfl)) (by decide) (backOf (W := 0) (rm_chA l Z a0 hw [] wG1 wG3 cx hEL h0 n0 X00 a1 cd1 tb1 kb1 nB1 vs1 (0 : Int32) c1 f0 f1 f2 f3 (own_ch hos (j := 0) (Nat.le_of_ble_eq_true rfl) rfl)) hZ (own_w hw 68 rfl) (own_w hw 11 rfl) (by decide) (by decide)) q3a q3c (g := (mkF m 21 #[vR a1, vI 0, vU] [(.int 0), (.ref a1)])) rfl (by rw [hml]; rfl) (Steps.refl _) (argsL := [(.int 0)]) (rest := []) (lenOf pd_17647939 rfl) rfl (Nat.le_of_eq rfl) (hb hby d24_21) (fun _ _ => ⟨rfl, eq2, (by decide : 0 + 0 ≤ _), (by decide : 0 + 0 ≤ _)⟩)
  dsimp only [Pt.U, Pt.locs, Pt.cells, Pt.slots] at X3 l3 y3 z3 st3 hQ3
  subst l3 y3 z3
  obtain ⟨rfl, Nq3, eq3⟩ := hQ3
  refine OwnGoes.tr (T' := T3) (g' := (mkF m 24 #[vR a1, vI 0, vU] [(.int c1)])) st3 ?_
  have N3 := Fr.app N2 Nq3
  refine OwnGoes.step (T' := T3) (g' := (mkF m 28 #[vR a1, vI 0, vI c1] [(.int 32), (.int c1)])) (fun tgt kgo => ?_) ?_
  · refine XS.istoreN X3.here hx rfl (hb hby d24_24) rfl (l' := #[vR a1, vI 0, vI c1]) rfl ?_
    show OwnG p e below T3 m 25 #[vR a1, vI 0, vI c1] [] tgt
    refine XS.iloadN X3.here hx rfl (hb hby d24_25) rfl ?_
    show OwnG p e below T3 m 26 #[vR a1, vI 0, vI c1] [(.int c1)] tgt
    refine XS.bipush X3.here hx rfl (hb hby d24_26) ?_
    exact kgo
  by_cases cc4 : (32 : Int32) < c1
  · skip
    refine OwnGoes.step (T' := T3) (g' := (mkF m 34 #[vR a1, vI 0, vI c1] [(.int 127), (.int c1)])) (fun tgt kgo => ?_) ?_
    · refine XS.icmpNo X3.here hx rfl (hb hby d24_28) rfl (tlt cc4).2.2.2 ?_
      show OwnG p e below T3 m 31 #[vR a1, vI 0, vI c1] [] tgt
      refine XS.iloadN X3.here hx rfl (hb hby d24_31) rfl ?_
      show OwnG p e below T3 m 32 #[vR a1, vI 0, vI c1] [(.int c1)] tgt
      refine XS.bipush X3.here hx rfl (hb hby d24_32) ?_
      exact kgo
    by_cases cc5 : c1 < (127 : Int32)
    · skip
      refine OwnGoes.step (T' := T3) (g' := (mkF m 13 #[vR a1, vI 1, vI c1] [(.ref a1), (.int 1)])) (fun tgt kgo => ?_) ?_
      · refine XS.icmpYes X3.here hx rfl (pc0 := 34) (pc' := 39) rfl (hb hby d24_34) rfl (tlt cc5).1 (by decide) (by decide) ?_
        show OwnG p e below T3 m 39 #[vR a1, vI 0, vI c1] [] tgt
        refine XS.iinc X3.here hx rfl (hb hby d24_39) rfl (l' := #[vR a1, vI 1, vI c1]) rfl ?_
        show OwnG p e below T3 m 42 #[vR a1, vI 1, vI c1] [] tgt
        refine XS.goto X3.here hx rfl (pc0 := 42) (pc' := 11) rfl (hb hby d24_42) (by decide) (by decide) ?_
        show OwnG p e below T3 m 11 #[vR a1, vI 1, vI c1] [] tgt
        refine XS.iloadN X3.here hx rfl (hb hby d24_11) rfl ?_
        show OwnG p e below T3 m 12 #[vR a1, vI 1, vI c1] [(.int 1)] tgt
        refine XS.aloadN X3.here hx rfl (hb hby d24_12) rfl rfl ?_
        exact kgo
      obtain ⟨cq6, kq6, q6a, q6b, q6c⟩ := isOf (s := s) hZ eq3 f0
      obtain ⟨_, _, ⟨T6, L6, k6, n6⟩, -, X6, ⟨Lc6, hQ6, l6, y6, z6⟩, st6⟩ := X3.virtualBack hx (y := mN19) (z := mN19) hown (mvT hZ (own_w hw 54 rfl)) (mvT hZ (own_w hw 55 rfl)) (notFace_of_selects (args := #[]) (mvT hZ (own_w hw 57 rfl))) (mvT hZ (own_w hw 57 rfl)) (mvT hZ (own_w hw 56 rfl)) (by decide) (backOf (W := 1) (rm_lenA l Z a0 hw [] wG1 wG3 cx hEL h0 n0 X00 a1 cd1 (2 : Int32) tb1 kb1 nB1 vs1 f0 f1 f2 f3 (own_len hos (n := 2) rfl)) hZ (own_w hw 58 rfl) (own_w hw 11 rfl) (by decide) (by decide)) q6a q6c (g := (mkF m 13 #[vR a1, vI 1, vI c1] [(.ref a1), (.int 1)])) rfl (by rw [hml]; rfl) (Steps.refl _) (argsL := []) (rest := [(.int 1)]) (lenOf pd_86913941 rfl) rfl (Nat.le_of_eq rfl) (hb hby d24_13) (fun _ _ => ⟨rfl, eq3, (by decide : 0 + 0 ≤ _), (by decide : 0 + 0 ≤ _)⟩)
      dsimp only [Pt.U, Pt.locs, Pt.cells, Pt.slots] at X6 l6 y6 z6 st6 hQ6
      subst l6 y6 z6
      obtain ⟨rfl, Nq6, eq6⟩ := hQ6
      refine OwnGoes.tr (T' := T6) (g' := (mkF m 16 #[vR a1, vI 1, vI c1] [(.int 2), (.int 1)])) st6 ?_
      have N6 := Fr.app N3 Nq6
      refine OwnGoes.step (T' := T6) (g' := (mkF m 21 #[vR a1, vI 1, vI c1] [(.int 1), (.ref a1)])) (fun tgt kgo => ?_) ?_
      · refine XS.icmpNo X6.here hx rfl (hb hby d24_16) rfl (tlt (by decide : (1 : Int32) < (2 : Int32))).2.1 ?_
        show OwnG p e below T6 m 19 #[vR a1, vI 1, vI c1] [] tgt
        refine XS.aloadN X6.here hx rfl (hb hby d24_19) rfl rfl ?_
        show OwnG p e below T6 m 20 #[vR a1, vI 1, vI c1] [(.ref a1)] tgt
        refine XS.iloadN X6.here hx rfl (hb hby d24_20) rfl ?_
        exact kgo
      obtain ⟨cq7, kq7, q7a, q7b, q7c⟩ := isOf (s := s) hZ eq6 f0
      obtain ⟨_, _, ⟨T7, L7, k7, n7⟩, -, X7, ⟨Lc7, hQ7, l7, y7, z7⟩, st7⟩ := X6.virtualBack hx (y := mN17) (z := mN17) hown (mvT hZ (own_w hw 64 rfl)) (mvT hZ (own_w hw 65 rfl)) (notFace_of_selects (args := #[]) (mvT hZ (own_w hw 67 rfl))) (mvT hZ (own_w hw 67 rfl)) (mvT hZ (own_w hw 66 rfl)) (by decide) (backOf (W := 0) (rm_chA l Z a0 hw [] wG1 wG3 cx hEL h0 n0 X00 a1 cd1 tb1 kb1 nB1 vs1 (1 : Int32) c2 f0 f1 f2 f3 (own_ch hos (j := 1) (Nat.le_of_ble_eq_true rfl) rfl)) hZ (own_w hw 68 rfl) (own_w hw 11 rfl) (by decide) (by decide)) q7a q7c (g := (mkF m 21 #[vR a1, vI 1, vI c1] [(.int 1), (.ref a1)])) rfl (by rw [hml]; rfl) (Steps.refl _) (argsL := [(.int 1)]) (rest := []) (lenOf pd_17647939 rfl) rfl (Nat.le_of_eq rfl) (hb hby d24_21) (fun _ _ => ⟨rfl, eq6, (by decide : 0 + 0 ≤ _), (by decide : 0 + 0 ≤ _)⟩)
      dsimp only [Pt.U, Pt.locs, Pt.cells, Pt.slots] at X7 l7 y7 z7 st7 hQ7
      subst l7 y7 z7
      obtain ⟨rfl, Nq7, eq7⟩ := hQ7
      refine OwnGoes.tr (T' := T7) (g' := (mkF m 24 #[vR a1, vI 1, vI c1] [(.int c2)])) st7 ?_
      have N7 := Fr.app N6 Nq7
      refine OwnGoes.step (T' := T7) (g' := (mkF m 28 #[vR a1, vI 1, vI c2] [(.int 32), (.int c2)])) (fun tgt kgo => ?_) ?_
      · refine XS.istoreN X7.here hx rfl (hb hby d24_24) rfl (l' := #[vR a1, vI 1, vI c2]) rfl ?_
        show OwnG p e below T7 m 25 #[vR a1, vI 1, vI c2] [] tgt
        refine XS.iloadN X7.here hx rfl (hb hby d24_25) rfl ?_
        show OwnG p e below T7 m 26 #[vR a1, vI 1, vI c2] [(.int c2)] tgt
        refine XS.bipush X7.here hx rfl (hb hby d24_26) ?_
        exact kgo
      by_cases cc8 : (32 : Int32) < c2
      · skip
        refine OwnGoes.step (T' := T7) (g' := (mkF m 34 #[vR a1, vI 1, vI c2] [(.int 127), (.int c2)])) (fun tgt kgo => ?_) ?_
        · refine XS.icmpNo X7.here hx rfl (hb hby d24_28) rfl (tlt cc8).2.2.2 ?_
          show OwnG p e below T7 m 31 #[vR a1, vI 1, vI c2] [] tgt
          refine XS.iloadN X7.here hx rfl (hb hby d24_31) rfl ?_
          show OwnG p e below T7 m 32 #[vR a1, vI 1, vI c2] [(.int c2)] tgt
          refine XS.bipush X7.here hx rfl (hb hby d24_32) ?_
          exact kgo
        by_cases cc9 : c2 < (127 : Int32)
        · skip
          refine OwnGoes.step (T' := T7) (g' := (mkF m 13 #[vR a1, vI 2, vI c2] [(.ref a1), (.int 2)])) (fun tgt kgo => ?_) ?_
          · refine XS.icmpYes X7.here hx rfl (pc0 := 34) (pc' := 39) rfl (hb hby d24_34) rfl (tlt cc9).1 (by decide) (by decide) ?_
            show OwnG p e below T7 m 39 #[vR a1, vI 1, vI c2] [] tgt
            refine XS.iinc X7.here hx rfl (hb hby d24_39) rfl (l' := #[vR a1, vI 2, vI c2]) rfl ?_
            show OwnG p e below T7 m 42 #[vR a1, vI 2, vI c2] [] tgt
            refine XS.goto X7.here hx rfl (pc0 := 42) (pc' := 11) rfl (hb hby d24_42) (by decide) (by decide) ?_
            show OwnG p e below T7 m 11 #[vR a1, vI 2, vI c2] [] tgt
            refine XS.iloadN X7.here hx rfl (hb hby d24_11) rfl ?_
            show OwnG p e below T7 m 12 #[vR a1, vI 2, vI c2] [(.int 2)] tgt
            refine XS.aloadN X7.here hx rfl (hb hby d24_12) rfl rfl ?_
            exact kgo
          obtain ⟨cq10, kq10, q10a, q10b, q10c⟩ := isOf (s := s) hZ eq7 f0
          obtain ⟨_, _, ⟨T10, L10, k10, n10⟩, -, X10, ⟨Lc10, hQ10, l10, y10, z10⟩, st10⟩ := X7.virtualBack hx (y := mN19) (z := mN19) hown (mvT hZ (own_w hw 54 rfl)) (mvT hZ (own_w hw 55 rfl)) (notFace_of_selects (args := #[]) (mvT hZ (own_w hw 57 rfl))) (mvT hZ (own_w hw 57 rfl)) (mvT hZ (own_w hw 56 rfl)) (by decide) (backOf (W := 1) (rm_lenA l Z a0 hw [] wG1 wG3 cx hEL h0 n0 X00 a1 cd1 (2 : Int32) tb1 kb1 nB1 vs1 f0 f1 f2 f3 (own_len hos (n := 2) rfl)) hZ (own_w hw 58 rfl) (own_w hw 11 rfl) (by decide) (by decide)) q10a q10c (g := (mkF m 13 #[vR a1, vI 2, vI c2] [(.ref a1), (.int 2)])) rfl (by rw [hml]; rfl) (Steps.refl _) (argsL := []) (rest := [(.int 2)]) (lenOf pd_86913941 rfl) rfl (Nat.le_of_eq rfl) (hb hby d24_13) (fun _ _ => ⟨rfl, eq7, (by decide : 0 + 0 ≤ _), (by decide : 0 + 0 ≤ _)⟩)
          dsimp only [Pt.U, Pt.locs, Pt.cells, Pt.slots] at X10 l10 y10 z10 st10 hQ10
          subst l10 y10 z10
          obtain ⟨rfl, Nq10, eq10⟩ := hQ10
          refine OwnGoes.tr (T' := T10) (g' := (mkF m 16 #[vR a1, vI 2, vI c2] [(.int 2), (.int 2)])) st10 ?_
          have N10 := Fr.app N7 Nq10
          refine OwnGoes.step (T' := T10) (g' := (mkF m 46 #[vR a1, vI 2, vI c2] [(.int 1)])) (fun tgt kgo => ?_) ?_
          · refine XS.icmpYes X10.here hx rfl (pc0 := 16) (pc' := 45) rfl (hb hby d24_16) rfl (flt (by decide : ¬ ((2 : Int32) < (2 : Int32)))).2.1 (by decide) (by decide) ?_
            show OwnG p e below T10 m 45 #[vR a1, vI 2, vI c2] [] tgt
            refine XS.iconst X10.here hx rfl (hb hby d24_45) ?_
            exact kgo
          refine own_leave X10 hlk (v := some (.int 1)) (fun h => by rw [Bd.returns] at h; cases h) (fun fs hr => retN X10 hx (t := .boolean) Bd.returns (by simp) (hb hby d24_46) (by rw [(by decide : nar .boolean (1 : Int32) = (1 : Int32))]; exact hr)) (by decide) (by decide) ?_
          show Q_isT_2 Z a1 tb1 kb1 cd1 nB1 vs1 c1 c2 h0 n0 _ T10.heap _
          rw [eq10]
          exact ⟨(1 : Int32), rfl, N10, rfl, (Or.inl ⟨rfl, ⟨⟨cc4, cc5⟩, ⟨cc8, cc9⟩⟩⟩)⟩
        refine OwnGoes.step (T' := T7) (g' := (mkF m 38 #[vR a1, vI 1, vI c2] [(.int 0)])) (fun tgt kgo => ?_) ?_
        · refine XS.icmpNo X7.here hx rfl (hb hby d24_34) rfl (flt cc9).1 ?_
          show OwnG p e below T7 m 37 #[vR a1, vI 1, vI c2] [] tgt
          refine XS.iconst X7.here hx rfl (hb hby d24_37) ?_
          exact kgo
        refine own_leave X7 hlk (v := some (.int 0)) (fun h => by rw [Bd.returns] at h; cases h) (fun fs hr => retN X7 hx (t := .boolean) Bd.returns (by simp) (hb hby d24_38) (by rw [(by decide : nar .boolean (0 : Int32) = (0 : Int32))]; exact hr)) (by decide) (by decide) ?_
        show Q_isT_2 Z a1 tb1 kb1 cd1 nB1 vs1 c1 c2 h0 n0 _ T7.heap _
        rw [eq7]
        exact ⟨(0 : Int32), rfl, N7, rfl, (Or.inr ⟨rfl, fun zz => (fun z => cc9 z.2) zz.2⟩)⟩
      refine OwnGoes.step (T' := T7) (g' := (mkF m 38 #[vR a1, vI 1, vI c2] [(.int 0)])) (fun tgt kgo => ?_) ?_
      · refine XS.icmpYes X7.here hx rfl (pc0 := 28) (pc' := 37) rfl (hb hby d24_28) rfl (flt cc8).2.2.2 (by decide) (by decide) ?_
        show OwnG p e below T7 m 37 #[vR a1, vI 1, vI c2] [] tgt
        refine XS.iconst X7.here hx rfl (hb hby d24_37) ?_
        exact kgo
      refine own_leave X7 hlk (v := some (.int 0)) (fun h => by rw [Bd.returns] at h; cases h) (fun fs hr => retN X7 hx (t := .boolean) Bd.returns (by simp) (hb hby d24_38) (by rw [(by decide : nar .boolean (0 : Int32) = (0 : Int32))]; exact hr)) (by decide) (by decide) ?_
      show Q_isT_2 Z a1 tb1 kb1 cd1 nB1 vs1 c1 c2 h0 n0 _ T7.heap _
      rw [eq7]
      exact ⟨(0 : Int32), rfl, N7, rfl, (Or.inr ⟨rfl, fun zz => (fun z => cc8 z.1) zz.2⟩)⟩
    refine OwnGoes.step (T' := T3) (g' := (mkF m 38 #[vR a1, vI 0, vI c1] [(.int 0)])) (fun tgt kgo => ?_) ?_
    · refine XS.icmpNo X3.here hx rfl (hb hby d24_34) rfl (flt cc5).1 ?_
      show OwnG p e below T3 m 37 #[vR a1, vI 0, vI c1] [] tgt
      refine XS.iconst X3.here hx rfl (hb hby d24_37) ?_
      exact kgo
    refine own_leave X3 hlk (v := some (.int 0)) (fun h => by rw [Bd.returns] at h; cases h) (fun fs hr => retN X3 hx (t := .boolean) Bd.returns (by simp) (hb hby d24_38) (by rw [(by decide : nar .boolean (0 : Int32) = (0 : Int32))]; exact hr)) (by decide) (by decide) ?_
    show Q_isT_2 Z a1 tb1 kb1 cd1 nB1 vs1 c1 c2 h0 n0 _ T3.heap _
    rw [eq3]
    exact ⟨(0 : Int32), rfl, N3, rfl, (Or.inr ⟨rfl, fun zz => (fun z => cc5 z.2) zz.1⟩)⟩
  refine OwnGoes.step (T' := T3) (g' := (mkF m 38 #[vR a1, vI 0, vI c1] [(.int 0)])) (fun tgt kgo => ?_) ?_
  · refine XS.icmpYes X3.here hx rfl (pc0 := 28) (pc' := 37) rfl (hb hby d24_28) rfl (flt cc4).2.2.2 (by decide) (by decide) ?_
    show OwnG p e below T3 m 37 #[vR a1, vI 0, vI c1] [] tgt
    refine XS.iconst X3.here hx rfl (hb hby d24_37) ?_
    exact kgo
  refine own_leave X3 hlk (v := some (.int 0)) (fun h => by rw [Bd.returns] at h; cases h) (fun fs hr => retN X3 hx (t := .boolean) Bd.returns (by simp) (hb hby d24_38) (by rw [(by decide : nar .boolean (0 : Int32) = (0 : Int32))]; exact hr)) (by decide) (by decide) ?_
  show Q_isT_2 Z a1 tb1 kb1 cd1 nB1 vs1 c1 c2 h0 n0 _ T3.heap _
  rw [eq3]
  exact ⟨(0 : Int32), rfl, N3, rfl, (Or.inr ⟨rfl, fun zz => (fun z => cc4 z.1) zz.1⟩)⟩
theorem ef_isT_3 (m : MethodId) (x0 : Addr) : entryFrame m #[(.ref x0)] 3 = mkF m 0 #[vR x0, vU, vU] [] := by
  first | (simp [entryFrame, mkF, argsToLocals, Value.category]; done) | rfl
def Q_isT_3 (Z : State) (a1 : Addr) (tb1 : Addr) (kb1 : ClassId) (cd1 : Int32) (nB1 : Int32) (vs1 : List Value) (c1 : Int32) (c2 : Int32) (c3 : Int32) (h0 : Heap) (n0 : Nat) (v : Option Value) (h : Heap) (L : List Loc) : Prop := ∃ (r : Int32), v = some (.int r) ∧ Fr n0 L ∧ h = h0 ∧ ((r = (1 : Int32) ∧ (OwnOk c1 ∧ OwnOk c2 ∧ OwnOk c3)) ∨ (r = (0 : Int32) ∧ ¬ (OwnOk c1 ∧ OwnOk c2 ∧ OwnOk c3)))
set_option maxRecDepth 65536 in
set_option maxHeartbeats 40000000 in
theorem rm_isT_3 (l : Launch) (Z : State) (a0 : Array Value) (hw : ∀ d ∈ tables_1, d.before a0 Z = true) (ws : List Jvm.Cond) (wG1 : Int32) (wG3 : Value) (cx : OwnCx Z a0 wG1 wG3) (hEL : EW Z a0 consts_1) (h0 : Heap) (n0 : Nat) (X00 : Old Z n0 h0) (a1 : Addr) (tb1 : Addr) (kb1 : ClassId) (cd1 : Int32) (nB1 : Int32) (vs1 : List Value) (c1 : Int32) (c2 : Int32) (c3 : Int32) (f0 : Exa Z h0 a1 "java/lang/String") (f1 : Fld Z h0 a1 "java/lang/String" "value" "[B" (.ref tb1)) (f2 : Fld Z h0 a1 "java/lang/String" "coder" "B" (.int cd1)) (f3 : Arv Z h0 tb1 kb1 .byte nB1 vs1 (.int 0)) (hos : OwnStr ([c1, c2, c3] : List Int32) cd1 nB1 vs1) :
    MetFree l mN24 (head1 (Jvm.Cond.code mN24 prog_1_method_5_code 3 (some .boolean) :: ws) ({ frames := 5, cells := 0, slots := 0, locals := 66 } : Room)) (fun a U => a = #[(.ref a1)] ∧ Z.Warmed39 U.vm ∧ U.heap = h0) (fun _ _ _ _ _ => True) (fun _ U o U' => ∃ v L, o = .returned v ∧ Q_isT_3 Z a1 tb1 kb1 cd1 nB1 vs1 c1 c2 c3 h0 n0 v U'.heap L ∧ FrameEnd U o U' L ({ frames := 5, cells := 0, slots := 0, locals := 66 } : Room).cells ({ frames := 5, cells := 0, slots := 0, locals := 66 } : Room).slots) := by
  refine MetFree.of_bodySF (plainFor_of_name pn_95124969) hisR ?_
  intro p e s m args below meth c s₁ Bd hml0 hP hK
  obtain ⟨rfl, hZ, hh⟩ := hP
  obtain ⟨wO2, wP5, wO4, wrG3, hstr, wUA, wUH, wUL⟩ := id cx
  have hx := Bd.exec
  have hby := Bd.bytes
  have hlk := Bd.notSynchronized
  have hml : c.maxLocals = 3 := hml0
  have hown : s.vm.findClass "io/holdfast/cli/HttpHead" = some m.cls := findClass_of_methodNamed Bd.named
  have hnm := (name_of_methodNamed Bd.named Bd.method).1
  have X0 : Stand p l e ({ frames := 5, cells := 0, slots := 0, locals := 66 } : Room) s m #[(.ref a1)] below meth c s₁ [] 0 0 := Stand.of_body Bd
  have e0 : s₁.heap = h0 := by rw [← hh, Bd.state]; rfl
  have N0 := Fr.nil n0
  have Z0 : n0 ≤ h0.size := X00.1 ▸ X00.2.1
  have K0 : Keep h0 h0 ([] : List Addr) := Keep.refl _ _
  show OwnGoes p e below (fun o U' => ∃ v L, o = .returned v ∧ Q_isT_3 Z a1 tb1 kb1 cd1 nB1 vs1 c1 c2 c3 h0 n0 v U'.heap L ∧ FrameEnd s o U' L ({ frames := 5, cells := 0, slots := 0, locals := 66 } : Room).cells ({ frames := 5, cells := 0, slots := 0, locals := 66 } : Room).slots) s₁ (entryFrame m #[(.ref a1)] 3)
  refine OwnGoes.step (T' := s₁) (g' := (mkF m 0 #[vR a1, vU, vU] [])) (fun tgt kgo => castTop (ef_isT_3 m a1) kgo) ?_
  refine OwnGoes.step (T' := s₁) (g' := (mkF m 1 #[vR a1, vU, vU] [(.ref a1)])) (fun tgt kgo => ?_) ?_
  · refine XS.aloadN X0.here hx rfl (hb hby d24_0) rfl rfl ?_
    exact kgo
  obtain ⟨cq1, kq1, q1a, q1b, q1c⟩ := isOf (s := s) hZ e0 f0
  obtain ⟨_, _, ⟨T1, L1, k1, n1⟩, -, X1, ⟨Lc1, hQ1, l1, y1, z1⟩, st1⟩ := X0.virtualBack hx (y := mN20) (z := mN20) hown (mvT hZ (own_w hw 35 rfl)) (mvT hZ (own_w hw 36 rfl)) (notFace_of_selects (args := #[]) (mvT hZ (own_w hw 38 rfl))) (mvT hZ (own_w hw 38 rfl)) (mvT hZ (own_w hw 37 rfl)) (by decide) (backOf (W := 0) (rm_empA l Z a0 hw [] wG1 wG3 cx hEL h0 n0 X00 a1 tb1 kb1 nB1 vs1 f0 f1 f3 (own_nz hos (Nat.le_of_ble_eq_true rfl))) hZ (own_w hw 39 rfl) (own_w hw 11 rfl) (by decide) (by decide)) q1a q1c (g := (mkF m 1 #[vR a1, vU, vU] [(.ref a1)])) rfl (by rw [hml]; rfl) (Steps.refl _) (argsL := []) (rest := []) (lenOf pd_15861835 rfl) rfl (Nat.le_of_eq rfl) (hb hby d24_1) (fun _ _ => ⟨rfl, e0, (by decide : 0 + 0 ≤ _), (by decide : 0 + 0 ≤ _)⟩)
  dsimp only [Pt.U, Pt.locs, Pt.cells, Pt.slots] at X1 l1 y1 z1 st1 hQ1
  subst l1 y1 z1
  obtain ⟨rfl, Nq1, eq1⟩ := hQ1
  refine OwnGoes.tr (T' := T1) (g' := (mkF m 4 #[vR a1, vU, vU] [(.int 0)])) st1 ?_
  have N1 := Fr.app N0 Nq1
  refine OwnGoes.step (T' := T1) (g' := (mkF m 13 #[vR a1, vI 0, vU] [(.ref a1), (.int 0)])) (fun tgt kgo => ?_) ?_
  · refine XS.ifYes X1.here hx rfl (pc0 := 4) (pc' := 9) rfl (hb hby d24_4) rfl ((if0 _ _).trans (teq (by decide : (0 : Int32) = (0 : Int32))).1) (by decide) (by decide) ?_
    show OwnG p e below T1 m 9 #[vR a1, vU, vU] [] tgt
    refine XS.iconst X1.here hx rfl (hb hby d24_9) ?_
    show OwnG p e below T1 m 10 #[vR a1, vU, vU] [(.int 0)] tgt
    refine XS.istoreN X1.here hx rfl (hb hby d24_10) rfl (l' := #[vR a1, vI 0, vU]) rfl ?_
    show OwnG p e below T1 m 11 #[vR a1, vI 0, vU] [] tgt
    refine XS.iloadN X1.here hx rfl (hb hby d24_11) rfl ?_
    show OwnG p e below T1 m 12 #[vR a1, vI 0, vU] [(.int 0)] tgt
    refine XS.aloadN X1.here hx rfl (hb hby d24_12) rfl rfl ?_
    exact kgo
  obtain ⟨cq2, kq2, q2a, q2b, q2c⟩ := isOf (s := s) hZ eq1 f0
  obtain ⟨_, _, ⟨T2, L2, k2, n2⟩, -, X2, ⟨Lc2, hQ2, l2, y2, z2⟩, st2⟩ := X1.virtualBack hx (y := mN19) (z := mN19) hown (mvT hZ (own_w hw 54 rfl)) (mvT hZ (own_w hw 55 rfl)) (notFace_of_selects (args := #[]) (mvT hZ (own_w hw 57 rfl))) (mvT hZ (own_w hw 57 rfl)) (mvT hZ (own_w hw 56 rfl)) (by decide) (backOf (W := 1) (rm_lenA l Z a0 hw [] wG1 wG3 cx hEL h0 n0 X00 a1 cd1 (3 : Int32) tb1 kb1 nB1 vs1 f0 f1 f2 f3 (own_len hos (n := 3) rfl)) hZ (own_w hw 58 rfl) (own_w hw 11 rfl) (by decide) (by decide)) q2a q2c (g := (mkF m 13 #[vR a1, vI 0, vU] [(.ref a1), (.int 0)])) rfl (by rw [hml]; rfl) (Steps.refl _) (argsL := []) (rest := [(.int 0)]) (lenOf pd_86913941 rfl) rfl (Nat.le_of_eq rfl) (hb hby d24_13) (fun _ _ => ⟨rfl, eq1, (by decide : 0 + 0 ≤ _), (by decide : 0 + 0 ≤ _)⟩)
  dsimp only [Pt.U, Pt.locs, Pt.cells, Pt.slots] at X2 l2 y2 z2 st2 hQ2
  subst l2 y2 z2
  obtain ⟨rfl, Nq2, eq2⟩ := hQ2
  refine OwnGoes.tr (T' := T2) (g' := (mkF m 16 #[vR a1, vI 0, vU] [(.int 3), (.int 0)])) st2 ?_
  have N2 := Fr.app N1 Nq2
  refine OwnGoes.step (T' := T2) (g' := (mkF m 21 #[vR a1, vI 0, vU] [(.int 0), (.ref a1)])) (fun tgt kgo => ?_) ?_
  · refine XS.icmpNo X2.here hx rfl (hb hby d24_16) rfl (tlt (by decide : (0 : Int32) < (3 : Int32))).2.1 ?_
    show OwnG p e below T2 m 19 #[vR a1, vI 0, vU] [] tgt
    refine XS.aloadN X2.here hx rfl (hb hby d24_19) rfl rfl ?_
    show OwnG p e below T2 m 20 #[vR a1, vI 0, vU] [(.ref a1)] tgt
    refine XS.iloadN X2.here hx rfl (hb hby d24_20) rfl ?_
    exact kgo
  obtain ⟨cq3, kq3, q3a, q3b, q3c⟩ := isOf (s := s) hZ eq2 f0
  obtain ⟨_, _, ⟨T3, L3, k3, n3⟩, -, X3, ⟨Lc3, hQ3, l3, y3, z3⟩, st3⟩ := X2.virtualBack hx (y := mN17) (z := mN17) hown (mvT hZ (own_w hw 64 rfl)) (mvT hZ (own_w hw 65 rfl)) (notFace_of_selects (args := #[]) (mvT hZ (own_w hw 67 rfl))) (mvT hZ (own_w hw 67 rfl)) (mvT hZ (own_w hw 66 rfl)) (by decide) (backOf (W := 0) (rm_chA l Z a0 hw [] wG1 wG3 cx hEL h0 n0 X00 a1 cd1 tb1 kb1 nB1 vs1 (0 : Int32) c1 f0 f1 f2 f3 (own_ch hos (j := 0) (Nat.le_of_ble_eq_true rfl) rfl)) hZ (own_w hw 68 rfl) (own_w hw 11 rfl) (by decide) (by decide)) q3a q3c (g := (mkF m 21 #[vR a1, vI 0, vU] [(.int 0), (.ref a1)])) rfl (by rw [hml]; rfl) (Steps.refl _) (argsL := [(.int 0)]) (rest := []) (lenOf pd_17647939 rfl) rfl (Nat.le_of_eq rfl) (hb hby d24_21) (fun _ _ => ⟨rfl, eq2, (by decide : 0 + 0 ≤ _), (by decide : 0 + 0 ≤ _)⟩)
  dsimp only [Pt.U, Pt.locs, Pt.cells, Pt.slots] at X3 l3 y3 z3 st3 hQ3
  subst l3 y3 z3
  obtain ⟨rfl, Nq3, eq3⟩ := hQ3
  refine OwnGoes.tr (T' := T3) (g' := (mkF m 24 #[vR a1, vI 0, vU] [(.int c1)])) st3 ?_
  have N3 := Fr.app N2 Nq3
  refine OwnGoes.step (T' := T3) (g' := (mkF m 28 #[vR a1, vI 0, vI c1] [(.int 32), (.int c1)])) (fun tgt kgo => ?_) ?_
  · refine XS.istoreN X3.here hx rfl (hb hby d24_24) rfl (l' := #[vR a1, vI 0, vI c1]) rfl ?_
    show OwnG p e below T3 m 25 #[vR a1, vI 0, vI c1] [] tgt
    refine XS.iloadN X3.here hx rfl (hb hby d24_25) rfl ?_
    show OwnG p e below T3 m 26 #[vR a1, vI 0, vI c1] [(.int c1)] tgt
    refine XS.bipush X3.here hx rfl (hb hby d24_26) ?_
    exact kgo
  by_cases cc4 : (32 : Int32) < c1
  · skip
    refine OwnGoes.step (T' := T3) (g' := (mkF m 34 #[vR a1, vI 0, vI c1] [(.int 127), (.int c1)])) (fun tgt kgo => ?_) ?_
    · refine XS.icmpNo X3.here hx rfl (hb hby d24_28) rfl (tlt cc4).2.2.2 ?_
      show OwnG p e below T3 m 31 #[vR a1, vI 0, vI c1] [] tgt
      refine XS.iloadN X3.here hx rfl (hb hby d24_31) rfl ?_
      show OwnG p e below T3 m 32 #[vR a1, vI 0, vI c1] [(.int c1)] tgt
      refine XS.bipush X3.here hx rfl (hb hby d24_32) ?_
      exact kgo
    by_cases cc5 : c1 < (127 : Int32)
    · skip
      refine OwnGoes.step (T' := T3) (g' := (mkF m 13 #[vR a1, vI 1, vI c1] [(.ref a1), (.int 1)])) (fun tgt kgo => ?_) ?_
      · refine XS.icmpYes X3.here hx rfl (pc0 := 34) (pc' := 39) rfl (hb hby d24_34) rfl (tlt cc5).1 (by decide) (by decide) ?_
        show OwnG p e below T3 m 39 #[vR a1, vI 0, vI c1] [] tgt
        refine XS.iinc X3.here hx rfl (hb hby d24_39) rfl (l' := #[vR a1, vI 1, vI c1]) rfl ?_
        show OwnG p e below T3 m 42 #[vR a1, vI 1, vI c1] [] tgt
        refine XS.goto X3.here hx rfl (pc0 := 42) (pc' := 11) rfl (hb hby d24_42) (by decide) (by decide) ?_
        show OwnG p e below T3 m 11 #[vR a1, vI 1, vI c1] [] tgt
        refine XS.iloadN X3.here hx rfl (hb hby d24_11) rfl ?_
        show OwnG p e below T3 m 12 #[vR a1, vI 1, vI c1] [(.int 1)] tgt
        refine XS.aloadN X3.here hx rfl (hb hby d24_12) rfl rfl ?_
        exact kgo
      obtain ⟨cq6, kq6, q6a, q6b, q6c⟩ := isOf (s := s) hZ eq3 f0
      obtain ⟨_, _, ⟨T6, L6, k6, n6⟩, -, X6, ⟨Lc6, hQ6, l6, y6, z6⟩, st6⟩ := X3.virtualBack hx (y := mN19) (z := mN19) hown (mvT hZ (own_w hw 54 rfl)) (mvT hZ (own_w hw 55 rfl)) (notFace_of_selects (args := #[]) (mvT hZ (own_w hw 57 rfl))) (mvT hZ (own_w hw 57 rfl)) (mvT hZ (own_w hw 56 rfl)) (by decide) (backOf (W := 1) (rm_lenA l Z a0 hw [] wG1 wG3 cx hEL h0 n0 X00 a1 cd1 (3 : Int32) tb1 kb1 nB1 vs1 f0 f1 f2 f3 (own_len hos (n := 3) rfl)) hZ (own_w hw 58 rfl) (own_w hw 11 rfl) (by decide) (by decide)) q6a q6c (g := (mkF m 13 #[vR a1, vI 1, vI c1] [(.ref a1), (.int 1)])) rfl (by rw [hml]; rfl) (Steps.refl _) (argsL := []) (rest := [(.int 1)]) (lenOf pd_86913941 rfl) rfl (Nat.le_of_eq rfl) (hb hby d24_13) (fun _ _ => ⟨rfl, eq3, (by decide : 0 + 0 ≤ _), (by decide : 0 + 0 ≤ _)⟩)
      dsimp only [Pt.U, Pt.locs, Pt.cells, Pt.slots] at X6 l6 y6 z6 st6 hQ6
      subst l6 y6 z6
      obtain ⟨rfl, Nq6, eq6⟩ := hQ6
      refine OwnGoes.tr (T' := T6) (g' := (mkF m 16 #[vR a1, vI 1, vI c1] [(.int 3), (.int 1)])) st6 ?_
      have N6 := Fr.app N3 Nq6
      refine OwnGoes.step (T' := T6) (g' := (mkF m 21 #[vR a1, vI 1, vI c1] [(.int 1), (.ref a1)])) (fun tgt kgo => ?_) ?_
      · refine XS.icmpNo X6.here hx rfl (hb hby d24_16) rfl (tlt (by decide : (1 : Int32) < (3 : Int32))).2.1 ?_
        show OwnG p e below T6 m 19 #[vR a1, vI 1, vI c1] [] tgt
        refine XS.aloadN X6.here hx rfl (hb hby d24_19) rfl rfl ?_
        show OwnG p e below T6 m 20 #[vR a1, vI 1, vI c1] [(.ref a1)] tgt
        refine XS.iloadN X6.here hx rfl (hb hby d24_20) rfl ?_
        exact kgo
      obtain ⟨cq7, kq7, q7a, q7b, q7c⟩ := isOf (s := s) hZ eq6 f0
      obtain ⟨_, _, ⟨T7, L7, k7, n7⟩, -, X7, ⟨Lc7, hQ7, l7, y7, z7⟩, st7⟩ := X6.virtualBack hx (y := mN17) (z := mN17) hown (mvT hZ (own_w hw 64 rfl)) (mvT hZ (own_w hw 65 rfl)) (notFace_of_selects (args := #[]) (mvT hZ (own_w hw 67 rfl))) (mvT hZ (own_w hw 67 rfl)) (mvT hZ (own_w hw 66 rfl)) (by decide) (backOf (W := 0) (rm_chA l Z a0 hw [] wG1 wG3 cx hEL h0 n0 X00 a1 cd1 tb1 kb1 nB1 vs1 (1 : Int32) c2 f0 f1 f2 f3 (own_ch hos (j := 1) (Nat.le_of_ble_eq_true rfl) rfl)) hZ (own_w hw 68 rfl) (own_w hw 11 rfl) (by decide) (by decide)) q7a q7c (g := (mkF m 21 #[vR a1, vI 1, vI c1] [(.int 1), (.ref a1)])) rfl (by rw [hml]; rfl) (Steps.refl _) (argsL := [(.int 1)]) (rest := []) (lenOf pd_17647939 rfl) rfl (Nat.le_of_eq rfl) (hb hby d24_21) (fun _ _ => ⟨rfl, eq6, (by decide : 0 + 0 ≤ _), (by decide : 0 + 0 ≤ _)⟩)
      dsimp only [Pt.U, Pt.locs, Pt.cells, Pt.slots] at X7 l7 y7 z7 st7 hQ7
      subst l7 y7 z7
      obtain ⟨rfl, Nq7, eq7⟩ := hQ7
      refine OwnGoes.tr (T' := T7) (g' := (mkF m 24 #[vR a1, vI 1, vI c1] [(.int c2)])) st7 ?_
      have N7 := Fr.app N6 Nq7
      refine OwnGoes.step (T' := T7) (g' := (mkF m 28 #[vR a1, vI 1, vI c2] [(.int 32), (.int c2)])) (fun tgt kgo => ?_) ?_
      · refine XS.istoreN X7.here hx rfl (hb hby d24_24) rfl (l' := #[vR a1, vI 1, vI c2]) rfl ?_
        show OwnG p e below T7 m 25 #[vR a1, vI 1, vI c2] [] tgt
        refine XS.iloadN X7.here hx rfl (hb hby d24_25) rfl ?_
        show OwnG p e below T7 m 26 #[vR a1, vI 1, vI c2] [(.int c2)] tgt
        refine XS.bipush X7.here hx rfl (hb hby d24_26) ?_
        exact kgo
      by_cases cc8 : (32 : Int32) < c2
      · skip
        refine OwnGoes.step (T' := T7) (g' := (mkF m 34 #[vR a1, vI 1, vI c2] [(.int 127), (.int c2)])) (fun tgt kgo => ?_) ?_
        · refine XS.icmpNo X7.here hx rfl (hb hby d24_28) rfl (tlt cc8).2.2.2 ?_
          show OwnG p e below T7 m 31 #[vR a1, vI 1, vI c2] [] tgt
          refine XS.iloadN X7.here hx rfl (hb hby d24_31) rfl ?_
          show OwnG p e below T7 m 32 #[vR a1, vI 1, vI c2] [(.int c2)] tgt
          refine XS.bipush X7.here hx rfl (hb hby d24_32) ?_
          exact kgo
        by_cases cc9 : c2 < (127 : Int32)
        · skip
          refine OwnGoes.step (T' := T7) (g' := (mkF m 13 #[vR a1, vI 2, vI c2] [(.ref a1), (.int 2)])) (fun tgt kgo => ?_) ?_
          · refine XS.icmpYes X7.here hx rfl (pc0 := 34) (pc' := 39) rfl (hb hby d24_34) rfl (tlt cc9).1 (by decide) (by decide) ?_
            show OwnG p e below T7 m 39 #[vR a1, vI 1, vI c2] [] tgt
            refine XS.iinc X7.here hx rfl (hb hby d24_39) rfl (l' := #[vR a1, vI 2, vI c2]) rfl ?_
            show OwnG p e below T7 m 42 #[vR a1, vI 2, vI c2] [] tgt
            refine XS.goto X7.here hx rfl (pc0 := 42) (pc' := 11) rfl (hb hby d24_42) (by decide) (by decide) ?_
            show OwnG p e below T7 m 11 #[vR a1, vI 2, vI c2] [] tgt
            refine XS.iloadN X7.here hx rfl (hb hby d24_11) rfl ?_
            show OwnG p e below T7 m 12 #[vR a1, vI 2, vI c2] [(.int 2)] tgt
            refine XS.aloadN X7.here hx rfl (hb hby d24_12) rfl rfl ?_
            exact kgo
          obtain ⟨cq10, kq10, q10a, q10b, q10c⟩ := isOf (s := s) hZ eq7 f0
          obtain ⟨_, _, ⟨T10, L10, k10, n10⟩, -, X10, ⟨Lc10, hQ10, l10, y10, z10⟩, st10⟩ := X7.virtualBack hx (y := mN19) (z := mN19) hown (mvT hZ (own_w hw 54 rfl)) (mvT hZ (own_w hw 55 rfl)) (notFace_of_selects (args := #[]) (mvT hZ (own_w hw 57 rfl))) (mvT hZ (own_w hw 57 rfl)) (mvT hZ (own_w hw 56 rfl)) (by decide) (backOf (W := 1) (rm_lenA l Z a0 hw [] wG1 wG3 cx hEL h0 n0 X00 a1 cd1 (3 : Int32) tb1 kb1 nB1 vs1 f0 f1 f2 f3 (own_len hos (n := 3) rfl)) hZ (own_w hw 58 rfl) (own_w hw 11 rfl) (by decide) (by decide)) q10a q10c (g := (mkF m 13 #[vR a1, vI 2, vI c2] [(.ref a1), (.int 2)])) rfl (by rw [hml]; rfl) (Steps.refl _) (argsL := []) (rest := [(.int 2)]) (lenOf pd_86913941 rfl) rfl (Nat.le_of_eq rfl) (hb hby d24_13) (fun _ _ => ⟨rfl, eq7, (by decide : 0 + 0 ≤ _), (by decide : 0 + 0 ≤ _)⟩)
          dsimp only [Pt.U, Pt.locs, Pt.cells, Pt.slots] at X10 l10 y10 z10 st10 hQ10
          subst l10 y10 z10
          obtain ⟨rfl, Nq10, eq10⟩ := hQ10
          refine OwnGoes.tr (T' := T10) (g' := (mkF m 16 #[vR a1, vI 2, vI c2] [(.int 3), (.int 2)])) st10 ?_
          have N10 := Fr.app N7 Nq10
          refine OwnGoes.step (T' := T10) (g' := (mkF m 21 #[vR a1, vI 2, vI c2] [(.int 2), (.ref a1)])) (fun tgt kgo => ?_) ?_
          · refine XS.icmpNo X10.here hx rfl (hb hby d24_16) rfl (tlt (by decide : (2 : Int32) < (3 : Int32))).2.1 ?_
            show OwnG p e below T10 m 19 #[vR a1, vI 2, vI c2] [] tgt
            refine XS.aloadN X10.here hx rfl (hb hby d24_19) rfl rfl ?_
            show OwnG p e below T10 m 20 #[vR a1, vI 2, vI c2] [(.ref a1)] tgt
            refine XS.iloadN X10.here hx rfl (hb hby d24_20) rfl ?_
            exact kgo
          obtain ⟨cq11, kq11, q11a, q11b, q11c⟩ := isOf (s := s) hZ eq10 f0
          obtain ⟨_, _, ⟨T11, L11, k11, n11⟩, -, X11, ⟨Lc11, hQ11, l11, y11, z11⟩, st11⟩ := X10.virtualBack hx (y := mN17) (z := mN17) hown (mvT hZ (own_w hw 64 rfl)) (mvT hZ (own_w hw 65 rfl)) (notFace_of_selects (args := #[]) (mvT hZ (own_w hw 67 rfl))) (mvT hZ (own_w hw 67 rfl)) (mvT hZ (own_w hw 66 rfl)) (by decide) (backOf (W := 0) (rm_chA l Z a0 hw [] wG1 wG3 cx hEL h0 n0 X00 a1 cd1 tb1 kb1 nB1 vs1 (2 : Int32) c3 f0 f1 f2 f3 (own_ch hos (j := 2) (Nat.le_of_ble_eq_true rfl) rfl)) hZ (own_w hw 68 rfl) (own_w hw 11 rfl) (by decide) (by decide)) q11a q11c (g := (mkF m 21 #[vR a1, vI 2, vI c2] [(.int 2), (.ref a1)])) rfl (by rw [hml]; rfl) (Steps.refl _) (argsL := [(.int 2)]) (rest := []) (lenOf pd_17647939 rfl) rfl (Nat.le_of_eq rfl) (hb hby d24_21) (fun _ _ => ⟨rfl, eq10, (by decide : 0 + 0 ≤ _), (by decide : 0 + 0 ≤ _)⟩)
          dsimp only [Pt.U, Pt.locs, Pt.cells, Pt.slots] at X11 l11 y11 z11 st11 hQ11
          subst l11 y11 z11
          obtain ⟨rfl, Nq11, eq11⟩ := hQ11
          refine OwnGoes.tr (T' := T11) (g' := (mkF m 24 #[vR a1, vI 2, vI c2] [(.int c3)])) st11 ?_
          have N11 := Fr.app N10 Nq11
          refine OwnGoes.step (T' := T11) (g' := (mkF m 28 #[vR a1, vI 2, vI c3] [(.int 32), (.int c3)])) (fun tgt kgo => ?_) ?_
          · refine XS.istoreN X11.here hx rfl (hb hby d24_24) rfl (l' := #[vR a1, vI 2, vI c3]) rfl ?_
            show OwnG p e below T11 m 25 #[vR a1, vI 2, vI c3] [] tgt
            refine XS.iloadN X11.here hx rfl (hb hby d24_25) rfl ?_
            show OwnG p e below T11 m 26 #[vR a1, vI 2, vI c3] [(.int c3)] tgt
            refine XS.bipush X11.here hx rfl (hb hby d24_26) ?_
            exact kgo
          by_cases cc12 : (32 : Int32) < c3
          · skip
            refine OwnGoes.step (T' := T11) (g' := (mkF m 34 #[vR a1, vI 2, vI c3] [(.int 127), (.int c3)])) (fun tgt kgo => ?_) ?_
            · refine XS.icmpNo X11.here hx rfl (hb hby d24_28) rfl (tlt cc12).2.2.2 ?_
              show OwnG p e below T11 m 31 #[vR a1, vI 2, vI c3] [] tgt
              refine XS.iloadN X11.here hx rfl (hb hby d24_31) rfl ?_
              show OwnG p e below T11 m 32 #[vR a1, vI 2, vI c3] [(.int c3)] tgt
              refine XS.bipush X11.here hx rfl (hb hby d24_32) ?_
              exact kgo
            by_cases cc13 : c3 < (127 : Int32)
            · skip
              refine OwnGoes.step (T' := T11) (g' := (mkF m 13 #[vR a1, vI 3, vI c3] [(.ref a1), (.int 3)])) (fun tgt kgo => ?_) ?_
              · refine XS.icmpYes X11.here hx rfl (pc0 := 34) (pc' := 39) rfl (hb hby d24_34) rfl (tlt cc13).1 (by decide) (by decide) ?_
                show OwnG p e below T11 m 39 #[vR a1, vI 2, vI c3] [] tgt
                refine XS.iinc X11.here hx rfl (hb hby d24_39) rfl (l' := #[vR a1, vI 3, vI c3]) rfl ?_
                show OwnG p e below T11 m 42 #[vR a1, vI 3, vI c3] [] tgt
                refine XS.goto X11.here hx rfl (pc0 := 42) (pc' := 11) rfl (hb hby d24_42) (by decide) (by decide) ?_
                show OwnG p e below T11 m 11 #[vR a1, vI 3, vI c3] [] tgt
                refine XS.iloadN X11.here hx rfl (hb hby d24_11) rfl ?_
                show OwnG p e below T11 m 12 #[vR a1, vI 3, vI c3] [(.int 3)] tgt
                refine XS.aloadN X11.here hx rfl (hb hby d24_12) rfl rfl ?_
                exact kgo
              obtain ⟨cq14, kq14, q14a, q14b, q14c⟩ := isOf (s := s) hZ eq11 f0
              obtain ⟨_, _, ⟨T14, L14, k14, n14⟩, -, X14, ⟨Lc14, hQ14, l14, y14, z14⟩, st14⟩ := X11.virtualBack hx (y := mN19) (z := mN19) hown (mvT hZ (own_w hw 54 rfl)) (mvT hZ (own_w hw 55 rfl)) (notFace_of_selects (args := #[]) (mvT hZ (own_w hw 57 rfl))) (mvT hZ (own_w hw 57 rfl)) (mvT hZ (own_w hw 56 rfl)) (by decide) (backOf (W := 1) (rm_lenA l Z a0 hw [] wG1 wG3 cx hEL h0 n0 X00 a1 cd1 (3 : Int32) tb1 kb1 nB1 vs1 f0 f1 f2 f3 (own_len hos (n := 3) rfl)) hZ (own_w hw 58 rfl) (own_w hw 11 rfl) (by decide) (by decide)) q14a q14c (g := (mkF m 13 #[vR a1, vI 3, vI c3] [(.ref a1), (.int 3)])) rfl (by rw [hml]; rfl) (Steps.refl _) (argsL := []) (rest := [(.int 3)]) (lenOf pd_86913941 rfl) rfl (Nat.le_of_eq rfl) (hb hby d24_13) (fun _ _ => ⟨rfl, eq11, (by decide : 0 + 0 ≤ _), (by decide : 0 + 0 ≤ _)⟩)
              dsimp only [Pt.U, Pt.locs, Pt.cells, Pt.slots] at X14 l14 y14 z14 st14 hQ14
              subst l14 y14 z14
              obtain ⟨rfl, Nq14, eq14⟩ := hQ14
              refine OwnGoes.tr (T' := T14) (g' := (mkF m 16 #[vR a1, vI 3, vI c3] [(.int 3), (.int 3)])) st14 ?_
              have N14 := Fr.app N11 Nq14
              refine OwnGoes.step (T' := T14) (g' := (mkF m 46 #[vR a1, vI 3, vI c3] [(.int 1)])) (fun tgt kgo => ?_) ?_
              · refine XS.icmpYes X14.here hx rfl (pc0 := 16) (pc' := 45) rfl (hb hby d24_16) rfl (flt (by decide : ¬ ((3 : Int32) < (3 : Int32)))).2.1 (by decide) (by decide) ?_
                show OwnG p e below T14 m 45 #[vR a1, vI 3, vI c3] [] tgt
                refine XS.iconst X14.here hx rfl (hb hby d24_45) ?_
                exact kgo
              refine own_leave X14 hlk (v := some (.int 1)) (fun h => by rw [Bd.returns] at h; cases h) (fun fs hr => retN X14 hx (t := .boolean) Bd.returns (by simp) (hb hby d24_46) (by rw [(by decide : nar .boolean (1 : Int32) = (1 : Int32))]; exact hr)) (by decide) (by decide) ?_
              show Q_isT_3 Z a1 tb1 kb1 cd1 nB1 vs1 c1 c2 c3 h0 n0 _ T14.heap _
              rw [eq14]
              exact ⟨(1 : Int32), rfl, N14, rfl, (Or.inl ⟨rfl, ⟨⟨cc4, cc5⟩, ⟨cc8, cc9⟩, ⟨cc12, cc13⟩⟩⟩)⟩
            refine OwnGoes.step (T' := T11) (g' := (mkF m 38 #[vR a1, vI 2, vI c3] [(.int 0)])) (fun tgt kgo => ?_) ?_
            · refine XS.icmpNo X11.here hx rfl (hb hby d24_34) rfl (flt cc13).1 ?_
              show OwnG p e below T11 m 37 #[vR a1, vI 2, vI c3] [] tgt
              refine XS.iconst X11.here hx rfl (hb hby d24_37) ?_
              exact kgo
            refine own_leave X11 hlk (v := some (.int 0)) (fun h => by rw [Bd.returns] at h; cases h) (fun fs hr => retN X11 hx (t := .boolean) Bd.returns (by simp) (hb hby d24_38) (by rw [(by decide : nar .boolean (0 : Int32) = (0 : Int32))]; exact hr)) (by decide) (by decide) ?_
            show Q_isT_3 Z a1 tb1 kb1 cd1 nB1 vs1 c1 c2 c3 h0 n0 _ T11.heap _
            rw [eq11]
            exact ⟨(0 : Int32), rfl, N11, rfl, (Or.inr ⟨rfl, fun zz => (fun z => cc13 z.2) zz.2.2⟩)⟩
          refine OwnGoes.step (T' := T11) (g' := (mkF m 38 #[vR a1, vI 2, vI c3] [(.int 0)])) (fun tgt kgo => ?_) ?_
          · refine XS.icmpYes X11.here hx rfl (pc0 := 28) (pc' := 37) rfl (hb hby d24_28) rfl (flt cc12).2.2.2 (by decide) (by decide) ?_
            show OwnG p e below T11 m 37 #[vR a1, vI 2, vI c3] [] tgt
            refine XS.iconst X11.here hx rfl (hb hby d24_37) ?_
            exact kgo
          refine own_leave X11 hlk (v := some (.int 0)) (fun h => by rw [Bd.returns] at h; cases h) (fun fs hr => retN X11 hx (t := .boolean) Bd.returns (by simp) (hb hby d24_38) (by rw [(by decide : nar .boolean (0 : Int32) = (0 : Int32))]; exact hr)) (by decide) (by decide) ?_
          show Q_isT_3 Z a1 tb1 kb1 cd1 nB1 vs1 c1 c2 c3 h0 n0 _ T11.heap _
          rw [eq11]
          exact ⟨(0 : Int32), rfl, N11, rfl, (Or.inr ⟨rfl, fun zz => (fun z => cc12 z.1) zz.2.2⟩)⟩
        refine OwnGoes.step (T' := T7) (g' := (mkF m 38 #[vR a1, vI 1, vI c2] [(.int 0)])) (fun tgt kgo => ?_) ?_
        · refine XS.icmpNo X7.here hx rfl (hb hby d24_34) rfl (flt cc9).1 ?_
          show OwnG p e below T7 m 37 #[vR a1, vI 1, vI c2] [] tgt
          refine XS.iconst X7.here hx rfl (hb hby d24_37) ?_
          exact kgo
        refine own_leave X7 hlk (v := some (.int 0)) (fun h => by rw [Bd.returns] at h; cases h) (fun fs hr => retN X7 hx (t := .boolean) Bd.returns (by simp) (hb hby d24_38) (by rw [(by decide : nar .boolean (0 : Int32) = (0 : Int32))]; exact hr)) (by decide) (by decide) ?_
        show Q_isT_3 Z a1 tb1 kb1 cd1 nB1 vs1 c1 c2 c3 h0 n0 _ T7.heap _
        rw [eq7]
        exact ⟨(0 : Int32), rfl, N7, rfl, (Or.inr ⟨rfl, fun zz => (fun z => cc9 z.2) zz.2.1⟩)⟩
      refine OwnGoes.step (T' := T7) (g' := (mkF m 38 #[vR a1, vI 1, vI c2] [(.int 0)])) (fun tgt kgo => ?_) ?_
      · refine XS.icmpYes X7.here hx rfl (pc0 := 28) (pc' := 37) rfl (hb hby d24_28) rfl (flt cc8).2.2.2 (by decide) (by decide) ?_
        show OwnG p e below T7 m 37 #[vR a1, vI 1, vI c2] [] tgt
        refine XS.iconst X7.here hx rfl (hb hby d24_37) ?_
        exact kgo
      refine own_leave X7 hlk (v := some (.int 0)) (fun h => by rw [Bd.returns] at h; cases h) (fun fs hr => retN X7 hx (t := .boolean) Bd.returns (by simp) (hb hby d24_38) (by rw [(by decide : nar .boolean (0 : Int32) = (0 : Int32))]; exact hr)) (by decide) (by decide) ?_
      show Q_isT_3 Z a1 tb1 kb1 cd1 nB1 vs1 c1 c2 c3 h0 n0 _ T7.heap _
      rw [eq7]
      exact ⟨(0 : Int32), rfl, N7, rfl, (Or.inr ⟨rfl, fun zz => (fun z => cc8 z.1) zz.2.1⟩)⟩
    refine OwnGoes.step (T' := T3) (g' := (mkF m 38 #[vR a1, vI 0, vI c1] [(.int 0)])) (fun tgt kgo => ?_) ?_
    · refine XS.icmpNo X3.here hx rfl (hb hby d24_34) rfl (flt cc5).1 ?_
      show OwnG p e below T3 m 37 #[vR a1, vI 0, vI c1] [] tgt
      refine XS.iconst X3.here hx rfl (hb hby d24_37) ?_
      exact kgo
    refine own_leave X3 hlk (v := some (.int 0)) (fun h => by rw [Bd.returns] at h; cases h) (fun fs hr => retN X3 hx (t := .boolean) Bd.returns (by simp) (hb hby d24_38) (by rw [(by decide : nar .boolean (0 : Int32) = (0 : Int32))]; exact hr)) (by decide) (by decide) ?_
    show Q_isT_3 Z a1 tb1 kb1 cd1 nB1 vs1 c1 c2 c3 h0 n0 _ T3.heap _
    rw [eq3]
    exact ⟨(0 : Int32), rfl, N3, rfl, (Or.inr ⟨rfl, fun zz => (fun z => cc5 z.2) zz.1⟩)⟩
  refine OwnGoes.step (T' := T3) (g' := (mkF m 38 #[vR a1, vI 0, vI c1] [(.int 0)])) (fun tgt kgo => ?_) ?_
  · refine XS.icmpYes X3.here hx rfl (pc0 := 28) (pc' := 37) rfl (hb hby d24_28) rfl (flt cc4).2.2.2 (by decide) (by decide) ?_
    show OwnG p e below T3 m 37 #[vR a1, vI 0, vI c1] [] tgt
    refine XS.iconst X3.here hx rfl (hb hby d24_37) ?_
    exact kgo
  refine own_leave X3 hlk (v := some (.int 0)) (fun h => by rw [Bd.returns] at h; cases h) (fun fs hr => retN X3 hx (t := .boolean) Bd.returns (by simp) (hb hby d24_38) (by rw [(by decide : nar .boolean (0 : Int32) = (0 : Int32))]; exact hr)) (by decide) (by decide) ?_
  show Q_isT_3 Z a1 tb1 kb1 cd1 nB1 vs1 c1 c2 c3 h0 n0 _ T3.heap _
  rw [eq3]
  exact ⟨(0 : Int32), rfl, N3, rfl, (Or.inr ⟨rfl, fun zz => (fun z => cc4 z.1) zz.1⟩)⟩
theorem ef_isT_4 (m : MethodId) (x0 : Addr) : entryFrame m #[(.ref x0)] 3 = mkF m 0 #[vR x0, vU, vU] [] := by
  first | (simp [entryFrame, mkF, argsToLocals, Value.category]; done) | rfl
def Q_isT_4 (Z : State) (a1 : Addr) (tb1 : Addr) (kb1 : ClassId) (cd1 : Int32) (nB1 : Int32) (vs1 : List Value) (c1 : Int32) (c2 : Int32) (c3 : Int32) (c4 : Int32) (h0 : Heap) (n0 : Nat) (v : Option Value) (h : Heap) (L : List Loc) : Prop := ∃ (r : Int32), v = some (.int r) ∧ Fr n0 L ∧ h = h0 ∧ ((r = (1 : Int32) ∧ (OwnOk c1 ∧ OwnOk c2 ∧ OwnOk c3 ∧ OwnOk c4)) ∨ (r = (0 : Int32) ∧ ¬ (OwnOk c1 ∧ OwnOk c2 ∧ OwnOk c3 ∧ OwnOk c4)))
set_option maxRecDepth 65536 in
set_option maxHeartbeats 40000000 in
theorem rm_isT_4 (l : Launch) (Z : State) (a0 : Array Value) (hw : ∀ d ∈ tables_1, d.before a0 Z = true) (ws : List Jvm.Cond) (wG1 : Int32) (wG3 : Value) (cx : OwnCx Z a0 wG1 wG3) (hEL : EW Z a0 consts_1) (h0 : Heap) (n0 : Nat) (X00 : Old Z n0 h0) (a1 : Addr) (tb1 : Addr) (kb1 : ClassId) (cd1 : Int32) (nB1 : Int32) (vs1 : List Value) (c1 : Int32) (c2 : Int32) (c3 : Int32) (c4 : Int32) (f0 : Exa Z h0 a1 "java/lang/String") (f1 : Fld Z h0 a1 "java/lang/String" "value" "[B" (.ref tb1)) (f2 : Fld Z h0 a1 "java/lang/String" "coder" "B" (.int cd1)) (f3 : Arv Z h0 tb1 kb1 .byte nB1 vs1 (.int 0)) (hos : OwnStr ([c1, c2, c3, c4] : List Int32) cd1 nB1 vs1) :
    MetFree l mN24 (head1 (Jvm.Cond.code mN24 prog_1_method_5_code 3 (some .boolean) :: ws) ({ frames := 5, cells := 0, slots := 0, locals := 66 } : Room)) (fun a U => a = #[(.ref a1)] ∧ Z.Warmed39 U.vm ∧ U.heap = h0) (fun _ _ _ _ _ => True) (fun _ U o U' => ∃ v L, o = .returned v ∧ Q_isT_4 Z a1 tb1 kb1 cd1 nB1 vs1 c1 c2 c3 c4 h0 n0 v U'.heap L ∧ FrameEnd U o U' L ({ frames := 5, cells := 0, slots := 0, locals := 66 } : Room).cells ({ frames := 5, cells := 0, slots := 0, locals := 66 } : Room).slots) := by
  refine MetFree.of_bodySF (plainFor_of_name pn_95124969) hisR ?_
  intro p e s m args below meth c s₁ Bd hml0 hP hK
  obtain ⟨rfl, hZ, hh⟩ := hP
  obtain ⟨wO2, wP5, wO4, wrG3, hstr, wUA, wUH, wUL⟩ := id cx
  have hx := Bd.exec
  have hby := Bd.bytes
  have hlk := Bd.notSynchronized
  have hml : c.maxLocals = 3 := hml0
  have hown : s.vm.findClass "io/holdfast/cli/HttpHead" = some m.cls := findClass_of_methodNamed Bd.named
  have hnm := (name_of_methodNamed Bd.named Bd.method).1
  have X0 : Stand p l e ({ frames := 5, cells := 0, slots := 0, locals := 66 } : Room) s m #[(.ref a1)] below meth c s₁ [] 0 0 := Stand.of_body Bd
  have e0 : s₁.heap = h0 := by rw [← hh, Bd.state]; rfl
  have N0 := Fr.nil n0
  have Z0 : n0 ≤ h0.size := X00.1 ▸ X00.2.1
  have K0 : Keep h0 h0 ([] : List Addr) := Keep.refl _ _
  show OwnGoes p e below (fun o U' => ∃ v L, o = .returned v ∧ Q_isT_4 Z a1 tb1 kb1 cd1 nB1 vs1 c1 c2 c3 c4 h0 n0 v U'.heap L ∧ FrameEnd s o U' L ({ frames := 5, cells := 0, slots := 0, locals := 66 } : Room).cells ({ frames := 5, cells := 0, slots := 0, locals := 66 } : Room).slots) s₁ (entryFrame m #[(.ref a1)] 3)
  refine OwnGoes.step (T' := s₁) (g' := (mkF m 0 #[vR a1, vU, vU] [])) (fun tgt kgo => castTop (ef_isT_4 m a1) kgo) ?_
  refine OwnGoes.step (T' := s₁) (g' := (mkF m 1 #[vR a1, vU, vU] [(.ref a1)])) (fun tgt kgo => ?_) ?_
  · refine XS.aloadN X0.here hx rfl (hb hby d24_0) rfl rfl ?_
    exact kgo
  obtain ⟨cq1, kq1, q1a, q1b, q1c⟩ := isOf (s := s) hZ e0 f0
  obtain ⟨_, _, ⟨T1, L1, k1, n1⟩, -, X1, ⟨Lc1, hQ1, l1, y1, z1⟩, st1⟩ := X0.virtualBack hx (y := mN20) (z := mN20) hown (mvT hZ (own_w hw 35 rfl)) (mvT hZ (own_w hw 36 rfl)) (notFace_of_selects (args := #[]) (mvT hZ (own_w hw 38 rfl))) (mvT hZ (own_w hw 38 rfl)) (mvT hZ (own_w hw 37 rfl)) (by decide) (backOf (W := 0) (rm_empA l Z a0 hw [] wG1 wG3 cx hEL h0 n0 X00 a1 tb1 kb1 nB1 vs1 f0 f1 f3 (own_nz hos (Nat.le_of_ble_eq_true rfl))) hZ (own_w hw 39 rfl) (own_w hw 11 rfl) (by decide) (by decide)) q1a q1c (g := (mkF m 1 #[vR a1, vU, vU] [(.ref a1)])) rfl (by rw [hml]; rfl) (Steps.refl _) (argsL := []) (rest := []) (lenOf pd_15861835 rfl) rfl (Nat.le_of_eq rfl) (hb hby d24_1) (fun _ _ => ⟨rfl, e0, (by decide : 0 + 0 ≤ _), (by decide : 0 + 0 ≤ _)⟩)
  dsimp only [Pt.U, Pt.locs, Pt.cells, Pt.slots] at X1 l1 y1 z1 st1 hQ1
  subst l1 y1 z1
  obtain ⟨rfl, Nq1, eq1⟩ := hQ1
  refine OwnGoes.tr (T' := T1) (g' := (mkF m 4 #[vR a1, vU, vU] [(.int 0)])) st1 ?_
  have N1 := Fr.app N0 Nq1
  refine OwnGoes.step (T' := T1) (g' := (mkF m 13 #[vR a1, vI 0, vU] [(.ref a1), (.int 0)])) (fun tgt kgo => ?_) ?_
  · refine XS.ifYes X1.here hx rfl (pc0 := 4) (pc' := 9) rfl (hb hby d24_4) rfl ((if0 _ _).trans (teq (by decide : (0 : Int32) = (0 : Int32))).1) (by decide) (by decide) ?_
    show OwnG p e below T1 m 9 #[vR a1, vU, vU] [] tgt
    refine XS.iconst X1.here hx rfl (hb hby d24_9) ?_
    show OwnG p e below T1 m 10 #[vR a1, vU, vU] [(.int 0)] tgt
    refine XS.istoreN X1.here hx rfl (hb hby d24_10) rfl (l' := #[vR a1, vI 0, vU]) rfl ?_
    show OwnG p e below T1 m 11 #[vR a1, vI 0, vU] [] tgt
    refine XS.iloadN X1.here hx rfl (hb hby d24_11) rfl ?_
    show OwnG p e below T1 m 12 #[vR a1, vI 0, vU] [(.int 0)] tgt
    refine XS.aloadN X1.here hx rfl (hb hby d24_12) rfl rfl ?_
    exact kgo
  obtain ⟨cq2, kq2, q2a, q2b, q2c⟩ := isOf (s := s) hZ eq1 f0
  obtain ⟨_, _, ⟨T2, L2, k2, n2⟩, -, X2, ⟨Lc2, hQ2, l2, y2, z2⟩, st2⟩ := X1.virtualBack hx (y := mN19) (z := mN19) hown (mvT hZ (own_w hw 54 rfl)) (mvT hZ (own_w hw 55 rfl)) (notFace_of_selects (args := #[]) (mvT hZ (own_w hw 57 rfl))) (mvT hZ (own_w hw 57 rfl)) (mvT hZ (own_w hw 56 rfl)) (by decide) (backOf (W := 1) (rm_lenA l Z a0 hw [] wG1 wG3 cx hEL h0 n0 X00 a1 cd1 (4 : Int32) tb1 kb1 nB1 vs1 f0 f1 f2 f3 (own_len hos (n := 4) rfl)) hZ (own_w hw 58 rfl) (own_w hw 11 rfl) (by decide) (by decide)) q2a q2c (g := (mkF m 13 #[vR a1, vI 0, vU] [(.ref a1), (.int 0)])) rfl (by rw [hml]; rfl) (Steps.refl _) (argsL := []) (rest := [(.int 0)]) (lenOf pd_86913941 rfl) rfl (Nat.le_of_eq rfl) (hb hby d24_13) (fun _ _ => ⟨rfl, eq1, (by decide : 0 + 0 ≤ _), (by decide : 0 + 0 ≤ _)⟩)
  dsimp only [Pt.U, Pt.locs, Pt.cells, Pt.slots] at X2 l2 y2 z2 st2 hQ2
  subst l2 y2 z2
  obtain ⟨rfl, Nq2, eq2⟩ := hQ2
  refine OwnGoes.tr (T' := T2) (g' := (mkF m 16 #[vR a1, vI 0, vU] [(.int 4), (.int 0)])) st2 ?_
  have N2 := Fr.app N1 Nq2
  refine OwnGoes.step (T' := T2) (g' := (mkF m 21 #[vR a1, vI 0, vU] [(.int 0), (.ref a1)])) (fun tgt kgo => ?_) ?_
  · refine XS.icmpNo X2.here hx rfl (hb hby d24_16) rfl (tlt (by decide : (0 : Int32) < (4 : Int32))).2.1 ?_
    show OwnG p e below T2 m 19 #[vR a1, vI 0, vU] [] tgt
    refine XS.aloadN X2.here hx rfl (hb hby d24_19) rfl rfl ?_
    show OwnG p e below T2 m 20 #[vR a1, vI 0, vU] [(.ref a1)] tgt
    refine XS.iloadN X2.here hx rfl (hb hby d24_20) rfl ?_
    exact kgo
  obtain ⟨cq3, kq3, q3a, q3b, q3c⟩ := isOf (s := s) hZ eq2 f0
  obtain ⟨_, _, ⟨T3, L3, k3, n3⟩, -, X3, ⟨Lc3, hQ3, l3, y3, z3⟩, st3⟩ := X2.virtualBack hx (y := mN17) (z := mN17) hown (mvT hZ (own_w hw 64 rfl)) (mvT hZ (own_w hw 65 rfl)) (notFace_of_selects (args := #[]) (mvT hZ (own_w hw 67 rfl))) (mvT hZ (own_w hw 67 rfl)) (mvT hZ (own_w hw 66 rfl)) (by decide) (backOf (W := 0) (rm_chA l Z a0 hw [] wG1 wG3 cx hEL h0 n0 X00 a1 cd1 tb1 kb1 nB1 vs1 (0 : Int32) c1 f0 f1 f2 f3 (own_ch hos (j := 0) (Nat.le_of_ble_eq_true rfl) rfl)) hZ (own_w hw 68 rfl) (own_w hw 11 rfl) (by decide) (by decide)) q3a q3c (g := (mkF m 21 #[vR a1, vI 0, vU] [(.int 0), (.ref a1)])) rfl (by rw [hml]; rfl) (Steps.refl _) (argsL := [(.int 0)]) (rest := []) (lenOf pd_17647939 rfl) rfl (Nat.le_of_eq rfl) (hb hby d24_21) (fun _ _ => ⟨rfl, eq2, (by decide : 0 + 0 ≤ _), (by decide : 0 + 0 ≤ _)⟩)
  dsimp only [Pt.U, Pt.locs, Pt.cells, Pt.slots] at X3 l3 y3 z3 st3 hQ3
  subst l3 y3 z3
  obtain ⟨rfl, Nq3, eq3⟩ := hQ3
  refine OwnGoes.tr (T' := T3) (g' := (mkF m 24 #[vR a1, vI 0, vU] [(.int c1)])) st3 ?_
  have N3 := Fr.app N2 Nq3
  refine OwnGoes.step (T' := T3) (g' := (mkF m 28 #[vR a1, vI 0, vI c1] [(.int 32), (.int c1)])) (fun tgt kgo => ?_) ?_
  · refine XS.istoreN X3.here hx rfl (hb hby d24_24) rfl (l' := #[vR a1, vI 0, vI c1]) rfl ?_
    show OwnG p e below T3 m 25 #[vR a1, vI 0, vI c1] [] tgt
    refine XS.iloadN X3.here hx rfl (hb hby d24_25) rfl ?_
    show OwnG p e below T3 m 26 #[vR a1, vI 0, vI c1] [(.int c1)] tgt
    refine XS.bipush X3.here hx rfl (hb hby d24_26) ?_
    exact kgo
  by_cases cc4 : (32 : Int32) < c1
  · skip
    refine OwnGoes.step (T' := T3) (g' := (mkF m 34 #[vR a1, vI 0, vI c1] [(.int 127), (.int c1)])) (fun tgt kgo => ?_) ?_
    · refine XS.icmpNo X3.here hx rfl (hb hby d24_28) rfl (tlt cc4).2.2.2 ?_
      show OwnG p e below T3 m 31 #[vR a1, vI 0, vI c1] [] tgt
      refine XS.iloadN X3.here hx rfl (hb hby d24_31) rfl ?_
      show OwnG p e below T3 m 32 #[vR a1, vI 0, vI c1] [(.int c1)] tgt
      refine XS.bipush X3.here hx rfl (hb hby d24_32) ?_
      exact kgo
    by_cases cc5 : c1 < (127 : Int32)
    · skip
      refine OwnGoes.step (T' := T3) (g' := (mkF m 13 #[vR a1, vI 1, vI c1] [(.ref a1), (.int 1)])) (fun tgt kgo => ?_) ?_
      · refine XS.icmpYes X3.here hx rfl (pc0 := 34) (pc' := 39) rfl (hb hby d24_34) rfl (tlt cc5).1 (by decide) (by decide) ?_
        show OwnG p e below T3 m 39 #[vR a1, vI 0, vI c1] [] tgt
        refine XS.iinc X3.here hx rfl (hb hby d24_39) rfl (l' := #[vR a1, vI 1, vI c1]) rfl ?_
        show OwnG p e below T3 m 42 #[vR a1, vI 1, vI c1] [] tgt
        refine XS.goto X3.here hx rfl (pc0 := 42) (pc' := 11) rfl (hb hby d24_42) (by decide) (by decide) ?_
        show OwnG p e below T3 m 11 #[vR a1, vI 1, vI c1] [] tgt
        refine XS.iloadN X3.here hx rfl (hb hby d24_11) rfl ?_
        show OwnG p e below T3 m 12 #[vR a1, vI 1, vI c1] [(.int 1)] tgt
        refine XS.aloadN X3.here hx rfl (hb hby d24_12) rfl rfl ?_
        exact kgo
      obtain ⟨cq6, kq6, q6a, q6b, q6c⟩ := isOf (s := s) hZ eq3 f0
      obtain ⟨_, _, ⟨T6, L6, k6, n6⟩, -, X6, ⟨Lc6, hQ6, l6, y6, z6⟩, st6⟩ := X3.virtualBack hx (y := mN19) (z := mN19) hown (mvT hZ (own_w hw 54 rfl)) (mvT hZ (own_w hw 55 rfl)) (notFace_of_selects (args := #[]) (mvT hZ (own_w hw 57 rfl))) (mvT hZ (own_w hw 57 rfl)) (mvT hZ (own_w hw 56 rfl)) (by decide) (backOf (W := 1) (rm_lenA l Z a0 hw [] wG1 wG3 cx hEL h0 n0 X00 a1 cd1 (4 : Int32) tb1 kb1 nB1 vs1 f0 f1 f2 f3 (own_len hos (n := 4) rfl)) hZ (own_w hw 58 rfl) (own_w hw 11 rfl) (by decide) (by decide)) q6a q6c (g := (mkF m 13 #[vR a1, vI 1, vI c1] [(.ref a1), (.int 1)])) rfl (by rw [hml]; rfl) (Steps.refl _) (argsL := []) (rest := [(.int 1)]) (lenOf pd_86913941 rfl) rfl (Nat.le_of_eq rfl) (hb hby d24_13) (fun _ _ => ⟨rfl, eq3, (by decide : 0 + 0 ≤ _), (by decide : 0 + 0 ≤ _)⟩)
      dsimp only [Pt.U, Pt.locs, Pt.cells, Pt.slots] at X6 l6 y6 z6 st6 hQ6
      subst l6 y6 z6
      obtain ⟨rfl, Nq6, eq6⟩ := hQ6
      refine OwnGoes.tr (T' := T6) (g' := (mkF m 16 #[vR a1, vI 1, vI c1] [(.int 4), (.int 1)])) st6 ?_
      have N6 := Fr.app N3 Nq6
      refine OwnGoes.step (T' := T6) (g' := (mkF m 21 #[vR a1, vI 1, vI c1] [(.int 1), (.ref a1)])) (fun tgt kgo => ?_) ?_
      · refine XS.icmpNo X6.here hx rfl (hb hby d24_16) rfl (tlt (by decide : (1 : Int32) < (4 : Int32))).2.1 ?_
        show OwnG p e below T6 m 19 #[vR a1, vI 1, vI c1] [] tgt
        refine XS.aloadN X6.here hx rfl (hb hby d24_19) rfl rfl ?_
        show OwnG p e below T6 m 20 #[vR a1, vI 1, vI c1] [(.ref a1)] tgt
        refine XS.iloadN X6.here hx rfl (hb hby d24_20) rfl ?_
        exact kgo
      obtain ⟨cq7, kq7, q7a, q7b, q7c⟩ := isOf (s := s) hZ eq6 f0
      obtain ⟨_, _, ⟨T7, L7, k7, n7⟩, -, X7, ⟨Lc7, hQ7, l7, y7, z7⟩, st7⟩ := X6.virtualBack hx (y := mN17) (z := mN17) hown (mvT hZ (own_w hw 64 rfl)) (mvT hZ (own_w hw 65 rfl)) (notFace_of_selects (args := #[]) (mvT hZ (own_w hw 67 rfl))) (mvT hZ (own_w hw 67 rfl)) (mvT hZ (own_w hw 66 rfl)) (by decide) (backOf (W := 0) (rm_chA l Z a0 hw [] wG1 wG3 cx hEL h0 n0 X00 a1 cd1 tb1 kb1 nB1 vs1 (1 : Int32) c2 f0 f1 f2 f3 (own_ch hos (j := 1) (Nat.le_of_ble_eq_true rfl) rfl)) hZ (own_w hw 68 rfl) (own_w hw 11 rfl) (by decide) (by decide)) q7a q7c (g := (mkF m 21 #[vR a1, vI 1, vI c1] [(.int 1), (.ref a1)])) rfl (by rw [hml]; rfl) (Steps.refl _) (argsL := [(.int 1)]) (rest := []) (lenOf pd_17647939 rfl) rfl (Nat.le_of_eq rfl) (hb hby d24_21) (fun _ _ => ⟨rfl, eq6, (by decide : 0 + 0 ≤ _), (by decide : 0 + 0 ≤ _)⟩)
      dsimp only [Pt.U, Pt.locs, Pt.cells, Pt.slots] at X7 l7 y7 z7 st7 hQ7
      subst l7 y7 z7
      obtain ⟨rfl, Nq7, eq7⟩ := hQ7
      refine OwnGoes.tr (T' := T7) (g' := (mkF m 24 #[vR a1, vI 1, vI c1] [(.int c2)])) st7 ?_
      have N7 := Fr.app N6 Nq7
      refine OwnGoes.step (T' := T7) (g' := (mkF m 28 #[vR a1, vI 1, vI c2] [(.int 32), (.int c2)])) (fun tgt kgo => ?_) ?_
      · refine XS.istoreN X7.here hx rfl (hb hby d24_24) rfl (l' := #[vR a1, vI 1, vI c2]) rfl ?_
        show OwnG p e below T7 m 25 #[vR a1, vI 1, vI c2] [] tgt
        refine XS.iloadN X7.here hx rfl (hb hby d24_25) rfl ?_
        show OwnG p e below T7 m 26 #[vR a1, vI 1, vI c2] [(.int c2)] tgt
        refine XS.bipush X7.here hx rfl (hb hby d24_26) ?_
        exact kgo
      by_cases cc8 : (32 : Int32) < c2
      · skip
        refine OwnGoes.step (T' := T7) (g' := (mkF m 34 #[vR a1, vI 1, vI c2] [(.int 127), (.int c2)])) (fun tgt kgo => ?_) ?_
        · refine XS.icmpNo X7.here hx rfl (hb hby d24_28) rfl (tlt cc8).2.2.2 ?_
          show OwnG p e below T7 m 31 #[vR a1, vI 1, vI c2] [] tgt
          refine XS.iloadN X7.here hx rfl (hb hby d24_31) rfl ?_
          show OwnG p e below T7 m 32 #[vR a1, vI 1, vI c2] [(.int c2)] tgt
          refine XS.bipush X7.here hx rfl (hb hby d24_32) ?_
          exact kgo
        by_cases cc9 : c2 < (127 : Int32)
        · skip
          refine OwnGoes.step (T' := T7) (g' := (mkF m 13 #[vR a1, vI 2, vI c2] [(.ref a1), (.int 2)])) (fun tgt kgo => ?_) ?_
          · refine XS.icmpYes X7.here hx rfl (pc0 := 34) (pc' := 39) rfl (hb hby d24_34) rfl (tlt cc9).1 (by decide) (by decide) ?_
            show OwnG p e below T7 m 39 #[vR a1, vI 1, vI c2] [] tgt
            refine XS.iinc X7.here hx rfl (hb hby d24_39) rfl (l' := #[vR a1, vI 2, vI c2]) rfl ?_
            show OwnG p e below T7 m 42 #[vR a1, vI 2, vI c2] [] tgt
            refine XS.goto X7.here hx rfl (pc0 := 42) (pc' := 11) rfl (hb hby d24_42) (by decide) (by decide) ?_
            show OwnG p e below T7 m 11 #[vR a1, vI 2, vI c2] [] tgt
            refine XS.iloadN X7.here hx rfl (hb hby d24_11) rfl ?_
            show OwnG p e below T7 m 12 #[vR a1, vI 2, vI c2] [(.int 2)] tgt
            refine XS.aloadN X7.here hx rfl (hb hby d24_12) rfl rfl ?_
            exact kgo
          obtain ⟨cq10, kq10, q10a, q10b, q10c⟩ := isOf (s := s) hZ eq7 f0
          obtain ⟨_, _, ⟨T10, L10, k10, n10⟩, -, X10, ⟨Lc10, hQ10, l10, y10, z10⟩, st10⟩ := X7.virtualBack hx (y := mN19) (z := mN19) hown (mvT hZ (own_w hw 54 rfl)) (mvT hZ (own_w hw 55 rfl)) (notFace_of_selects (args := #[]) (mvT hZ (own_w hw 57 rfl))) (mvT hZ (own_w hw 57 rfl)) (mvT hZ (own_w hw 56 rfl)) (by decide) (backOf (W := 1) (rm_lenA l Z a0 hw [] wG1 wG3 cx hEL h0 n0 X00 a1 cd1 (4 : Int32) tb1 kb1 nB1 vs1 f0 f1 f2 f3 (own_len hos (n := 4) rfl)) hZ (own_w hw 58 rfl) (own_w hw 11 rfl) (by decide) (by decide)) q10a q10c (g := (mkF m 13 #[vR a1, vI 2, vI c2] [(.ref a1), (.int 2)])) rfl (by rw [hml]; rfl) (Steps.refl _) (argsL := []) (rest := [(.int 2)]) (lenOf pd_86913941 rfl) rfl (Nat.le_of_eq rfl) (hb hby d24_13) (fun _ _ => ⟨rfl, eq7, (by decide : 0 + 0 ≤ _), (by decide : 0 + 0 ≤ _)⟩)
          dsimp only [Pt.U, Pt.locs, Pt.cells, Pt.slots] at X10 l10 y10 z10 st10 hQ10
          subst l10 y10 z10
          obtain ⟨rfl, Nq10, eq10⟩ := hQ10
          refine OwnGoes.tr (T' := T10) (g' := (mkF m 16 #[vR a1, vI 2, vI c2] [(.int 4), (.int 2)])) st10 ?_
          have N10 := Fr.app N7 Nq10
          refine OwnGoes.step (T' := T10) (g' := (mkF m 21 #[vR a1, vI 2, vI c2] [(.int 2), (.ref a1)])) (fun tgt kgo => ?_) ?_
          · refine XS.icmpNo X10.here hx rfl (hb hby d24_16) rfl (tlt (by decide : (2 : Int32) < (4 : Int32))).2.1 ?_
            show OwnG p e below T10 m 19 #[vR a1, vI 2, vI c2] [] tgt
            refine XS.aloadN X10.here hx rfl (hb hby d24_19) rfl rfl ?_
            show OwnG p e below T10 m 20 #[vR a1, vI 2, vI c2] [(.ref a1)] tgt
            refine XS.iloadN X10.here hx rfl (hb hby d24_20) rfl ?_
            exact kgo
          obtain ⟨cq11, kq11, q11a, q11b, q11c⟩ := isOf (s := s) hZ eq10 f0
          obtain ⟨_, _, ⟨T11, L11, k11, n11⟩, -, X11, ⟨Lc11, hQ11, l11, y11, z11⟩, st11⟩ := X10.virtualBack hx (y := mN17) (z := mN17) hown (mvT hZ (own_w hw 64 rfl)) (mvT hZ (own_w hw 65 rfl)) (notFace_of_selects (args := #[]) (mvT hZ (own_w hw 67 rfl))) (mvT hZ (own_w hw 67 rfl)) (mvT hZ (own_w hw 66 rfl)) (by decide) (backOf (W := 0) (rm_chA l Z a0 hw [] wG1 wG3 cx hEL h0 n0 X00 a1 cd1 tb1 kb1 nB1 vs1 (2 : Int32) c3 f0 f1 f2 f3 (own_ch hos (j := 2) (Nat.le_of_ble_eq_true rfl) rfl)) hZ (own_w hw 68 rfl) (own_w hw 11 rfl) (by decide) (by decide)) q11a q11c (g := (mkF m 21 #[vR a1, vI 2, vI c2] [(.int 2), (.ref a1)])) rfl (by rw [hml]; rfl) (Steps.refl _) (argsL := [(.int 2)]) (rest := []) (lenOf pd_17647939 rfl) rfl (Nat.le_of_eq rfl) (hb hby d24_21) (fun _ _ => ⟨rfl, eq10, (by decide : 0 + 0 ≤ _), (by decide : 0 + 0 ≤ _)⟩)
          dsimp only [Pt.U, Pt.locs, Pt.cells, Pt.slots] at X11 l11 y11 z11 st11 hQ11
          subst l11 y11 z11
          obtain ⟨rfl, Nq11, eq11⟩ := hQ11
          refine OwnGoes.tr (T' := T11) (g' := (mkF m 24 #[vR a1, vI 2, vI c2] [(.int c3)])) st11 ?_
          have N11 := Fr.app N10 Nq11
          refine OwnGoes.step (T' := T11) (g' := (mkF m 28 #[vR a1, vI 2, vI c3] [(.int 32), (.int c3)])) (fun tgt kgo => ?_) ?_
          · refine XS.istoreN X11.here hx rfl (hb hby d24_24) rfl (l' := #[vR a1, vI 2, vI c3]) rfl ?_
            show OwnG p e below T11 m 25 #[vR a1, vI 2, vI c3] [] tgt
            refine XS.iloadN X11.here hx rfl (hb hby d24_25) rfl ?_
            show OwnG p e below T11 m 26 #[vR a1, vI 2, vI c3] [(.int c3)] tgt
            refine XS.bipush X11.here hx rfl (hb hby d24_26) ?_
            exact kgo
          by_cases cc12 : (32 : Int32) < c3
          · skip
            refine OwnGoes.step (T' := T11) (g' := (mkF m 34 #[vR a1, vI 2, vI c3] [(.int 127), (.int c3)])) (fun tgt kgo => ?_) ?_
            · refine XS.icmpNo X11.here hx rfl (hb hby d24_28) rfl (tlt cc12).2.2.2 ?_
              show OwnG p e below T11 m 31 #[vR a1, vI 2, vI c3] [] tgt
              refine XS.iloadN X11.here hx rfl (hb hby d24_31) rfl ?_
              show OwnG p e below T11 m 32 #[vR a1, vI 2, vI c3] [(.int c3)] tgt
              refine XS.bipush X11.here hx rfl (hb hby d24_32) ?_
              exact kgo
            by_cases cc13 : c3 < (127 : Int32)
            · skip
              refine OwnGoes.step (T' := T11) (g' := (mkF m 13 #[vR a1, vI 3, vI c3] [(.ref a1), (.int 3)])) (fun tgt kgo => ?_) ?_
              · refine XS.icmpYes X11.here hx rfl (pc0 := 34) (pc' := 39) rfl (hb hby d24_34) rfl (tlt cc13).1 (by decide) (by decide) ?_
                show OwnG p e below T11 m 39 #[vR a1, vI 2, vI c3] [] tgt
                refine XS.iinc X11.here hx rfl (hb hby d24_39) rfl (l' := #[vR a1, vI 3, vI c3]) rfl ?_
                show OwnG p e below T11 m 42 #[vR a1, vI 3, vI c3] [] tgt
                refine XS.goto X11.here hx rfl (pc0 := 42) (pc' := 11) rfl (hb hby d24_42) (by decide) (by decide) ?_
                show OwnG p e below T11 m 11 #[vR a1, vI 3, vI c3] [] tgt
                refine XS.iloadN X11.here hx rfl (hb hby d24_11) rfl ?_
                show OwnG p e below T11 m 12 #[vR a1, vI 3, vI c3] [(.int 3)] tgt
                refine XS.aloadN X11.here hx rfl (hb hby d24_12) rfl rfl ?_
                exact kgo
              obtain ⟨cq14, kq14, q14a, q14b, q14c⟩ := isOf (s := s) hZ eq11 f0
              obtain ⟨_, _, ⟨T14, L14, k14, n14⟩, -, X14, ⟨Lc14, hQ14, l14, y14, z14⟩, st14⟩ := X11.virtualBack hx (y := mN19) (z := mN19) hown (mvT hZ (own_w hw 54 rfl)) (mvT hZ (own_w hw 55 rfl)) (notFace_of_selects (args := #[]) (mvT hZ (own_w hw 57 rfl))) (mvT hZ (own_w hw 57 rfl)) (mvT hZ (own_w hw 56 rfl)) (by decide) (backOf (W := 1) (rm_lenA l Z a0 hw [] wG1 wG3 cx hEL h0 n0 X00 a1 cd1 (4 : Int32) tb1 kb1 nB1 vs1 f0 f1 f2 f3 (own_len hos (n := 4) rfl)) hZ (own_w hw 58 rfl) (own_w hw 11 rfl) (by decide) (by decide)) q14a q14c (g := (mkF m 13 #[vR a1, vI 3, vI c3] [(.ref a1), (.int 3)])) rfl (by rw [hml]; rfl) (Steps.refl _) (argsL := []) (rest := [(.int 3)]) (lenOf pd_86913941 rfl) rfl (Nat.le_of_eq rfl) (hb hby d24_13) (fun _ _ => ⟨rfl, eq11, (by decide : 0 + 0 ≤ _), (by decide : 0 + 0 ≤ _)⟩)
              dsimp only [Pt.U, Pt.locs, Pt.cells, Pt.slots] at X14 l14 y14 z14 st14 hQ14
              subst l14 y14 z14
              obtain ⟨rfl, Nq14, eq14⟩ := hQ14
              refine OwnGoes.tr (T' := T14) (g' := (mkF m 16 #[vR a1, vI 3, vI c3] [(.int 4), (.int 3)])) st14 ?_
              have N14 := Fr.app N11 Nq14
              refine OwnGoes.step (T' := T14) (g' := (mkF m 21 #[vR a1, vI 3, vI c3] [(.int 3), (.ref a1)])) (fun tgt kgo => ?_) ?_
              · refine XS.icmpNo X14.here hx rfl (hb hby d24_16) rfl (tlt (by decide : (3 : Int32) < (4 : Int32))).2.1 ?_
                show OwnG p e below T14 m 19 #[vR a1, vI 3, vI c3] [] tgt
                refine XS.aloadN X14.here hx rfl (hb hby d24_19) rfl rfl ?_
                show OwnG p e below T14 m 20 #[vR a1, vI 3, vI c3] [(.ref a1)] tgt
                refine XS.iloadN X14.here hx rfl (hb hby d24_20) rfl ?_
                exact kgo
              obtain ⟨cq15, kq15, q15a, q15b, q15c⟩ := isOf (s := s) hZ eq14 f0
              obtain ⟨_, _, ⟨T15, L15, k15, n15⟩, -, X15, ⟨Lc15, hQ15, l15, y15, z15⟩, st15⟩ := X14.virtualBack hx (y := mN17) (z := mN17) hown (mvT hZ (own_w hw 64 rfl)) (mvT hZ (own_w hw 65 rfl)) (notFace_of_selects (args := #[]) (mvT hZ (own_w hw 67 rfl))) (mvT hZ (own_w hw 67 rfl)) (mvT hZ (own_w hw 66 rfl)) (by decide) (backOf (W := 0) (rm_chA l Z a0 hw [] wG1 wG3 cx hEL h0 n0 X00 a1 cd1 tb1 kb1 nB1 vs1 (3 : Int32) c4 f0 f1 f2 f3 (own_ch hos (j := 3) (Nat.le_of_ble_eq_true rfl) rfl)) hZ (own_w hw 68 rfl) (own_w hw 11 rfl) (by decide) (by decide)) q15a q15c (g := (mkF m 21 #[vR a1, vI 3, vI c3] [(.int 3), (.ref a1)])) rfl (by rw [hml]; rfl) (Steps.refl _) (argsL := [(.int 3)]) (rest := []) (lenOf pd_17647939 rfl) rfl (Nat.le_of_eq rfl) (hb hby d24_21) (fun _ _ => ⟨rfl, eq14, (by decide : 0 + 0 ≤ _), (by decide : 0 + 0 ≤ _)⟩)
              dsimp only [Pt.U, Pt.locs, Pt.cells, Pt.slots] at X15 l15 y15 z15 st15 hQ15
              subst l15 y15 z15
              obtain ⟨rfl, Nq15, eq15⟩ := hQ15
              refine OwnGoes.tr (T' := T15) (g' := (mkF m 24 #[vR a1, vI 3, vI c3] [(.int c4)])) st15 ?_
              have N15 := Fr.app N14 Nq15
              refine OwnGoes.step (T' := T15) (g' := (mkF m 28 #[vR a1, vI 3, vI c4] [(.int 32), (.int c4)])) (fun tgt kgo => ?_) ?_
              · refine XS.istoreN X15.here hx rfl (hb hby d24_24) rfl (l' := #[vR a1, vI 3, vI c4]) rfl ?_
                show OwnG p e below T15 m 25 #[vR a1, vI 3, vI c4] [] tgt
                refine XS.iloadN X15.here hx rfl (hb hby d24_25) rfl ?_
                show OwnG p e below T15 m 26 #[vR a1, vI 3, vI c4] [(.int c4)] tgt
                refine XS.bipush X15.here hx rfl (hb hby d24_26) ?_
                exact kgo
              by_cases cc16 : (32 : Int32) < c4
              · skip
                refine OwnGoes.step (T' := T15) (g' := (mkF m 34 #[vR a1, vI 3, vI c4] [(.int 127), (.int c4)])) (fun tgt kgo => ?_) ?_
                · refine XS.icmpNo X15.here hx rfl (hb hby d24_28) rfl (tlt cc16).2.2.2 ?_
                  show OwnG p e below T15 m 31 #[vR a1, vI 3, vI c4] [] tgt
                  refine XS.iloadN X15.here hx rfl (hb hby d24_31) rfl ?_
                  show OwnG p e below T15 m 32 #[vR a1, vI 3, vI c4] [(.int c4)] tgt
                  refine XS.bipush X15.here hx rfl (hb hby d24_32) ?_
                  exact kgo
                by_cases cc17 : c4 < (127 : Int32)
                · skip
                  refine OwnGoes.step (T' := T15) (g' := (mkF m 13 #[vR a1, vI 4, vI c4] [(.ref a1), (.int 4)])) (fun tgt kgo => ?_) ?_
                  · refine XS.icmpYes X15.here hx rfl (pc0 := 34) (pc' := 39) rfl (hb hby d24_34) rfl (tlt cc17).1 (by decide) (by decide) ?_
                    show OwnG p e below T15 m 39 #[vR a1, vI 3, vI c4] [] tgt
                    refine XS.iinc X15.here hx rfl (hb hby d24_39) rfl (l' := #[vR a1, vI 4, vI c4]) rfl ?_
                    show OwnG p e below T15 m 42 #[vR a1, vI 4, vI c4] [] tgt
                    refine XS.goto X15.here hx rfl (pc0 := 42) (pc' := 11) rfl (hb hby d24_42) (by decide) (by decide) ?_
                    show OwnG p e below T15 m 11 #[vR a1, vI 4, vI c4] [] tgt
                    refine XS.iloadN X15.here hx rfl (hb hby d24_11) rfl ?_
                    show OwnG p e below T15 m 12 #[vR a1, vI 4, vI c4] [(.int 4)] tgt
                    refine XS.aloadN X15.here hx rfl (hb hby d24_12) rfl rfl ?_
                    exact kgo
                  obtain ⟨cq18, kq18, q18a, q18b, q18c⟩ := isOf (s := s) hZ eq15 f0
                  obtain ⟨_, _, ⟨T18, L18, k18, n18⟩, -, X18, ⟨Lc18, hQ18, l18, y18, z18⟩, st18⟩ := X15.virtualBack hx (y := mN19) (z := mN19) hown (mvT hZ (own_w hw 54 rfl)) (mvT hZ (own_w hw 55 rfl)) (notFace_of_selects (args := #[]) (mvT hZ (own_w hw 57 rfl))) (mvT hZ (own_w hw 57 rfl)) (mvT hZ (own_w hw 56 rfl)) (by decide) (backOf (W := 1) (rm_lenA l Z a0 hw [] wG1 wG3 cx hEL h0 n0 X00 a1 cd1 (4 : Int32) tb1 kb1 nB1 vs1 f0 f1 f2 f3 (own_len hos (n := 4) rfl)) hZ (own_w hw 58 rfl) (own_w hw 11 rfl) (by decide) (by decide)) q18a q18c (g := (mkF m 13 #[vR a1, vI 4, vI c4] [(.ref a1), (.int 4)])) rfl (by rw [hml]; rfl) (Steps.refl _) (argsL := []) (rest := [(.int 4)]) (lenOf pd_86913941 rfl) rfl (Nat.le_of_eq rfl) (hb hby d24_13) (fun _ _ => ⟨rfl, eq15, (by decide : 0 + 0 ≤ _), (by decide : 0 + 0 ≤ _)⟩)
                  dsimp only [Pt.U, Pt.locs, Pt.cells, Pt.slots] at X18 l18 y18 z18 st18 hQ18
                  subst l18 y18 z18
                  obtain ⟨rfl, Nq18, eq18⟩ := hQ18
                  refine OwnGoes.tr (T' := T18) (g' := (mkF m 16 #[vR a1, vI 4, vI c4] [(.int 4), (.int 4)])) st18 ?_
                  have N18 := Fr.app N15 Nq18
                  refine OwnGoes.step (T' := T18) (g' := (mkF m 46 #[vR a1, vI 4, vI c4] [(.int 1)])) (fun tgt kgo => ?_) ?_
                  · refine XS.icmpYes X18.here hx rfl (pc0 := 16) (pc' := 45) rfl (hb hby d24_16) rfl (flt (by decide : ¬ ((4 : Int32) < (4 : Int32)))).2.1 (by decide) (by decide) ?_
                    show OwnG p e below T18 m 45 #[vR a1, vI 4, vI c4] [] tgt
                    refine XS.iconst X18.here hx rfl (hb hby d24_45) ?_
                    exact kgo
                  refine own_leave X18 hlk (v := some (.int 1)) (fun h => by rw [Bd.returns] at h; cases h) (fun fs hr => retN X18 hx (t := .boolean) Bd.returns (by simp) (hb hby d24_46) (by rw [(by decide : nar .boolean (1 : Int32) = (1 : Int32))]; exact hr)) (by decide) (by decide) ?_
                  show Q_isT_4 Z a1 tb1 kb1 cd1 nB1 vs1 c1 c2 c3 c4 h0 n0 _ T18.heap _
                  rw [eq18]
                  exact ⟨(1 : Int32), rfl, N18, rfl, (Or.inl ⟨rfl, ⟨⟨cc4, cc5⟩, ⟨cc8, cc9⟩, ⟨cc12, cc13⟩, ⟨cc16, cc17⟩⟩⟩)⟩
                refine OwnGoes.step (T' := T15) (g' := (mkF m 38 #[vR a1, vI 3, vI c4] [(.int 0)])) (fun tgt kgo => ?_) ?_
                · refine XS.icmpNo X15.here hx rfl (hb hby d24_34) rfl (flt cc17).1 ?_
                  show OwnG p e below T15 m 37 #[vR a1, vI 3, vI c4] [] tgt
                  refine XS.iconst X15.here hx rfl (hb hby d24_37) ?_
                  exact kgo
                refine own_leave X15 hlk (v := some (.int 0)) (fun h => by rw [Bd.returns] at h; cases h) (fun fs hr => retN X15 hx (t := .boolean) Bd.returns (by simp) (hb hby d24_38) (by rw [(by decide : nar .boolean (0 : Int32) = (0 : Int32))]; exact hr)) (by decide) (by decide) ?_
                show Q_isT_4 Z a1 tb1 kb1 cd1 nB1 vs1 c1 c2 c3 c4 h0 n0 _ T15.heap _
                rw [eq15]
                exact ⟨(0 : Int32), rfl, N15, rfl, (Or.inr ⟨rfl, fun zz => (fun z => cc17 z.2) zz.2.2.2⟩)⟩
              refine OwnGoes.step (T' := T15) (g' := (mkF m 38 #[vR a1, vI 3, vI c4] [(.int 0)])) (fun tgt kgo => ?_) ?_
              · refine XS.icmpYes X15.here hx rfl (pc0 := 28) (pc' := 37) rfl (hb hby d24_28) rfl (flt cc16).2.2.2 (by decide) (by decide) ?_
                show OwnG p e below T15 m 37 #[vR a1, vI 3, vI c4] [] tgt
                refine XS.iconst X15.here hx rfl (hb hby d24_37) ?_
                exact kgo
              refine own_leave X15 hlk (v := some (.int 0)) (fun h => by rw [Bd.returns] at h; cases h) (fun fs hr => retN X15 hx (t := .boolean) Bd.returns (by simp) (hb hby d24_38) (by rw [(by decide : nar .boolean (0 : Int32) = (0 : Int32))]; exact hr)) (by decide) (by decide) ?_
              show Q_isT_4 Z a1 tb1 kb1 cd1 nB1 vs1 c1 c2 c3 c4 h0 n0 _ T15.heap _
              rw [eq15]
              exact ⟨(0 : Int32), rfl, N15, rfl, (Or.inr ⟨rfl, fun zz => (fun z => cc16 z.1) zz.2.2.2⟩)⟩
            refine OwnGoes.step (T' := T11) (g' := (mkF m 38 #[vR a1, vI 2, vI c3] [(.int 0)])) (fun tgt kgo => ?_) ?_
            · refine XS.icmpNo X11.here hx rfl (hb hby d24_34) rfl (flt cc13).1 ?_
              show OwnG p e below T11 m 37 #[vR a1, vI 2, vI c3] [] tgt
              refine XS.iconst X11.here hx rfl (hb hby d24_37) ?_
              exact kgo
            refine own_leave X11 hlk (v := some (.int 0)) (fun h => by rw [Bd.returns] at h; cases h) (fun fs hr => retN X11 hx (t := .boolean) Bd.returns (by simp) (hb hby d24_38) (by rw [(by decide : nar .boolean (0 : Int32) = (0 : Int32))]; exact hr)) (by decide) (by decide) ?_
            show Q_isT_4 Z a1 tb1 kb1 cd1 nB1 vs1 c1 c2 c3 c4 h0 n0 _ T11.heap _
            rw [eq11]
            exact ⟨(0 : Int32), rfl, N11, rfl, (Or.inr ⟨rfl, fun zz => (fun z => cc13 z.2) zz.2.2.1⟩)⟩
          refine OwnGoes.step (T' := T11) (g' := (mkF m 38 #[vR a1, vI 2, vI c3] [(.int 0)])) (fun tgt kgo => ?_) ?_
          · refine XS.icmpYes X11.here hx rfl (pc0 := 28) (pc' := 37) rfl (hb hby d24_28) rfl (flt cc12).2.2.2 (by decide) (by decide) ?_
            show OwnG p e below T11 m 37 #[vR a1, vI 2, vI c3] [] tgt
            refine XS.iconst X11.here hx rfl (hb hby d24_37) ?_
            exact kgo
          refine own_leave X11 hlk (v := some (.int 0)) (fun h => by rw [Bd.returns] at h; cases h) (fun fs hr => retN X11 hx (t := .boolean) Bd.returns (by simp) (hb hby d24_38) (by rw [(by decide : nar .boolean (0 : Int32) = (0 : Int32))]; exact hr)) (by decide) (by decide) ?_
          show Q_isT_4 Z a1 tb1 kb1 cd1 nB1 vs1 c1 c2 c3 c4 h0 n0 _ T11.heap _
          rw [eq11]
          exact ⟨(0 : Int32), rfl, N11, rfl, (Or.inr ⟨rfl, fun zz => (fun z => cc12 z.1) zz.2.2.1⟩)⟩
        refine OwnGoes.step (T' := T7) (g' := (mkF m 38 #[vR a1, vI 1, vI c2] [(.int 0)])) (fun tgt kgo => ?_) ?_
        · refine XS.icmpNo X7.here hx rfl (hb hby d24_34) rfl (flt cc9).1 ?_
          show OwnG p e below T7 m 37 #[vR a1, vI 1, vI c2] [] tgt
          refine XS.iconst X7.here hx rfl (hb hby d24_37) ?_
          exact kgo
        refine own_leave X7 hlk (v := some (.int 0)) (fun h => by rw [Bd.returns] at h; cases h) (fun fs hr => retN X7 hx (t := .boolean) Bd.returns (by simp) (hb hby d24_38) (by rw [(by decide : nar .boolean (0 : Int32) = (0 : Int32))]; exact hr)) (by decide) (by decide) ?_
        show Q_isT_4 Z a1 tb1 kb1 cd1 nB1 vs1 c1 c2 c3 c4 h0 n0 _ T7.heap _
        rw [eq7]
        exact ⟨(0 : Int32), rfl, N7, rfl, (Or.inr ⟨rfl, fun zz => (fun z => cc9 z.2) zz.2.1⟩)⟩
      refine OwnGoes.step (T' := T7) (g' := (mkF m 38 #[vR a1, vI 1, vI c2] [(.int 0)])) (fun tgt kgo => ?_) ?_
      · refine XS.icmpYes X7.here hx rfl (pc0 := 28) (pc' := 37) rfl (hb hby d24_28) rfl (flt cc8).2.2.2 (by decide) (by decide) ?_
        show OwnG p e below T7 m 37 #[vR a1, vI 1, vI c2] [] tgt
        refine XS.iconst X7.here hx rfl (hb hby d24_37) ?_
        exact kgo
      refine own_leave X7 hlk (v := some (.int 0)) (fun h => by rw [Bd.returns] at h; cases h) (fun fs hr => retN X7 hx (t := .boolean) Bd.returns (by simp) (hb hby d24_38) (by rw [(by decide : nar .boolean (0 : Int32) = (0 : Int32))]; exact hr)) (by decide) (by decide) ?_
      show Q_isT_4 Z a1 tb1 kb1 cd1 nB1 vs1 c1 c2 c3 c4 h0 n0 _ T7.heap _
      rw [eq7]
      exact ⟨(0 : Int32), rfl, N7, rfl, (Or.inr ⟨rfl, fun zz => (fun z => cc8 z.1) zz.2.1⟩)⟩
    refine OwnGoes.step (T' := T3) (g' := (mkF m 38 #[vR a1, vI 0, vI c1] [(.int 0)])) (fun tgt kgo => ?_) ?_
    · refine XS.icmpNo X3.here hx rfl (hb hby d24_34) rfl (flt cc5).1 ?_
      show OwnG p e below T3 m 37 #[vR a1, vI 0, vI c1] [] tgt
      refine XS.iconst X3.here hx rfl (hb hby d24_37) ?_
      exact kgo
    refine own_leave X3 hlk (v := some (.int 0)) (fun h => by rw [Bd.returns] at h; cases h) (fun fs hr => retN X3 hx (t := .boolean) Bd.returns (by simp) (hb hby d24_38) (by rw [(by decide : nar .boolean (0 : Int32) = (0 : Int32))]; exact hr)) (by decide) (by decide) ?_
    show Q_isT_4 Z a1 tb1 kb1 cd1 nB1 vs1 c1 c2 c3 c4 h0 n0 _ T3.heap _
    rw [eq3]
    exact ⟨(0 : Int32), rfl, N3, rfl, (Or.inr ⟨rfl, fun zz => (fun z => cc5 z.2) zz.1⟩)⟩
  refine OwnGoes.step (T' := T3) (g' := (mkF m 38 #[vR a1, vI 0, vI c1] [(.int 0)])) (fun tgt kgo => ?_) ?_
  · refine XS.icmpYes X3.here hx rfl (pc0 := 28) (pc' := 37) rfl (hb hby d24_28) rfl (flt cc4).2.2.2 (by decide) (by decide) ?_
    show OwnG p e below T3 m 37 #[vR a1, vI 0, vI c1] [] tgt
    refine XS.iconst X3.here hx rfl (hb hby d24_37) ?_
    exact kgo
  refine own_leave X3 hlk (v := some (.int 0)) (fun h => by rw [Bd.returns] at h; cases h) (fun fs hr => retN X3 hx (t := .boolean) Bd.returns (by simp) (hb hby d24_38) (by rw [(by decide : nar .boolean (0 : Int32) = (0 : Int32))]; exact hr)) (by decide) (by decide) ?_
  show Q_isT_4 Z a1 tb1 kb1 cd1 nB1 vs1 c1 c2 c3 c4 h0 n0 _ T3.heap _
  rw [eq3]
  exact ⟨(0 : Int32), rfl, N3, rfl, (Or.inr ⟨rfl, fun zz => (fun z => cc4 z.1) zz.1⟩)⟩
theorem ef_law (m : MethodId) (x0 : Int32) (x1 : Int32) (x2 : Int32) (x3 : Int32) (x4 : Int32) : entryFrame m #[(.int x0), (.int x1), (.int x2), (.int x3), (.int x4)] maxLocals = mkF m 0 #[vI x0, vI x1, vI x2, vI x3, vI x4, vU, vU, vU, vU, vU, vU, vU] [] := by
  first | (simp [entryFrame, mkF, argsToLocals, Value.category, maxLocals]; done) | rfl
def Q_law (Z : State) (p1 : Int32) (p2 : Int32) (p3 : Int32) (p4 : Int32) (p5 : Int32) (h0 : Heap) (n0 : Nat) (v : Option Value) (h : Heap) (L : List Loc) : Prop := v = some (.int 1) ∧ Fr n0 L
theorem pd_36595007 : parseMethodDescriptor "(ICCCC)Ljava/lang/String;" = some ⟨[.int, .char, .char, .char, .char], some (.object "java/lang/String")⟩ := by decide +kernel
theorem pd_92693199 : parseMethodDescriptor "(Ljava/lang/String;)Z" = some ⟨[(.object "java/lang/String")], some .boolean⟩ := by decide +kernel
theorem pd_92619605 : parseMethodDescriptor "(C)Z" = some ⟨[.char], some .boolean⟩ := by decide +kernel
set_option maxRecDepth 65536 in
set_option maxHeartbeats 40000000 in
theorem rm_law (l : Launch) (Z : State) (a0 : Array Value) (hw : ∀ d ∈ tables_1, d.before a0 Z = true) (ws : List Jvm.Cond) (wG1 : Int32) (wG3 : Value) (cx : OwnCx Z a0 wG1 wG3) (hEL : EW Z a0 consts_1) (h0 : Heap) (n0 : Nat) (X00 : Old Z n0 h0) (p1 : Int32) (p2 : Int32) (p3 : Int32) (p4 : Int32) (p5 : Int32) :
    MetFree l x (head1 (Jvm.Cond.code x code maxLocals ret :: ws) room_1) (fun a U => a = #[(.int p1), (.int p2), (.int p3), (.int p4), (.int p5)] ∧ Z.Warmed39 U.vm ∧ U.heap = h0 ∧ CHv Z consts_1 U.vm h0) (fun _ _ _ _ _ => True) (fun _ U o U' => ∃ v L, o = .returned v ∧ Q_law Z p1 p2 p3 p4 p5 h0 n0 v U'.heap L ∧ CHr Z consts_1 U.vm U.heap U'.vm U'.heap ∧ ReturnedEndW U o U' L room_1.cells room_1.slots) := by
  refine MetFree.of_bodySF (plainFor_of_name pn_60594471) hisR ?_
  intro p e s m args below meth c s₁ Bd hml0 hP hK
  obtain ⟨rfl, hZ, hh, hH⟩ := hP
  obtain ⟨wO2, wP5, wO4, wrG3, hstr, wUA, wUH, wUL⟩ := id cx
  have hx := Bd.exec
  have hby := Bd.bytes
  have hlk := Bd.notSynchronized
  have hml : c.maxLocals = 12 := hml0
  have hown : s.vm.findClass "io/holdfast/cli/HttpHeadIsTargetPinLaw" = some m.cls := findClass_of_methodNamed Bd.named
  have hnm := (name_of_methodNamed Bd.named Bd.method).1
  have X0 : Stand p l e room_1 (s.setVm s.vm) m #[(.int p1), (.int p2), (.int p3), (.int p4), (.int p5)] below meth c s₁ [] 0 0 := Stand.of_body Bd
  have e0 : s₁.heap = h0 := by rw [← hh, Bd.state]; rfl
  have N0 := Fr.nil n0
  have Z0 : n0 ≤ h0.size := X00.1 ▸ X00.2.1
  have K0 : Keep h0 h0 ([] : List Addr) := Keep.refl _ _
  have R0 : CHr Z consts_1 s.vm h0 s.vm h0 := CHr.refl hH
  have hS0 : s.Since s.vm h0.size := State.WarmedH.since (State.WarmedH.refl s) _
  have hk0 : h0.size ≤ h0.size := Nat.le_refl _
  show OwnGoes p e below (fun o U' => ∃ v L, o = .returned v ∧ Q_law Z p1 p2 p3 p4 p5 h0 n0 v U'.heap L ∧ CHr Z consts_1 s.vm s.heap U'.vm U'.heap ∧ ReturnedEndW s o U' L room_1.cells room_1.slots) s₁ (entryFrame m #[(.int p1), (.int p2), (.int p3), (.int p4), (.int p5)] maxLocals)
  refine OwnGoes.step (T' := s₁) (g' := (mkF m 0 #[vI p1, vI p2, vI p3, vI p4, vI p5, vU, vU, vU, vU, vU, vU, vU] [])) (fun tgt kgo => castTop (ef_law m p1 p2 p3 p4 p5) kgo) ?_
  refine OwnGoes.step (T' := s₁) (g' := (mkF m 6 #[vI p1, vI p2, vI p3, vI p4, vI p5, vU, vU, vU, vU, vU, vU, vU] [(.int ((p1 &&& (2147483647 : Int32)) % (5 : Int32)))])) (fun tgt kgo => ?_) ?_
  · refine XS.iloadN X0.here hx rfl (hb hby at_0) rfl ?_
    show OwnG p e below s₁ m 1 #[vI p1, vI p2, vI p3, vI p4, vI p5, vU, vU, vU, vU, vU, vU, vU] [(.int p1)] tgt
    refine X0.ldcInt hx hown (mvT hZ (own_w hw 0 rfl)) (g := (mkF m 1 #[vI p1, vI p2, vI p3, vI p4, vI p5, vU, vU, vU, vU, vU, vU, vU] [(.int p1)])) rfl (hb hby at_1) _ ?_
    show OwnG p e below s₁ m 3 #[vI p1, vI p2, vI p3, vI p4, vI p5, vU, vU, vU, vU, vU, vU, vU] [(.int 2147483647), (.int p1)] tgt
    refine XS.iand X0.here hx rfl (hb hby at_3) rfl ?_
    show OwnG p e below s₁ m 4 #[vI p1, vI p2, vI p3, vI p4, vI p5, vU, vU, vU, vU, vU, vU, vU] [(.int (p1 &&& (2147483647 : Int32)))] tgt
    refine XS.iconst X0.here hx rfl (hb hby at_4) ?_
    show OwnG p e below s₁ m 5 #[vI p1, vI p2, vI p3, vI p4, vI p5, vU, vU, vU, vU, vU, vU, vU] [(.int 5), (.int (p1 &&& (2147483647 : Int32)))] tgt
    refine iremM X0 hx rfl (hb hby at_5) rfl (by decide) ?_
    exact kgo
  obtain ⟨nn, hnn⟩ : ∃ z : Int32, ((p1 &&& (2147483647 : Int32)) % (5 : Int32)) = z := ⟨_, rfl⟩
  refine OwnGoes.step (T' := s₁) (g' := (mkF m 6 #[vI p1, vI p2, vI p3, vI p4, vI p5, vU, vU, vU, vU, vU, vU, vU] [(.int nn)])) (fun tgt kgo => castTop (by rw [hnn]) kgo) ?_
  refine OwnGoes.step (T' := s₁) (g' := (mkF m 9 #[vI p1, vI p2, vI p3, vI p4, vI p5, vI nn, vU, vU, vU, vU, vU, vU] [(.int p2)])) (fun tgt kgo => ?_) ?_
  · refine XS.istore X0.here hx rfl (hb hby at_6) rfl (l' := #[vI p1, vI p2, vI p3, vI p4, vI p5, vI nn, vU, vU, vU, vU, vU, vU]) rfl ?_
    show OwnG p e below s₁ m 8 #[vI p1, vI p2, vI p3, vI p4, vI p5, vI nn, vU, vU, vU, vU, vU, vU] [] tgt
    refine XS.iloadN X0.here hx rfl (hb hby at_8) rfl ?_
    exact kgo
  obtain ⟨_, _, ⟨T1, L1, k1, n1⟩, -, X1, ⟨Lc1, hQ1, l1, y1, z1⟩, st1⟩ := Jvm.LawKit.callS X0 hx (y := mN21) hown (mvT hZ (own_w hw 1 rfl)) (mvT hZ (own_w hw 2 rfl)) (mvT hZ (own_w hw 3 rfl)) (mvT hZ (own_w hw 4 rfl)) (by decide) (backOf (W := 0) (rm_ch l Z a0 hw [] wG1 wG3 cx hEL h0 n0 X00 p2) hZ (own_w hw 4 rfl) (own_w hw 3 rfl) (by decide) (by decide)) (g := (mkF m 9 #[vI p1, vI p2, vI p3, vI p4, vI p5, vI nn, vU, vU, vU, vU, vU, vU] [(.int p2)])) rfl (by rw [hml]; rfl) (argsL := [(.int p2)]) (rest := []) (lenOf pd_17647939 rfl) rfl (Nat.le_of_eq rfl) (hb hby at_9) (fun _ _ => ⟨rfl, e0, (by decide : 0 + 0 ≤ _), (by decide : 0 + 0 ≤ _)⟩)
  dsimp only [Pt.U, Pt.locs, Pt.cells, Pt.slots] at X1 l1 y1 z1 st1 hQ1
  subst l1 y1 z1
  obtain ⟨c_1, rfl, Nq1, eq1, pq1_0⟩ := hQ1
  refine OwnGoes.step (T' := T1) (g' := (mkF m 12 #[vI p1, vI p2, vI p3, vI p4, vI p5, vI nn, vU, vU, vU, vU, vU, vU] [(.int c_1)])) st1 ?_
  have N1 := Fr.app N0 Nq1
  refine OwnGoes.step (T' := T1) (g' := (mkF m 15 #[vI p1, vI p2, vI p3, vI p4, vI p5, vI nn, vI c_1, vU, vU, vU, vU, vU] [(.int p3)])) (fun tgt kgo => ?_) ?_
  · refine XS.istore X1.here hx rfl (hb hby at_12) rfl (l' := #[vI p1, vI p2, vI p3, vI p4, vI p5, vI nn, vI c_1, vU, vU, vU, vU, vU]) rfl ?_
    show OwnG p e below T1 m 14 #[vI p1, vI p2, vI p3, vI p4, vI p5, vI nn, vI c_1, vU, vU, vU, vU, vU] [] tgt
    refine XS.iloadN X1.here hx rfl (hb hby at_14) rfl ?_
    exact kgo
  obtain ⟨_, _, ⟨T2, L2, k2, n2⟩, -, X2, ⟨Lc2, hQ2, l2, y2, z2⟩, st2⟩ := Jvm.LawKit.callS X1 hx (y := mN21) hown (mvT hZ (own_w hw 1 rfl)) (mvT hZ (own_w hw 2 rfl)) (mvT hZ (own_w hw 3 rfl)) (mvT hZ (own_w hw 4 rfl)) (by decide) (backOf (W := 0) (rm_ch l Z a0 hw [] wG1 wG3 cx hEL h0 n0 X00 p3) hZ (own_w hw 4 rfl) (own_w hw 3 rfl) (by decide) (by decide)) (g := (mkF m 15 #[vI p1, vI p2, vI p3, vI p4, vI p5, vI nn, vI c_1, vU, vU, vU, vU, vU] [(.int p3)])) rfl (by rw [hml]; rfl) (argsL := [(.int p3)]) (rest := []) (lenOf pd_17647939 rfl) rfl (Nat.le_of_eq rfl) (hb hby at_15) (fun _ _ => ⟨rfl, eq1, (by decide : 0 + 0 ≤ _), (by decide : 0 + 0 ≤ _)⟩)
  dsimp only [Pt.U, Pt.locs, Pt.cells, Pt.slots] at X2 l2 y2 z2 st2 hQ2
  subst l2 y2 z2
  obtain ⟨c_2, rfl, Nq2, eq2, pq2_0⟩ := hQ2
  refine OwnGoes.step (T' := T2) (g' := (mkF m 18 #[vI p1, vI p2, vI p3, vI p4, vI p5, vI nn, vI c_1, vU, vU, vU, vU, vU] [(.int c_2)])) st2 ?_
  have N2 := Fr.app N1 Nq2
  refine OwnGoes.step (T' := T2) (g' := (mkF m 21 #[vI p1, vI p2, vI p3, vI p4, vI p5, vI nn, vI c_1, vI c_2, vU, vU, vU, vU] [(.int p4)])) (fun tgt kgo => ?_) ?_
  · refine XS.istore X2.here hx rfl (hb hby at_18) rfl (l' := #[vI p1, vI p2, vI p3, vI p4, vI p5, vI nn, vI c_1, vI c_2, vU, vU, vU, vU]) rfl ?_
    show OwnG p e below T2 m 20 #[vI p1, vI p2, vI p3, vI p4, vI p5, vI nn, vI c_1, vI c_2, vU, vU, vU, vU] [] tgt
    refine XS.iloadN X2.here hx rfl (hb hby at_20) rfl ?_
    exact kgo
  obtain ⟨_, _, ⟨T3, L3, k3, n3⟩, -, X3, ⟨Lc3, hQ3, l3, y3, z3⟩, st3⟩ := Jvm.LawKit.callS X2 hx (y := mN21) hown (mvT hZ (own_w hw 1 rfl)) (mvT hZ (own_w hw 2 rfl)) (mvT hZ (own_w hw 3 rfl)) (mvT hZ (own_w hw 4 rfl)) (by decide) (backOf (W := 0) (rm_ch l Z a0 hw [] wG1 wG3 cx hEL h0 n0 X00 p4) hZ (own_w hw 4 rfl) (own_w hw 3 rfl) (by decide) (by decide)) (g := (mkF m 21 #[vI p1, vI p2, vI p3, vI p4, vI p5, vI nn, vI c_1, vI c_2, vU, vU, vU, vU] [(.int p4)])) rfl (by rw [hml]; rfl) (argsL := [(.int p4)]) (rest := []) (lenOf pd_17647939 rfl) rfl (Nat.le_of_eq rfl) (hb hby at_21) (fun _ _ => ⟨rfl, eq2, (by decide : 0 + 0 ≤ _), (by decide : 0 + 0 ≤ _)⟩)
  dsimp only [Pt.U, Pt.locs, Pt.cells, Pt.slots] at X3 l3 y3 z3 st3 hQ3
  subst l3 y3 z3
  obtain ⟨c_3, rfl, Nq3, eq3, pq3_0⟩ := hQ3
  refine OwnGoes.step (T' := T3) (g' := (mkF m 24 #[vI p1, vI p2, vI p3, vI p4, vI p5, vI nn, vI c_1, vI c_2, vU, vU, vU, vU] [(.int c_3)])) st3 ?_
  have N3 := Fr.app N2 Nq3
  refine OwnGoes.step (T' := T3) (g' := (mkF m 28 #[vI p1, vI p2, vI p3, vI p4, vI p5, vI nn, vI c_1, vI c_2, vI c_3, vU, vU, vU] [(.int p5)])) (fun tgt kgo => ?_) ?_
  · refine XS.istore X3.here hx rfl (hb hby at_24) rfl (l' := #[vI p1, vI p2, vI p3, vI p4, vI p5, vI nn, vI c_1, vI c_2, vI c_3, vU, vU, vU]) rfl ?_
    show OwnG p e below T3 m 26 #[vI p1, vI p2, vI p3, vI p4, vI p5, vI nn, vI c_1, vI c_2, vI c_3, vU, vU, vU] [] tgt
    refine XS.iload X3.here hx rfl (hb hby at_26) rfl ?_
    exact kgo
  obtain ⟨_, _, ⟨T4, L4, k4, n4⟩, -, X4, ⟨Lc4, hQ4, l4, y4, z4⟩, st4⟩ := Jvm.LawKit.callS X3 hx (y := mN21) hown (mvT hZ (own_w hw 1 rfl)) (mvT hZ (own_w hw 2 rfl)) (mvT hZ (own_w hw 3 rfl)) (mvT hZ (own_w hw 4 rfl)) (by decide) (backOf (W := 0) (rm_ch l Z a0 hw [] wG1 wG3 cx hEL h0 n0 X00 p5) hZ (own_w hw 4 rfl) (own_w hw 3 rfl) (by decide) (by decide)) (g := (mkF m 28 #[vI p1, vI p2, vI p3, vI p4, vI p5, vI nn, vI c_1, vI c_2, vI c_3, vU, vU, vU] [(.int p5)])) rfl (by rw [hml]; rfl) (argsL := [(.int p5)]) (rest := []) (lenOf pd_17647939 rfl) rfl (Nat.le_of_eq rfl) (hb hby at_28) (fun _ _ => ⟨rfl, eq3, (by decide : 0 + 0 ≤ _), (by decide : 0 + 0 ≤ _)⟩)
  dsimp only [Pt.U, Pt.locs, Pt.cells, Pt.slots] at X4 l4 y4 z4 st4 hQ4
  subst l4 y4 z4
  obtain ⟨c_4, rfl, Nq4, eq4, pq4_0⟩ := hQ4
  refine OwnGoes.step (T' := T4) (g' := (mkF m 31 #[vI p1, vI p2, vI p3, vI p4, vI p5, vI nn, vI c_1, vI c_2, vI c_3, vU, vU, vU] [(.int c_4)])) st4 ?_
  have N4 := Fr.app N3 Nq4
  refine OwnGoes.step (T' := T4) (g' := (mkF m 33 #[vI p1, vI p2, vI p3, vI p4, vI p5, vI nn, vI c_1, vI c_2, vI c_3, vI c_4, vU, vU] [])) (fun tgt kgo => ?_) ?_
  · refine XS.istore X4.here hx rfl (hb hby at_31) rfl (l' := #[vI p1, vI p2, vI p3, vI p4, vI p5, vI nn, vI c_1, vI c_2, vI c_3, vI c_4, vU, vU]) rfl ?_
    exact kgo
  have hm5 := own_mod5 p1
  rw [hnn] at hm5
  rcases hm5 with rfl | rfl | rfl | rfl | rfl
  · skip
    refine OwnGoes.step (T' := T4) (g' := (mkF m 43 #[vI p1, vI p2, vI p3, vI p4, vI p5, vI 0, vI c_1, vI c_2, vI c_3, vI c_4, vU, vU] [(.int c_4), (.int c_3), (.int c_2), (.int c_1), (.int 0)])) (fun tgt kgo => ?_) ?_
    · refine XS.iload X4.here hx rfl (hb hby at_33) rfl ?_
      show OwnG p e below T4 m 35 #[vI p1, vI p2, vI p3, vI p4, vI p5, vI 0, vI c_1, vI c_2, vI c_3, vI c_4, vU, vU] [(.int 0)] tgt
      refine XS.iload X4.here hx rfl (hb hby at_35) rfl ?_
      show OwnG p e below T4 m 37 #[vI p1, vI p2, vI p3, vI p4, vI p5, vI 0, vI c_1, vI c_2, vI c_3, vI c_4, vU, vU] [(.int c_1), (.int 0)] tgt
      refine XS.iload X4.here hx rfl (hb hby at_37) rfl ?_
      show OwnG p e below T4 m 39 #[vI p1, vI p2, vI p3, vI p4, vI p5, vI 0, vI c_1, vI c_2, vI c_3, vI c_4, vU, vU] [(.int c_2), (.int c_1), (.int 0)] tgt
      refine XS.iload X4.here hx rfl (hb hby at_39) rfl ?_
      show OwnG p e below T4 m 41 #[vI p1, vI p2, vI p3, vI p4, vI p5, vI 0, vI c_1, vI c_2, vI c_3, vI c_4, vU, vU] [(.int c_3), (.int c_2), (.int c_1), (.int 0)] tgt
      refine XS.iload X4.here hx rfl (hb hby at_41) rfl ?_
      exact kgo
    obtain ⟨_, _, ⟨T5, L5, k5, n5⟩, -, X5, Si5, Gr5, ⟨Lc5, hQ5, l5, y5, z5, Rc5⟩, st5⟩ := callSS X4 hx (y := mN23) hown (mvT hZ (own_w hw 6 rfl)) (mvT hZ (own_w hw 7 rfl)) (mvT hZ (own_w hw 3 rfl)) (mvT hZ (own_w hw 8 rfl)) (by decide) (backOfSH (W := 0) (rm_str_0 l Z a0 hw [] wG1 wG3 cx hEL h0 n0 X00 c_1 c_2 c_3 c_4) hZ (own_w hw 8 rfl) (own_w hw 3 rfl) (by decide) (by decide) hEL R0.1) (g := (mkF m 43 #[vI p1, vI p2, vI p3, vI p4, vI p5, vI 0, vI c_1, vI c_2, vI c_3, vI c_4, vU, vU] [(.int c_4), (.int c_3), (.int c_2), (.int c_1), (.int 0)])) rfl (by rw [hml]; rfl) (argsL := [(.int 0), (.int c_1), (.int c_2), (.int c_3), (.int c_4)]) (rest := []) (lenOf pd_36595007 rfl) rfl (Nat.le_of_eq rfl) (hb hby at_43) (fun _ _ => ⟨rfl, eq4, (by decide : 0 + 6 ≤ _), (by decide : 0 + 12 ≤ _)⟩)
    dsimp only [Pt.U, Pt.locs, Pt.cells, Pt.slots] at X5 l5 y5 z5 st5 hQ5 Si5 Gr5 Rc5
    subst l5 y5 z5
    obtain ⟨x_5, t_5, k_5, rfl, Nq5, Kq5, fq5_0, fq5_1, fq5_2, fq5_3⟩ := hQ5
    refine OwnGoes.tr (T' := T5) (g' := (mkF m 46 #[vI p1, vI p2, vI p3, vI p4, vI p5, vI 0, vI c_1, vI c_2, vI c_3, vI c_4, vU, vU] [(.ref x_5)])) st5 ?_
    have N5 := Fr.app N4 Nq5
    have gz5 : h0.size ≤ T5.heap.size := Rc5.2.1
    obtain ⟨X5, hS5, hZ5, ho5⟩ := rebS hS0 hk0 X5 Si5 gz5 hZ hown
    have Ol5 := X00.keep Kq5 all0
    have K5 : Keep h0 T5.heap ([] : List Addr) := K0.trans Kq5 all0
    have R5 := R0.trans Rc5
    have hob : OwnStr ([] : List Int32) (0 : Int32) (0 : Int32) [] := own_str_lat (n := 0) rfl (by decide) own_mem0
    refine OwnGoes.step (T' := T5) (g' := (mkF m 113 #[vI p1, vI p2, vI p3, vI p4, vI p5, vI 0, vI c_1, vI c_2, vI c_3, vI c_4, vR x_5, vI 0] [(.ref x_5)])) (fun tgt kgo => ?_) ?_
    · refine XS.astore X5.here hx rfl (hb hby at_46) rfl rfl (l' := #[vI p1, vI p2, vI p3, vI p4, vI p5, vI 0, vI c_1, vI c_2, vI c_3, vI c_4, vR x_5, vU]) rfl ?_
      show OwnG p e below T5 m 48 #[vI p1, vI p2, vI p3, vI p4, vI p5, vI 0, vI c_1, vI c_2, vI c_3, vI c_4, vR x_5, vU] [] tgt
      refine XS.iload X5.here hx rfl (hb hby at_48) rfl ?_
      show OwnG p e below T5 m 50 #[vI p1, vI p2, vI p3, vI p4, vI p5, vI 0, vI c_1, vI c_2, vI c_3, vI c_4, vR x_5, vU] [(.int 0)] tgt
      refine XS.iconst X5.here hx rfl (hb hby at_50) ?_
      show OwnG p e below T5 m 51 #[vI p1, vI p2, vI p3, vI p4, vI p5, vI 0, vI c_1, vI c_2, vI c_3, vI c_4, vR x_5, vU] [(.int 1), (.int 0)] tgt
      refine XS.icmpYes X5.here hx rfl (pc0 := 51) (pc' := 108) rfl (hb hby at_51) rfl (tlt (by decide : (0 : Int32) < (1 : Int32))).1 (by decide) (by decide) ?_
      show OwnG p e below T5 m 108 #[vI p1, vI p2, vI p3, vI p4, vI p5, vI 0, vI c_1, vI c_2, vI c_3, vI c_4, vR x_5, vU] [] tgt
      refine XS.iconst X5.here hx rfl (hb hby at_108) ?_
      show OwnG p e below T5 m 109 #[vI p1, vI p2, vI p3, vI p4, vI p5, vI 0, vI c_1, vI c_2, vI c_3, vI c_4, vR x_5, vU] [(.int 0)] tgt
      refine XS.istore X5.here hx rfl (hb hby at_109) rfl (l' := #[vI p1, vI p2, vI p3, vI p4, vI p5, vI 0, vI c_1, vI c_2, vI c_3, vI c_4, vR x_5, vI 0]) rfl ?_
      show OwnG p e below T5 m 111 #[vI p1, vI p2, vI p3, vI p4, vI p5, vI 0, vI c_1, vI c_2, vI c_3, vI c_4, vR x_5, vI 0] [] tgt
      refine XS.aload X5.here hx rfl (hb hby at_111) rfl rfl ?_
      exact kgo
    obtain ⟨_, _, ⟨T6, L6, k6, n6⟩, -, X6, ⟨Lc6, hQ6, l6, y6, z6⟩, st6⟩ := Jvm.LawKit.callS X5 hx (y := mN24) ho5 (mvT hZ5 (own_w hw 31 rfl)) (mvT hZ5 (own_w hw 32 rfl)) (mvT hZ5 (own_w hw 33 rfl)) (mvT hZ5 (own_w hw 34 rfl)) (by decide) (backOf (W := 0) (rm_isT_0 l Z a0 hw [] wG1 wG3 cx hEL T5.heap n0 Ol5 x_5 t_5 k_5 [] fq5_0 fq5_1 fq5_2 fq5_3 hob) hZ5 (own_w hw 34 rfl) (own_w hw 33 rfl) (by decide) (by decide)) (g := (mkF m 113 #[vI p1, vI p2, vI p3, vI p4, vI p5, vI 0, vI c_1, vI c_2, vI c_3, vI c_4, vR x_5, vI 0] [(.ref x_5)])) rfl (by rw [hml]; rfl) (argsL := [(.ref x_5)]) (rest := []) (lenOf pd_92693199 rfl) rfl (Nat.le_of_eq rfl) (hb hby at_113) (fun _ _ => ⟨rfl, rfl, (by decide : 6 + 0 ≤ _), (by decide : 12 + 0 ≤ _)⟩)
    dsimp only [Pt.U, Pt.locs, Pt.cells, Pt.slots] at X6 l6 y6 z6 st6 hQ6
    subst l6 y6 z6
    obtain ⟨rfl, Nq6, eq6⟩ := hQ6
    refine OwnGoes.step (T' := T6) (g' := (mkF m 116 #[vI p1, vI p2, vI p3, vI p4, vI p5, vI 0, vI c_1, vI c_2, vI c_3, vI c_4, vR x_5, vI 0] [(.int 0)])) st6 ?_
    have N6 := Fr.app N5 Nq6
    refine OwnGoes.step (T' := T6) (g' := (mkF m 126 #[vI p1, vI p2, vI p3, vI p4, vI p5, vI 0, vI c_1, vI c_2, vI c_3, vI c_4, vR x_5, vI 0] [(.int 1)])) (fun tgt kgo => ?_) ?_
    · refine XS.iload X6.here hx rfl (hb hby at_116) rfl ?_
      show OwnG p e below T6 m 118 #[vI p1, vI p2, vI p3, vI p4, vI p5, vI 0, vI c_1, vI c_2, vI c_3, vI c_4, vR x_5, vI 0] [(.int 0), (.int 0)] tgt
      refine XS.icmpNo X6.here hx rfl (hb hby at_118) rfl (teq (by decide : (0 : Int32) = (0 : Int32))).2 ?_
      show OwnG p e below T6 m 121 #[vI p1, vI p2, vI p3, vI p4, vI p5, vI 0, vI c_1, vI c_2, vI c_3, vI c_4, vR x_5, vI 0] [] tgt
      refine XS.iconst X6.here hx rfl (hb hby at_121) ?_
      show OwnG p e below T6 m 122 #[vI p1, vI p2, vI p3, vI p4, vI p5, vI 0, vI c_1, vI c_2, vI c_3, vI c_4, vR x_5, vI 0] [(.int 1)] tgt
      refine XS.goto X6.here hx rfl (pc0 := 122) (pc' := 126) rfl (hb hby at_122) (by decide) (by decide) ?_
      exact kgo
    refine own_leaveW (Z := Z) (EL := consts_1) X6 hS5 (eq6 ▸ (Nat.le_refl _)) hlk (v := some (.int 1)) (fun h => by rw [Bd.returns] at h; cases h) (fun fs hr => retN X6 hx (t := .boolean) Bd.returns (by simp) (hb hby at_126) (by rw [(by decide : nar .boolean (1 : Int32) = (1 : Int32))]; exact hr)) (by decide) (by decide) ?_ ?_
    · rw [hh, eq6]
      exact R5.trans (CHv.at X6 hZ5 hEL R5.1)
    show Q_law Z p1 p2 p3 p4 p5 h0 n0 _ T6.heap _
    rw [eq6]
    exact ⟨rfl, N6⟩
  · skip
    refine OwnGoes.step (T' := T4) (g' := (mkF m 43 #[vI p1, vI p2, vI p3, vI p4, vI p5, vI 1, vI c_1, vI c_2, vI c_3, vI c_4, vU, vU] [(.int c_4), (.int c_3), (.int c_2), (.int c_1), (.int 1)])) (fun tgt kgo => ?_) ?_
    · refine XS.iload X4.here hx rfl (hb hby at_33) rfl ?_
      show OwnG p e below T4 m 35 #[vI p1, vI p2, vI p3, vI p4, vI p5, vI 1, vI c_1, vI c_2, vI c_3, vI c_4, vU, vU] [(.int 1)] tgt
      refine XS.iload X4.here hx rfl (hb hby at_35) rfl ?_
      show OwnG p e below T4 m 37 #[vI p1, vI p2, vI p3, vI p4, vI p5, vI 1, vI c_1, vI c_2, vI c_3, vI c_4, vU, vU] [(.int c_1), (.int 1)] tgt
      refine XS.iload X4.here hx rfl (hb hby at_37) rfl ?_
      show OwnG p e below T4 m 39 #[vI p1, vI p2, vI p3, vI p4, vI p5, vI 1, vI c_1, vI c_2, vI c_3, vI c_4, vU, vU] [(.int c_2), (.int c_1), (.int 1)] tgt
      refine XS.iload X4.here hx rfl (hb hby at_39) rfl ?_
      show OwnG p e below T4 m 41 #[vI p1, vI p2, vI p3, vI p4, vI p5, vI 1, vI c_1, vI c_2, vI c_3, vI c_4, vU, vU] [(.int c_3), (.int c_2), (.int c_1), (.int 1)] tgt
      refine XS.iload X4.here hx rfl (hb hby at_41) rfl ?_
      exact kgo
    obtain ⟨_, _, ⟨T8, L8, k8, n8⟩, -, X8, ⟨Lc8, hQ8, l8, y8, z8⟩, st8⟩ := Jvm.LawKit.callS X4 hx (y := mN23) hown (mvT hZ (own_w hw 6 rfl)) (mvT hZ (own_w hw 7 rfl)) (mvT hZ (own_w hw 3 rfl)) (mvT hZ (own_w hw 8 rfl)) (by decide) (backOf (W := 0) (rm_str_1 l Z a0 hw [] wG1 wG3 cx hEL h0 n0 X00 c_1 c_2 c_3 c_4 pq1_0) hZ (own_w hw 8 rfl) (own_w hw 3 rfl) (by decide) (by decide)) (g := (mkF m 43 #[vI p1, vI p2, vI p3, vI p4, vI p5, vI 1, vI c_1, vI c_2, vI c_3, vI c_4, vU, vU] [(.int c_4), (.int c_3), (.int c_2), (.int c_1), (.int 1)])) rfl (by rw [hml]; rfl) (argsL := [(.int 1), (.int c_1), (.int c_2), (.int c_3), (.int c_4)]) (rest := []) (lenOf pd_36595007 rfl) rfl (Nat.le_of_eq rfl) (hb hby at_43) (fun _ _ => ⟨rfl, eq4, (by decide : 0 + 4 ≤ _), (by decide : 0 + 8 ≤ _)⟩)
    dsimp only [Pt.U, Pt.locs, Pt.cells, Pt.slots] at X8 l8 y8 z8 st8 hQ8
    subst l8 y8 z8
    obtain ⟨x_8, t_8, k_8, N_8, vs_8, cd_8, rfl, Nq8, Kq8, zq8_0, zq8_1, fq8_0, fq8_1, fq8_2, fq8_3, pq8_0⟩ := hQ8
    refine OwnGoes.step (T' := T8) (g' := (mkF m 46 #[vI p1, vI p2, vI p3, vI p4, vI p5, vI 1, vI c_1, vI c_2, vI c_3, vI c_4, vU, vU] [(.ref x_8)])) st8 ?_
    have N8 := Fr.app N4 Nq8
    have g_x_8 : n0 ≤ x_8 := Nat.le_trans (Nat.le_trans Z0 K0.1) zq8_0
    have s_x_8 : h0.size ≤ x_8 := Nat.le_trans K0.1 zq8_0
    have g_t_8 : n0 ≤ t_8 := Nat.le_trans (Nat.le_trans Z0 K0.1) zq8_1
    have s_t_8 : h0.size ≤ t_8 := Nat.le_trans K0.1 zq8_1
    have Ol8 := X00.keep Kq8 all0
    have K8 : Keep h0 T8.heap ([] : List Addr) := K0.trans Kq8 all0
    have R8 := R0.trans (CHr.keep Kq8 sf0 R0.1)
    have hk8 := Nat.le_trans hk0 Kq8.1
    refine OwnGoes.step (T' := T8) (g' := (mkF m 56 #[vI p1, vI p2, vI p3, vI p4, vI p5, vI 1, vI c_1, vI c_2, vI c_3, vI c_4, vR x_8, vU] [(.int c_1)])) (fun tgt kgo => ?_) ?_
    · refine XS.astore X8.here hx rfl (hb hby at_46) rfl rfl (l' := #[vI p1, vI p2, vI p3, vI p4, vI p5, vI 1, vI c_1, vI c_2, vI c_3, vI c_4, vR x_8, vU]) rfl ?_
      show OwnG p e below T8 m 48 #[vI p1, vI p2, vI p3, vI p4, vI p5, vI 1, vI c_1, vI c_2, vI c_3, vI c_4, vR x_8, vU] [] tgt
      refine XS.iload X8.here hx rfl (hb hby at_48) rfl ?_
      show OwnG p e below T8 m 50 #[vI p1, vI p2, vI p3, vI p4, vI p5, vI 1, vI c_1, vI c_2, vI c_3, vI c_4, vR x_8, vU] [(.int 1)] tgt
      refine XS.iconst X8.here hx rfl (hb hby at_50) ?_
      show OwnG p e below T8 m 51 #[vI p1, vI p2, vI p3, vI p4, vI p5, vI 1, vI c_1, vI c_2, vI c_3, vI c_4, vR x_8, vU] [(.int 1), (.int 1)] tgt
      refine XS.icmpNo X8.here hx rfl (hb hby at_51) rfl (flt (by decide : ¬ ((1 : Int32) < (1 : Int32)))).1 ?_
      show OwnG p e below T8 m 54 #[vI p1, vI p2, vI p3, vI p4, vI p5, vI 1, vI c_1, vI c_2, vI c_3, vI c_4, vR x_8, vU] [] tgt
      refine XS.iload X8.here hx rfl (hb hby at_54) rfl ?_
      exact kgo
    obtain ⟨_, _, ⟨T9, L9, k9, n9⟩, -, X9, ⟨Lc9, hQ9, l9, y9, z9⟩, st9⟩ := Jvm.LawKit.callS X8 hx (y := mN22) hown (mvT hZ (own_w hw 51 rfl)) (mvT hZ (own_w hw 52 rfl)) (mvT hZ (own_w hw 3 rfl)) (mvT hZ (own_w hw 53 rfl)) (by decide) (backOf (W := 0) (rm_ok l Z a0 hw [] wG1 wG3 cx hEL T8.heap n0 Ol8 c_1) hZ (own_w hw 53 rfl) (own_w hw 3 rfl) (by decide) (by decide)) (g := (mkF m 56 #[vI p1, vI p2, vI p3, vI p4, vI p5, vI 1, vI c_1, vI c_2, vI c_3, vI c_4, vR x_8, vU] [(.int c_1)])) rfl (by rw [hml]; rfl) (argsL := [(.int c_1)]) (rest := []) (lenOf pd_92619605 rfl) rfl (Nat.le_of_eq rfl) (hb hby at_56) (fun _ _ => ⟨rfl, rfl, (by decide : 4 + 0 ≤ _), (by decide : 8 + 0 ≤ _)⟩)
    dsimp only [Pt.U, Pt.locs, Pt.cells, Pt.slots] at X9 l9 y9 z9 st9 hQ9
    subst l9 y9 z9
    obtain ⟨r_9, rfl, Nq9, eq9, pq9_0⟩ := hQ9
    refine OwnGoes.step (T' := T9) (g' := (mkF m 59 #[vI p1, vI p2, vI p3, vI p4, vI p5, vI 1, vI c_1, vI c_2, vI c_3, vI c_4, vR x_8, vU] [(.int r_9)])) st9 ?_
    have N9 := Fr.app N8 Nq9
    rcases pq9_0 with ⟨rfl, ok_c_1⟩ | ⟨rfl, ok_c_1⟩
    · skip
      refine OwnGoes.step (T' := T9) (g' := (mkF m 113 #[vI p1, vI p2, vI p3, vI p4, vI p5, vI 1, vI c_1, vI c_2, vI c_3, vI c_4, vR x_8, vI 1] [(.ref x_8)])) (fun tgt kgo => ?_) ?_
      · refine XS.ifNo X9.here hx rfl (hb hby at_59) rfl ((if0 _ _).trans (feq (by decide : ¬ ((1 : Int32) = (0 : Int32)))).1) ?_
        show OwnG p e below T9 m 62 #[vI p1, vI p2, vI p3, vI p4, vI p5, vI 1, vI c_1, vI c_2, vI c_3, vI c_4, vR x_8, vU] [] tgt
        refine XS.iload X9.here hx rfl (hb hby at_62) rfl ?_
        show OwnG p e below T9 m 64 #[vI p1, vI p2, vI p3, vI p4, vI p5, vI 1, vI c_1, vI c_2, vI c_3, vI c_4, vR x_8, vU] [(.int 1)] tgt
        refine XS.iconst X9.here hx rfl (hb hby at_64) ?_
        show OwnG p e below T9 m 65 #[vI p1, vI p2, vI p3, vI p4, vI p5, vI 1, vI c_1, vI c_2, vI c_3, vI c_4, vR x_8, vU] [(.int 2), (.int 1)] tgt
        refine XS.icmpYes X9.here hx rfl (pc0 := 65) (pc' := 76) rfl (hb hby at_65) rfl (tlt (by decide : (1 : Int32) < (2 : Int32))).1 (by decide) (by decide) ?_
        show OwnG p e below T9 m 76 #[vI p1, vI p2, vI p3, vI p4, vI p5, vI 1, vI c_1, vI c_2, vI c_3, vI c_4, vR x_8, vU] [] tgt
        refine XS.iload X9.here hx rfl (hb hby at_76) rfl ?_
        show OwnG p e below T9 m 78 #[vI p1, vI p2, vI p3, vI p4, vI p5, vI 1, vI c_1, vI c_2, vI c_3, vI c_4, vR x_8, vU] [(.int 1)] tgt
        refine XS.iconst X9.here hx rfl (hb hby at_78) ?_
        show OwnG p e below T9 m 79 #[vI p1, vI p2, vI p3, vI p4, vI p5, vI 1, vI c_1, vI c_2, vI c_3, vI c_4, vR x_8, vU] [(.int 3), (.int 1)] tgt
        refine XS.icmpYes X9.here hx rfl (pc0 := 79) (pc' := 90) rfl (hb hby at_79) rfl (tlt (by decide : (1 : Int32) < (3 : Int32))).1 (by decide) (by decide) ?_
        show OwnG p e below T9 m 90 #[vI p1, vI p2, vI p3, vI p4, vI p5, vI 1, vI c_1, vI c_2, vI c_3, vI c_4, vR x_8, vU] [] tgt
        refine XS.iload X9.here hx rfl (hb hby at_90) rfl ?_
        show OwnG p e below T9 m 92 #[vI p1, vI p2, vI p3, vI p4, vI p5, vI 1, vI c_1, vI c_2, vI c_3, vI c_4, vR x_8, vU] [(.int 1)] tgt
        refine XS.iconst X9.here hx rfl (hb hby at_92) ?_
        show OwnG p e below T9 m 93 #[vI p1, vI p2, vI p3, vI p4, vI p5, vI 1, vI c_1, vI c_2, vI c_3, vI c_4, vR x_8, vU] [(.int 4), (.int 1)] tgt
        refine XS.icmpYes X9.here hx rfl (pc0 := 93) (pc' := 104) rfl (hb hby at_93) rfl (tlt (by decide : (1 : Int32) < (4 : Int32))).1 (by decide) (by decide) ?_
        show OwnG p e below T9 m 104 #[vI p1, vI p2, vI p3, vI p4, vI p5, vI 1, vI c_1, vI c_2, vI c_3, vI c_4, vR x_8, vU] [] tgt
        refine XS.iconst X9.here hx rfl (hb hby at_104) ?_
        show OwnG p e below T9 m 105 #[vI p1, vI p2, vI p3, vI p4, vI p5, vI 1, vI c_1, vI c_2, vI c_3, vI c_4, vR x_8, vU] [(.int 1)] tgt
        refine XS.goto X9.here hx rfl (pc0 := 105) (pc' := 109) rfl (hb hby at_105) (by decide) (by decide) ?_
        show OwnG p e below T9 m 109 #[vI p1, vI p2, vI p3, vI p4, vI p5, vI 1, vI c_1, vI c_2, vI c_3, vI c_4, vR x_8, vU] [(.int 1)] tgt
        refine XS.istore X9.here hx rfl (hb hby at_109) rfl (l' := #[vI p1, vI p2, vI p3, vI p4, vI p5, vI 1, vI c_1, vI c_2, vI c_3, vI c_4, vR x_8, vI 1]) rfl ?_
        show OwnG p e below T9 m 111 #[vI p1, vI p2, vI p3, vI p4, vI p5, vI 1, vI c_1, vI c_2, vI c_3, vI c_4, vR x_8, vI 1] [] tgt
        refine XS.aload X9.here hx rfl (hb hby at_111) rfl rfl ?_
        exact kgo
      obtain ⟨_, _, ⟨T10, L10, k10, n10⟩, -, X10, ⟨Lc10, hQ10, l10, y10, z10⟩, st10⟩ := Jvm.LawKit.callS X9 hx (y := mN24) hown (mvT hZ (own_w hw 31 rfl)) (mvT hZ (own_w hw 32 rfl)) (mvT hZ (own_w hw 33 rfl)) (mvT hZ (own_w hw 34 rfl)) (by decide) (backOf (W := 0) (rm_isT_1 l Z a0 hw [] wG1 wG3 cx hEL T8.heap n0 Ol8 x_8 t_8 k_8 cd_8 N_8 vs_8 c_1 fq8_0 fq8_1 fq8_2 fq8_3 pq8_0) hZ (own_w hw 34 rfl) (own_w hw 33 rfl) (by decide) (by decide)) (g := (mkF m 113 #[vI p1, vI p2, vI p3, vI p4, vI p5, vI 1, vI c_1, vI c_2, vI c_3, vI c_4, vR x_8, vI 1] [(.ref x_8)])) rfl (by rw [hml]; rfl) (argsL := [(.ref x_8)]) (rest := []) (lenOf pd_92693199 rfl) rfl (Nat.le_of_eq rfl) (hb hby at_113) (fun _ _ => ⟨rfl, eq9, (by decide : 4 + 0 ≤ _), (by decide : 8 + 0 ≤ _)⟩)
      dsimp only [Pt.U, Pt.locs, Pt.cells, Pt.slots] at X10 l10 y10 z10 st10 hQ10
      subst l10 y10 z10
      obtain ⟨r_10, rfl, Nq10, eq10, pq10_0⟩ := hQ10
      refine OwnGoes.step (T' := T10) (g' := (mkF m 116 #[vI p1, vI p2, vI p3, vI p4, vI p5, vI 1, vI c_1, vI c_2, vI c_3, vI c_4, vR x_8, vI 1] [(.int r_10)])) st10 ?_
      have N10 := Fr.app N9 Nq10
      rcases pq10_0 with ⟨rfl, hT⟩ | ⟨rfl, hT⟩
      · skip
        refine OwnGoes.step (T' := T10) (g' := (mkF m 126 #[vI p1, vI p2, vI p3, vI p4, vI p5, vI 1, vI c_1, vI c_2, vI c_3, vI c_4, vR x_8, vI 1] [(.int 1)])) (fun tgt kgo => ?_) ?_
        · refine XS.iload X10.here hx rfl (hb hby at_116) rfl ?_
          show OwnG p e below T10 m 118 #[vI p1, vI p2, vI p3, vI p4, vI p5, vI 1, vI c_1, vI c_2, vI c_3, vI c_4, vR x_8, vI 1] [(.int 1), (.int 1)] tgt
          refine XS.icmpNo X10.here hx rfl (hb hby at_118) rfl (teq (by decide : (1 : Int32) = (1 : Int32))).2 ?_
          show OwnG p e below T10 m 121 #[vI p1, vI p2, vI p3, vI p4, vI p5, vI 1, vI c_1, vI c_2, vI c_3, vI c_4, vR x_8, vI 1] [] tgt
          refine XS.iconst X10.here hx rfl (hb hby at_121) ?_
          show OwnG p e below T10 m 122 #[vI p1, vI p2, vI p3, vI p4, vI p5, vI 1, vI c_1, vI c_2, vI c_3, vI c_4, vR x_8, vI 1] [(.int 1)] tgt
          refine XS.goto X10.here hx rfl (pc0 := 122) (pc' := 126) rfl (hb hby at_122) (by decide) (by decide) ?_
          exact kgo
        refine own_leaveW (Z := Z) (EL := consts_1) X10 hS0 (eq10 ▸ hk8) hlk (v := some (.int 1)) (fun h => by rw [Bd.returns] at h; cases h) (fun fs hr => retN X10 hx (t := .boolean) Bd.returns (by simp) (hb hby at_126) (by rw [(by decide : nar .boolean (1 : Int32) = (1 : Int32))]; exact hr)) (by decide) (by decide) ?_ ?_
        · rw [hh, eq10]
          exact R8.trans (CHv.at X10 hZ hEL R8.1)
        show Q_law Z p1 p2 p3 p4 p5 h0 n0 _ T10.heap _
        rw [eq10]
        exact ⟨rfl, N10⟩
      exact absurd ok_c_1 hT
    refine OwnGoes.step (T' := T9) (g' := (mkF m 113 #[vI p1, vI p2, vI p3, vI p4, vI p5, vI 1, vI c_1, vI c_2, vI c_3, vI c_4, vR x_8, vI 0] [(.ref x_8)])) (fun tgt kgo => ?_) ?_
    · refine XS.ifYes X9.here hx rfl (pc0 := 59) (pc' := 108) rfl (hb hby at_59) rfl ((if0 _ _).trans (teq (by decide : (0 : Int32) = (0 : Int32))).1) (by decide) (by decide) ?_
      show OwnG p e below T9 m 108 #[vI p1, vI p2, vI p3, vI p4, vI p5, vI 1, vI c_1, vI c_2, vI c_3, vI c_4, vR x_8, vU] [] tgt
      refine XS.iconst X9.here hx rfl (hb hby at_108) ?_
      show OwnG p e below T9 m 109 #[vI p1, vI p2, vI p3, vI p4, vI p5, vI 1, vI c_1, vI c_2, vI c_3, vI c_4, vR x_8, vU] [(.int 0)] tgt
      refine XS.istore X9.here hx rfl (hb hby at_109) rfl (l' := #[vI p1, vI p2, vI p3, vI p4, vI p5, vI 1, vI c_1, vI c_2, vI c_3, vI c_4, vR x_8, vI 0]) rfl ?_
      show OwnG p e below T9 m 111 #[vI p1, vI p2, vI p3, vI p4, vI p5, vI 1, vI c_1, vI c_2, vI c_3, vI c_4, vR x_8, vI 0] [] tgt
      refine XS.aload X9.here hx rfl (hb hby at_111) rfl rfl ?_
      exact kgo
    obtain ⟨_, _, ⟨T12, L12, k12, n12⟩, -, X12, ⟨Lc12, hQ12, l12, y12, z12⟩, st12⟩ := Jvm.LawKit.callS X9 hx (y := mN24) hown (mvT hZ (own_w hw 31 rfl)) (mvT hZ (own_w hw 32 rfl)) (mvT hZ (own_w hw 33 rfl)) (mvT hZ (own_w hw 34 rfl)) (by decide) (backOf (W := 0) (rm_isT_1 l Z a0 hw [] wG1 wG3 cx hEL T8.heap n0 Ol8 x_8 t_8 k_8 cd_8 N_8 vs_8 c_1 fq8_0 fq8_1 fq8_2 fq8_3 pq8_0) hZ (own_w hw 34 rfl) (own_w hw 33 rfl) (by decide) (by decide)) (g := (mkF m 113 #[vI p1, vI p2, vI p3, vI p4, vI p5, vI 1, vI c_1, vI c_2, vI c_3, vI c_4, vR x_8, vI 0] [(.ref x_8)])) rfl (by rw [hml]; rfl) (argsL := [(.ref x_8)]) (rest := []) (lenOf pd_92693199 rfl) rfl (Nat.le_of_eq rfl) (hb hby at_113) (fun _ _ => ⟨rfl, eq9, (by decide : 4 + 0 ≤ _), (by decide : 8 + 0 ≤ _)⟩)
    dsimp only [Pt.U, Pt.locs, Pt.cells, Pt.slots] at X12 l12 y12 z12 st12 hQ12
    subst l12 y12 z12
    obtain ⟨r_12, rfl, Nq12, eq12, pq12_0⟩ := hQ12
    refine OwnGoes.step (T' := T12) (g' := (mkF m 116 #[vI p1, vI p2, vI p3, vI p4, vI p5, vI 1, vI c_1, vI c_2, vI c_3, vI c_4, vR x_8, vI 0] [(.int r_12)])) st12 ?_
    have N12 := Fr.app N9 Nq12
    rcases pq12_0 with ⟨rfl, hT⟩ | ⟨rfl, hT⟩
    · skip
      exact absurd hT ok_c_1
    refine OwnGoes.step (T' := T12) (g' := (mkF m 126 #[vI p1, vI p2, vI p3, vI p4, vI p5, vI 1, vI c_1, vI c_2, vI c_3, vI c_4, vR x_8, vI 0] [(.int 1)])) (fun tgt kgo => ?_) ?_
    · refine XS.iload X12.here hx rfl (hb hby at_116) rfl ?_
      show OwnG p e below T12 m 118 #[vI p1, vI p2, vI p3, vI p4, vI p5, vI 1, vI c_1, vI c_2, vI c_3, vI c_4, vR x_8, vI 0] [(.int 0), (.int 0)] tgt
      refine XS.icmpNo X12.here hx rfl (hb hby at_118) rfl (teq (by decide : (0 : Int32) = (0 : Int32))).2 ?_
      show OwnG p e below T12 m 121 #[vI p1, vI p2, vI p3, vI p4, vI p5, vI 1, vI c_1, vI c_2, vI c_3, vI c_4, vR x_8, vI 0] [] tgt
      refine XS.iconst X12.here hx rfl (hb hby at_121) ?_
      show OwnG p e below T12 m 122 #[vI p1, vI p2, vI p3, vI p4, vI p5, vI 1, vI c_1, vI c_2, vI c_3, vI c_4, vR x_8, vI 0] [(.int 1)] tgt
      refine XS.goto X12.here hx rfl (pc0 := 122) (pc' := 126) rfl (hb hby at_122) (by decide) (by decide) ?_
      exact kgo
    refine own_leaveW (Z := Z) (EL := consts_1) X12 hS0 (eq12 ▸ hk8) hlk (v := some (.int 1)) (fun h => by rw [Bd.returns] at h; cases h) (fun fs hr => retN X12 hx (t := .boolean) Bd.returns (by simp) (hb hby at_126) (by rw [(by decide : nar .boolean (1 : Int32) = (1 : Int32))]; exact hr)) (by decide) (by decide) ?_ ?_
    · rw [hh, eq12]
      exact R8.trans (CHv.at X12 hZ hEL R8.1)
    show Q_law Z p1 p2 p3 p4 p5 h0 n0 _ T12.heap _
    rw [eq12]
    exact ⟨rfl, N12⟩
  · skip
    refine OwnGoes.step (T' := T4) (g' := (mkF m 43 #[vI p1, vI p2, vI p3, vI p4, vI p5, vI 2, vI c_1, vI c_2, vI c_3, vI c_4, vU, vU] [(.int c_4), (.int c_3), (.int c_2), (.int c_1), (.int 2)])) (fun tgt kgo => ?_) ?_
    · refine XS.iload X4.here hx rfl (hb hby at_33) rfl ?_
      show OwnG p e below T4 m 35 #[vI p1, vI p2, vI p3, vI p4, vI p5, vI 2, vI c_1, vI c_2, vI c_3, vI c_4, vU, vU] [(.int 2)] tgt
      refine XS.iload X4.here hx rfl (hb hby at_35) rfl ?_
      show OwnG p e below T4 m 37 #[vI p1, vI p2, vI p3, vI p4, vI p5, vI 2, vI c_1, vI c_2, vI c_3, vI c_4, vU, vU] [(.int c_1), (.int 2)] tgt
      refine XS.iload X4.here hx rfl (hb hby at_37) rfl ?_
      show OwnG p e below T4 m 39 #[vI p1, vI p2, vI p3, vI p4, vI p5, vI 2, vI c_1, vI c_2, vI c_3, vI c_4, vU, vU] [(.int c_2), (.int c_1), (.int 2)] tgt
      refine XS.iload X4.here hx rfl (hb hby at_39) rfl ?_
      show OwnG p e below T4 m 41 #[vI p1, vI p2, vI p3, vI p4, vI p5, vI 2, vI c_1, vI c_2, vI c_3, vI c_4, vU, vU] [(.int c_3), (.int c_2), (.int c_1), (.int 2)] tgt
      refine XS.iload X4.here hx rfl (hb hby at_41) rfl ?_
      exact kgo
    obtain ⟨_, _, ⟨T14, L14, k14, n14⟩, -, X14, ⟨Lc14, hQ14, l14, y14, z14⟩, st14⟩ := Jvm.LawKit.callS X4 hx (y := mN23) hown (mvT hZ (own_w hw 6 rfl)) (mvT hZ (own_w hw 7 rfl)) (mvT hZ (own_w hw 3 rfl)) (mvT hZ (own_w hw 8 rfl)) (by decide) (backOf (W := 0) (rm_str_2 l Z a0 hw [] wG1 wG3 cx hEL h0 n0 X00 c_1 c_2 c_3 c_4 pq1_0 pq2_0) hZ (own_w hw 8 rfl) (own_w hw 3 rfl) (by decide) (by decide)) (g := (mkF m 43 #[vI p1, vI p2, vI p3, vI p4, vI p5, vI 2, vI c_1, vI c_2, vI c_3, vI c_4, vU, vU] [(.int c_4), (.int c_3), (.int c_2), (.int c_1), (.int 2)])) rfl (by rw [hml]; rfl) (argsL := [(.int 2), (.int c_1), (.int c_2), (.int c_3), (.int c_4)]) (rest := []) (lenOf pd_36595007 rfl) rfl (Nat.le_of_eq rfl) (hb hby at_43) (fun _ _ => ⟨rfl, eq4, (by decide : 0 + 4 ≤ _), (by decide : 0 + 12 ≤ _)⟩)
    dsimp only [Pt.U, Pt.locs, Pt.cells, Pt.slots] at X14 l14 y14 z14 st14 hQ14
    subst l14 y14 z14
    obtain ⟨x_14, t_14, k_14, N_14, vs_14, cd_14, rfl, Nq14, Kq14, zq14_0, zq14_1, fq14_0, fq14_1, fq14_2, fq14_3, pq14_0⟩ := hQ14
    refine OwnGoes.step (T' := T14) (g' := (mkF m 46 #[vI p1, vI p2, vI p3, vI p4, vI p5, vI 2, vI c_1, vI c_2, vI c_3, vI c_4, vU, vU] [(.ref x_14)])) st14 ?_
    have N14 := Fr.app N4 Nq14
    have g_x_14 : n0 ≤ x_14 := Nat.le_trans (Nat.le_trans Z0 K0.1) zq14_0
    have s_x_14 : h0.size ≤ x_14 := Nat.le_trans K0.1 zq14_0
    have g_t_14 : n0 ≤ t_14 := Nat.le_trans (Nat.le_trans Z0 K0.1) zq14_1
    have s_t_14 : h0.size ≤ t_14 := Nat.le_trans K0.1 zq14_1
    have Ol14 := X00.keep Kq14 all0
    have K14 : Keep h0 T14.heap ([] : List Addr) := K0.trans Kq14 all0
    have R14 := R0.trans (CHr.keep Kq14 sf0 R0.1)
    have hk14 := Nat.le_trans hk0 Kq14.1
    refine OwnGoes.step (T' := T14) (g' := (mkF m 56 #[vI p1, vI p2, vI p3, vI p4, vI p5, vI 2, vI c_1, vI c_2, vI c_3, vI c_4, vR x_14, vU] [(.int c_1)])) (fun tgt kgo => ?_) ?_
    · refine XS.astore X14.here hx rfl (hb hby at_46) rfl rfl (l' := #[vI p1, vI p2, vI p3, vI p4, vI p5, vI 2, vI c_1, vI c_2, vI c_3, vI c_4, vR x_14, vU]) rfl ?_
      show OwnG p e below T14 m 48 #[vI p1, vI p2, vI p3, vI p4, vI p5, vI 2, vI c_1, vI c_2, vI c_3, vI c_4, vR x_14, vU] [] tgt
      refine XS.iload X14.here hx rfl (hb hby at_48) rfl ?_
      show OwnG p e below T14 m 50 #[vI p1, vI p2, vI p3, vI p4, vI p5, vI 2, vI c_1, vI c_2, vI c_3, vI c_4, vR x_14, vU] [(.int 2)] tgt
      refine XS.iconst X14.here hx rfl (hb hby at_50) ?_
      show OwnG p e below T14 m 51 #[vI p1, vI p2, vI p3, vI p4, vI p5, vI 2, vI c_1, vI c_2, vI c_3, vI c_4, vR x_14, vU] [(.int 1), (.int 2)] tgt
      refine XS.icmpNo X14.here hx rfl (hb hby at_51) rfl (flt (by decide : ¬ ((2 : Int32) < (1 : Int32)))).1 ?_
      show OwnG p e below T14 m 54 #[vI p1, vI p2, vI p3, vI p4, vI p5, vI 2, vI c_1, vI c_2, vI c_3, vI c_4, vR x_14, vU] [] tgt
      refine XS.iload X14.here hx rfl (hb hby at_54) rfl ?_
      exact kgo
    obtain ⟨_, _, ⟨T15, L15, k15, n15⟩, -, X15, ⟨Lc15, hQ15, l15, y15, z15⟩, st15⟩ := Jvm.LawKit.callS X14 hx (y := mN22) hown (mvT hZ (own_w hw 51 rfl)) (mvT hZ (own_w hw 52 rfl)) (mvT hZ (own_w hw 3 rfl)) (mvT hZ (own_w hw 53 rfl)) (by decide) (backOf (W := 0) (rm_ok l Z a0 hw [] wG1 wG3 cx hEL T14.heap n0 Ol14 c_1) hZ (own_w hw 53 rfl) (own_w hw 3 rfl) (by decide) (by decide)) (g := (mkF m 56 #[vI p1, vI p2, vI p3, vI p4, vI p5, vI 2, vI c_1, vI c_2, vI c_3, vI c_4, vR x_14, vU] [(.int c_1)])) rfl (by rw [hml]; rfl) (argsL := [(.int c_1)]) (rest := []) (lenOf pd_92619605 rfl) rfl (Nat.le_of_eq rfl) (hb hby at_56) (fun _ _ => ⟨rfl, rfl, (by decide : 4 + 0 ≤ _), (by decide : 12 + 0 ≤ _)⟩)
    dsimp only [Pt.U, Pt.locs, Pt.cells, Pt.slots] at X15 l15 y15 z15 st15 hQ15
    subst l15 y15 z15
    obtain ⟨r_15, rfl, Nq15, eq15, pq15_0⟩ := hQ15
    refine OwnGoes.step (T' := T15) (g' := (mkF m 59 #[vI p1, vI p2, vI p3, vI p4, vI p5, vI 2, vI c_1, vI c_2, vI c_3, vI c_4, vR x_14, vU] [(.int r_15)])) st15 ?_
    have N15 := Fr.app N14 Nq15
    rcases pq15_0 with ⟨rfl, ok_c_1⟩ | ⟨rfl, ok_c_1⟩
    · skip
      refine OwnGoes.step (T' := T15) (g' := (mkF m 70 #[vI p1, vI p2, vI p3, vI p4, vI p5, vI 2, vI c_1, vI c_2, vI c_3, vI c_4, vR x_14, vU] [(.int c_2)])) (fun tgt kgo => ?_) ?_
      · refine XS.ifNo X15.here hx rfl (hb hby at_59) rfl ((if0 _ _).trans (feq (by decide : ¬ ((1 : Int32) = (0 : Int32)))).1) ?_
        show OwnG p e below T15 m 62 #[vI p1, vI p2, vI p3, vI p4, vI p5, vI 2, vI c_1, vI c_2, vI c_3, vI c_4, vR x_14, vU] [] tgt
        refine XS.iload X15.here hx rfl (hb hby at_62) rfl ?_
        show OwnG p e below T15 m 64 #[vI p1, vI p2, vI p3, vI p4, vI p5, vI 2, vI c_1, vI c_2, vI c_3, vI c_4, vR x_14, vU] [(.int 2)] tgt
        refine XS.iconst X15.here hx rfl (hb hby at_64) ?_
        show OwnG p e below T15 m 65 #[vI p1, vI p2, vI p3, vI p4, vI p5, vI 2, vI c_1, vI c_2, vI c_3, vI c_4, vR x_14, vU] [(.int 2), (.int 2)] tgt
        refine XS.icmpNo X15.here hx rfl (hb hby at_65) rfl (flt (by decide : ¬ ((2 : Int32) < (2 : Int32)))).1 ?_
        show OwnG p e below T15 m 68 #[vI p1, vI p2, vI p3, vI p4, vI p5, vI 2, vI c_1, vI c_2, vI c_3, vI c_4, vR x_14, vU] [] tgt
        refine XS.iload X15.here hx rfl (hb hby at_68) rfl ?_
        exact kgo
      obtain ⟨_, _, ⟨T16, L16, k16, n16⟩, -, X16, ⟨Lc16, hQ16, l16, y16, z16⟩, st16⟩ := Jvm.LawKit.callS X15 hx (y := mN22) hown (mvT hZ (own_w hw 51 rfl)) (mvT hZ (own_w hw 52 rfl)) (mvT hZ (own_w hw 3 rfl)) (mvT hZ (own_w hw 53 rfl)) (by decide) (backOf (W := 0) (rm_ok l Z a0 hw [] wG1 wG3 cx hEL T14.heap n0 Ol14 c_2) hZ (own_w hw 53 rfl) (own_w hw 3 rfl) (by decide) (by decide)) (g := (mkF m 70 #[vI p1, vI p2, vI p3, vI p4, vI p5, vI 2, vI c_1, vI c_2, vI c_3, vI c_4, vR x_14, vU] [(.int c_2)])) rfl (by rw [hml]; rfl) (argsL := [(.int c_2)]) (rest := []) (lenOf pd_92619605 rfl) rfl (Nat.le_of_eq rfl) (hb hby at_70) (fun _ _ => ⟨rfl, eq15, (by decide : 4 + 0 ≤ _), (by decide : 12 + 0 ≤ _)⟩)
      dsimp only [Pt.U, Pt.locs, Pt.cells, Pt.slots] at X16 l16 y16 z16 st16 hQ16
      subst l16 y16 z16
      obtain ⟨r_16, rfl, Nq16, eq16, pq16_0⟩ := hQ16
      refine OwnGoes.step (T' := T16) (g' := (mkF m 73 #[vI p1, vI p2, vI p3, vI p4, vI p5, vI 2, vI c_1, vI c_2, vI c_3, vI c_4, vR x_14, vU] [(.int r_16)])) st16 ?_
      have N16 := Fr.app N15 Nq16
      rcases pq16_0 with ⟨rfl, ok_c_2⟩ | ⟨rfl, ok_c_2⟩
      · skip
        refine OwnGoes.step (T' := T16) (g' := (mkF m 113 #[vI p1, vI p2, vI p3, vI p4, vI p5, vI 2, vI c_1, vI c_2, vI c_3, vI c_4, vR x_14, vI 1] [(.ref x_14)])) (fun tgt kgo => ?_) ?_
        · refine XS.ifNo X16.here hx rfl (hb hby at_73) rfl ((if0 _ _).trans (feq (by decide : ¬ ((1 : Int32) = (0 : Int32)))).1) ?_
          show OwnG p e below T16 m 76 #[vI p1, vI p2, vI p3, vI p4, vI p5, vI 2, vI c_1, vI c_2, vI c_3, vI c_4, vR x_14, vU] [] tgt
          refine XS.iload X16.here hx rfl (hb hby at_76) rfl ?_
          show OwnG p e below T16 m 78 #[vI p1, vI p2, vI p3, vI p4, vI p5, vI 2, vI c_1, vI c_2, vI c_3, vI c_4, vR x_14, vU] [(.int 2)] tgt
          refine XS.iconst X16.here hx rfl (hb hby at_78) ?_
          show OwnG p e below T16 m 79 #[vI p1, vI p2, vI p3, vI p4, vI p5, vI 2, vI c_1, vI c_2, vI c_3, vI c_4, vR x_14, vU] [(.int 3), (.int 2)] tgt
          refine XS.icmpYes X16.here hx rfl (pc0 := 79) (pc' := 90) rfl (hb hby at_79) rfl (tlt (by decide : (2 : Int32) < (3 : Int32))).1 (by decide) (by decide) ?_
          show OwnG p e below T16 m 90 #[vI p1, vI p2, vI p3, vI p4, vI p5, vI 2, vI c_1, vI c_2, vI c_3, vI c_4, vR x_14, vU] [] tgt
          refine XS.iload X16.here hx rfl (hb hby at_90) rfl ?_
          show OwnG p e below T16 m 92 #[vI p1, vI p2, vI p3, vI p4, vI p5, vI 2, vI c_1, vI c_2, vI c_3, vI c_4, vR x_14, vU] [(.int 2)] tgt
          refine XS.iconst X16.here hx rfl (hb hby at_92) ?_
          show OwnG p e below T16 m 93 #[vI p1, vI p2, vI p3, vI p4, vI p5, vI 2, vI c_1, vI c_2, vI c_3, vI c_4, vR x_14, vU] [(.int 4), (.int 2)] tgt
          refine XS.icmpYes X16.here hx rfl (pc0 := 93) (pc' := 104) rfl (hb hby at_93) rfl (tlt (by decide : (2 : Int32) < (4 : Int32))).1 (by decide) (by decide) ?_
          show OwnG p e below T16 m 104 #[vI p1, vI p2, vI p3, vI p4, vI p5, vI 2, vI c_1, vI c_2, vI c_3, vI c_4, vR x_14, vU] [] tgt
          refine XS.iconst X16.here hx rfl (hb hby at_104) ?_
          show OwnG p e below T16 m 105 #[vI p1, vI p2, vI p3, vI p4, vI p5, vI 2, vI c_1, vI c_2, vI c_3, vI c_4, vR x_14, vU] [(.int 1)] tgt
          refine XS.goto X16.here hx rfl (pc0 := 105) (pc' := 109) rfl (hb hby at_105) (by decide) (by decide) ?_
          show OwnG p e below T16 m 109 #[vI p1, vI p2, vI p3, vI p4, vI p5, vI 2, vI c_1, vI c_2, vI c_3, vI c_4, vR x_14, vU] [(.int 1)] tgt
          refine XS.istore X16.here hx rfl (hb hby at_109) rfl (l' := #[vI p1, vI p2, vI p3, vI p4, vI p5, vI 2, vI c_1, vI c_2, vI c_3, vI c_4, vR x_14, vI 1]) rfl ?_
          show OwnG p e below T16 m 111 #[vI p1, vI p2, vI p3, vI p4, vI p5, vI 2, vI c_1, vI c_2, vI c_3, vI c_4, vR x_14, vI 1] [] tgt
          refine XS.aload X16.here hx rfl (hb hby at_111) rfl rfl ?_
          exact kgo
        obtain ⟨_, _, ⟨T17, L17, k17, n17⟩, -, X17, ⟨Lc17, hQ17, l17, y17, z17⟩, st17⟩ := Jvm.LawKit.callS X16 hx (y := mN24) hown (mvT hZ (own_w hw 31 rfl)) (mvT hZ (own_w hw 32 rfl)) (mvT hZ (own_w hw 33 rfl)) (mvT hZ (own_w hw 34 rfl)) (by decide) (backOf (W := 0) (rm_isT_2 l Z a0 hw [] wG1 wG3 cx hEL T14.heap n0 Ol14 x_14 t_14 k_14 cd_14 N_14 vs_14 c_1 c_2 fq14_0 fq14_1 fq14_2 fq14_3 pq14_0) hZ (own_w hw 34 rfl) (own_w hw 33 rfl) (by decide) (by decide)) (g := (mkF m 113 #[vI p1, vI p2, vI p3, vI p4, vI p5, vI 2, vI c_1, vI c_2, vI c_3, vI c_4, vR x_14, vI 1] [(.ref x_14)])) rfl (by rw [hml]; rfl) (argsL := [(.ref x_14)]) (rest := []) (lenOf pd_92693199 rfl) rfl (Nat.le_of_eq rfl) (hb hby at_113) (fun _ _ => ⟨rfl, eq16, (by decide : 4 + 0 ≤ _), (by decide : 12 + 0 ≤ _)⟩)
        dsimp only [Pt.U, Pt.locs, Pt.cells, Pt.slots] at X17 l17 y17 z17 st17 hQ17
        subst l17 y17 z17
        obtain ⟨r_17, rfl, Nq17, eq17, pq17_0⟩ := hQ17
        refine OwnGoes.step (T' := T17) (g' := (mkF m 116 #[vI p1, vI p2, vI p3, vI p4, vI p5, vI 2, vI c_1, vI c_2, vI c_3, vI c_4, vR x_14, vI 1] [(.int r_17)])) st17 ?_
        have N17 := Fr.app N16 Nq17
        rcases pq17_0 with ⟨rfl, hT⟩ | ⟨rfl, hT⟩
        · skip
          refine OwnGoes.step (T' := T17) (g' := (mkF m 126 #[vI p1, vI p2, vI p3, vI p4, vI p5, vI 2, vI c_1, vI c_2, vI c_3, vI c_4, vR x_14, vI 1] [(.int 1)])) (fun tgt kgo => ?_) ?_
          · refine XS.iload X17.here hx rfl (hb hby at_116) rfl ?_
            show OwnG p e below T17 m 118 #[vI p1, vI p2, vI p3, vI p4, vI p5, vI 2, vI c_1, vI c_2, vI c_3, vI c_4, vR x_14, vI 1] [(.int 1), (.int 1)] tgt
            refine XS.icmpNo X17.here hx rfl (hb hby at_118) rfl (teq (by decide : (1 : Int32) = (1 : Int32))).2 ?_
            show OwnG p e below T17 m 121 #[vI p1, vI p2, vI p3, vI p4, vI p5, vI 2, vI c_1, vI c_2, vI c_3, vI c_4, vR x_14, vI 1] [] tgt
            refine XS.iconst X17.here hx rfl (hb hby at_121) ?_
            show OwnG p e below T17 m 122 #[vI p1, vI p2, vI p3, vI p4, vI p5, vI 2, vI c_1, vI c_2, vI c_3, vI c_4, vR x_14, vI 1] [(.int 1)] tgt
            refine XS.goto X17.here hx rfl (pc0 := 122) (pc' := 126) rfl (hb hby at_122) (by decide) (by decide) ?_
            exact kgo
          refine own_leaveW (Z := Z) (EL := consts_1) X17 hS0 (eq17 ▸ hk14) hlk (v := some (.int 1)) (fun h => by rw [Bd.returns] at h; cases h) (fun fs hr => retN X17 hx (t := .boolean) Bd.returns (by simp) (hb hby at_126) (by rw [(by decide : nar .boolean (1 : Int32) = (1 : Int32))]; exact hr)) (by decide) (by decide) ?_ ?_
          · rw [hh, eq17]
            exact R14.trans (CHv.at X17 hZ hEL R14.1)
          show Q_law Z p1 p2 p3 p4 p5 h0 n0 _ T17.heap _
          rw [eq17]
          exact ⟨rfl, N17⟩
        exact absurd ⟨ok_c_1, ok_c_2⟩ hT
      refine OwnGoes.step (T' := T16) (g' := (mkF m 113 #[vI p1, vI p2, vI p3, vI p4, vI p5, vI 2, vI c_1, vI c_2, vI c_3, vI c_4, vR x_14, vI 0] [(.ref x_14)])) (fun tgt kgo => ?_) ?_
      · refine XS.ifYes X16.here hx rfl (pc0 := 73) (pc' := 108) rfl (hb hby at_73) rfl ((if0 _ _).trans (teq (by decide : (0 : Int32) = (0 : Int32))).1) (by decide) (by decide) ?_
        show OwnG p e below T16 m 108 #[vI p1, vI p2, vI p3, vI p4, vI p5, vI 2, vI c_1, vI c_2, vI c_3, vI c_4, vR x_14, vU] [] tgt
        refine XS.iconst X16.here hx rfl (hb hby at_108) ?_
        show OwnG p e below T16 m 109 #[vI p1, vI p2, vI p3, vI p4, vI p5, vI 2, vI c_1, vI c_2, vI c_3, vI c_4, vR x_14, vU] [(.int 0)] tgt
        refine XS.istore X16.here hx rfl (hb hby at_109) rfl (l' := #[vI p1, vI p2, vI p3, vI p4, vI p5, vI 2, vI c_1, vI c_2, vI c_3, vI c_4, vR x_14, vI 0]) rfl ?_
        show OwnG p e below T16 m 111 #[vI p1, vI p2, vI p3, vI p4, vI p5, vI 2, vI c_1, vI c_2, vI c_3, vI c_4, vR x_14, vI 0] [] tgt
        refine XS.aload X16.here hx rfl (hb hby at_111) rfl rfl ?_
        exact kgo
      obtain ⟨_, _, ⟨T19, L19, k19, n19⟩, -, X19, ⟨Lc19, hQ19, l19, y19, z19⟩, st19⟩ := Jvm.LawKit.callS X16 hx (y := mN24) hown (mvT hZ (own_w hw 31 rfl)) (mvT hZ (own_w hw 32 rfl)) (mvT hZ (own_w hw 33 rfl)) (mvT hZ (own_w hw 34 rfl)) (by decide) (backOf (W := 0) (rm_isT_2 l Z a0 hw [] wG1 wG3 cx hEL T14.heap n0 Ol14 x_14 t_14 k_14 cd_14 N_14 vs_14 c_1 c_2 fq14_0 fq14_1 fq14_2 fq14_3 pq14_0) hZ (own_w hw 34 rfl) (own_w hw 33 rfl) (by decide) (by decide)) (g := (mkF m 113 #[vI p1, vI p2, vI p3, vI p4, vI p5, vI 2, vI c_1, vI c_2, vI c_3, vI c_4, vR x_14, vI 0] [(.ref x_14)])) rfl (by rw [hml]; rfl) (argsL := [(.ref x_14)]) (rest := []) (lenOf pd_92693199 rfl) rfl (Nat.le_of_eq rfl) (hb hby at_113) (fun _ _ => ⟨rfl, eq16, (by decide : 4 + 0 ≤ _), (by decide : 12 + 0 ≤ _)⟩)
      dsimp only [Pt.U, Pt.locs, Pt.cells, Pt.slots] at X19 l19 y19 z19 st19 hQ19
      subst l19 y19 z19
      obtain ⟨r_19, rfl, Nq19, eq19, pq19_0⟩ := hQ19
      refine OwnGoes.step (T' := T19) (g' := (mkF m 116 #[vI p1, vI p2, vI p3, vI p4, vI p5, vI 2, vI c_1, vI c_2, vI c_3, vI c_4, vR x_14, vI 0] [(.int r_19)])) st19 ?_
      have N19 := Fr.app N16 Nq19
      rcases pq19_0 with ⟨rfl, hT⟩ | ⟨rfl, hT⟩
      · skip
        exact absurd hT.2 ok_c_2
      refine OwnGoes.step (T' := T19) (g' := (mkF m 126 #[vI p1, vI p2, vI p3, vI p4, vI p5, vI 2, vI c_1, vI c_2, vI c_3, vI c_4, vR x_14, vI 0] [(.int 1)])) (fun tgt kgo => ?_) ?_
      · refine XS.iload X19.here hx rfl (hb hby at_116) rfl ?_
        show OwnG p e below T19 m 118 #[vI p1, vI p2, vI p3, vI p4, vI p5, vI 2, vI c_1, vI c_2, vI c_3, vI c_4, vR x_14, vI 0] [(.int 0), (.int 0)] tgt
        refine XS.icmpNo X19.here hx rfl (hb hby at_118) rfl (teq (by decide : (0 : Int32) = (0 : Int32))).2 ?_
        show OwnG p e below T19 m 121 #[vI p1, vI p2, vI p3, vI p4, vI p5, vI 2, vI c_1, vI c_2, vI c_3, vI c_4, vR x_14, vI 0] [] tgt
        refine XS.iconst X19.here hx rfl (hb hby at_121) ?_
        show OwnG p e below T19 m 122 #[vI p1, vI p2, vI p3, vI p4, vI p5, vI 2, vI c_1, vI c_2, vI c_3, vI c_4, vR x_14, vI 0] [(.int 1)] tgt
        refine XS.goto X19.here hx rfl (pc0 := 122) (pc' := 126) rfl (hb hby at_122) (by decide) (by decide) ?_
        exact kgo
      refine own_leaveW (Z := Z) (EL := consts_1) X19 hS0 (eq19 ▸ hk14) hlk (v := some (.int 1)) (fun h => by rw [Bd.returns] at h; cases h) (fun fs hr => retN X19 hx (t := .boolean) Bd.returns (by simp) (hb hby at_126) (by rw [(by decide : nar .boolean (1 : Int32) = (1 : Int32))]; exact hr)) (by decide) (by decide) ?_ ?_
      · rw [hh, eq19]
        exact R14.trans (CHv.at X19 hZ hEL R14.1)
      show Q_law Z p1 p2 p3 p4 p5 h0 n0 _ T19.heap _
      rw [eq19]
      exact ⟨rfl, N19⟩
    refine OwnGoes.step (T' := T15) (g' := (mkF m 113 #[vI p1, vI p2, vI p3, vI p4, vI p5, vI 2, vI c_1, vI c_2, vI c_3, vI c_4, vR x_14, vI 0] [(.ref x_14)])) (fun tgt kgo => ?_) ?_
    · refine XS.ifYes X15.here hx rfl (pc0 := 59) (pc' := 108) rfl (hb hby at_59) rfl ((if0 _ _).trans (teq (by decide : (0 : Int32) = (0 : Int32))).1) (by decide) (by decide) ?_
      show OwnG p e below T15 m 108 #[vI p1, vI p2, vI p3, vI p4, vI p5, vI 2, vI c_1, vI c_2, vI c_3, vI c_4, vR x_14, vU] [] tgt
      refine XS.iconst X15.here hx rfl (hb hby at_108) ?_
      show OwnG p e below T15 m 109 #[vI p1, vI p2, vI p3, vI p4, vI p5, vI 2, vI c_1, vI c_2, vI c_3, vI c_4, vR x_14, vU] [(.int 0)] tgt
      refine XS.istore X15.here hx rfl (hb hby at_109) rfl (l' := #[vI p1, vI p2, vI p3, vI p4, vI p5, vI 2, vI c_1, vI c_2, vI c_3, vI c_4, vR x_14, vI 0]) rfl ?_
      show OwnG p e below T15 m 111 #[vI p1, vI p2, vI p3, vI p4, vI p5, vI 2, vI c_1, vI c_2, vI c_3, vI c_4, vR x_14, vI 0] [] tgt
      refine XS.aload X15.here hx rfl (hb hby at_111) rfl rfl ?_
      exact kgo
    obtain ⟨_, _, ⟨T21, L21, k21, n21⟩, -, X21, ⟨Lc21, hQ21, l21, y21, z21⟩, st21⟩ := Jvm.LawKit.callS X15 hx (y := mN24) hown (mvT hZ (own_w hw 31 rfl)) (mvT hZ (own_w hw 32 rfl)) (mvT hZ (own_w hw 33 rfl)) (mvT hZ (own_w hw 34 rfl)) (by decide) (backOf (W := 0) (rm_isT_2 l Z a0 hw [] wG1 wG3 cx hEL T14.heap n0 Ol14 x_14 t_14 k_14 cd_14 N_14 vs_14 c_1 c_2 fq14_0 fq14_1 fq14_2 fq14_3 pq14_0) hZ (own_w hw 34 rfl) (own_w hw 33 rfl) (by decide) (by decide)) (g := (mkF m 113 #[vI p1, vI p2, vI p3, vI p4, vI p5, vI 2, vI c_1, vI c_2, vI c_3, vI c_4, vR x_14, vI 0] [(.ref x_14)])) rfl (by rw [hml]; rfl) (argsL := [(.ref x_14)]) (rest := []) (lenOf pd_92693199 rfl) rfl (Nat.le_of_eq rfl) (hb hby at_113) (fun _ _ => ⟨rfl, eq15, (by decide : 4 + 0 ≤ _), (by decide : 12 + 0 ≤ _)⟩)
    dsimp only [Pt.U, Pt.locs, Pt.cells, Pt.slots] at X21 l21 y21 z21 st21 hQ21
    subst l21 y21 z21
    obtain ⟨r_21, rfl, Nq21, eq21, pq21_0⟩ := hQ21
    refine OwnGoes.step (T' := T21) (g' := (mkF m 116 #[vI p1, vI p2, vI p3, vI p4, vI p5, vI 2, vI c_1, vI c_2, vI c_3, vI c_4, vR x_14, vI 0] [(.int r_21)])) st21 ?_
    have N21 := Fr.app N15 Nq21
    rcases pq21_0 with ⟨rfl, hT⟩ | ⟨rfl, hT⟩
    · skip
      exact absurd hT.1 ok_c_1
    refine OwnGoes.step (T' := T21) (g' := (mkF m 126 #[vI p1, vI p2, vI p3, vI p4, vI p5, vI 2, vI c_1, vI c_2, vI c_3, vI c_4, vR x_14, vI 0] [(.int 1)])) (fun tgt kgo => ?_) ?_
    · refine XS.iload X21.here hx rfl (hb hby at_116) rfl ?_
      show OwnG p e below T21 m 118 #[vI p1, vI p2, vI p3, vI p4, vI p5, vI 2, vI c_1, vI c_2, vI c_3, vI c_4, vR x_14, vI 0] [(.int 0), (.int 0)] tgt
      refine XS.icmpNo X21.here hx rfl (hb hby at_118) rfl (teq (by decide : (0 : Int32) = (0 : Int32))).2 ?_
      show OwnG p e below T21 m 121 #[vI p1, vI p2, vI p3, vI p4, vI p5, vI 2, vI c_1, vI c_2, vI c_3, vI c_4, vR x_14, vI 0] [] tgt
      refine XS.iconst X21.here hx rfl (hb hby at_121) ?_
      show OwnG p e below T21 m 122 #[vI p1, vI p2, vI p3, vI p4, vI p5, vI 2, vI c_1, vI c_2, vI c_3, vI c_4, vR x_14, vI 0] [(.int 1)] tgt
      refine XS.goto X21.here hx rfl (pc0 := 122) (pc' := 126) rfl (hb hby at_122) (by decide) (by decide) ?_
      exact kgo
    refine own_leaveW (Z := Z) (EL := consts_1) X21 hS0 (eq21 ▸ hk14) hlk (v := some (.int 1)) (fun h => by rw [Bd.returns] at h; cases h) (fun fs hr => retN X21 hx (t := .boolean) Bd.returns (by simp) (hb hby at_126) (by rw [(by decide : nar .boolean (1 : Int32) = (1 : Int32))]; exact hr)) (by decide) (by decide) ?_ ?_
    · rw [hh, eq21]
      exact R14.trans (CHv.at X21 hZ hEL R14.1)
    show Q_law Z p1 p2 p3 p4 p5 h0 n0 _ T21.heap _
    rw [eq21]
    exact ⟨rfl, N21⟩
  · skip
    refine OwnGoes.step (T' := T4) (g' := (mkF m 43 #[vI p1, vI p2, vI p3, vI p4, vI p5, vI 3, vI c_1, vI c_2, vI c_3, vI c_4, vU, vU] [(.int c_4), (.int c_3), (.int c_2), (.int c_1), (.int 3)])) (fun tgt kgo => ?_) ?_
    · refine XS.iload X4.here hx rfl (hb hby at_33) rfl ?_
      show OwnG p e below T4 m 35 #[vI p1, vI p2, vI p3, vI p4, vI p5, vI 3, vI c_1, vI c_2, vI c_3, vI c_4, vU, vU] [(.int 3)] tgt
      refine XS.iload X4.here hx rfl (hb hby at_35) rfl ?_
      show OwnG p e below T4 m 37 #[vI p1, vI p2, vI p3, vI p4, vI p5, vI 3, vI c_1, vI c_2, vI c_3, vI c_4, vU, vU] [(.int c_1), (.int 3)] tgt
      refine XS.iload X4.here hx rfl (hb hby at_37) rfl ?_
      show OwnG p e below T4 m 39 #[vI p1, vI p2, vI p3, vI p4, vI p5, vI 3, vI c_1, vI c_2, vI c_3, vI c_4, vU, vU] [(.int c_2), (.int c_1), (.int 3)] tgt
      refine XS.iload X4.here hx rfl (hb hby at_39) rfl ?_
      show OwnG p e below T4 m 41 #[vI p1, vI p2, vI p3, vI p4, vI p5, vI 3, vI c_1, vI c_2, vI c_3, vI c_4, vU, vU] [(.int c_3), (.int c_2), (.int c_1), (.int 3)] tgt
      refine XS.iload X4.here hx rfl (hb hby at_41) rfl ?_
      exact kgo
    obtain ⟨_, _, ⟨T23, L23, k23, n23⟩, -, X23, ⟨Lc23, hQ23, l23, y23, z23⟩, st23⟩ := Jvm.LawKit.callS X4 hx (y := mN23) hown (mvT hZ (own_w hw 6 rfl)) (mvT hZ (own_w hw 7 rfl)) (mvT hZ (own_w hw 3 rfl)) (mvT hZ (own_w hw 8 rfl)) (by decide) (backOf (W := 0) (rm_str_3 l Z a0 hw [] wG1 wG3 cx hEL h0 n0 X00 c_1 c_2 c_3 c_4 pq1_0 pq2_0 pq3_0) hZ (own_w hw 8 rfl) (own_w hw 3 rfl) (by decide) (by decide)) (g := (mkF m 43 #[vI p1, vI p2, vI p3, vI p4, vI p5, vI 3, vI c_1, vI c_2, vI c_3, vI c_4, vU, vU] [(.int c_4), (.int c_3), (.int c_2), (.int c_1), (.int 3)])) rfl (by rw [hml]; rfl) (argsL := [(.int 3), (.int c_1), (.int c_2), (.int c_3), (.int c_4)]) (rest := []) (lenOf pd_36595007 rfl) rfl (Nat.le_of_eq rfl) (hb hby at_43) (fun _ _ => ⟨rfl, eq4, (by decide : 0 + 4 ≤ _), (by decide : 0 + 16 ≤ _)⟩)
    dsimp only [Pt.U, Pt.locs, Pt.cells, Pt.slots] at X23 l23 y23 z23 st23 hQ23
    subst l23 y23 z23
    obtain ⟨x_23, t_23, k_23, N_23, vs_23, cd_23, rfl, Nq23, Kq23, zq23_0, zq23_1, fq23_0, fq23_1, fq23_2, fq23_3, pq23_0⟩ := hQ23
    refine OwnGoes.step (T' := T23) (g' := (mkF m 46 #[vI p1, vI p2, vI p3, vI p4, vI p5, vI 3, vI c_1, vI c_2, vI c_3, vI c_4, vU, vU] [(.ref x_23)])) st23 ?_
    have N23 := Fr.app N4 Nq23
    have g_x_23 : n0 ≤ x_23 := Nat.le_trans (Nat.le_trans Z0 K0.1) zq23_0
    have s_x_23 : h0.size ≤ x_23 := Nat.le_trans K0.1 zq23_0
    have g_t_23 : n0 ≤ t_23 := Nat.le_trans (Nat.le_trans Z0 K0.1) zq23_1
    have s_t_23 : h0.size ≤ t_23 := Nat.le_trans K0.1 zq23_1
    have Ol23 := X00.keep Kq23 all0
    have K23 : Keep h0 T23.heap ([] : List Addr) := K0.trans Kq23 all0
    have R23 := R0.trans (CHr.keep Kq23 sf0 R0.1)
    have hk23 := Nat.le_trans hk0 Kq23.1
    refine OwnGoes.step (T' := T23) (g' := (mkF m 56 #[vI p1, vI p2, vI p3, vI p4, vI p5, vI 3, vI c_1, vI c_2, vI c_3, vI c_4, vR x_23, vU] [(.int c_1)])) (fun tgt kgo => ?_) ?_
    · refine XS.astore X23.here hx rfl (hb hby at_46) rfl rfl (l' := #[vI p1, vI p2, vI p3, vI p4, vI p5, vI 3, vI c_1, vI c_2, vI c_3, vI c_4, vR x_23, vU]) rfl ?_
      show OwnG p e below T23 m 48 #[vI p1, vI p2, vI p3, vI p4, vI p5, vI 3, vI c_1, vI c_2, vI c_3, vI c_4, vR x_23, vU] [] tgt
      refine XS.iload X23.here hx rfl (hb hby at_48) rfl ?_
      show OwnG p e below T23 m 50 #[vI p1, vI p2, vI p3, vI p4, vI p5, vI 3, vI c_1, vI c_2, vI c_3, vI c_4, vR x_23, vU] [(.int 3)] tgt
      refine XS.iconst X23.here hx rfl (hb hby at_50) ?_
      show OwnG p e below T23 m 51 #[vI p1, vI p2, vI p3, vI p4, vI p5, vI 3, vI c_1, vI c_2, vI c_3, vI c_4, vR x_23, vU] [(.int 1), (.int 3)] tgt
      refine XS.icmpNo X23.here hx rfl (hb hby at_51) rfl (flt (by decide : ¬ ((3 : Int32) < (1 : Int32)))).1 ?_
      show OwnG p e below T23 m 54 #[vI p1, vI p2, vI p3, vI p4, vI p5, vI 3, vI c_1, vI c_2, vI c_3, vI c_4, vR x_23, vU] [] tgt
      refine XS.iload X23.here hx rfl (hb hby at_54) rfl ?_
      exact kgo
    obtain ⟨_, _, ⟨T24, L24, k24, n24⟩, -, X24, ⟨Lc24, hQ24, l24, y24, z24⟩, st24⟩ := Jvm.LawKit.callS X23 hx (y := mN22) hown (mvT hZ (own_w hw 51 rfl)) (mvT hZ (own_w hw 52 rfl)) (mvT hZ (own_w hw 3 rfl)) (mvT hZ (own_w hw 53 rfl)) (by decide) (backOf (W := 0) (rm_ok l Z a0 hw [] wG1 wG3 cx hEL T23.heap n0 Ol23 c_1) hZ (own_w hw 53 rfl) (own_w hw 3 rfl) (by decide) (by decide)) (g := (mkF m 56 #[vI p1, vI p2, vI p3, vI p4, vI p5, vI 3, vI c_1, vI c_2, vI c_3, vI c_4, vR x_23, vU] [(.int c_1)])) rfl (by rw [hml]; rfl) (argsL := [(.int c_1)]) (rest := []) (lenOf pd_92619605 rfl) rfl (Nat.le_of_eq rfl) (hb hby at_56) (fun _ _ => ⟨rfl, rfl, (by decide : 4 + 0 ≤ _), (by decide : 16 + 0 ≤ _)⟩)
    dsimp only [Pt.U, Pt.locs, Pt.cells, Pt.slots] at X24 l24 y24 z24 st24 hQ24
    subst l24 y24 z24
    obtain ⟨r_24, rfl, Nq24, eq24, pq24_0⟩ := hQ24
    refine OwnGoes.step (T' := T24) (g' := (mkF m 59 #[vI p1, vI p2, vI p3, vI p4, vI p5, vI 3, vI c_1, vI c_2, vI c_3, vI c_4, vR x_23, vU] [(.int r_24)])) st24 ?_
    have N24 := Fr.app N23 Nq24
    rcases pq24_0 with ⟨rfl, ok_c_1⟩ | ⟨rfl, ok_c_1⟩
    · skip
      refine OwnGoes.step (T' := T24) (g' := (mkF m 70 #[vI p1, vI p2, vI p3, vI p4, vI p5, vI 3, vI c_1, vI c_2, vI c_3, vI c_4, vR x_23, vU] [(.int c_2)])) (fun tgt kgo => ?_) ?_
      · refine XS.ifNo X24.here hx rfl (hb hby at_59) rfl ((if0 _ _).trans (feq (by decide : ¬ ((1 : Int32) = (0 : Int32)))).1) ?_
        show OwnG p e below T24 m 62 #[vI p1, vI p2, vI p3, vI p4, vI p5, vI 3, vI c_1, vI c_2, vI c_3, vI c_4, vR x_23, vU] [] tgt
        refine XS.iload X24.here hx rfl (hb hby at_62) rfl ?_
        show OwnG p e below T24 m 64 #[vI p1, vI p2, vI p3, vI p4, vI p5, vI 3, vI c_1, vI c_2, vI c_3, vI c_4, vR x_23, vU] [(.int 3)] tgt
        refine XS.iconst X24.here hx rfl (hb hby at_64) ?_
        show OwnG p e below T24 m 65 #[vI p1, vI p2, vI p3, vI p4, vI p5, vI 3, vI c_1, vI c_2, vI c_3, vI c_4, vR x_23, vU] [(.int 2), (.int 3)] tgt
        refine XS.icmpNo X24.here hx rfl (hb hby at_65) rfl (flt (by decide : ¬ ((3 : Int32) < (2 : Int32)))).1 ?_
        show OwnG p e below T24 m 68 #[vI p1, vI p2, vI p3, vI p4, vI p5, vI 3, vI c_1, vI c_2, vI c_3, vI c_4, vR x_23, vU] [] tgt
        refine XS.iload X24.here hx rfl (hb hby at_68) rfl ?_
        exact kgo
      obtain ⟨_, _, ⟨T25, L25, k25, n25⟩, -, X25, ⟨Lc25, hQ25, l25, y25, z25⟩, st25⟩ := Jvm.LawKit.callS X24 hx (y := mN22) hown (mvT hZ (own_w hw 51 rfl)) (mvT hZ (own_w hw 52 rfl)) (mvT hZ (own_w hw 3 rfl)) (mvT hZ (own_w hw 53 rfl)) (by decide) (backOf (W := 0) (rm_ok l Z a0 hw [] wG1 wG3 cx hEL T23.heap n0 Ol23 c_2) hZ (own_w hw 53 rfl) (own_w hw 3 rfl) (by decide) (by decide)) (g := (mkF m 70 #[vI p1, vI p2, vI p3, vI p4, vI p5, vI 3, vI c_1, vI c_2, vI c_3, vI c_4, vR x_23, vU] [(.int c_2)])) rfl (by rw [hml]; rfl) (argsL := [(.int c_2)]) (rest := []) (lenOf pd_92619605 rfl) rfl (Nat.le_of_eq rfl) (hb hby at_70) (fun _ _ => ⟨rfl, eq24, (by decide : 4 + 0 ≤ _), (by decide : 16 + 0 ≤ _)⟩)
      dsimp only [Pt.U, Pt.locs, Pt.cells, Pt.slots] at X25 l25 y25 z25 st25 hQ25
      subst l25 y25 z25
      obtain ⟨r_25, rfl, Nq25, eq25, pq25_0⟩ := hQ25
      refine OwnGoes.step (T' := T25) (g' := (mkF m 73 #[vI p1, vI p2, vI p3, vI p4, vI p5, vI 3, vI c_1, vI c_2, vI c_3, vI c_4, vR x_23, vU] [(.int r_25)])) st25 ?_
      have N25 := Fr.app N24 Nq25
      rcases pq25_0 with ⟨rfl, ok_c_2⟩ | ⟨rfl, ok_c_2⟩
      · skip
        refine OwnGoes.step (T' := T25) (g' := (mkF m 84 #[vI p1, vI p2, vI p3, vI p4, vI p5, vI 3, vI c_1, vI c_2, vI c_3, vI c_4, vR x_23, vU] [(.int c_3)])) (fun tgt kgo => ?_) ?_
        · refine XS.ifNo X25.here hx rfl (hb hby at_73) rfl ((if0 _ _).trans (feq (by decide : ¬ ((1 : Int32) = (0 : Int32)))).1) ?_
          show OwnG p e below T25 m 76 #[vI p1, vI p2, vI p3, vI p4, vI p5, vI 3, vI c_1, vI c_2, vI c_3, vI c_4, vR x_23, vU] [] tgt
          refine XS.iload X25.here hx rfl (hb hby at_76) rfl ?_
          show OwnG p e below T25 m 78 #[vI p1, vI p2, vI p3, vI p4, vI p5, vI 3, vI c_1, vI c_2, vI c_3, vI c_4, vR x_23, vU] [(.int 3)] tgt
          refine XS.iconst X25.here hx rfl (hb hby at_78) ?_
          show OwnG p e below T25 m 79 #[vI p1, vI p2, vI p3, vI p4, vI p5, vI 3, vI c_1, vI c_2, vI c_3, vI c_4, vR x_23, vU] [(.int 3), (.int 3)] tgt
          refine XS.icmpNo X25.here hx rfl (hb hby at_79) rfl (flt (by decide : ¬ ((3 : Int32) < (3 : Int32)))).1 ?_
          show OwnG p e below T25 m 82 #[vI p1, vI p2, vI p3, vI p4, vI p5, vI 3, vI c_1, vI c_2, vI c_3, vI c_4, vR x_23, vU] [] tgt
          refine XS.iload X25.here hx rfl (hb hby at_82) rfl ?_
          exact kgo
        obtain ⟨_, _, ⟨T26, L26, k26, n26⟩, -, X26, ⟨Lc26, hQ26, l26, y26, z26⟩, st26⟩ := Jvm.LawKit.callS X25 hx (y := mN22) hown (mvT hZ (own_w hw 51 rfl)) (mvT hZ (own_w hw 52 rfl)) (mvT hZ (own_w hw 3 rfl)) (mvT hZ (own_w hw 53 rfl)) (by decide) (backOf (W := 0) (rm_ok l Z a0 hw [] wG1 wG3 cx hEL T23.heap n0 Ol23 c_3) hZ (own_w hw 53 rfl) (own_w hw 3 rfl) (by decide) (by decide)) (g := (mkF m 84 #[vI p1, vI p2, vI p3, vI p4, vI p5, vI 3, vI c_1, vI c_2, vI c_3, vI c_4, vR x_23, vU] [(.int c_3)])) rfl (by rw [hml]; rfl) (argsL := [(.int c_3)]) (rest := []) (lenOf pd_92619605 rfl) rfl (Nat.le_of_eq rfl) (hb hby at_84) (fun _ _ => ⟨rfl, eq25, (by decide : 4 + 0 ≤ _), (by decide : 16 + 0 ≤ _)⟩)
        dsimp only [Pt.U, Pt.locs, Pt.cells, Pt.slots] at X26 l26 y26 z26 st26 hQ26
        subst l26 y26 z26
        obtain ⟨r_26, rfl, Nq26, eq26, pq26_0⟩ := hQ26
        refine OwnGoes.step (T' := T26) (g' := (mkF m 87 #[vI p1, vI p2, vI p3, vI p4, vI p5, vI 3, vI c_1, vI c_2, vI c_3, vI c_4, vR x_23, vU] [(.int r_26)])) st26 ?_
        have N26 := Fr.app N25 Nq26
        rcases pq26_0 with ⟨rfl, ok_c_3⟩ | ⟨rfl, ok_c_3⟩
        · skip
          refine OwnGoes.step (T' := T26) (g' := (mkF m 113 #[vI p1, vI p2, vI p3, vI p4, vI p5, vI 3, vI c_1, vI c_2, vI c_3, vI c_4, vR x_23, vI 1] [(.ref x_23)])) (fun tgt kgo => ?_) ?_
          · refine XS.ifNo X26.here hx rfl (hb hby at_87) rfl ((if0 _ _).trans (feq (by decide : ¬ ((1 : Int32) = (0 : Int32)))).1) ?_
            show OwnG p e below T26 m 90 #[vI p1, vI p2, vI p3, vI p4, vI p5, vI 3, vI c_1, vI c_2, vI c_3, vI c_4, vR x_23, vU] [] tgt
            refine XS.iload X26.here hx rfl (hb hby at_90) rfl ?_
            show OwnG p e below T26 m 92 #[vI p1, vI p2, vI p3, vI p4, vI p5, vI 3, vI c_1, vI c_2, vI c_3, vI c_4, vR x_23, vU] [(.int 3)] tgt
            refine XS.iconst X26.here hx rfl (hb hby at_92) ?_
            show OwnG p e below T26 m 93 #[vI p1, vI p2, vI p3, vI p4, vI p5, vI 3, vI c_1, vI c_2, vI c_3, vI c_4, vR x_23, vU] [(.int 4), (.int 3)] tgt
            refine XS.icmpYes X26.here hx rfl (pc0 := 93) (pc' := 104) rfl (hb hby at_93) rfl (tlt (by decide : (3 : Int32) < (4 : Int32))).1 (by decide) (by decide) ?_
            show OwnG p e below T26 m 104 #[vI p1, vI p2, vI p3, vI p4, vI p5, vI 3, vI c_1, vI c_2, vI c_3, vI c_4, vR x_23, vU] [] tgt
            refine XS.iconst X26.here hx rfl (hb hby at_104) ?_
            show OwnG p e below T26 m 105 #[vI p1, vI p2, vI p3, vI p4, vI p5, vI 3, vI c_1, vI c_2, vI c_3, vI c_4, vR x_23, vU] [(.int 1)] tgt
            refine XS.goto X26.here hx rfl (pc0 := 105) (pc' := 109) rfl (hb hby at_105) (by decide) (by decide) ?_
            show OwnG p e below T26 m 109 #[vI p1, vI p2, vI p3, vI p4, vI p5, vI 3, vI c_1, vI c_2, vI c_3, vI c_4, vR x_23, vU] [(.int 1)] tgt
            refine XS.istore X26.here hx rfl (hb hby at_109) rfl (l' := #[vI p1, vI p2, vI p3, vI p4, vI p5, vI 3, vI c_1, vI c_2, vI c_3, vI c_4, vR x_23, vI 1]) rfl ?_
            show OwnG p e below T26 m 111 #[vI p1, vI p2, vI p3, vI p4, vI p5, vI 3, vI c_1, vI c_2, vI c_3, vI c_4, vR x_23, vI 1] [] tgt
            refine XS.aload X26.here hx rfl (hb hby at_111) rfl rfl ?_
            exact kgo
          obtain ⟨_, _, ⟨T27, L27, k27, n27⟩, -, X27, ⟨Lc27, hQ27, l27, y27, z27⟩, st27⟩ := Jvm.LawKit.callS X26 hx (y := mN24) hown (mvT hZ (own_w hw 31 rfl)) (mvT hZ (own_w hw 32 rfl)) (mvT hZ (own_w hw 33 rfl)) (mvT hZ (own_w hw 34 rfl)) (by decide) (backOf (W := 0) (rm_isT_3 l Z a0 hw [] wG1 wG3 cx hEL T23.heap n0 Ol23 x_23 t_23 k_23 cd_23 N_23 vs_23 c_1 c_2 c_3 fq23_0 fq23_1 fq23_2 fq23_3 pq23_0) hZ (own_w hw 34 rfl) (own_w hw 33 rfl) (by decide) (by decide)) (g := (mkF m 113 #[vI p1, vI p2, vI p3, vI p4, vI p5, vI 3, vI c_1, vI c_2, vI c_3, vI c_4, vR x_23, vI 1] [(.ref x_23)])) rfl (by rw [hml]; rfl) (argsL := [(.ref x_23)]) (rest := []) (lenOf pd_92693199 rfl) rfl (Nat.le_of_eq rfl) (hb hby at_113) (fun _ _ => ⟨rfl, eq26, (by decide : 4 + 0 ≤ _), (by decide : 16 + 0 ≤ _)⟩)
          dsimp only [Pt.U, Pt.locs, Pt.cells, Pt.slots] at X27 l27 y27 z27 st27 hQ27
          subst l27 y27 z27
          obtain ⟨r_27, rfl, Nq27, eq27, pq27_0⟩ := hQ27
          refine OwnGoes.step (T' := T27) (g' := (mkF m 116 #[vI p1, vI p2, vI p3, vI p4, vI p5, vI 3, vI c_1, vI c_2, vI c_3, vI c_4, vR x_23, vI 1] [(.int r_27)])) st27 ?_
          have N27 := Fr.app N26 Nq27
          rcases pq27_0 with ⟨rfl, hT⟩ | ⟨rfl, hT⟩
          · skip
            refine OwnGoes.step (T' := T27) (g' := (mkF m 126 #[vI p1, vI p2, vI p3, vI p4, vI p5, vI 3, vI c_1, vI c_2, vI c_3, vI c_4, vR x_23, vI 1] [(.int 1)])) (fun tgt kgo => ?_) ?_
            · refine XS.iload X27.here hx rfl (hb hby at_116) rfl ?_
              show OwnG p e below T27 m 118 #[vI p1, vI p2, vI p3, vI p4, vI p5, vI 3, vI c_1, vI c_2, vI c_3, vI c_4, vR x_23, vI 1] [(.int 1), (.int 1)] tgt
              refine XS.icmpNo X27.here hx rfl (hb hby at_118) rfl (teq (by decide : (1 : Int32) = (1 : Int32))).2 ?_
              show OwnG p e below T27 m 121 #[vI p1, vI p2, vI p3, vI p4, vI p5, vI 3, vI c_1, vI c_2, vI c_3, vI c_4, vR x_23, vI 1] [] tgt
              refine XS.iconst X27.here hx rfl (hb hby at_121) ?_
              show OwnG p e below T27 m 122 #[vI p1, vI p2, vI p3, vI p4, vI p5, vI 3, vI c_1, vI c_2, vI c_3, vI c_4, vR x_23, vI 1] [(.int 1)] tgt
              refine XS.goto X27.here hx rfl (pc0 := 122) (pc' := 126) rfl (hb hby at_122) (by decide) (by decide) ?_
              exact kgo
            refine own_leaveW (Z := Z) (EL := consts_1) X27 hS0 (eq27 ▸ hk23) hlk (v := some (.int 1)) (fun h => by rw [Bd.returns] at h; cases h) (fun fs hr => retN X27 hx (t := .boolean) Bd.returns (by simp) (hb hby at_126) (by rw [(by decide : nar .boolean (1 : Int32) = (1 : Int32))]; exact hr)) (by decide) (by decide) ?_ ?_
            · rw [hh, eq27]
              exact R23.trans (CHv.at X27 hZ hEL R23.1)
            show Q_law Z p1 p2 p3 p4 p5 h0 n0 _ T27.heap _
            rw [eq27]
            exact ⟨rfl, N27⟩
          exact absurd ⟨ok_c_1, ok_c_2, ok_c_3⟩ hT
        refine OwnGoes.step (T' := T26) (g' := (mkF m 113 #[vI p1, vI p2, vI p3, vI p4, vI p5, vI 3, vI c_1, vI c_2, vI c_3, vI c_4, vR x_23, vI 0] [(.ref x_23)])) (fun tgt kgo => ?_) ?_
        · refine XS.ifYes X26.here hx rfl (pc0 := 87) (pc' := 108) rfl (hb hby at_87) rfl ((if0 _ _).trans (teq (by decide : (0 : Int32) = (0 : Int32))).1) (by decide) (by decide) ?_
          show OwnG p e below T26 m 108 #[vI p1, vI p2, vI p3, vI p4, vI p5, vI 3, vI c_1, vI c_2, vI c_3, vI c_4, vR x_23, vU] [] tgt
          refine XS.iconst X26.here hx rfl (hb hby at_108) ?_
          show OwnG p e below T26 m 109 #[vI p1, vI p2, vI p3, vI p4, vI p5, vI 3, vI c_1, vI c_2, vI c_3, vI c_4, vR x_23, vU] [(.int 0)] tgt
          refine XS.istore X26.here hx rfl (hb hby at_109) rfl (l' := #[vI p1, vI p2, vI p3, vI p4, vI p5, vI 3, vI c_1, vI c_2, vI c_3, vI c_4, vR x_23, vI 0]) rfl ?_
          show OwnG p e below T26 m 111 #[vI p1, vI p2, vI p3, vI p4, vI p5, vI 3, vI c_1, vI c_2, vI c_3, vI c_4, vR x_23, vI 0] [] tgt
          refine XS.aload X26.here hx rfl (hb hby at_111) rfl rfl ?_
          exact kgo
        obtain ⟨_, _, ⟨T29, L29, k29, n29⟩, -, X29, ⟨Lc29, hQ29, l29, y29, z29⟩, st29⟩ := Jvm.LawKit.callS X26 hx (y := mN24) hown (mvT hZ (own_w hw 31 rfl)) (mvT hZ (own_w hw 32 rfl)) (mvT hZ (own_w hw 33 rfl)) (mvT hZ (own_w hw 34 rfl)) (by decide) (backOf (W := 0) (rm_isT_3 l Z a0 hw [] wG1 wG3 cx hEL T23.heap n0 Ol23 x_23 t_23 k_23 cd_23 N_23 vs_23 c_1 c_2 c_3 fq23_0 fq23_1 fq23_2 fq23_3 pq23_0) hZ (own_w hw 34 rfl) (own_w hw 33 rfl) (by decide) (by decide)) (g := (mkF m 113 #[vI p1, vI p2, vI p3, vI p4, vI p5, vI 3, vI c_1, vI c_2, vI c_3, vI c_4, vR x_23, vI 0] [(.ref x_23)])) rfl (by rw [hml]; rfl) (argsL := [(.ref x_23)]) (rest := []) (lenOf pd_92693199 rfl) rfl (Nat.le_of_eq rfl) (hb hby at_113) (fun _ _ => ⟨rfl, eq26, (by decide : 4 + 0 ≤ _), (by decide : 16 + 0 ≤ _)⟩)
        dsimp only [Pt.U, Pt.locs, Pt.cells, Pt.slots] at X29 l29 y29 z29 st29 hQ29
        subst l29 y29 z29
        obtain ⟨r_29, rfl, Nq29, eq29, pq29_0⟩ := hQ29
        refine OwnGoes.step (T' := T29) (g' := (mkF m 116 #[vI p1, vI p2, vI p3, vI p4, vI p5, vI 3, vI c_1, vI c_2, vI c_3, vI c_4, vR x_23, vI 0] [(.int r_29)])) st29 ?_
        have N29 := Fr.app N26 Nq29
        rcases pq29_0 with ⟨rfl, hT⟩ | ⟨rfl, hT⟩
        · skip
          exact absurd hT.2.2 ok_c_3
        refine OwnGoes.step (T' := T29) (g' := (mkF m 126 #[vI p1, vI p2, vI p3, vI p4, vI p5, vI 3, vI c_1, vI c_2, vI c_3, vI c_4, vR x_23, vI 0] [(.int 1)])) (fun tgt kgo => ?_) ?_
        · refine XS.iload X29.here hx rfl (hb hby at_116) rfl ?_
          show OwnG p e below T29 m 118 #[vI p1, vI p2, vI p3, vI p4, vI p5, vI 3, vI c_1, vI c_2, vI c_3, vI c_4, vR x_23, vI 0] [(.int 0), (.int 0)] tgt
          refine XS.icmpNo X29.here hx rfl (hb hby at_118) rfl (teq (by decide : (0 : Int32) = (0 : Int32))).2 ?_
          show OwnG p e below T29 m 121 #[vI p1, vI p2, vI p3, vI p4, vI p5, vI 3, vI c_1, vI c_2, vI c_3, vI c_4, vR x_23, vI 0] [] tgt
          refine XS.iconst X29.here hx rfl (hb hby at_121) ?_
          show OwnG p e below T29 m 122 #[vI p1, vI p2, vI p3, vI p4, vI p5, vI 3, vI c_1, vI c_2, vI c_3, vI c_4, vR x_23, vI 0] [(.int 1)] tgt
          refine XS.goto X29.here hx rfl (pc0 := 122) (pc' := 126) rfl (hb hby at_122) (by decide) (by decide) ?_
          exact kgo
        refine own_leaveW (Z := Z) (EL := consts_1) X29 hS0 (eq29 ▸ hk23) hlk (v := some (.int 1)) (fun h => by rw [Bd.returns] at h; cases h) (fun fs hr => retN X29 hx (t := .boolean) Bd.returns (by simp) (hb hby at_126) (by rw [(by decide : nar .boolean (1 : Int32) = (1 : Int32))]; exact hr)) (by decide) (by decide) ?_ ?_
        · rw [hh, eq29]
          exact R23.trans (CHv.at X29 hZ hEL R23.1)
        show Q_law Z p1 p2 p3 p4 p5 h0 n0 _ T29.heap _
        rw [eq29]
        exact ⟨rfl, N29⟩
      refine OwnGoes.step (T' := T25) (g' := (mkF m 113 #[vI p1, vI p2, vI p3, vI p4, vI p5, vI 3, vI c_1, vI c_2, vI c_3, vI c_4, vR x_23, vI 0] [(.ref x_23)])) (fun tgt kgo => ?_) ?_
      · refine XS.ifYes X25.here hx rfl (pc0 := 73) (pc' := 108) rfl (hb hby at_73) rfl ((if0 _ _).trans (teq (by decide : (0 : Int32) = (0 : Int32))).1) (by decide) (by decide) ?_
        show OwnG p e below T25 m 108 #[vI p1, vI p2, vI p3, vI p4, vI p5, vI 3, vI c_1, vI c_2, vI c_3, vI c_4, vR x_23, vU] [] tgt
        refine XS.iconst X25.here hx rfl (hb hby at_108) ?_
        show OwnG p e below T25 m 109 #[vI p1, vI p2, vI p3, vI p4, vI p5, vI 3, vI c_1, vI c_2, vI c_3, vI c_4, vR x_23, vU] [(.int 0)] tgt
        refine XS.istore X25.here hx rfl (hb hby at_109) rfl (l' := #[vI p1, vI p2, vI p3, vI p4, vI p5, vI 3, vI c_1, vI c_2, vI c_3, vI c_4, vR x_23, vI 0]) rfl ?_
        show OwnG p e below T25 m 111 #[vI p1, vI p2, vI p3, vI p4, vI p5, vI 3, vI c_1, vI c_2, vI c_3, vI c_4, vR x_23, vI 0] [] tgt
        refine XS.aload X25.here hx rfl (hb hby at_111) rfl rfl ?_
        exact kgo
      obtain ⟨_, _, ⟨T31, L31, k31, n31⟩, -, X31, ⟨Lc31, hQ31, l31, y31, z31⟩, st31⟩ := Jvm.LawKit.callS X25 hx (y := mN24) hown (mvT hZ (own_w hw 31 rfl)) (mvT hZ (own_w hw 32 rfl)) (mvT hZ (own_w hw 33 rfl)) (mvT hZ (own_w hw 34 rfl)) (by decide) (backOf (W := 0) (rm_isT_3 l Z a0 hw [] wG1 wG3 cx hEL T23.heap n0 Ol23 x_23 t_23 k_23 cd_23 N_23 vs_23 c_1 c_2 c_3 fq23_0 fq23_1 fq23_2 fq23_3 pq23_0) hZ (own_w hw 34 rfl) (own_w hw 33 rfl) (by decide) (by decide)) (g := (mkF m 113 #[vI p1, vI p2, vI p3, vI p4, vI p5, vI 3, vI c_1, vI c_2, vI c_3, vI c_4, vR x_23, vI 0] [(.ref x_23)])) rfl (by rw [hml]; rfl) (argsL := [(.ref x_23)]) (rest := []) (lenOf pd_92693199 rfl) rfl (Nat.le_of_eq rfl) (hb hby at_113) (fun _ _ => ⟨rfl, eq25, (by decide : 4 + 0 ≤ _), (by decide : 16 + 0 ≤ _)⟩)
      dsimp only [Pt.U, Pt.locs, Pt.cells, Pt.slots] at X31 l31 y31 z31 st31 hQ31
      subst l31 y31 z31
      obtain ⟨r_31, rfl, Nq31, eq31, pq31_0⟩ := hQ31
      refine OwnGoes.step (T' := T31) (g' := (mkF m 116 #[vI p1, vI p2, vI p3, vI p4, vI p5, vI 3, vI c_1, vI c_2, vI c_3, vI c_4, vR x_23, vI 0] [(.int r_31)])) st31 ?_
      have N31 := Fr.app N25 Nq31
      rcases pq31_0 with ⟨rfl, hT⟩ | ⟨rfl, hT⟩
      · skip
        exact absurd hT.2.1 ok_c_2
      refine OwnGoes.step (T' := T31) (g' := (mkF m 126 #[vI p1, vI p2, vI p3, vI p4, vI p5, vI 3, vI c_1, vI c_2, vI c_3, vI c_4, vR x_23, vI 0] [(.int 1)])) (fun tgt kgo => ?_) ?_
      · refine XS.iload X31.here hx rfl (hb hby at_116) rfl ?_
        show OwnG p e below T31 m 118 #[vI p1, vI p2, vI p3, vI p4, vI p5, vI 3, vI c_1, vI c_2, vI c_3, vI c_4, vR x_23, vI 0] [(.int 0), (.int 0)] tgt
        refine XS.icmpNo X31.here hx rfl (hb hby at_118) rfl (teq (by decide : (0 : Int32) = (0 : Int32))).2 ?_
        show OwnG p e below T31 m 121 #[vI p1, vI p2, vI p3, vI p4, vI p5, vI 3, vI c_1, vI c_2, vI c_3, vI c_4, vR x_23, vI 0] [] tgt
        refine XS.iconst X31.here hx rfl (hb hby at_121) ?_
        show OwnG p e below T31 m 122 #[vI p1, vI p2, vI p3, vI p4, vI p5, vI 3, vI c_1, vI c_2, vI c_3, vI c_4, vR x_23, vI 0] [(.int 1)] tgt
        refine XS.goto X31.here hx rfl (pc0 := 122) (pc' := 126) rfl (hb hby at_122) (by decide) (by decide) ?_
        exact kgo
      refine own_leaveW (Z := Z) (EL := consts_1) X31 hS0 (eq31 ▸ hk23) hlk (v := some (.int 1)) (fun h => by rw [Bd.returns] at h; cases h) (fun fs hr => retN X31 hx (t := .boolean) Bd.returns (by simp) (hb hby at_126) (by rw [(by decide : nar .boolean (1 : Int32) = (1 : Int32))]; exact hr)) (by decide) (by decide) ?_ ?_
      · rw [hh, eq31]
        exact R23.trans (CHv.at X31 hZ hEL R23.1)
      show Q_law Z p1 p2 p3 p4 p5 h0 n0 _ T31.heap _
      rw [eq31]
      exact ⟨rfl, N31⟩
    refine OwnGoes.step (T' := T24) (g' := (mkF m 113 #[vI p1, vI p2, vI p3, vI p4, vI p5, vI 3, vI c_1, vI c_2, vI c_3, vI c_4, vR x_23, vI 0] [(.ref x_23)])) (fun tgt kgo => ?_) ?_
    · refine XS.ifYes X24.here hx rfl (pc0 := 59) (pc' := 108) rfl (hb hby at_59) rfl ((if0 _ _).trans (teq (by decide : (0 : Int32) = (0 : Int32))).1) (by decide) (by decide) ?_
      show OwnG p e below T24 m 108 #[vI p1, vI p2, vI p3, vI p4, vI p5, vI 3, vI c_1, vI c_2, vI c_3, vI c_4, vR x_23, vU] [] tgt
      refine XS.iconst X24.here hx rfl (hb hby at_108) ?_
      show OwnG p e below T24 m 109 #[vI p1, vI p2, vI p3, vI p4, vI p5, vI 3, vI c_1, vI c_2, vI c_3, vI c_4, vR x_23, vU] [(.int 0)] tgt
      refine XS.istore X24.here hx rfl (hb hby at_109) rfl (l' := #[vI p1, vI p2, vI p3, vI p4, vI p5, vI 3, vI c_1, vI c_2, vI c_3, vI c_4, vR x_23, vI 0]) rfl ?_
      show OwnG p e below T24 m 111 #[vI p1, vI p2, vI p3, vI p4, vI p5, vI 3, vI c_1, vI c_2, vI c_3, vI c_4, vR x_23, vI 0] [] tgt
      refine XS.aload X24.here hx rfl (hb hby at_111) rfl rfl ?_
      exact kgo
    obtain ⟨_, _, ⟨T33, L33, k33, n33⟩, -, X33, ⟨Lc33, hQ33, l33, y33, z33⟩, st33⟩ := Jvm.LawKit.callS X24 hx (y := mN24) hown (mvT hZ (own_w hw 31 rfl)) (mvT hZ (own_w hw 32 rfl)) (mvT hZ (own_w hw 33 rfl)) (mvT hZ (own_w hw 34 rfl)) (by decide) (backOf (W := 0) (rm_isT_3 l Z a0 hw [] wG1 wG3 cx hEL T23.heap n0 Ol23 x_23 t_23 k_23 cd_23 N_23 vs_23 c_1 c_2 c_3 fq23_0 fq23_1 fq23_2 fq23_3 pq23_0) hZ (own_w hw 34 rfl) (own_w hw 33 rfl) (by decide) (by decide)) (g := (mkF m 113 #[vI p1, vI p2, vI p3, vI p4, vI p5, vI 3, vI c_1, vI c_2, vI c_3, vI c_4, vR x_23, vI 0] [(.ref x_23)])) rfl (by rw [hml]; rfl) (argsL := [(.ref x_23)]) (rest := []) (lenOf pd_92693199 rfl) rfl (Nat.le_of_eq rfl) (hb hby at_113) (fun _ _ => ⟨rfl, eq24, (by decide : 4 + 0 ≤ _), (by decide : 16 + 0 ≤ _)⟩)
    dsimp only [Pt.U, Pt.locs, Pt.cells, Pt.slots] at X33 l33 y33 z33 st33 hQ33
    subst l33 y33 z33
    obtain ⟨r_33, rfl, Nq33, eq33, pq33_0⟩ := hQ33
    refine OwnGoes.step (T' := T33) (g' := (mkF m 116 #[vI p1, vI p2, vI p3, vI p4, vI p5, vI 3, vI c_1, vI c_2, vI c_3, vI c_4, vR x_23, vI 0] [(.int r_33)])) st33 ?_
    have N33 := Fr.app N24 Nq33
    rcases pq33_0 with ⟨rfl, hT⟩ | ⟨rfl, hT⟩
    · skip
      exact absurd hT.1 ok_c_1
    refine OwnGoes.step (T' := T33) (g' := (mkF m 126 #[vI p1, vI p2, vI p3, vI p4, vI p5, vI 3, vI c_1, vI c_2, vI c_3, vI c_4, vR x_23, vI 0] [(.int 1)])) (fun tgt kgo => ?_) ?_
    · refine XS.iload X33.here hx rfl (hb hby at_116) rfl ?_
      show OwnG p e below T33 m 118 #[vI p1, vI p2, vI p3, vI p4, vI p5, vI 3, vI c_1, vI c_2, vI c_3, vI c_4, vR x_23, vI 0] [(.int 0), (.int 0)] tgt
      refine XS.icmpNo X33.here hx rfl (hb hby at_118) rfl (teq (by decide : (0 : Int32) = (0 : Int32))).2 ?_
      show OwnG p e below T33 m 121 #[vI p1, vI p2, vI p3, vI p4, vI p5, vI 3, vI c_1, vI c_2, vI c_3, vI c_4, vR x_23, vI 0] [] tgt
      refine XS.iconst X33.here hx rfl (hb hby at_121) ?_
      show OwnG p e below T33 m 122 #[vI p1, vI p2, vI p3, vI p4, vI p5, vI 3, vI c_1, vI c_2, vI c_3, vI c_4, vR x_23, vI 0] [(.int 1)] tgt
      refine XS.goto X33.here hx rfl (pc0 := 122) (pc' := 126) rfl (hb hby at_122) (by decide) (by decide) ?_
      exact kgo
    refine own_leaveW (Z := Z) (EL := consts_1) X33 hS0 (eq33 ▸ hk23) hlk (v := some (.int 1)) (fun h => by rw [Bd.returns] at h; cases h) (fun fs hr => retN X33 hx (t := .boolean) Bd.returns (by simp) (hb hby at_126) (by rw [(by decide : nar .boolean (1 : Int32) = (1 : Int32))]; exact hr)) (by decide) (by decide) ?_ ?_
    · rw [hh, eq33]
      exact R23.trans (CHv.at X33 hZ hEL R23.1)
    show Q_law Z p1 p2 p3 p4 p5 h0 n0 _ T33.heap _
    rw [eq33]
    exact ⟨rfl, N33⟩
  refine OwnGoes.step (T' := T4) (g' := (mkF m 43 #[vI p1, vI p2, vI p3, vI p4, vI p5, vI 4, vI c_1, vI c_2, vI c_3, vI c_4, vU, vU] [(.int c_4), (.int c_3), (.int c_2), (.int c_1), (.int 4)])) (fun tgt kgo => ?_) ?_
  · refine XS.iload X4.here hx rfl (hb hby at_33) rfl ?_
    show OwnG p e below T4 m 35 #[vI p1, vI p2, vI p3, vI p4, vI p5, vI 4, vI c_1, vI c_2, vI c_3, vI c_4, vU, vU] [(.int 4)] tgt
    refine XS.iload X4.here hx rfl (hb hby at_35) rfl ?_
    show OwnG p e below T4 m 37 #[vI p1, vI p2, vI p3, vI p4, vI p5, vI 4, vI c_1, vI c_2, vI c_3, vI c_4, vU, vU] [(.int c_1), (.int 4)] tgt
    refine XS.iload X4.here hx rfl (hb hby at_37) rfl ?_
    show OwnG p e below T4 m 39 #[vI p1, vI p2, vI p3, vI p4, vI p5, vI 4, vI c_1, vI c_2, vI c_3, vI c_4, vU, vU] [(.int c_2), (.int c_1), (.int 4)] tgt
    refine XS.iload X4.here hx rfl (hb hby at_39) rfl ?_
    show OwnG p e below T4 m 41 #[vI p1, vI p2, vI p3, vI p4, vI p5, vI 4, vI c_1, vI c_2, vI c_3, vI c_4, vU, vU] [(.int c_3), (.int c_2), (.int c_1), (.int 4)] tgt
    refine XS.iload X4.here hx rfl (hb hby at_41) rfl ?_
    exact kgo
  obtain ⟨_, _, ⟨T35, L35, k35, n35⟩, -, X35, ⟨Lc35, hQ35, l35, y35, z35⟩, st35⟩ := Jvm.LawKit.callS X4 hx (y := mN23) hown (mvT hZ (own_w hw 6 rfl)) (mvT hZ (own_w hw 7 rfl)) (mvT hZ (own_w hw 3 rfl)) (mvT hZ (own_w hw 8 rfl)) (by decide) (backOf (W := 0) (rm_str_4 l Z a0 hw [] wG1 wG3 cx hEL h0 n0 X00 c_1 c_2 c_3 c_4 pq1_0 pq2_0 pq3_0 pq4_0) hZ (own_w hw 8 rfl) (own_w hw 3 rfl) (by decide) (by decide)) (g := (mkF m 43 #[vI p1, vI p2, vI p3, vI p4, vI p5, vI 4, vI c_1, vI c_2, vI c_3, vI c_4, vU, vU] [(.int c_4), (.int c_3), (.int c_2), (.int c_1), (.int 4)])) rfl (by rw [hml]; rfl) (argsL := [(.int 4), (.int c_1), (.int c_2), (.int c_3), (.int c_4)]) (rest := []) (lenOf pd_36595007 rfl) rfl (Nat.le_of_eq rfl) (hb hby at_43) (fun _ _ => ⟨rfl, eq4, (by decide : 0 + 4 ≤ _), (by decide : 0 + 20 ≤ _)⟩)
  dsimp only [Pt.U, Pt.locs, Pt.cells, Pt.slots] at X35 l35 y35 z35 st35 hQ35
  subst l35 y35 z35
  obtain ⟨x_35, t_35, k_35, N_35, vs_35, cd_35, rfl, Nq35, Kq35, zq35_0, zq35_1, fq35_0, fq35_1, fq35_2, fq35_3, pq35_0⟩ := hQ35
  refine OwnGoes.step (T' := T35) (g' := (mkF m 46 #[vI p1, vI p2, vI p3, vI p4, vI p5, vI 4, vI c_1, vI c_2, vI c_3, vI c_4, vU, vU] [(.ref x_35)])) st35 ?_
  have N35 := Fr.app N4 Nq35
  have g_x_35 : n0 ≤ x_35 := Nat.le_trans (Nat.le_trans Z0 K0.1) zq35_0
  have s_x_35 : h0.size ≤ x_35 := Nat.le_trans K0.1 zq35_0
  have g_t_35 : n0 ≤ t_35 := Nat.le_trans (Nat.le_trans Z0 K0.1) zq35_1
  have s_t_35 : h0.size ≤ t_35 := Nat.le_trans K0.1 zq35_1
  have Ol35 := X00.keep Kq35 all0
  have K35 : Keep h0 T35.heap ([] : List Addr) := K0.trans Kq35 all0
  have R35 := R0.trans (CHr.keep Kq35 sf0 R0.1)
  have hk35 := Nat.le_trans hk0 Kq35.1
  refine OwnGoes.step (T' := T35) (g' := (mkF m 56 #[vI p1, vI p2, vI p3, vI p4, vI p5, vI 4, vI c_1, vI c_2, vI c_3, vI c_4, vR x_35, vU] [(.int c_1)])) (fun tgt kgo => ?_) ?_
  · refine XS.astore X35.here hx rfl (hb hby at_46) rfl rfl (l' := #[vI p1, vI p2, vI p3, vI p4, vI p5, vI 4, vI c_1, vI c_2, vI c_3, vI c_4, vR x_35, vU]) rfl ?_
    show OwnG p e below T35 m 48 #[vI p1, vI p2, vI p3, vI p4, vI p5, vI 4, vI c_1, vI c_2, vI c_3, vI c_4, vR x_35, vU] [] tgt
    refine XS.iload X35.here hx rfl (hb hby at_48) rfl ?_
    show OwnG p e below T35 m 50 #[vI p1, vI p2, vI p3, vI p4, vI p5, vI 4, vI c_1, vI c_2, vI c_3, vI c_4, vR x_35, vU] [(.int 4)] tgt
    refine XS.iconst X35.here hx rfl (hb hby at_50) ?_
    show OwnG p e below T35 m 51 #[vI p1, vI p2, vI p3, vI p4, vI p5, vI 4, vI c_1, vI c_2, vI c_3, vI c_4, vR x_35, vU] [(.int 1), (.int 4)] tgt
    refine XS.icmpNo X35.here hx rfl (hb hby at_51) rfl (flt (by decide : ¬ ((4 : Int32) < (1 : Int32)))).1 ?_
    show OwnG p e below T35 m 54 #[vI p1, vI p2, vI p3, vI p4, vI p5, vI 4, vI c_1, vI c_2, vI c_3, vI c_4, vR x_35, vU] [] tgt
    refine XS.iload X35.here hx rfl (hb hby at_54) rfl ?_
    exact kgo
  obtain ⟨_, _, ⟨T36, L36, k36, n36⟩, -, X36, ⟨Lc36, hQ36, l36, y36, z36⟩, st36⟩ := Jvm.LawKit.callS X35 hx (y := mN22) hown (mvT hZ (own_w hw 51 rfl)) (mvT hZ (own_w hw 52 rfl)) (mvT hZ (own_w hw 3 rfl)) (mvT hZ (own_w hw 53 rfl)) (by decide) (backOf (W := 0) (rm_ok l Z a0 hw [] wG1 wG3 cx hEL T35.heap n0 Ol35 c_1) hZ (own_w hw 53 rfl) (own_w hw 3 rfl) (by decide) (by decide)) (g := (mkF m 56 #[vI p1, vI p2, vI p3, vI p4, vI p5, vI 4, vI c_1, vI c_2, vI c_3, vI c_4, vR x_35, vU] [(.int c_1)])) rfl (by rw [hml]; rfl) (argsL := [(.int c_1)]) (rest := []) (lenOf pd_92619605 rfl) rfl (Nat.le_of_eq rfl) (hb hby at_56) (fun _ _ => ⟨rfl, rfl, (by decide : 4 + 0 ≤ _), (by decide : 20 + 0 ≤ _)⟩)
  dsimp only [Pt.U, Pt.locs, Pt.cells, Pt.slots] at X36 l36 y36 z36 st36 hQ36
  subst l36 y36 z36
  obtain ⟨r_36, rfl, Nq36, eq36, pq36_0⟩ := hQ36
  refine OwnGoes.step (T' := T36) (g' := (mkF m 59 #[vI p1, vI p2, vI p3, vI p4, vI p5, vI 4, vI c_1, vI c_2, vI c_3, vI c_4, vR x_35, vU] [(.int r_36)])) st36 ?_
  have N36 := Fr.app N35 Nq36
  rcases pq36_0 with ⟨rfl, ok_c_1⟩ | ⟨rfl, ok_c_1⟩
  · skip
    refine OwnGoes.step (T' := T36) (g' := (mkF m 70 #[vI p1, vI p2, vI p3, vI p4, vI p5, vI 4, vI c_1, vI c_2, vI c_3, vI c_4, vR x_35, vU] [(.int c_2)])) (fun tgt kgo => ?_) ?_
    · refine XS.ifNo X36.here hx rfl (hb hby at_59) rfl ((if0 _ _).trans (feq (by decide : ¬ ((1 : Int32) = (0 : Int32)))).1) ?_
      show OwnG p e below T36 m 62 #[vI p1, vI p2, vI p3, vI p4, vI p5, vI 4, vI c_1, vI c_2, vI c_3, vI c_4, vR x_35, vU] [] tgt
      refine XS.iload X36.here hx rfl (hb hby at_62) rfl ?_
      show OwnG p e below T36 m 64 #[vI p1, vI p2, vI p3, vI p4, vI p5, vI 4, vI c_1, vI c_2, vI c_3, vI c_4, vR x_35, vU] [(.int 4)] tgt
      refine XS.iconst X36.here hx rfl (hb hby at_64) ?_
      show OwnG p e below T36 m 65 #[vI p1, vI p2, vI p3, vI p4, vI p5, vI 4, vI c_1, vI c_2, vI c_3, vI c_4, vR x_35, vU] [(.int 2), (.int 4)] tgt
      refine XS.icmpNo X36.here hx rfl (hb hby at_65) rfl (flt (by decide : ¬ ((4 : Int32) < (2 : Int32)))).1 ?_
      show OwnG p e below T36 m 68 #[vI p1, vI p2, vI p3, vI p4, vI p5, vI 4, vI c_1, vI c_2, vI c_3, vI c_4, vR x_35, vU] [] tgt
      refine XS.iload X36.here hx rfl (hb hby at_68) rfl ?_
      exact kgo
    obtain ⟨_, _, ⟨T37, L37, k37, n37⟩, -, X37, ⟨Lc37, hQ37, l37, y37, z37⟩, st37⟩ := Jvm.LawKit.callS X36 hx (y := mN22) hown (mvT hZ (own_w hw 51 rfl)) (mvT hZ (own_w hw 52 rfl)) (mvT hZ (own_w hw 3 rfl)) (mvT hZ (own_w hw 53 rfl)) (by decide) (backOf (W := 0) (rm_ok l Z a0 hw [] wG1 wG3 cx hEL T35.heap n0 Ol35 c_2) hZ (own_w hw 53 rfl) (own_w hw 3 rfl) (by decide) (by decide)) (g := (mkF m 70 #[vI p1, vI p2, vI p3, vI p4, vI p5, vI 4, vI c_1, vI c_2, vI c_3, vI c_4, vR x_35, vU] [(.int c_2)])) rfl (by rw [hml]; rfl) (argsL := [(.int c_2)]) (rest := []) (lenOf pd_92619605 rfl) rfl (Nat.le_of_eq rfl) (hb hby at_70) (fun _ _ => ⟨rfl, eq36, (by decide : 4 + 0 ≤ _), (by decide : 20 + 0 ≤ _)⟩)
    dsimp only [Pt.U, Pt.locs, Pt.cells, Pt.slots] at X37 l37 y37 z37 st37 hQ37
    subst l37 y37 z37
    obtain ⟨r_37, rfl, Nq37, eq37, pq37_0⟩ := hQ37
    refine OwnGoes.step (T' := T37) (g' := (mkF m 73 #[vI p1, vI p2, vI p3, vI p4, vI p5, vI 4, vI c_1, vI c_2, vI c_3, vI c_4, vR x_35, vU] [(.int r_37)])) st37 ?_
    have N37 := Fr.app N36 Nq37
    rcases pq37_0 with ⟨rfl, ok_c_2⟩ | ⟨rfl, ok_c_2⟩
    · skip
      refine OwnGoes.step (T' := T37) (g' := (mkF m 84 #[vI p1, vI p2, vI p3, vI p4, vI p5, vI 4, vI c_1, vI c_2, vI c_3, vI c_4, vR x_35, vU] [(.int c_3)])) (fun tgt kgo => ?_) ?_
      · refine XS.ifNo X37.here hx rfl (hb hby at_73) rfl ((if0 _ _).trans (feq (by decide : ¬ ((1 : Int32) = (0 : Int32)))).1) ?_
        show OwnG p e below T37 m 76 #[vI p1, vI p2, vI p3, vI p4, vI p5, vI 4, vI c_1, vI c_2, vI c_3, vI c_4, vR x_35, vU] [] tgt
        refine XS.iload X37.here hx rfl (hb hby at_76) rfl ?_
        show OwnG p e below T37 m 78 #[vI p1, vI p2, vI p3, vI p4, vI p5, vI 4, vI c_1, vI c_2, vI c_3, vI c_4, vR x_35, vU] [(.int 4)] tgt
        refine XS.iconst X37.here hx rfl (hb hby at_78) ?_
        show OwnG p e below T37 m 79 #[vI p1, vI p2, vI p3, vI p4, vI p5, vI 4, vI c_1, vI c_2, vI c_3, vI c_4, vR x_35, vU] [(.int 3), (.int 4)] tgt
        refine XS.icmpNo X37.here hx rfl (hb hby at_79) rfl (flt (by decide : ¬ ((4 : Int32) < (3 : Int32)))).1 ?_
        show OwnG p e below T37 m 82 #[vI p1, vI p2, vI p3, vI p4, vI p5, vI 4, vI c_1, vI c_2, vI c_3, vI c_4, vR x_35, vU] [] tgt
        refine XS.iload X37.here hx rfl (hb hby at_82) rfl ?_
        exact kgo
      obtain ⟨_, _, ⟨T38, L38, k38, n38⟩, -, X38, ⟨Lc38, hQ38, l38, y38, z38⟩, st38⟩ := Jvm.LawKit.callS X37 hx (y := mN22) hown (mvT hZ (own_w hw 51 rfl)) (mvT hZ (own_w hw 52 rfl)) (mvT hZ (own_w hw 3 rfl)) (mvT hZ (own_w hw 53 rfl)) (by decide) (backOf (W := 0) (rm_ok l Z a0 hw [] wG1 wG3 cx hEL T35.heap n0 Ol35 c_3) hZ (own_w hw 53 rfl) (own_w hw 3 rfl) (by decide) (by decide)) (g := (mkF m 84 #[vI p1, vI p2, vI p3, vI p4, vI p5, vI 4, vI c_1, vI c_2, vI c_3, vI c_4, vR x_35, vU] [(.int c_3)])) rfl (by rw [hml]; rfl) (argsL := [(.int c_3)]) (rest := []) (lenOf pd_92619605 rfl) rfl (Nat.le_of_eq rfl) (hb hby at_84) (fun _ _ => ⟨rfl, eq37, (by decide : 4 + 0 ≤ _), (by decide : 20 + 0 ≤ _)⟩)
      dsimp only [Pt.U, Pt.locs, Pt.cells, Pt.slots] at X38 l38 y38 z38 st38 hQ38
      subst l38 y38 z38
      obtain ⟨r_38, rfl, Nq38, eq38, pq38_0⟩ := hQ38
      refine OwnGoes.step (T' := T38) (g' := (mkF m 87 #[vI p1, vI p2, vI p3, vI p4, vI p5, vI 4, vI c_1, vI c_2, vI c_3, vI c_4, vR x_35, vU] [(.int r_38)])) st38 ?_
      have N38 := Fr.app N37 Nq38
      rcases pq38_0 with ⟨rfl, ok_c_3⟩ | ⟨rfl, ok_c_3⟩
      · skip
        refine OwnGoes.step (T' := T38) (g' := (mkF m 98 #[vI p1, vI p2, vI p3, vI p4, vI p5, vI 4, vI c_1, vI c_2, vI c_3, vI c_4, vR x_35, vU] [(.int c_4)])) (fun tgt kgo => ?_) ?_
        · refine XS.ifNo X38.here hx rfl (hb hby at_87) rfl ((if0 _ _).trans (feq (by decide : ¬ ((1 : Int32) = (0 : Int32)))).1) ?_
          show OwnG p e below T38 m 90 #[vI p1, vI p2, vI p3, vI p4, vI p5, vI 4, vI c_1, vI c_2, vI c_3, vI c_4, vR x_35, vU] [] tgt
          refine XS.iload X38.here hx rfl (hb hby at_90) rfl ?_
          show OwnG p e below T38 m 92 #[vI p1, vI p2, vI p3, vI p4, vI p5, vI 4, vI c_1, vI c_2, vI c_3, vI c_4, vR x_35, vU] [(.int 4)] tgt
          refine XS.iconst X38.here hx rfl (hb hby at_92) ?_
          show OwnG p e below T38 m 93 #[vI p1, vI p2, vI p3, vI p4, vI p5, vI 4, vI c_1, vI c_2, vI c_3, vI c_4, vR x_35, vU] [(.int 4), (.int 4)] tgt
          refine XS.icmpNo X38.here hx rfl (hb hby at_93) rfl (flt (by decide : ¬ ((4 : Int32) < (4 : Int32)))).1 ?_
          show OwnG p e below T38 m 96 #[vI p1, vI p2, vI p3, vI p4, vI p5, vI 4, vI c_1, vI c_2, vI c_3, vI c_4, vR x_35, vU] [] tgt
          refine XS.iload X38.here hx rfl (hb hby at_96) rfl ?_
          exact kgo
        obtain ⟨_, _, ⟨T39, L39, k39, n39⟩, -, X39, ⟨Lc39, hQ39, l39, y39, z39⟩, st39⟩ := Jvm.LawKit.callS X38 hx (y := mN22) hown (mvT hZ (own_w hw 51 rfl)) (mvT hZ (own_w hw 52 rfl)) (mvT hZ (own_w hw 3 rfl)) (mvT hZ (own_w hw 53 rfl)) (by decide) (backOf (W := 0) (rm_ok l Z a0 hw [] wG1 wG3 cx hEL T35.heap n0 Ol35 c_4) hZ (own_w hw 53 rfl) (own_w hw 3 rfl) (by decide) (by decide)) (g := (mkF m 98 #[vI p1, vI p2, vI p3, vI p4, vI p5, vI 4, vI c_1, vI c_2, vI c_3, vI c_4, vR x_35, vU] [(.int c_4)])) rfl (by rw [hml]; rfl) (argsL := [(.int c_4)]) (rest := []) (lenOf pd_92619605 rfl) rfl (Nat.le_of_eq rfl) (hb hby at_98) (fun _ _ => ⟨rfl, eq38, (by decide : 4 + 0 ≤ _), (by decide : 20 + 0 ≤ _)⟩)
        dsimp only [Pt.U, Pt.locs, Pt.cells, Pt.slots] at X39 l39 y39 z39 st39 hQ39
        subst l39 y39 z39
        obtain ⟨r_39, rfl, Nq39, eq39, pq39_0⟩ := hQ39
        refine OwnGoes.step (T' := T39) (g' := (mkF m 101 #[vI p1, vI p2, vI p3, vI p4, vI p5, vI 4, vI c_1, vI c_2, vI c_3, vI c_4, vR x_35, vU] [(.int r_39)])) st39 ?_
        have N39 := Fr.app N38 Nq39
        rcases pq39_0 with ⟨rfl, ok_c_4⟩ | ⟨rfl, ok_c_4⟩
        · skip
          refine OwnGoes.step (T' := T39) (g' := (mkF m 113 #[vI p1, vI p2, vI p3, vI p4, vI p5, vI 4, vI c_1, vI c_2, vI c_3, vI c_4, vR x_35, vI 1] [(.ref x_35)])) (fun tgt kgo => ?_) ?_
          · refine XS.ifNo X39.here hx rfl (hb hby at_101) rfl ((if0 _ _).trans (feq (by decide : ¬ ((1 : Int32) = (0 : Int32)))).1) ?_
            show OwnG p e below T39 m 104 #[vI p1, vI p2, vI p3, vI p4, vI p5, vI 4, vI c_1, vI c_2, vI c_3, vI c_4, vR x_35, vU] [] tgt
            refine XS.iconst X39.here hx rfl (hb hby at_104) ?_
            show OwnG p e below T39 m 105 #[vI p1, vI p2, vI p3, vI p4, vI p5, vI 4, vI c_1, vI c_2, vI c_3, vI c_4, vR x_35, vU] [(.int 1)] tgt
            refine XS.goto X39.here hx rfl (pc0 := 105) (pc' := 109) rfl (hb hby at_105) (by decide) (by decide) ?_
            show OwnG p e below T39 m 109 #[vI p1, vI p2, vI p3, vI p4, vI p5, vI 4, vI c_1, vI c_2, vI c_3, vI c_4, vR x_35, vU] [(.int 1)] tgt
            refine XS.istore X39.here hx rfl (hb hby at_109) rfl (l' := #[vI p1, vI p2, vI p3, vI p4, vI p5, vI 4, vI c_1, vI c_2, vI c_3, vI c_4, vR x_35, vI 1]) rfl ?_
            show OwnG p e below T39 m 111 #[vI p1, vI p2, vI p3, vI p4, vI p5, vI 4, vI c_1, vI c_2, vI c_3, vI c_4, vR x_35, vI 1] [] tgt
            refine XS.aload X39.here hx rfl (hb hby at_111) rfl rfl ?_
            exact kgo
          obtain ⟨_, _, ⟨T40, L40, k40, n40⟩, -, X40, ⟨Lc40, hQ40, l40, y40, z40⟩, st40⟩ := Jvm.LawKit.callS X39 hx (y := mN24) hown (mvT hZ (own_w hw 31 rfl)) (mvT hZ (own_w hw 32 rfl)) (mvT hZ (own_w hw 33 rfl)) (mvT hZ (own_w hw 34 rfl)) (by decide) (backOf (W := 0) (rm_isT_4 l Z a0 hw [] wG1 wG3 cx hEL T35.heap n0 Ol35 x_35 t_35 k_35 cd_35 N_35 vs_35 c_1 c_2 c_3 c_4 fq35_0 fq35_1 fq35_2 fq35_3 pq35_0) hZ (own_w hw 34 rfl) (own_w hw 33 rfl) (by decide) (by decide)) (g := (mkF m 113 #[vI p1, vI p2, vI p3, vI p4, vI p5, vI 4, vI c_1, vI c_2, vI c_3, vI c_4, vR x_35, vI 1] [(.ref x_35)])) rfl (by rw [hml]; rfl) (argsL := [(.ref x_35)]) (rest := []) (lenOf pd_92693199 rfl) rfl (Nat.le_of_eq rfl) (hb hby at_113) (fun _ _ => ⟨rfl, eq39, (by decide : 4 + 0 ≤ _), (by decide : 20 + 0 ≤ _)⟩)
          dsimp only [Pt.U, Pt.locs, Pt.cells, Pt.slots] at X40 l40 y40 z40 st40 hQ40
          subst l40 y40 z40
          obtain ⟨r_40, rfl, Nq40, eq40, pq40_0⟩ := hQ40
          refine OwnGoes.step (T' := T40) (g' := (mkF m 116 #[vI p1, vI p2, vI p3, vI p4, vI p5, vI 4, vI c_1, vI c_2, vI c_3, vI c_4, vR x_35, vI 1] [(.int r_40)])) st40 ?_
          have N40 := Fr.app N39 Nq40
          rcases pq40_0 with ⟨rfl, hT⟩ | ⟨rfl, hT⟩
          · skip
            refine OwnGoes.step (T' := T40) (g' := (mkF m 126 #[vI p1, vI p2, vI p3, vI p4, vI p5, vI 4, vI c_1, vI c_2, vI c_3, vI c_4, vR x_35, vI 1] [(.int 1)])) (fun tgt kgo => ?_) ?_
            · refine XS.iload X40.here hx rfl (hb hby at_116) rfl ?_
              show OwnG p e below T40 m 118 #[vI p1, vI p2, vI p3, vI p4, vI p5, vI 4, vI c_1, vI c_2, vI c_3, vI c_4, vR x_35, vI 1] [(.int 1), (.int 1)] tgt
              refine XS.icmpNo X40.here hx rfl (hb hby at_118) rfl (teq (by decide : (1 : Int32) = (1 : Int32))).2 ?_
              show OwnG p e below T40 m 121 #[vI p1, vI p2, vI p3, vI p4, vI p5, vI 4, vI c_1, vI c_2, vI c_3, vI c_4, vR x_35, vI 1] [] tgt
              refine XS.iconst X40.here hx rfl (hb hby at_121) ?_
              show OwnG p e below T40 m 122 #[vI p1, vI p2, vI p3, vI p4, vI p5, vI 4, vI c_1, vI c_2, vI c_3, vI c_4, vR x_35, vI 1] [(.int 1)] tgt
              refine XS.goto X40.here hx rfl (pc0 := 122) (pc' := 126) rfl (hb hby at_122) (by decide) (by decide) ?_
              exact kgo
            refine own_leaveW (Z := Z) (EL := consts_1) X40 hS0 (eq40 ▸ hk35) hlk (v := some (.int 1)) (fun h => by rw [Bd.returns] at h; cases h) (fun fs hr => retN X40 hx (t := .boolean) Bd.returns (by simp) (hb hby at_126) (by rw [(by decide : nar .boolean (1 : Int32) = (1 : Int32))]; exact hr)) (by decide) (by decide) ?_ ?_
            · rw [hh, eq40]
              exact R35.trans (CHv.at X40 hZ hEL R35.1)
            show Q_law Z p1 p2 p3 p4 p5 h0 n0 _ T40.heap _
            rw [eq40]
            exact ⟨rfl, N40⟩
          exact absurd ⟨ok_c_1, ok_c_2, ok_c_3, ok_c_4⟩ hT
        refine OwnGoes.step (T' := T39) (g' := (mkF m 113 #[vI p1, vI p2, vI p3, vI p4, vI p5, vI 4, vI c_1, vI c_2, vI c_3, vI c_4, vR x_35, vI 0] [(.ref x_35)])) (fun tgt kgo => ?_) ?_
        · refine XS.ifYes X39.here hx rfl (pc0 := 101) (pc' := 108) rfl (hb hby at_101) rfl ((if0 _ _).trans (teq (by decide : (0 : Int32) = (0 : Int32))).1) (by decide) (by decide) ?_
          show OwnG p e below T39 m 108 #[vI p1, vI p2, vI p3, vI p4, vI p5, vI 4, vI c_1, vI c_2, vI c_3, vI c_4, vR x_35, vU] [] tgt
          refine XS.iconst X39.here hx rfl (hb hby at_108) ?_
          show OwnG p e below T39 m 109 #[vI p1, vI p2, vI p3, vI p4, vI p5, vI 4, vI c_1, vI c_2, vI c_3, vI c_4, vR x_35, vU] [(.int 0)] tgt
          refine XS.istore X39.here hx rfl (hb hby at_109) rfl (l' := #[vI p1, vI p2, vI p3, vI p4, vI p5, vI 4, vI c_1, vI c_2, vI c_3, vI c_4, vR x_35, vI 0]) rfl ?_
          show OwnG p e below T39 m 111 #[vI p1, vI p2, vI p3, vI p4, vI p5, vI 4, vI c_1, vI c_2, vI c_3, vI c_4, vR x_35, vI 0] [] tgt
          refine XS.aload X39.here hx rfl (hb hby at_111) rfl rfl ?_
          exact kgo
        obtain ⟨_, _, ⟨T42, L42, k42, n42⟩, -, X42, ⟨Lc42, hQ42, l42, y42, z42⟩, st42⟩ := Jvm.LawKit.callS X39 hx (y := mN24) hown (mvT hZ (own_w hw 31 rfl)) (mvT hZ (own_w hw 32 rfl)) (mvT hZ (own_w hw 33 rfl)) (mvT hZ (own_w hw 34 rfl)) (by decide) (backOf (W := 0) (rm_isT_4 l Z a0 hw [] wG1 wG3 cx hEL T35.heap n0 Ol35 x_35 t_35 k_35 cd_35 N_35 vs_35 c_1 c_2 c_3 c_4 fq35_0 fq35_1 fq35_2 fq35_3 pq35_0) hZ (own_w hw 34 rfl) (own_w hw 33 rfl) (by decide) (by decide)) (g := (mkF m 113 #[vI p1, vI p2, vI p3, vI p4, vI p5, vI 4, vI c_1, vI c_2, vI c_3, vI c_4, vR x_35, vI 0] [(.ref x_35)])) rfl (by rw [hml]; rfl) (argsL := [(.ref x_35)]) (rest := []) (lenOf pd_92693199 rfl) rfl (Nat.le_of_eq rfl) (hb hby at_113) (fun _ _ => ⟨rfl, eq39, (by decide : 4 + 0 ≤ _), (by decide : 20 + 0 ≤ _)⟩)
        dsimp only [Pt.U, Pt.locs, Pt.cells, Pt.slots] at X42 l42 y42 z42 st42 hQ42
        subst l42 y42 z42
        obtain ⟨r_42, rfl, Nq42, eq42, pq42_0⟩ := hQ42
        refine OwnGoes.step (T' := T42) (g' := (mkF m 116 #[vI p1, vI p2, vI p3, vI p4, vI p5, vI 4, vI c_1, vI c_2, vI c_3, vI c_4, vR x_35, vI 0] [(.int r_42)])) st42 ?_
        have N42 := Fr.app N39 Nq42
        rcases pq42_0 with ⟨rfl, hT⟩ | ⟨rfl, hT⟩
        · skip
          exact absurd hT.2.2.2 ok_c_4
        refine OwnGoes.step (T' := T42) (g' := (mkF m 126 #[vI p1, vI p2, vI p3, vI p4, vI p5, vI 4, vI c_1, vI c_2, vI c_3, vI c_4, vR x_35, vI 0] [(.int 1)])) (fun tgt kgo => ?_) ?_
        · refine XS.iload X42.here hx rfl (hb hby at_116) rfl ?_
          show OwnG p e below T42 m 118 #[vI p1, vI p2, vI p3, vI p4, vI p5, vI 4, vI c_1, vI c_2, vI c_3, vI c_4, vR x_35, vI 0] [(.int 0), (.int 0)] tgt
          refine XS.icmpNo X42.here hx rfl (hb hby at_118) rfl (teq (by decide : (0 : Int32) = (0 : Int32))).2 ?_
          show OwnG p e below T42 m 121 #[vI p1, vI p2, vI p3, vI p4, vI p5, vI 4, vI c_1, vI c_2, vI c_3, vI c_4, vR x_35, vI 0] [] tgt
          refine XS.iconst X42.here hx rfl (hb hby at_121) ?_
          show OwnG p e below T42 m 122 #[vI p1, vI p2, vI p3, vI p4, vI p5, vI 4, vI c_1, vI c_2, vI c_3, vI c_4, vR x_35, vI 0] [(.int 1)] tgt
          refine XS.goto X42.here hx rfl (pc0 := 122) (pc' := 126) rfl (hb hby at_122) (by decide) (by decide) ?_
          exact kgo
        refine own_leaveW (Z := Z) (EL := consts_1) X42 hS0 (eq42 ▸ hk35) hlk (v := some (.int 1)) (fun h => by rw [Bd.returns] at h; cases h) (fun fs hr => retN X42 hx (t := .boolean) Bd.returns (by simp) (hb hby at_126) (by rw [(by decide : nar .boolean (1 : Int32) = (1 : Int32))]; exact hr)) (by decide) (by decide) ?_ ?_
        · rw [hh, eq42]
          exact R35.trans (CHv.at X42 hZ hEL R35.1)
        show Q_law Z p1 p2 p3 p4 p5 h0 n0 _ T42.heap _
        rw [eq42]
        exact ⟨rfl, N42⟩
      refine OwnGoes.step (T' := T38) (g' := (mkF m 113 #[vI p1, vI p2, vI p3, vI p4, vI p5, vI 4, vI c_1, vI c_2, vI c_3, vI c_4, vR x_35, vI 0] [(.ref x_35)])) (fun tgt kgo => ?_) ?_
      · refine XS.ifYes X38.here hx rfl (pc0 := 87) (pc' := 108) rfl (hb hby at_87) rfl ((if0 _ _).trans (teq (by decide : (0 : Int32) = (0 : Int32))).1) (by decide) (by decide) ?_
        show OwnG p e below T38 m 108 #[vI p1, vI p2, vI p3, vI p4, vI p5, vI 4, vI c_1, vI c_2, vI c_3, vI c_4, vR x_35, vU] [] tgt
        refine XS.iconst X38.here hx rfl (hb hby at_108) ?_
        show OwnG p e below T38 m 109 #[vI p1, vI p2, vI p3, vI p4, vI p5, vI 4, vI c_1, vI c_2, vI c_3, vI c_4, vR x_35, vU] [(.int 0)] tgt
        refine XS.istore X38.here hx rfl (hb hby at_109) rfl (l' := #[vI p1, vI p2, vI p3, vI p4, vI p5, vI 4, vI c_1, vI c_2, vI c_3, vI c_4, vR x_35, vI 0]) rfl ?_
        show OwnG p e below T38 m 111 #[vI p1, vI p2, vI p3, vI p4, vI p5, vI 4, vI c_1, vI c_2, vI c_3, vI c_4, vR x_35, vI 0] [] tgt
        refine XS.aload X38.here hx rfl (hb hby at_111) rfl rfl ?_
        exact kgo
      obtain ⟨_, _, ⟨T44, L44, k44, n44⟩, -, X44, ⟨Lc44, hQ44, l44, y44, z44⟩, st44⟩ := Jvm.LawKit.callS X38 hx (y := mN24) hown (mvT hZ (own_w hw 31 rfl)) (mvT hZ (own_w hw 32 rfl)) (mvT hZ (own_w hw 33 rfl)) (mvT hZ (own_w hw 34 rfl)) (by decide) (backOf (W := 0) (rm_isT_4 l Z a0 hw [] wG1 wG3 cx hEL T35.heap n0 Ol35 x_35 t_35 k_35 cd_35 N_35 vs_35 c_1 c_2 c_3 c_4 fq35_0 fq35_1 fq35_2 fq35_3 pq35_0) hZ (own_w hw 34 rfl) (own_w hw 33 rfl) (by decide) (by decide)) (g := (mkF m 113 #[vI p1, vI p2, vI p3, vI p4, vI p5, vI 4, vI c_1, vI c_2, vI c_3, vI c_4, vR x_35, vI 0] [(.ref x_35)])) rfl (by rw [hml]; rfl) (argsL := [(.ref x_35)]) (rest := []) (lenOf pd_92693199 rfl) rfl (Nat.le_of_eq rfl) (hb hby at_113) (fun _ _ => ⟨rfl, eq38, (by decide : 4 + 0 ≤ _), (by decide : 20 + 0 ≤ _)⟩)
      dsimp only [Pt.U, Pt.locs, Pt.cells, Pt.slots] at X44 l44 y44 z44 st44 hQ44
      subst l44 y44 z44
      obtain ⟨r_44, rfl, Nq44, eq44, pq44_0⟩ := hQ44
      refine OwnGoes.step (T' := T44) (g' := (mkF m 116 #[vI p1, vI p2, vI p3, vI p4, vI p5, vI 4, vI c_1, vI c_2, vI c_3, vI c_4, vR x_35, vI 0] [(.int r_44)])) st44 ?_
      have N44 := Fr.app N38 Nq44
      rcases pq44_0 with ⟨rfl, hT⟩ | ⟨rfl, hT⟩
      · skip
        exact absurd hT.2.2.1 ok_c_3
      refine OwnGoes.step (T' := T44) (g' := (mkF m 126 #[vI p1, vI p2, vI p3, vI p4, vI p5, vI 4, vI c_1, vI c_2, vI c_3, vI c_4, vR x_35, vI 0] [(.int 1)])) (fun tgt kgo => ?_) ?_
      · refine XS.iload X44.here hx rfl (hb hby at_116) rfl ?_
        show OwnG p e below T44 m 118 #[vI p1, vI p2, vI p3, vI p4, vI p5, vI 4, vI c_1, vI c_2, vI c_3, vI c_4, vR x_35, vI 0] [(.int 0), (.int 0)] tgt
        refine XS.icmpNo X44.here hx rfl (hb hby at_118) rfl (teq (by decide : (0 : Int32) = (0 : Int32))).2 ?_
        show OwnG p e below T44 m 121 #[vI p1, vI p2, vI p3, vI p4, vI p5, vI 4, vI c_1, vI c_2, vI c_3, vI c_4, vR x_35, vI 0] [] tgt
        refine XS.iconst X44.here hx rfl (hb hby at_121) ?_
        show OwnG p e below T44 m 122 #[vI p1, vI p2, vI p3, vI p4, vI p5, vI 4, vI c_1, vI c_2, vI c_3, vI c_4, vR x_35, vI 0] [(.int 1)] tgt
        refine XS.goto X44.here hx rfl (pc0 := 122) (pc' := 126) rfl (hb hby at_122) (by decide) (by decide) ?_
        exact kgo
      refine own_leaveW (Z := Z) (EL := consts_1) X44 hS0 (eq44 ▸ hk35) hlk (v := some (.int 1)) (fun h => by rw [Bd.returns] at h; cases h) (fun fs hr => retN X44 hx (t := .boolean) Bd.returns (by simp) (hb hby at_126) (by rw [(by decide : nar .boolean (1 : Int32) = (1 : Int32))]; exact hr)) (by decide) (by decide) ?_ ?_
      · rw [hh, eq44]
        exact R35.trans (CHv.at X44 hZ hEL R35.1)
      show Q_law Z p1 p2 p3 p4 p5 h0 n0 _ T44.heap _
      rw [eq44]
      exact ⟨rfl, N44⟩
    refine OwnGoes.step (T' := T37) (g' := (mkF m 113 #[vI p1, vI p2, vI p3, vI p4, vI p5, vI 4, vI c_1, vI c_2, vI c_3, vI c_4, vR x_35, vI 0] [(.ref x_35)])) (fun tgt kgo => ?_) ?_
    · refine XS.ifYes X37.here hx rfl (pc0 := 73) (pc' := 108) rfl (hb hby at_73) rfl ((if0 _ _).trans (teq (by decide : (0 : Int32) = (0 : Int32))).1) (by decide) (by decide) ?_
      show OwnG p e below T37 m 108 #[vI p1, vI p2, vI p3, vI p4, vI p5, vI 4, vI c_1, vI c_2, vI c_3, vI c_4, vR x_35, vU] [] tgt
      refine XS.iconst X37.here hx rfl (hb hby at_108) ?_
      show OwnG p e below T37 m 109 #[vI p1, vI p2, vI p3, vI p4, vI p5, vI 4, vI c_1, vI c_2, vI c_3, vI c_4, vR x_35, vU] [(.int 0)] tgt
      refine XS.istore X37.here hx rfl (hb hby at_109) rfl (l' := #[vI p1, vI p2, vI p3, vI p4, vI p5, vI 4, vI c_1, vI c_2, vI c_3, vI c_4, vR x_35, vI 0]) rfl ?_
      show OwnG p e below T37 m 111 #[vI p1, vI p2, vI p3, vI p4, vI p5, vI 4, vI c_1, vI c_2, vI c_3, vI c_4, vR x_35, vI 0] [] tgt
      refine XS.aload X37.here hx rfl (hb hby at_111) rfl rfl ?_
      exact kgo
    obtain ⟨_, _, ⟨T46, L46, k46, n46⟩, -, X46, ⟨Lc46, hQ46, l46, y46, z46⟩, st46⟩ := Jvm.LawKit.callS X37 hx (y := mN24) hown (mvT hZ (own_w hw 31 rfl)) (mvT hZ (own_w hw 32 rfl)) (mvT hZ (own_w hw 33 rfl)) (mvT hZ (own_w hw 34 rfl)) (by decide) (backOf (W := 0) (rm_isT_4 l Z a0 hw [] wG1 wG3 cx hEL T35.heap n0 Ol35 x_35 t_35 k_35 cd_35 N_35 vs_35 c_1 c_2 c_3 c_4 fq35_0 fq35_1 fq35_2 fq35_3 pq35_0) hZ (own_w hw 34 rfl) (own_w hw 33 rfl) (by decide) (by decide)) (g := (mkF m 113 #[vI p1, vI p2, vI p3, vI p4, vI p5, vI 4, vI c_1, vI c_2, vI c_3, vI c_4, vR x_35, vI 0] [(.ref x_35)])) rfl (by rw [hml]; rfl) (argsL := [(.ref x_35)]) (rest := []) (lenOf pd_92693199 rfl) rfl (Nat.le_of_eq rfl) (hb hby at_113) (fun _ _ => ⟨rfl, eq37, (by decide : 4 + 0 ≤ _), (by decide : 20 + 0 ≤ _)⟩)
    dsimp only [Pt.U, Pt.locs, Pt.cells, Pt.slots] at X46 l46 y46 z46 st46 hQ46
    subst l46 y46 z46
    obtain ⟨r_46, rfl, Nq46, eq46, pq46_0⟩ := hQ46
    refine OwnGoes.step (T' := T46) (g' := (mkF m 116 #[vI p1, vI p2, vI p3, vI p4, vI p5, vI 4, vI c_1, vI c_2, vI c_3, vI c_4, vR x_35, vI 0] [(.int r_46)])) st46 ?_
    have N46 := Fr.app N37 Nq46
    rcases pq46_0 with ⟨rfl, hT⟩ | ⟨rfl, hT⟩
    · skip
      exact absurd hT.2.1 ok_c_2
    refine OwnGoes.step (T' := T46) (g' := (mkF m 126 #[vI p1, vI p2, vI p3, vI p4, vI p5, vI 4, vI c_1, vI c_2, vI c_3, vI c_4, vR x_35, vI 0] [(.int 1)])) (fun tgt kgo => ?_) ?_
    · refine XS.iload X46.here hx rfl (hb hby at_116) rfl ?_
      show OwnG p e below T46 m 118 #[vI p1, vI p2, vI p3, vI p4, vI p5, vI 4, vI c_1, vI c_2, vI c_3, vI c_4, vR x_35, vI 0] [(.int 0), (.int 0)] tgt
      refine XS.icmpNo X46.here hx rfl (hb hby at_118) rfl (teq (by decide : (0 : Int32) = (0 : Int32))).2 ?_
      show OwnG p e below T46 m 121 #[vI p1, vI p2, vI p3, vI p4, vI p5, vI 4, vI c_1, vI c_2, vI c_3, vI c_4, vR x_35, vI 0] [] tgt
      refine XS.iconst X46.here hx rfl (hb hby at_121) ?_
      show OwnG p e below T46 m 122 #[vI p1, vI p2, vI p3, vI p4, vI p5, vI 4, vI c_1, vI c_2, vI c_3, vI c_4, vR x_35, vI 0] [(.int 1)] tgt
      refine XS.goto X46.here hx rfl (pc0 := 122) (pc' := 126) rfl (hb hby at_122) (by decide) (by decide) ?_
      exact kgo
    refine own_leaveW (Z := Z) (EL := consts_1) X46 hS0 (eq46 ▸ hk35) hlk (v := some (.int 1)) (fun h => by rw [Bd.returns] at h; cases h) (fun fs hr => retN X46 hx (t := .boolean) Bd.returns (by simp) (hb hby at_126) (by rw [(by decide : nar .boolean (1 : Int32) = (1 : Int32))]; exact hr)) (by decide) (by decide) ?_ ?_
    · rw [hh, eq46]
      exact R35.trans (CHv.at X46 hZ hEL R35.1)
    show Q_law Z p1 p2 p3 p4 p5 h0 n0 _ T46.heap _
    rw [eq46]
    exact ⟨rfl, N46⟩
  refine OwnGoes.step (T' := T36) (g' := (mkF m 113 #[vI p1, vI p2, vI p3, vI p4, vI p5, vI 4, vI c_1, vI c_2, vI c_3, vI c_4, vR x_35, vI 0] [(.ref x_35)])) (fun tgt kgo => ?_) ?_
  · refine XS.ifYes X36.here hx rfl (pc0 := 59) (pc' := 108) rfl (hb hby at_59) rfl ((if0 _ _).trans (teq (by decide : (0 : Int32) = (0 : Int32))).1) (by decide) (by decide) ?_
    show OwnG p e below T36 m 108 #[vI p1, vI p2, vI p3, vI p4, vI p5, vI 4, vI c_1, vI c_2, vI c_3, vI c_4, vR x_35, vU] [] tgt
    refine XS.iconst X36.here hx rfl (hb hby at_108) ?_
    show OwnG p e below T36 m 109 #[vI p1, vI p2, vI p3, vI p4, vI p5, vI 4, vI c_1, vI c_2, vI c_3, vI c_4, vR x_35, vU] [(.int 0)] tgt
    refine XS.istore X36.here hx rfl (hb hby at_109) rfl (l' := #[vI p1, vI p2, vI p3, vI p4, vI p5, vI 4, vI c_1, vI c_2, vI c_3, vI c_4, vR x_35, vI 0]) rfl ?_
    show OwnG p e below T36 m 111 #[vI p1, vI p2, vI p3, vI p4, vI p5, vI 4, vI c_1, vI c_2, vI c_3, vI c_4, vR x_35, vI 0] [] tgt
    refine XS.aload X36.here hx rfl (hb hby at_111) rfl rfl ?_
    exact kgo
  obtain ⟨_, _, ⟨T48, L48, k48, n48⟩, -, X48, ⟨Lc48, hQ48, l48, y48, z48⟩, st48⟩ := Jvm.LawKit.callS X36 hx (y := mN24) hown (mvT hZ (own_w hw 31 rfl)) (mvT hZ (own_w hw 32 rfl)) (mvT hZ (own_w hw 33 rfl)) (mvT hZ (own_w hw 34 rfl)) (by decide) (backOf (W := 0) (rm_isT_4 l Z a0 hw [] wG1 wG3 cx hEL T35.heap n0 Ol35 x_35 t_35 k_35 cd_35 N_35 vs_35 c_1 c_2 c_3 c_4 fq35_0 fq35_1 fq35_2 fq35_3 pq35_0) hZ (own_w hw 34 rfl) (own_w hw 33 rfl) (by decide) (by decide)) (g := (mkF m 113 #[vI p1, vI p2, vI p3, vI p4, vI p5, vI 4, vI c_1, vI c_2, vI c_3, vI c_4, vR x_35, vI 0] [(.ref x_35)])) rfl (by rw [hml]; rfl) (argsL := [(.ref x_35)]) (rest := []) (lenOf pd_92693199 rfl) rfl (Nat.le_of_eq rfl) (hb hby at_113) (fun _ _ => ⟨rfl, eq36, (by decide : 4 + 0 ≤ _), (by decide : 20 + 0 ≤ _)⟩)
  dsimp only [Pt.U, Pt.locs, Pt.cells, Pt.slots] at X48 l48 y48 z48 st48 hQ48
  subst l48 y48 z48
  obtain ⟨r_48, rfl, Nq48, eq48, pq48_0⟩ := hQ48
  refine OwnGoes.step (T' := T48) (g' := (mkF m 116 #[vI p1, vI p2, vI p3, vI p4, vI p5, vI 4, vI c_1, vI c_2, vI c_3, vI c_4, vR x_35, vI 0] [(.int r_48)])) st48 ?_
  have N48 := Fr.app N36 Nq48
  rcases pq48_0 with ⟨rfl, hT⟩ | ⟨rfl, hT⟩
  · skip
    exact absurd hT.1 ok_c_1
  refine OwnGoes.step (T' := T48) (g' := (mkF m 126 #[vI p1, vI p2, vI p3, vI p4, vI p5, vI 4, vI c_1, vI c_2, vI c_3, vI c_4, vR x_35, vI 0] [(.int 1)])) (fun tgt kgo => ?_) ?_
  · refine XS.iload X48.here hx rfl (hb hby at_116) rfl ?_
    show OwnG p e below T48 m 118 #[vI p1, vI p2, vI p3, vI p4, vI p5, vI 4, vI c_1, vI c_2, vI c_3, vI c_4, vR x_35, vI 0] [(.int 0), (.int 0)] tgt
    refine XS.icmpNo X48.here hx rfl (hb hby at_118) rfl (teq (by decide : (0 : Int32) = (0 : Int32))).2 ?_
    show OwnG p e below T48 m 121 #[vI p1, vI p2, vI p3, vI p4, vI p5, vI 4, vI c_1, vI c_2, vI c_3, vI c_4, vR x_35, vI 0] [] tgt
    refine XS.iconst X48.here hx rfl (hb hby at_121) ?_
    show OwnG p e below T48 m 122 #[vI p1, vI p2, vI p3, vI p4, vI p5, vI 4, vI c_1, vI c_2, vI c_3, vI c_4, vR x_35, vI 0] [(.int 1)] tgt
    refine XS.goto X48.here hx rfl (pc0 := 122) (pc' := 126) rfl (hb hby at_122) (by decide) (by decide) ?_
    exact kgo
  refine own_leaveW (Z := Z) (EL := consts_1) X48 hS0 (eq48 ▸ hk35) hlk (v := some (.int 1)) (fun h => by rw [Bd.returns] at h; cases h) (fun fs hr => retN X48 hx (t := .boolean) Bd.returns (by simp) (hb hby at_126) (by rw [(by decide : nar .boolean (1 : Int32) = (1 : Int32))]; exact hr)) (by decide) (by decide) ?_ ?_
  · rw [hh, eq48]
    exact R35.trans (CHv.at X48 hZ hEL R35.1)
  show Q_law Z p1 p2 p3 p4 p5 h0 n0 _ T48.heap _
  rw [eq48]
  exact ⟨rfl, N48⟩
set_option maxRecDepth 65536 in
set_option maxHeartbeats 40000000 in
theorem comes_1 {Post : Tables → Env → Array Value → State → Outcome → State → Prop} (hpost : ∀ tb e args s v u, (limb_1_1.after args s (.returned v) u = true ∧ limb_1_2.after args s (.returned v) u = true ∧ True) → ReturnedEndW s (.returned v) u (Jvm.fieldLocs frame_1_writes args s ++ Jvm.arrayLocs frame_1_arrays args s ++ Jvm.staticLocs frame_1_statics s) 24 1152 → Post tb e args s (.returned v) u) :
    ArmFor flags0 classFile x code maxLocals ret World_1 tables_1 room_1 Calls_1 rest_1 Pre_1 Post := by
  intro l hfl _ _ p e ha hc hk s m args below hf hA hF happ hP
  obtain ⟨hcalls, hrest, hpre⟩ := hP
  obtain ⟨-, -, -, hnamed, -, -, -, hat⟩ := (Spec.applies_iff hf).mp happ
  obtain ⟨hg, hn⟩ := and_e (Cond.before_iff.mp (show (Jvm.Cond.and given_1 narrow_1).before args s = true from hpre))
  obtain ⟨gc, gr0⟩ := and_e hg
  obtain ⟨ga0, gr1⟩ := and_e gr0
  obtain ⟨ga1, gr2⟩ := and_e gr1
  obtain ⟨ga2, gr3⟩ := and_e gr2
  obtain ⟨ga3, gr4⟩ := and_e gr3
  obtain ⟨w0, w1, w2, w3, w4, rfl⟩ : ∃ w0 w1 w2 w3 w4 : Value, args = #[w0, w1, w2, w3, w4] := by
    have hs : args.size = 5 := by simpa [Cond.value, given_1] using gc
    obtain ⟨L⟩ := args
    match L, hs with
    | [w0, w1, w2, w3, w4], _ => exact ⟨w0, w1, w2, w3, w4, rfl⟩
  have hw := fun d (hd : d ∈ tables_1) => atoms_spec (ws := Jvm.Cond.code x code maxLocals ret :: tables_1) hat d (List.mem_cons_of_mem _ hd)
  have hfit : Fit s := fun {y c} hc i hi => by
    obtain ⟨ha, rfl⟩ := Array.getElem?_eq_some_iff.mp hc
    have q := List.all_eq_true.mp ((Array.all_eq_true_iff_forall_mem.mp hF) _ (Array.getElem_mem ha)) i (List.mem_range.mpr hi)
    simpa [Array.getElem?_eq_getElem hi] using q
  obtain ⟨hsets, hown0⟩ := atoms_of _ (rest_1_c_eq ▸ (show rest_1_c.before _ s = true from hrest))
  obtain ⟨i0, ei0⟩ := is_v ga0
  obtain rfl : w0 = (.int i0) := Option.some.inj ei0
  obtain ⟨i1, ei1⟩ := is_v ga1
  obtain rfl : w1 = (.int i1) := Option.some.inj ei1
  obtain ⟨i2, ei2⟩ := is_v ga2
  obtain rfl : w2 = (.int i2) := Option.some.inj ei2
  obtain ⟨i3, ei3⟩ := is_v ga3
  obtain rfl : w3 = (.int i3) := Option.some.inj ei3
  obtain ⟨i4, ei4⟩ := is_v gr4
  obtain rfl : w4 = (.int i4) := Option.some.inj ei4
  obtain ⟨wG1, e10⟩ := is_v (Cond.before_iff.mp (hsets _ (List.mem_of_getElem? (i := 1) rfl)))
  have wO2 : Sta s s.heap "java/lang/String" "COMPACT_STRINGS" "Z" (.int wG1) := Sta.start e10 (Or.inl (hsets _ (List.mem_of_getElem? (i := 0) rfl)))
  have wP5 : ¬ (wG1 = (0 : Int32)) := gotF (Cond.eq_ints e10 (Term.int_eval (0))) (not_v (Cond.before_iff.mp (hsets _ (List.mem_of_getElem? (i := 2) rfl))))
  obtain ⟨wG3, e14, wrG3⟩ := isR_v (Cond.before_iff.mp (hsets _ (List.mem_of_getElem? (i := 8) rfl)))
  have wO4 : Sta s s.heap "jdk/internal/util/Preconditions" "SIOOBE_FORMATTER" "Ljava/util/function/BiFunction;" wG3 := Sta.start e14 (Or.inl (hsets _ (List.mem_of_getElem? (i := 7) rfl)))
  have hstr : ∀ a ∈ Bundle.stringAtoms, a.before _ s = true := fun d hd => hw d ((by decide +kernel : ∀ d ∈ Bundle.stringAtoms, d ∈ tables_1) d hd)
  have wUA : Sta s s.heap "java/lang/StringUTF16" "$assertionsDisabled" "Z" (.int 1) := Sta.start (own_eq_int (Cond.before_iff.mp (hsets _ (List.mem_of_getElem? (i := 12) rfl)))) (Or.inl (hsets _ (List.mem_of_getElem? (i := 11) rfl)))
  have wUH : Sta s s.heap "java/lang/StringUTF16" "HI_BYTE_SHIFT" "I" (.int 0) := Sta.start (own_eq_int (Cond.before_iff.mp (hsets _ (List.mem_of_getElem? (i := 15) rfl)))) (Or.inl (hsets _ (List.mem_of_getElem? (i := 14) rfl)))
  have wUL : Sta s s.heap "java/lang/StringUTF16" "LO_BYTE_SHIFT" "I" (.int 8) := Sta.start (own_eq_int (Cond.before_iff.mp (hsets _ (List.mem_of_getElem? (i := 18) rfl)))) (Or.inl (hsets _ (List.mem_of_getElem? (i := 17) rfl)))
  have hEL : EW s _ consts_1 := (EW.cons (own_w hw 23 rfl) (by decide) EW.nil)
  have hcw : Jvm.Lit.compactW.before _ s = true := (hsets _ (List.mem_of_getElem? (i := 2) rfl))
  have hH : CHv s consts_1 s.vm s.heap := CHv.start hEL (fun p hp => hcalls.1 p hp) hcw (hstr _ (by simp [Bundle.stringAtoms])) (hstr _ (by simp [Bundle.stringAtoms, Bundle.sN]))
  obtain ⟨n, o, h1, h2, h3, _, L, rfl, ⟨rfl, N⟩, -, hq⟩ := rm_law l s _ hw tables_1 wG1 wG3 ⟨wO2, wP5, wO4, wrG3, hstr, wUA, wUH, wUL⟩ hEL s.heap s.heap.size (Old.start s) i0 i1 i2 i3 i4 p e ha hc hk s m _ below hf ((Spec.applies_iff_loose hf).mp happ).1 ⟨rfl, State.Warmed39.refl s, rfl, hH⟩ trivial
  refine ⟨n, _, h1, h2, h3, hpost _ _ _ _ _ _ ⟨Cond.after_iff.mpr rfl, Cond.after_iff.mpr (eq_i res_at (Term.int_eval (1)) rfl), trivial⟩ ⟨hq.1, hq.2.1, hq.2.2.1, (hq.2.2.2.sift fun y hy => Or.inr (N y hy)).mono (by decide) (by decide)⟩⟩
theorem main_1_1 : Claimed_1_1 := comes_1 fun _ _ _ _ _ _ h hF => ⟨h.1, hF⟩
theorem main_1_2 : Claimed_1_2 := comes_1 fun _ _ _ _ _ _ h hF => ⟨h.2.1, hF⟩
end Jvm.Pilot.@@N@@
namespace Jvm.Pilot.@@N@@
open Jvm Jvm.ClassFile Sem Op Lib Jvm.Free Jvm.Stand Jvm.Pilot.@@N@@.Jvm.D
/-! MADE BY PROGRAM (witnessworld.py) out of the Statement's table words and the real class files: 21 classes; the members and pool entries that the words name. The judged class is class 1, her method 4. -/
namespace start1
open Jvm.ClassFile
def u (s : String) : CpInfo := .utf8 (stringToUtf16 s)
/-- a pool by its gaps: so many unusable entries, then the entry; so many at the end -/
def gap : Nat → List CpInfo → List CpInfo
  | 0, r => r
  | n + 1, r => .unusable :: gap n r
def poolList (es : List (Nat × CpInfo)) (last : Nat) : List CpInfo := es.foldr (fun e r => gap e.1 (e.2 :: r)) (gap last [])
def pool (es : List (Nat × CpInfo)) (last : Nat) : Array CpInfo := ⟨poolList es last⟩
def fileOf (pool : Array CpInfo) (this : Nat) (attrs : Array Attribute := #[]) (ms : Array MethodInfo := #[]) (fl : Nat := 33) (sup : Nat := 0) (ifs : Array Nat := #[]) (fds : Array FieldInfo := #[]) : ClassFile where
  minorVersion := 0
  majorVersion := 65
  constantPool := pool
  accessFlags := fl
  thisClass := this
  superClass := sup
  interfaces := ifs
  fields := fds
  methods := ms
  attributes := attrs
def plain (name : String) (sup : Option ClassId) : Class where
  name := name
  kind := .ordinary
  loader := none
  accessFlags := 33
  super := sup
  interfaces := #[]
  cf := none
  fields := #[]
  methods := #[]
  instanceTypes := #[]
  staticTypes := #[]
  resolved := #[]
  callSites := []
  init := .initialized
  statics := none
  mirror := none

def pool0 : Array CpInfo := pool [(5, u "<init>"), (0, u "()V"), (1, .class_ 10), (1, u "java/lang/Object")] 113

def k0c0 : Code := { maxStack := 0, maxLocals := 1, code := object_method_1_code, exceptionTable := #[], attributes := #[] }
def k0m0 : Method := { name := "<init>", desc := "()V", sig := { parameters := [], returnType := none }, accessFlags := 1, code := some k0c0 }
/-- java/lang/Object -/
def k0 : Class := { plain "java/lang/Object" none with
  accessFlags := 33
  interfaces := #[]
  cf := some (fileOf pool0 8 #[] #[{ accessFlags := 1, nameIndex := 5, descriptorIndex := 6, attributes := #[] }] 33 0 #[] #[])
  fields := #[]
  methods := #[k0m0]
  instanceTypes := #[]
  staticTypes := #[]
  resolved := Array.replicate 124 none
  statics := none }

def pool1 : Array CpInfo := pool [(2, .class_ 4), (1, u "java/lang/Object"), (0, u "<init>"), (0, u "()V"), (0, .integer 65536), (0, .integer 65535), (0, .class_ 10), (0, u "java/lang/String"), (0, .methodref 9 12), (0, .nameAndType 5 13), (0, u "([C)V"), (0, .integer 2147483647), (0, .methodref 16 17), (0, .class_ 18), (0, .nameAndType 19 20), (0, u "io/holdfast/cli/HttpHeadIsTargetPinLaw"), (0, u "ch"), (0, u "(I)C"), (0, .methodref 16 22), (0, .nameAndType 23 24), (0, u "str"), (0, u "(ICCCC)Ljava/lang/String;"), (0, .methodref 16 26), (0, .nameAndType 27 28), (0, u "ok"), (0, u "(C)Z"), (0, .methodref 30 31), (0, .class_ 32), (0, .nameAndType 33 34), (0, u "io/holdfast/cli/HttpHead"), (0, u "isTarget"), (0, u "(Ljava/lang/String;)Z"), (3, u "law"), (0, u "(IIIII)Z")] 2

def k1m0 : Method := { name := "<init>", desc := "()V", sig := { parameters := [], returnType := none }, accessFlags := 1, code := none }
def k1c1 : Code := { maxStack := 2, maxLocals := 1, code := method_2_code, exceptionTable := #[], attributes := #[] }
def k1m1 : Method := { name := "ch", desc := "(I)C", sig := { parameters := [.int], returnType := some .char }, accessFlags := 10, code := some k1c1 }
def k1c2 : Code := { maxStack := 2, maxLocals := 1, code := method_3_code, exceptionTable := #[], attributes := #[] }
def k1m2 : Method := { name := "ok", desc := "(C)Z", sig := { parameters := [.char], returnType := some .boolean }, accessFlags := 10, code := some k1c2 }
def k1c3 : Code := { maxStack := 6, maxLocals := 5, code := method_4_code, exceptionTable := #[], attributes := #[] }
def k1m3 : Method := { name := "str", desc := "(ICCCC)Ljava/lang/String;", sig := { parameters := [.int, .char, .char, .char, .char], returnType := some (.object "java/lang/String") }, accessFlags := 10, code := some k1c3 }
def k1c4 : Code := { maxStack := 5, maxLocals := 12, code := code, exceptionTable := #[], attributes := #[] }
def k1m4 : Method := { name := "law", desc := "(IIIII)Z", sig := { parameters := [.int, .int, .int, .int, .int], returnType := some .boolean }, accessFlags := 9, code := some k1c4 }
/-- io/holdfast/cli/HttpHeadIsTargetPinLaw -/
def k1 : Class := { plain "io/holdfast/cli/HttpHeadIsTargetPinLaw" (some 0) with
  accessFlags := 49
  interfaces := #[]
  cf := some (fileOf pool1 16 #[] #[{ accessFlags := 1, nameIndex := 5, descriptorIndex := 6, attributes := #[] }, { accessFlags := 10, nameIndex := 19, descriptorIndex := 20, attributes := #[] }, { accessFlags := 10, nameIndex := 27, descriptorIndex := 28, attributes := #[] }, { accessFlags := 10, nameIndex := 23, descriptorIndex := 24, attributes := #[] }, { accessFlags := 9, nameIndex := 38, descriptorIndex := 39, attributes := #[] }] 49 2 #[] #[])
  fields := #[]
  methods := #[k1m0, k1m1, k1m2, k1m3, k1m4]
  instanceTypes := #[]
  staticTypes := #[]
  resolved := Array.replicate 42 none
  statics := none }

def pool2 : Array CpInfo := pool [(1, .class_ 2), (0, u "java/io/Serializable"), (0, .class_ 4), (0, u "java/lang/Object")] 2

/-- java/io/Serializable -/
def k2 : Class := { plain "java/io/Serializable" (some 0) with
  accessFlags := 1537
  interfaces := #[]
  cf := some (fileOf pool2 1 #[] #[] 1537 3 #[] #[])
  fields := #[]
  methods := #[]
  instanceTypes := #[]
  staticTypes := #[]
  resolved := Array.replicate 7 none
  statics := none }

def pool3 : Array CpInfo := pool [(1, .class_ 2), (0, u "java/lang/Comparable"), (0, .class_ 4), (0, u "java/lang/Object")] 7

/-- java/lang/Comparable -/
def k3 : Class := { plain "java/lang/Comparable" (some 0) with
  accessFlags := 1537
  interfaces := #[]
  cf := some (fileOf pool3 1 #[] #[] 1537 3 #[] #[])
  fields := #[]
  methods := #[]
  instanceTypes := #[]
  staticTypes := #[]
  resolved := Array.replicate 12 none
  statics := none }

def pool4 : Array CpInfo := pool [(2, .class_ 4), (1, u "java/lang/CharSequence"), (42, .class_ 48), (0, u "java/lang/CharSequence$1CodePointIterator"), (10, .class_ 60), (0, u "java/lang/CharSequence$1CharIterator"), (5, .class_ 67), (0, u "java/lang/Object")] 63

/-- java/lang/CharSequence -/
def k4 : Class := { plain "java/lang/CharSequence" (some 0) with
  accessFlags := 1537
  interfaces := #[]
  cf := some (fileOf pool4 2 #[.nestMembers #[47, 59]] #[] 1537 66 #[] #[])
  fields := #[]
  methods := #[]
  instanceTypes := #[]
  staticTypes := #[]
  resolved := Array.replicate 131 none
  statics := none }

def pool5 : Array CpInfo := pool [(1, .class_ 2), (0, u "java/lang/constant/Constable"), (0, .class_ 4), (0, u "java/lang/Object")] 6

/-- java/lang/constant/Constable -/
def k5 : Class := { plain "java/lang/constant/Constable" (some 0) with
  accessFlags := 1537
  interfaces := #[]
  cf := some (fileOf pool5 1 #[] #[] 1537 3 #[] #[])
  fields := #[]
  methods := #[]
  instanceTypes := #[]
  staticTypes := #[]
  resolved := Array.replicate 11 none
  statics := none }

def pool6 : Array CpInfo := pool [(1, .class_ 2), (0, u "java/lang/constant/ConstantDesc"), (0, .class_ 4), (0, u "java/lang/Object")] 32

/-- java/lang/constant/ConstantDesc -/
def k6 : Class := { plain "java/lang/constant/ConstantDesc" (some 0) with
  accessFlags := 1537
  interfaces := #[]
  cf := some (fileOf pool6 1 #[] #[] 1537 3 #[] #[])
  fields := #[]
  methods := #[]
  instanceTypes := #[]
  staticTypes := #[]
  resolved := Array.replicate 37 none
  statics := none }

def pool7 : Array CpInfo := pool [(1, .methodref 2 3), (0, .class_ 4), (0, .nameAndType 5 6), (0, u "java/lang/Object"), (0, u "<init>"), (0, u "()V"), (0, .string 8), (0, u ""), (0, .fieldref 10 11), (0, .class_ 12), (0, .nameAndType 13 14), (0, u "java/lang/String"), (0, u "value"), (0, u "[B"), (0, .fieldref 10 16), (0, .nameAndType 17 18), (0, u "coder"), (0, u "B"), (2, u "hash"), (0, u "I"), (2, u "hashIsZero"), (0, u "Z"), (0, .methodref 10 28), (0, .nameAndType 5 29), (0, u "([CIILjava/lang/Void;)V"), (8, .fieldref 10 39), (0, .nameAndType 40 26), (0, u "COMPACT_STRINGS"), (1, .class_ 44), (1, u "java/lang/StringUTF16"), (0, u "compress"), (1, .methodref 42 48), (0, .nameAndType 49 50), (0, u "coderFromArrayLen"), (0, u "([BI)B"), (56, .class_ 109), (1, u "java/lang/StringLatin1"), (32, u "()Z"), (34, .methodref 42 178), (0, .nameAndType 45 179), (0, u "([CII)[B"), (154, u "()I"), (0, .methodref 10 336), (0, .nameAndType 17 337), (0, u "()B"), (25, u "([BI)C"), (27, u "(II)V"), (35, u "(I)C"), (64, .methodref 10 493), (0, .nameAndType 494 142), (0, u "isLatin1"), (0, .methodref 107 496), (0, .nameAndType 497 363), (0, u "charAt"), (0, .methodref 42 496), (2, u "checkIndex"), (5, u "length"), (67, .class_ 576), (0, u "java/lang/CharSequence"), (22, u "CASE_INSENSITIVE_ORDER"), (0, u "Ljava/util/Comparator;"), (91, u "isEmpty"), (317, u "([C)V"), (42, .fieldref 1054 1055), (0, .class_ 1056), (0, .nameAndType 1057 1058), (0, u "jdk/internal/util/Preconditions"), (0, u "SIOOBE_FORMATTER"), (0, u "Ljava/util/function/BiFunction;"), (0, .methodref 1054 1060), (0, .nameAndType 501 1061), (0, u "(IILjava/util/function/BiFunction;)I"), (39, u "serialPersistentFields"), (0, u "[Ljava/io/ObjectStreamField;"), (0, .class_ 1104), (0, u "java/lang/String$CaseInsensitiveComparator"), (1, .class_ 1107), (0, u "java/io/Serializable"), (0, .class_ 1109), (0, u "java/lang/Comparable"), (0, .class_ 1111), (0, u "java/lang/constant/Constable"), (0, .class_ 1113), (0, u "java/lang/constant/ConstantDesc"), (2, u "serialVersionUID"), (0, u "J"), (3, u "REPL"), (0, u "C"), (2, u "LATIN1"), (1, u "UTF16")] 323

def k7m0 : Method := { name := "<init>", desc := "()V", sig := { parameters := [], returnType := none }, accessFlags := 1, code := none }
def k7c1 : Code := { maxStack := 5, maxLocals := 2, code := jdk_42_method_3_code, exceptionTable := #[], attributes := #[] }
def k7m1 : Method := { name := "<init>", desc := "([C)V", sig := { parameters := [(.array .char)], returnType := none }, accessFlags := 1, code := some k7c1 }
def k7c2 : Code := { maxStack := 2, maxLocals := 1, code := jdk_42_method_54_code, exceptionTable := #[], attributes := #[] }
def k7m2 : Method := { name := "length", desc := "()I", sig := { parameters := [], returnType := some .int }, accessFlags := 1, code := some k7c2 }
def k7c3 : Code := { maxStack := 1, maxLocals := 1, code := jdk_42_method_55_code, exceptionTable := #[], attributes := #[] }
def k7m3 : Method := { name := "isEmpty", desc := "()Z", sig := { parameters := [], returnType := some .boolean }, accessFlags := 1, code := some k7c3 }
def k7c4 : Code := { maxStack := 2, maxLocals := 2, code := jdk_42_method_56_code, exceptionTable := #[], attributes := #[] }
def k7m4 : Method := { name := "charAt", desc := "(I)C", sig := { parameters := [.int], returnType := some .char }, accessFlags := 1, code := some k7c4 }
def k7c5 : Code := { maxStack := 4, maxLocals := 6, code := jdk_42_method_149_code, exceptionTable := #[], attributes := #[] }
def k7m5 : Method := { name := "<init>", desc := "([CIILjava/lang/Void;)V", sig := { parameters := [(.array .char), .int, .int, (.object "java/lang/Void")], returnType := none }, accessFlags := 2, code := some k7c5 }
def k7c6 : Code := { maxStack := 1, maxLocals := 1, code := jdk_42_method_152_code, exceptionTable := #[], attributes := #[] }
def k7m6 : Method := { name := "coder", desc := "()B", sig := { parameters := [], returnType := some .byte }, accessFlags := 0, code := some k7c6 }
def k7c7 : Code := { maxStack := 1, maxLocals := 1, code := jdk_42_method_154_code, exceptionTable := #[], attributes := #[] }
def k7m7 : Method := { name := "isLatin1", desc := "()Z", sig := { parameters := [], returnType := some .boolean }, accessFlags := 0, code := some k7c7 }
def k7c8 : Code := { maxStack := 3, maxLocals := 2, code := jdk_42_method_155_code, exceptionTable := #[], attributes := #[] }
def k7m8 : Method := { name := "checkIndex", desc := "(II)V", sig := { parameters := [.int, .int], returnType := none }, accessFlags := 8, code := some k7c8 }
/-- java/lang/String -/
def k7 : Class := { plain "java/lang/String" (some 0) with
  accessFlags := 49
  interfaces := #[2, 3, 4, 5, 6]
  cf := some (fileOf pool7 10 #[.nestMembers #[1103]] #[{ accessFlags := 1, nameIndex := 5, descriptorIndex := 6, attributes := #[] }, { accessFlags := 1, nameIndex := 5, descriptorIndex := 1010, attributes := #[] }, { accessFlags := 1, nameIndex := 507, descriptorIndex := 334, attributes := #[] }, { accessFlags := 1, nameIndex := 692, descriptorIndex := 142, attributes := #[] }, { accessFlags := 1, nameIndex := 497, descriptorIndex := 427, attributes := #[] }, { accessFlags := 2, nameIndex := 5, descriptorIndex := 29, attributes := #[] }, { accessFlags := 0, nameIndex := 17, descriptorIndex := 337, attributes := #[] }, { accessFlags := 0, nameIndex := 494, descriptorIndex := 142, attributes := #[] }, { accessFlags := 8, nameIndex := 501, descriptorIndex := 391, attributes := #[] }] 49 2 #[1106, 1108, 575, 1110, 1112] #[{ accessFlags := 18, nameIndex := 13, descriptorIndex := 14, attributes := #[] }, { accessFlags := 18, nameIndex := 17, descriptorIndex := 18, attributes := #[] }, { accessFlags := 2, nameIndex := 21, descriptorIndex := 22, attributes := #[] }, { accessFlags := 2, nameIndex := 25, descriptorIndex := 26, attributes := #[] }, { accessFlags := 26, nameIndex := 1116, descriptorIndex := 1117, attributes := #[] }, { accessFlags := 24, nameIndex := 40, descriptorIndex := 26, attributes := #[] }, { accessFlags := 26, nameIndex := 1101, descriptorIndex := 1102, attributes := #[] }, { accessFlags := 26, nameIndex := 1121, descriptorIndex := 1122, attributes := #[] }, { accessFlags := 25, nameIndex := 599, descriptorIndex := 600, attributes := #[] }, { accessFlags := 24, nameIndex := 1125, descriptorIndex := 18, attributes := #[] }, { accessFlags := 24, nameIndex := 1127, descriptorIndex := 18, attributes := #[] }])
  fields := #[{ name := "value", type := (.array .byte), accessFlags := 18, slot := 0, constantValue := 0 }, { name := "coder", type := .byte, accessFlags := 18, slot := 1, constantValue := 0 }, { name := "hash", type := .int, accessFlags := 2, slot := 2, constantValue := 0 }, { name := "hashIsZero", type := .boolean, accessFlags := 2, slot := 3, constantValue := 0 }, { name := "serialVersionUID", type := .long, accessFlags := 26, slot := 0, constantValue := 0 }, { name := "COMPACT_STRINGS", type := .boolean, accessFlags := 24, slot := 1, constantValue := 0 }, { name := "serialPersistentFields", type := (.array (.object "java/io/ObjectStreamField")), accessFlags := 26, slot := 2, constantValue := 0 }, { name := "REPL", type := .char, accessFlags := 26, slot := 3, constantValue := 0 }, { name := "CASE_INSENSITIVE_ORDER", type := (.object "java/util/Comparator"), accessFlags := 25, slot := 4, constantValue := 0 }, { name := "LATIN1", type := .byte, accessFlags := 24, slot := 5, constantValue := 0 }, { name := "UTF16", type := .byte, accessFlags := 24, slot := 6, constantValue := 0 }]
  methods := #[k7m0, k7m1, k7m2, k7m3, k7m4, k7m5, k7m6, k7m7, k7m8]
  instanceTypes := #[(.array .byte), .byte, .int, .boolean]
  staticTypes := #[.long, .boolean, (.array (.object "java/io/ObjectStreamField")), .char, (.object "java/util/Comparator"), .byte, .byte]
  resolved := Array.replicate 1451 none
  statics := some 0 }

def pool8 : Array CpInfo := pool [(2, .class_ 4), (1, u "java/lang/Object"), (0, u "<init>"), (0, u "()V"), (0, .class_ 8), (0, u "java/lang/Record")] 13

def k8m0 : Method := { name := "<init>", desc := "()V", sig := { parameters := [], returnType := none }, accessFlags := 4, code := none }
/-- java/lang/Record -/
def k8 : Class := { plain "java/lang/Record" (some 0) with
  accessFlags := 1057
  interfaces := #[]
  cf := some (fileOf pool8 7 #[] #[{ accessFlags := 4, nameIndex := 5, descriptorIndex := 6, attributes := #[] }] 1057 2 #[] #[])
  fields := #[]
  methods := #[k8m0]
  instanceTypes := #[]
  staticTypes := #[]
  resolved := Array.replicate 22 none
  statics := none }

def pool9 : Array CpInfo := pool [(2, .class_ 4), (1, u "java/lang/Record"), (3, .class_ 10), (1, u "io/holdfast/cli/HttpHead"), (0, u "method"), (0, u "Ljava/lang/String;"), (2, u "target"), (2, u "version"), (2, u "fields"), (0, u "Ljava/util/List;"), (14, u "()Z"), (4, .class_ 43), (0, u "io/holdfast/cli/HttpHead$Field"), (5, .class_ 51), (1, u "java/lang/String"), (1, u "(Ljava/lang/String;)Z"), (14, .nameAndType 69 37), (0, u "isEmpty"), (32, .methodref 49 68), (0, .methodref 49 104), (0, .nameAndType 105 106), (0, u "length"), (0, u "()I"), (0, .methodref 49 108), (0, .nameAndType 109 110), (0, u "charAt"), (0, u "(I)C"), (21, u "TOKEN"), (0, u "Ljava/util/regex/Pattern;"), (4, u "VERSION"), (2, u "MAX_REQUEST_LINE_BYTES"), (0, u "I"), (2, u "MAX_HEADER_BYTES"), (12, u "isTarget"), (6, .class_ 166), (0, u "io/holdfast/cli/HttpHead$Reader"), (0, .class_ 168), (0, u "io/holdfast/cli/HttpHead$RefusedException")] 24

def k9c0 : Code := { maxStack := 2, maxLocals := 3, code := prog_1_method_5_code, exceptionTable := #[], attributes := #[] }
def k9m0 : Method := { name := "isTarget", desc := "(Ljava/lang/String;)Z", sig := { parameters := [(.object "java/lang/String")], returnType := some .boolean }, accessFlags := 8, code := some k9c0 }
/-- io/holdfast/cli/HttpHead -/
def k9 : Class := { plain "io/holdfast/cli/HttpHead" (some 8) with
  accessFlags := 48
  interfaces := #[]
  cf := some (fileOf pool9 8 #[.nestMembers #[165, 167, 42]] #[{ accessFlags := 8, nameIndex := 158, descriptorIndex := 53, attributes := #[] }] 48 2 #[] #[{ accessFlags := 18, nameIndex := 11, descriptorIndex := 12, attributes := #[] }, { accessFlags := 18, nameIndex := 15, descriptorIndex := 12, attributes := #[] }, { accessFlags := 18, nameIndex := 18, descriptorIndex := 12, attributes := #[] }, { accessFlags := 18, nameIndex := 21, descriptorIndex := 22, attributes := #[] }, { accessFlags := 24, nameIndex := 141, descriptorIndex := 142, attributes := #[] }, { accessFlags := 24, nameIndex := 145, descriptorIndex := 142, attributes := #[] }, { accessFlags := 24, nameIndex := 132, descriptorIndex := 133, attributes := #[] }, { accessFlags := 26, nameIndex := 138, descriptorIndex := 133, attributes := #[] }])
  fields := #[{ name := "method", type := (.object "java/lang/String"), accessFlags := 18, slot := 0, constantValue := 0 }, { name := "target", type := (.object "java/lang/String"), accessFlags := 18, slot := 1, constantValue := 0 }, { name := "version", type := (.object "java/lang/String"), accessFlags := 18, slot := 2, constantValue := 0 }, { name := "fields", type := (.object "java/util/List"), accessFlags := 18, slot := 3, constantValue := 0 }, { name := "MAX_REQUEST_LINE_BYTES", type := .int, accessFlags := 24, slot := 0, constantValue := 0 }, { name := "MAX_HEADER_BYTES", type := .int, accessFlags := 24, slot := 1, constantValue := 0 }, { name := "TOKEN", type := (.object "java/util/regex/Pattern"), accessFlags := 24, slot := 2, constantValue := 0 }, { name := "VERSION", type := (.object "java/util/regex/Pattern"), accessFlags := 26, slot := 3, constantValue := 0 }]
  methods := #[k9m0]
  instanceTypes := #[(.object "java/lang/String"), (.object "java/lang/String"), (.object "java/lang/String"), (.object "java/util/List")]
  staticTypes := #[.int, .int, (.object "java/util/regex/Pattern"), (.object "java/util/regex/Pattern")]
  resolved := Array.replicate 193 none
  statics := none }

def pool10 : Array CpInfo := pool [(3, .class_ 4), (0, u "java/lang/String"), (1, .class_ 8), (1, u "java/lang/Object"), (0, u "<init>"), (0, u "()V"), (0, .methodref 12 13), (0, .class_ 14), (0, .nameAndType 15 16), (0, u "java/lang/StringUTF16"), (0, u "newBytesLength"), (0, u "(I)I"), (3, .integer 1073741823), (23, .fieldref 12 45), (0, .nameAndType 46 47), (0, u "$assertionsDisabled"), (0, u "Z"), (0, .methodref 12 49), (0, .nameAndType 50 51), (0, u "length"), (0, u "([B)I"), (7, .fieldref 12 60), (0, .nameAndType 61 62), (0, u "HI_BYTE_SHIFT"), (0, u "I"), (0, .fieldref 12 64), (0, .nameAndType 65 62), (0, u "LO_BYTE_SHIFT"), (1, .methodref 12 68), (0, .nameAndType 69 70), (0, u "checkIndex"), (0, u "(I[B)V"), (0, .methodref 12 72), (0, .nameAndType 73 74), (0, u "getChar"), (0, u "([BI)C"), (32, .methodref 12 108), (0, .nameAndType 109 110), (0, u "newBytesFor"), (0, u "(I)[B"), (0, .methodref 12 112), (0, .nameAndType 113 114), (0, u "putChar"), (0, u "([BII)V"), (0, .methodref 12 116), (0, .nameAndType 117 118), (0, u "compress"), (0, u "([CI[BII)I"), (0, .methodref 12 120), (0, .nameAndType 121 122), (0, u "toBytes"), (0, u "([CII)[B"), (138, u "coderFromArrayLen"), (0, u "([BI)B"), (106, .class_ 371), (1, u "java/lang/StringUTF16$LinesSpliterator"), (20, u "charAt"), (21, .methodref 3 415), (0, .nameAndType 69 416), (0, u "(II)V"), (13, u "MAX_LENGTH"), (196, .class_ 628), (0, u "java/lang/StringUTF16$CodePointsSpliterator"), (0, .class_ 630), (0, u "java/lang/StringUTF16$CharsSpliterator")] 4

def k10m0 : Method := { name := "<init>", desc := "()V", sig := { parameters := [], returnType := none }, accessFlags := 0, code := none }
def k10c1 : Code := { maxStack := 1, maxLocals := 1, code := jdk_52_method_2_code, exceptionTable := #[], attributes := #[] }
def k10m1 : Method := { name := "newBytesFor", desc := "(I)[B", sig := { parameters := [.int], returnType := some (.array .byte) }, accessFlags := 9, code := some k10c1 }
def k10c2 : Code := { maxStack := 4, maxLocals := 1, code := jdk_52_method_3_code, exceptionTable := #[], attributes := #[] }
def k10m2 : Method := { name := "newBytesLength", desc := "(I)I", sig := { parameters := [.int], returnType := some .int }, accessFlags := 9, code := some k10c2 }
def k10c3 : Code := { maxStack := 4, maxLocals := 3, code := jdk_52_method_4_code, exceptionTable := #[], attributes := #[] }
def k10m3 : Method := { name := "putChar", desc := "([BII)V", sig := { parameters := [(.array .byte), .int, .int], returnType := none }, accessFlags := 8, code := some k10c3 }
def k10c4 : Code := { maxStack := 3, maxLocals := 2, code := jdk_52_method_5_code, exceptionTable := #[], attributes := #[] }
def k10m4 : Method := { name := "getChar", desc := "([BI)C", sig := { parameters := [(.array .byte), .int], returnType := some .char }, accessFlags := 8, code := some k10c4 }
def k10c5 : Code := { maxStack := 2, maxLocals := 1, code := jdk_52_method_6_code, exceptionTable := #[], attributes := #[] }
def k10m5 : Method := { name := "length", desc := "([B)I", sig := { parameters := [(.array .byte)], returnType := some .int }, accessFlags := 9, code := some k10c5 }
def k10c6 : Code := { maxStack := 4, maxLocals := 5, code := jdk_52_method_14_code, exceptionTable := #[], attributes := #[] }
def k10m6 : Method := { name := "toBytes", desc := "([CII)[B", sig := { parameters := [(.array .char), .int, .int], returnType := some (.array .byte) }, accessFlags := 9, code := some k10c6 }
def k10c7 : Code := { maxStack := 2, maxLocals := 2, code := jdk_52_method_15_code, exceptionTable := #[], attributes := #[] }
def k10m7 : Method := { name := "coderFromArrayLen", desc := "([BI)B", sig := { parameters := [(.array .byte), .int], returnType := some .byte }, accessFlags := 8, code := some k10c7 }
def k10c8 : Code := { maxStack := 5, maxLocals := 6, code := jdk_52_method_16_code, exceptionTable := #[], attributes := #[] }
def k10m8 : Method := { name := "compress", desc := "([CII)[B", sig := { parameters := [(.array .char), .int, .int], returnType := some (.array .byte) }, accessFlags := 9, code := some k10c8 }
def k10c9 : Code := { maxStack := 3, maxLocals := 7, code := jdk_52_method_21_code, exceptionTable := #[], attributes := #[] }
def k10m9 : Method := { name := "compress", desc := "([CI[BII)I", sig := { parameters := [(.array .char), .int, (.array .byte), .int, .int], returnType := some .int }, accessFlags := 9, code := some k10c9 }
def k10c10 : Code := { maxStack := 2, maxLocals := 2, code := jdk_52_method_83_code, exceptionTable := #[], attributes := #[] }
def k10m10 : Method := { name := "charAt", desc := "([BI)C", sig := { parameters := [(.array .byte), .int], returnType := some .char }, accessFlags := 9, code := some k10c10 }
def k10c11 : Code := { maxStack := 2, maxLocals := 2, code := jdk_52_method_91_code, exceptionTable := #[], attributes := #[] }
def k10m11 : Method := { name := "checkIndex", desc := "(I[B)V", sig := { parameters := [.int, (.array .byte)], returnType := none }, accessFlags := 9, code := some k10c11 }
/-- java/lang/StringUTF16 -/
def k10 : Class := { plain "java/lang/StringUTF16" (some 0) with
  accessFlags := 48
  interfaces := #[]
  cf := some (fileOf pool10 12 #[.nestMembers #[627, 629, 369]] #[{ accessFlags := 0, nameIndex := 9, descriptorIndex := 10, attributes := #[] }, { accessFlags := 9, nameIndex := 109, descriptorIndex := 110, attributes := #[] }, { accessFlags := 9, nameIndex := 15, descriptorIndex := 16, attributes := #[] }, { accessFlags := 8, nameIndex := 113, descriptorIndex := 114, attributes := #[] }, { accessFlags := 8, nameIndex := 73, descriptorIndex := 74, attributes := #[] }, { accessFlags := 9, nameIndex := 50, descriptorIndex := 51, attributes := #[] }, { accessFlags := 9, nameIndex := 121, descriptorIndex := 122, attributes := #[] }, { accessFlags := 8, nameIndex := 261, descriptorIndex := 262, attributes := #[] }, { accessFlags := 9, nameIndex := 117, descriptorIndex := 122, attributes := #[] }, { accessFlags := 9, nameIndex := 117, descriptorIndex := 118, attributes := #[] }, { accessFlags := 9, nameIndex := 392, descriptorIndex := 74, attributes := #[] }, { accessFlags := 9, nameIndex := 69, descriptorIndex := 70, attributes := #[] }] 48 6 #[] #[{ accessFlags := 26, nameIndex := 61, descriptorIndex := 62, attributes := #[] }, { accessFlags := 26, nameIndex := 65, descriptorIndex := 62, attributes := #[] }, { accessFlags := 24, nameIndex := 430, descriptorIndex := 62, attributes := #[] }, { accessFlags := 4120, nameIndex := 46, descriptorIndex := 47, attributes := #[] }])
  fields := #[{ name := "HI_BYTE_SHIFT", type := .int, accessFlags := 26, slot := 0, constantValue := 0 }, { name := "LO_BYTE_SHIFT", type := .int, accessFlags := 26, slot := 1, constantValue := 0 }, { name := "MAX_LENGTH", type := .int, accessFlags := 24, slot := 2, constantValue := 0 }, { name := "$assertionsDisabled", type := .boolean, accessFlags := 4120, slot := 3, constantValue := 0 }]
  methods := #[k10m0, k10m1, k10m2, k10m3, k10m4, k10m5, k10m6, k10m7, k10m8, k10m9, k10m10, k10m11]
  instanceTypes := #[]
  staticTypes := #[.int, .int, .int, .boolean]
  resolved := Array.replicate 635 none
  statics := some 1 }

def pool11 : Array CpInfo := pool [(1, .class_ 2), (0, u "java/lang/String"), (1, .class_ 6), (1, u "java/lang/Object"), (0, u "<init>"), (0, u "()V"), (0, .methodref 1 10), (0, .nameAndType 11 12), (0, u "checkIndex"), (0, u "(II)V"), (1, .class_ 16), (1, u "java/lang/StringLatin1"), (36, u "([BI)C"), (67, u "$assertionsDisabled"), (0, u "Z"), (98, .class_ 223), (1, u "java/lang/StringLatin1$LinesSpliterator"), (28, u "charAt"), (137, .class_ 391), (0, u "java/lang/StringLatin1$CharsSpliterator")] 3

def k11m0 : Method := { name := "<init>", desc := "()V", sig := { parameters := [], returnType := none }, accessFlags := 0, code := none }
def k11c1 : Code := { maxStack := 2, maxLocals := 2, code := jdk_43_method_2_code, exceptionTable := #[], attributes := #[] }
def k11m1 : Method := { name := "charAt", desc := "([BI)C", sig := { parameters := [(.array .byte), .int], returnType := some .char }, accessFlags := 9, code := some k11c1 }
/-- java/lang/StringLatin1 -/
def k11 : Class := { plain "java/lang/StringLatin1" (some 0) with
  accessFlags := 48
  interfaces := #[]
  cf := some (fileOf pool11 14 #[.nestMembers #[390, 221]] #[{ accessFlags := 0, nameIndex := 7, descriptorIndex := 8, attributes := #[] }, { accessFlags := 9, nameIndex := 252, descriptorIndex := 53, attributes := #[] }] 48 4 #[] #[{ accessFlags := 4120, nameIndex := 121, descriptorIndex := 122, attributes := #[] }])
  fields := #[{ name := "$assertionsDisabled", type := .boolean, accessFlags := 4120, slot := 0, constantValue := 0 }]
  methods := #[k11m0, k11m1]
  instanceTypes := #[]
  staticTypes := #[.boolean]
  resolved := Array.replicate 395 none
  statics := none }

def pool12 : Array CpInfo := pool [(2, .class_ 4), (1, u "java/lang/Object"), (0, u "<init>"), (0, u "()V"), (17, .class_ 26), (1, u "jdk/internal/util/Preconditions"), (6, u "checkIndex"), (21, .class_ 56), (0, u "jdk/internal/util/Preconditions$4"), (57, .class_ 115), (0, u "jdk/internal/util/Preconditions$1"), (7, u "SIOOBE_FORMATTER"), (0, u "Ljava/util/function/BiFunction;"), (0, .class_ 126), (0, u "jdk/internal/util/Preconditions$2"), (3, u "AIOOBE_FORMATTER"), (0, .class_ 132), (0, u "jdk/internal/util/Preconditions$3"), (3, u "IOOBE_FORMATTER"), (41, u "(IILjava/util/function/BiFunction;)I")] 15

def k12m0 : Method := { name := "<init>", desc := "()V", sig := { parameters := [], returnType := none }, accessFlags := 1, code := none }
def k12c1 : Code := { maxStack := 3, maxLocals := 3, code := jdk_41_method_11_code, exceptionTable := #[], attributes := #[] }
def k12m1 : Method := { name := "checkIndex", desc := "(IILjava/util/function/BiFunction;)I", sig := { parameters := [.int, .int, (.object "java/util/function/BiFunction")], returnType := some .int }, accessFlags := 9, code := some k12c1 }
/-- jdk/internal/util/Preconditions -/
def k12 : Class := { plain "jdk/internal/util/Preconditions" (some 0) with
  accessFlags := 33
  interfaces := #[]
  cf := some (fileOf pool12 24 #[.nestMembers #[55, 131, 125, 114]] #[{ accessFlags := 1, nameIndex := 5, descriptorIndex := 6, attributes := #[] }, { accessFlags := 9, nameIndex := 33, descriptorIndex := 178, attributes := #[] }] 33 2 #[] #[{ accessFlags := 25, nameIndex := 123, descriptorIndex := 124, attributes := #[] }, { accessFlags := 25, nameIndex := 130, descriptorIndex := 124, attributes := #[] }, { accessFlags := 25, nameIndex := 136, descriptorIndex := 124, attributes := #[] }])
  fields := #[{ name := "SIOOBE_FORMATTER", type := (.object "java/util/function/BiFunction"), accessFlags := 25, slot := 0, constantValue := 0 }, { name := "AIOOBE_FORMATTER", type := (.object "java/util/function/BiFunction"), accessFlags := 25, slot := 1, constantValue := 0 }, { name := "IOOBE_FORMATTER", type := (.object "java/util/function/BiFunction"), accessFlags := 25, slot := 2, constantValue := 0 }]
  methods := #[k12m0, k12m1]
  instanceTypes := #[]
  staticTypes := #[(.object "java/util/function/BiFunction"), (.object "java/util/function/BiFunction"), (.object "java/util/function/BiFunction")]
  resolved := Array.replicate 194 none
  statics := some 2 }

def pool13 : Array CpInfo := pool [(9, u "<init>"), (6, .class_ 18), (1, u "java/lang/Object"), (0, u "()V"), (1, .class_ 23), (1, u "jdk/internal/util/ArraysSupport"), (0, u "LOG2_ARRAY_LONG_INDEX_SCALE"), (0, u "I"), (2, u "U"), (0, u "Ljdk/internal/misc/Unsafe;"), (8, u "BIG_ENDIAN"), (0, u "Z"), (8, u "LOG2_BYTE_BIT_SIZE"), (4, u "LOG2_ARRAY_INT_INDEX_SCALE"), (54, u "JLA"), (0, u "Ljdk/internal/access/JavaLangAccess;"), (11, u "LOG2_ARRAY_BOOLEAN_INDEX_SCALE"), (9, u "LOG2_ARRAY_BYTE_INDEX_SCALE"), (5, u "LOG2_ARRAY_CHAR_INDEX_SCALE"), (5, u "LOG2_ARRAY_SHORT_INDEX_SCALE"), (18, u "LOG2_ARRAY_FLOAT_INDEX_SCALE"), (24, u "LOG2_ARRAY_DOUBLE_INDEX_SCALE"), (89, u "T_BOOLEAN"), (2, u "T_CHAR"), (1, u "T_FLOAT"), (1, u "T_DOUBLE"), (1, u "T_BYTE"), (1, u "T_SHORT"), (1, u "T_INT"), (1, u "T_LONG"), (1, u "SOFT_MAX_ARRAY_LENGTH")] 83

def k13m0 : Method := { name := "<init>", desc := "()V", sig := { parameters := [], returnType := none }, accessFlags := 2, code := none }
/-- jdk/internal/util/ArraysSupport -/
def k13 : Class := { plain "jdk/internal/util/ArraysSupport" (some 0) with
  accessFlags := 33
  interfaces := #[]
  cf := some (fileOf pool13 21 #[] #[{ accessFlags := 2, nameIndex := 9, descriptorIndex := 19, attributes := #[] }] 33 16 #[] #[{ accessFlags := 24, nameIndex := 28, descriptorIndex := 29, attributes := #[] }, { accessFlags := 26, nameIndex := 38, descriptorIndex := 39, attributes := #[] }, { accessFlags := 25, nameIndex := 121, descriptorIndex := 25, attributes := #[] }, { accessFlags := 25, nameIndex := 131, descriptorIndex := 25, attributes := #[] }, { accessFlags := 25, nameIndex := 137, descriptorIndex := 25, attributes := #[] }, { accessFlags := 25, nameIndex := 143, descriptorIndex := 25, attributes := #[] }, { accessFlags := 25, nameIndex := 53, descriptorIndex := 25, attributes := #[] }, { accessFlags := 25, nameIndex := 24, descriptorIndex := 25, attributes := #[] }, { accessFlags := 25, nameIndex := 162, descriptorIndex := 25, attributes := #[] }, { accessFlags := 25, nameIndex := 187, descriptorIndex := 25, attributes := #[] }, { accessFlags := 26, nameIndex := 48, descriptorIndex := 25, attributes := #[] }, { accessFlags := 25, nameIndex := 277, descriptorIndex := 25, attributes := #[] }, { accessFlags := 25, nameIndex := 280, descriptorIndex := 25, attributes := #[] }, { accessFlags := 25, nameIndex := 282, descriptorIndex := 25, attributes := #[] }, { accessFlags := 25, nameIndex := 284, descriptorIndex := 25, attributes := #[] }, { accessFlags := 25, nameIndex := 286, descriptorIndex := 25, attributes := #[] }, { accessFlags := 25, nameIndex := 288, descriptorIndex := 25, attributes := #[] }, { accessFlags := 25, nameIndex := 290, descriptorIndex := 25, attributes := #[] }, { accessFlags := 25, nameIndex := 292, descriptorIndex := 25, attributes := #[] }, { accessFlags := 26, nameIndex := 108, descriptorIndex := 109, attributes := #[] }, { accessFlags := 25, nameIndex := 294, descriptorIndex := 25, attributes := #[] }])
  fields := #[{ name := "U", type := (.object "jdk/internal/misc/Unsafe"), accessFlags := 24, slot := 0, constantValue := 0 }, { name := "BIG_ENDIAN", type := .boolean, accessFlags := 26, slot := 1, constantValue := 0 }, { name := "LOG2_ARRAY_BOOLEAN_INDEX_SCALE", type := .int, accessFlags := 25, slot := 2, constantValue := 0 }, { name := "LOG2_ARRAY_BYTE_INDEX_SCALE", type := .int, accessFlags := 25, slot := 3, constantValue := 0 }, { name := "LOG2_ARRAY_CHAR_INDEX_SCALE", type := .int, accessFlags := 25, slot := 4, constantValue := 0 }, { name := "LOG2_ARRAY_SHORT_INDEX_SCALE", type := .int, accessFlags := 25, slot := 5, constantValue := 0 }, { name := "LOG2_ARRAY_INT_INDEX_SCALE", type := .int, accessFlags := 25, slot := 6, constantValue := 0 }, { name := "LOG2_ARRAY_LONG_INDEX_SCALE", type := .int, accessFlags := 25, slot := 7, constantValue := 0 }, { name := "LOG2_ARRAY_FLOAT_INDEX_SCALE", type := .int, accessFlags := 25, slot := 8, constantValue := 0 }, { name := "LOG2_ARRAY_DOUBLE_INDEX_SCALE", type := .int, accessFlags := 25, slot := 9, constantValue := 0 }, { name := "LOG2_BYTE_BIT_SIZE", type := .int, accessFlags := 26, slot := 10, constantValue := 0 }, { name := "T_BOOLEAN", type := .int, accessFlags := 25, slot := 11, constantValue := 0 }, { name := "T_CHAR", type := .int, accessFlags := 25, slot := 12, constantValue := 0 }, { name := "T_FLOAT", type := .int, accessFlags := 25, slot := 13, constantValue := 0 }, { name := "T_DOUBLE", type := .int, accessFlags := 25, slot := 14, constantValue := 0 }, { name := "T_BYTE", type := .int, accessFlags := 25, slot := 15, constantValue := 0 }, { name := "T_SHORT", type := .int, accessFlags := 25, slot := 16, constantValue := 0 }, { name := "T_INT", type := .int, accessFlags := 25, slot := 17, constantValue := 0 }, { name := "T_LONG", type := .int, accessFlags := 25, slot := 18, constantValue := 0 }, { name := "JLA", type := (.object "jdk/internal/access/JavaLangAccess"), accessFlags := 26, slot := 19, constantValue := 0 }, { name := "SOFT_MAX_ARRAY_LENGTH", type := .int, accessFlags := 25, slot := 20, constantValue := 0 }]
  methods := #[k13m0]
  instanceTypes := #[]
  staticTypes := #[(.object "jdk/internal/misc/Unsafe"), .boolean, .int, .int, .int, .int, .int, .int, .int, .int, .int, .int, .int, .int, .int, .int, .int, .int, .int, (.object "jdk/internal/access/JavaLangAccess"), .int]
  resolved := Array.replicate 378 none
  statics := none }

def pool14 : Array CpInfo := pool [(1, u "java/lang/Cloneable"), (0, .class_ 1), (0, u "java/lang/Object"), (0, .class_ 3)] 3

/-- java/lang/Cloneable -/
def k14 : Class := { plain "java/lang/Cloneable" (some 0) with
  accessFlags := 1537
  interfaces := #[]
  cf := some (fileOf pool14 2 #[] #[] 1537 4 #[] #[])
  fields := #[]
  methods := #[]
  instanceTypes := #[]
  staticTypes := #[]
  resolved := Array.replicate 8 none
  statics := none }

/-- the primitive byte -/
def k15 : Class := { plain "byte" none with kind := .primitive 'B', accessFlags := 0x411 }
/-- [B -/
def k16 : Class := { plain "[B" (some 0) with kind := .array 15 .byte, interfaces := #[14, 2], accessFlags := 1041 }

/-- the primitive char -/
def k17 : Class := { plain "char" none with kind := .primitive 'C', accessFlags := 0x411 }
/-- [C -/
def k18 : Class := { plain "[C" (some 0) with kind := .array 17 .char, interfaces := #[14, 2], accessFlags := 1041 }

/-- the primitive int -/
def k19 : Class := { plain "int" none with kind := .primitive 'I', accessFlags := 0x411 }
/-- [I -/
def k20 : Class := { plain "[I" (some 0) with kind := .array 19 .int, interfaces := #[14, 2], accessFlags := 1041 }

def heap : Heap := #[{ cls := 7, slots := #[.long 0, .int 1, .null, .int 0, .null, .int 0, .int 0], vm := .statics 7 },
  { cls := 10, slots := #[.int 0, .int 8, .int 0, .int 1], vm := .statics 10 },
  { cls := 12, slots := #[.null, .null, .null], vm := .statics 12 }]
def classes : Array Class := #[k0, k1, k2, k3, k4, k5, k6, k7, k8, k9, k10, k11, k12, k13, k14, k15, k16, k17, k18, k19, k20]
def interned : List (Array UInt16 × Addr) := []
def slotsUsed : Nat := 14
def theMethod : MethodId := ⟨1, 4⟩
def args0 : Array Value := #[.int 5, .int 5, .int 5, .int 5, .int 5]
def aboutOver (below : List Frame) : State where
  vm := { classes := classes, interned := interned.toArray }
  heap := heap
  slotsUsed := slotsUsed
  threads := #[{ frames := .invoking theMethod args0 :: below }]
def below0 : List Frame := [.native { method := ⟨0, 0⟩, args := #[] }]
def about1 : State := aboutOver below0
def p0 : Program := .bare "" "" ""
def e0 : Env := launch0.env 0 0 0
theorem w_frames : about1.frames = Frame.invoking theMethod args0 :: below0 := rfl
set_option maxRecDepth 65536 in
theorem w_args : argsFit about1.vm theMethod args0 = true := by decide +kernel
set_option maxRecDepth 65536 in
theorem w_heap : heapFits about1 = true := by decide +kernel
set_option maxRecDepth 65536 in
theorem w_runnable : about1.curStatus? = some .runnable := by decide +kernel
set_option maxRecDepth 65536 in
theorem w_alone : about1.alone = true := by decide +kernel
set_option maxRecDepth 65536 in
theorem w_named : about1.methodNamed? x = some theMethod := by decide +kernel
set_option maxRecDepth 65536 in
theorem w_hears : about1.hears theMethod below0 = true := by decide +kernel
set_option maxRecDepth 65536 in
theorem w_ripe : about1.ripe theMethod args0 below0 = true := by decide +kernel
theorem w_running : about1.status = .running := rfl
set_option maxRecDepth 65536 in
theorem w_room : about1.hasRoom e0.platform room_1 = true :=
  launch0.hasRoom_least _ room_1 (by decide +kernel) (by decide +kernel) (by decide +kernel) (by decide +kernel) (by decide +kernel) (by decide +kernel)
theorem allAtoms_all (ts : List Jvm.Cond) (a : Array Jvm.Value) (st : Jvm.State) : (allAtoms ts).before a st = ts.all (fun c => c.before a st) := by
  induction ts with
  | nil => rfl
  | cons c t ih =>
    show (Jvm.Cond.and c (allAtoms t)).before a st = _
    rw [Jvm.Cond.before_and, ih, List.all_cons]
def words1 : List Jvm.Cond := Jvm.Cond.code x code maxLocals ret :: tables_1
/-- a 'code' word, met by the world's own term for the bytes: nothing is compared byte by byte -/
theorem code_word {y : MethodName} {bytes : ByteArray} {mx : Nat} {rt : Option FieldType} {a : Array Value} {s : State} {m : MethodId} {meth : Method} {c : Code} (h1 : s.methodNamed? y = some m) (h2 : s.vm.method? m = some meth) (h3 : meth.code = some c) (h4 : c.code = bytes)
    (h5 : (c.maxLocals == mx && c.exceptionTable.isEmpty && decide (c.maxStack ≤ mostOperands) && decide (meth.sig.returnType = rt) && !meth.locks && decide (parseMethodDescriptor y.desc = some meth.sig)) = true) : (Jvm.Cond.code y bytes mx rt).before a s = true := by
  simp only [Bool.and_eq_true, beq_iff_eq, Bool.not_eq_true', decide_eq_true_eq] at h5
  obtain ⟨⟨⟨⟨⟨g1, g2⟩, g3⟩, g4⟩, g5⟩, g6⟩ := h5
  simp [Cond.before, Cond.holds, Cond.value, h1, h2, h3, h4, g1, g2, g3, g4, g5, g6]
def isCode : Jvm.Cond → Bool
  | .code _ _ _ _ => true
  | _ => false
theorem all_split {L : List Jvm.Cond} {P : Jvm.Cond → Bool} (h1 : L.all (fun c => isCode c || P c) = true) (h2 : ∀ c ∈ L.filter isCode, P c = true) : L.all P = true := by
  refine List.all_eq_true.mpr fun c hc => ?_
  have h := List.all_eq_true.mp h1 c hc
  rcases Bool.eq_false_or_eq_true (isCode c) with hi | hi
  · exact h2 c (List.mem_filter.mpr ⟨hc, hi⟩)
  · simpa [hi] using h
set_option maxRecDepth 65536 in
theorem w_c0 : (Jvm.Cond.code x code maxLocals ret).before args0 about1 = true := code_word (m := ⟨1, 4⟩) (meth := k1m4) (c := k1c4) (by decide +kernel) rfl rfl rfl (by decide +kernel)
set_option maxRecDepth 65536 in
theorem w_c1 : (Jvm.Cond.code ({ cls := "io/holdfast/cli/HttpHeadIsTargetPinLaw", name := "ch", desc := "(I)C" } : Jvm.MethodName) method_2_code (1 : Nat) (Option.some Jvm.ClassFile.FieldType.char)).before args0 about1 = true := code_word (m := ⟨1, 1⟩) (meth := k1m1) (c := k1c1) (by decide +kernel) rfl rfl rfl (by decide +kernel)
set_option maxRecDepth 65536 in
theorem w_c2 : (Jvm.Cond.code ({ cls := "io/holdfast/cli/HttpHeadIsTargetPinLaw", name := "str", desc := "(ICCCC)Ljava/lang/String;" } : Jvm.MethodName) method_4_code (5 : Nat) (Option.some (Jvm.ClassFile.FieldType.object "java/lang/String"))).before args0 about1 = true := code_word (m := ⟨1, 3⟩) (meth := k1m3) (c := k1c3) (by decide +kernel) rfl rfl rfl (by decide +kernel)
set_option maxRecDepth 65536 in
theorem w_c3 : (Jvm.Cond.code ({ cls := "java/lang/String", name := "<init>", desc := "([C)V" } : Jvm.MethodName) jdk_42_method_3_code (2 : Nat) (Option.none : Option Jvm.ClassFile.FieldType)).before args0 about1 = true := code_word (m := ⟨7, 1⟩) (meth := k7m1) (c := k7c1) (by decide +kernel) rfl rfl rfl (by decide +kernel)
set_option maxRecDepth 65536 in
theorem w_c4 : (Jvm.Cond.code ({ cls := "java/lang/String", name := "<init>", desc := "([CIILjava/lang/Void;)V" } : Jvm.MethodName) jdk_42_method_149_code (6 : Nat) (Option.none : Option Jvm.ClassFile.FieldType)).before args0 about1 = true := code_word (m := ⟨7, 5⟩) (meth := k7m5) (c := k7c5) (by decide +kernel) rfl rfl rfl (by decide +kernel)
set_option maxRecDepth 65536 in
theorem w_c5 : (Jvm.Cond.code ({ cls := "java/lang/Object", name := "<init>", desc := "()V" } : Jvm.MethodName) object_method_1_code (1 : Nat) (Option.none : Option Jvm.ClassFile.FieldType)).before args0 about1 = true := code_word (m := ⟨0, 0⟩) (meth := k0m0) (c := k0c0) (by decide +kernel) rfl rfl rfl (by decide +kernel)
set_option maxRecDepth 65536 in
theorem w_c6 : (Jvm.Cond.code ({ cls := "io/holdfast/cli/HttpHead", name := "isTarget", desc := "(Ljava/lang/String;)Z" } : Jvm.MethodName) prog_1_method_5_code (3 : Nat) (Option.some Jvm.ClassFile.FieldType.boolean)).before args0 about1 = true := code_word (m := ⟨9, 0⟩) (meth := k9m0) (c := k9c0) (by decide +kernel) rfl rfl rfl (by decide +kernel)
set_option maxRecDepth 65536 in
theorem w_c7 : (Jvm.Cond.code ({ cls := "java/lang/String", name := "isEmpty", desc := "()Z" } : Jvm.MethodName) jdk_42_method_55_code (1 : Nat) (Option.some Jvm.ClassFile.FieldType.boolean)).before args0 about1 = true := code_word (m := ⟨7, 3⟩) (meth := k7m3) (c := k7c3) (by decide +kernel) rfl rfl rfl (by decide +kernel)
set_option maxRecDepth 65536 in
theorem w_c8 : (Jvm.Cond.code ({ cls := "java/lang/StringUTF16", name := "compress", desc := "([CII)[B" } : Jvm.MethodName) jdk_52_method_16_code (6 : Nat) (Option.some (Jvm.ClassFile.FieldType.array Jvm.ClassFile.FieldType.byte))).before args0 about1 = true := code_word (m := ⟨10, 8⟩) (meth := k10m8) (c := k10c8) (by decide +kernel) rfl rfl rfl (by decide +kernel)
set_option maxRecDepth 65536 in
theorem w_c9 : (Jvm.Cond.code ({ cls := "java/lang/StringUTF16", name := "compress", desc := "([CI[BII)I" } : Jvm.MethodName) jdk_52_method_21_code (7 : Nat) (Option.some Jvm.ClassFile.FieldType.int)).before args0 about1 = true := code_word (m := ⟨10, 9⟩) (meth := k10m9) (c := k10c9) (by decide +kernel) rfl rfl rfl (by decide +kernel)
set_option maxRecDepth 65536 in
theorem w_c10 : (Jvm.Cond.code ({ cls := "java/lang/StringUTF16", name := "coderFromArrayLen", desc := "([BI)B" } : Jvm.MethodName) jdk_52_method_15_code (2 : Nat) (Option.some Jvm.ClassFile.FieldType.byte)).before args0 about1 = true := code_word (m := ⟨10, 7⟩) (meth := k10m7) (c := k10c7) (by decide +kernel) rfl rfl rfl (by decide +kernel)
set_option maxRecDepth 65536 in
theorem w_c11 : (Jvm.Cond.code ({ cls := "io/holdfast/cli/HttpHeadIsTargetPinLaw", name := "ok", desc := "(C)Z" } : Jvm.MethodName) method_3_code (1 : Nat) (Option.some Jvm.ClassFile.FieldType.boolean)).before args0 about1 = true := code_word (m := ⟨1, 2⟩) (meth := k1m2) (c := k1c2) (by decide +kernel) rfl rfl rfl (by decide +kernel)
set_option maxRecDepth 65536 in
theorem w_c12 : (Jvm.Cond.code ({ cls := "java/lang/String", name := "length", desc := "()I" } : Jvm.MethodName) jdk_42_method_54_code (1 : Nat) (Option.some Jvm.ClassFile.FieldType.int)).before args0 about1 = true := code_word (m := ⟨7, 2⟩) (meth := k7m2) (c := k7c2) (by decide +kernel) rfl rfl rfl (by decide +kernel)
set_option maxRecDepth 65536 in
theorem w_c13 : (Jvm.Cond.code ({ cls := "java/lang/String", name := "coder", desc := "()B" } : Jvm.MethodName) jdk_42_method_152_code (1 : Nat) (Option.some Jvm.ClassFile.FieldType.byte)).before args0 about1 = true := code_word (m := ⟨7, 6⟩) (meth := k7m6) (c := k7c6) (by decide +kernel) rfl rfl rfl (by decide +kernel)
set_option maxRecDepth 65536 in
theorem w_c14 : (Jvm.Cond.code ({ cls := "java/lang/String", name := "charAt", desc := "(I)C" } : Jvm.MethodName) jdk_42_method_56_code (2 : Nat) (Option.some Jvm.ClassFile.FieldType.char)).before args0 about1 = true := code_word (m := ⟨7, 4⟩) (meth := k7m4) (c := k7c4) (by decide +kernel) rfl rfl rfl (by decide +kernel)
set_option maxRecDepth 65536 in
theorem w_c15 : (Jvm.Cond.code ({ cls := "java/lang/String", name := "isLatin1", desc := "()Z" } : Jvm.MethodName) jdk_42_method_154_code (1 : Nat) (Option.some Jvm.ClassFile.FieldType.boolean)).before args0 about1 = true := code_word (m := ⟨7, 7⟩) (meth := k7m7) (c := k7c7) (by decide +kernel) rfl rfl rfl (by decide +kernel)
set_option maxRecDepth 65536 in
theorem w_c16 : (Jvm.Cond.code ({ cls := "java/lang/StringLatin1", name := "charAt", desc := "([BI)C" } : Jvm.MethodName) jdk_43_method_2_code (2 : Nat) (Option.some Jvm.ClassFile.FieldType.char)).before args0 about1 = true := code_word (m := ⟨11, 1⟩) (meth := k11m1) (c := k11c1) (by decide +kernel) rfl rfl rfl (by decide +kernel)
set_option maxRecDepth 65536 in
theorem w_c17 : (Jvm.Cond.code ({ cls := "java/lang/String", name := "checkIndex", desc := "(II)V" } : Jvm.MethodName) jdk_42_method_155_code (2 : Nat) (Option.none : Option Jvm.ClassFile.FieldType)).before args0 about1 = true := code_word (m := ⟨7, 8⟩) (meth := k7m8) (c := k7c8) (by decide +kernel) rfl rfl rfl (by decide +kernel)
set_option maxRecDepth 65536 in
theorem w_c18 : (Jvm.Cond.code ({ cls := "jdk/internal/util/Preconditions", name := "checkIndex", desc := "(IILjava/util/function/BiFunction;)I" } : Jvm.MethodName) jdk_41_method_11_code (3 : Nat) (Option.some Jvm.ClassFile.FieldType.int)).before args0 about1 = true := code_word (m := ⟨12, 1⟩) (meth := k12m1) (c := k12c1) (by decide +kernel) rfl rfl rfl (by decide +kernel)
set_option maxRecDepth 65536 in
theorem w_c19 : (Jvm.Cond.code ({ cls := "java/lang/StringUTF16", name := "toBytes", desc := "([CII)[B" } : Jvm.MethodName) jdk_52_method_14_code (5 : Nat) (Option.some (Jvm.ClassFile.FieldType.array Jvm.ClassFile.FieldType.byte))).before args0 about1 = true := code_word (m := ⟨10, 6⟩) (meth := k10m6) (c := k10c6) (by decide +kernel) rfl rfl rfl (by decide +kernel)
set_option maxRecDepth 65536 in
theorem w_c20 : (Jvm.Cond.code ({ cls := "java/lang/StringUTF16", name := "newBytesFor", desc := "(I)[B" } : Jvm.MethodName) jdk_52_method_2_code (1 : Nat) (Option.some (Jvm.ClassFile.FieldType.array Jvm.ClassFile.FieldType.byte))).before args0 about1 = true := code_word (m := ⟨10, 1⟩) (meth := k10m1) (c := k10c1) (by decide +kernel) rfl rfl rfl (by decide +kernel)
set_option maxRecDepth 65536 in
theorem w_c21 : (Jvm.Cond.code ({ cls := "java/lang/StringUTF16", name := "newBytesLength", desc := "(I)I" } : Jvm.MethodName) jdk_52_method_3_code (1 : Nat) (Option.some Jvm.ClassFile.FieldType.int)).before args0 about1 = true := code_word (m := ⟨10, 2⟩) (meth := k10m2) (c := k10c2) (by decide +kernel) rfl rfl rfl (by decide +kernel)
set_option maxRecDepth 65536 in
theorem w_c22 : (Jvm.Cond.code ({ cls := "java/lang/StringUTF16", name := "putChar", desc := "([BII)V" } : Jvm.MethodName) jdk_52_method_4_code (3 : Nat) (Option.none : Option Jvm.ClassFile.FieldType)).before args0 about1 = true := code_word (m := ⟨10, 3⟩) (meth := k10m3) (c := k10c3) (by decide +kernel) rfl rfl rfl (by decide +kernel)
set_option maxRecDepth 65536 in
theorem w_c23 : (Jvm.Cond.code ({ cls := "java/lang/StringUTF16", name := "getChar", desc := "([BI)C" } : Jvm.MethodName) jdk_52_method_5_code (2 : Nat) (Option.some Jvm.ClassFile.FieldType.char)).before args0 about1 = true := code_word (m := ⟨10, 4⟩) (meth := k10m4) (c := k10c4) (by decide +kernel) rfl rfl rfl (by decide +kernel)
set_option maxRecDepth 65536 in
theorem w_c24 : (Jvm.Cond.code ({ cls := "java/lang/StringUTF16", name := "charAt", desc := "([BI)C" } : Jvm.MethodName) jdk_52_method_83_code (2 : Nat) (Option.some Jvm.ClassFile.FieldType.char)).before args0 about1 = true := code_word (m := ⟨10, 10⟩) (meth := k10m10) (c := k10c10) (by decide +kernel) rfl rfl rfl (by decide +kernel)
set_option maxRecDepth 65536 in
theorem w_c25 : (Jvm.Cond.code ({ cls := "java/lang/StringUTF16", name := "checkIndex", desc := "(I[B)V" } : Jvm.MethodName) jdk_52_method_91_code (2 : Nat) (Option.none : Option Jvm.ClassFile.FieldType)).before args0 about1 = true := code_word (m := ⟨10, 11⟩) (meth := k10m11) (c := k10c11) (by decide +kernel) rfl rfl rfl (by decide +kernel)
set_option maxRecDepth 65536 in
theorem w_c26 : (Jvm.Cond.code ({ cls := "java/lang/StringUTF16", name := "length", desc := "([B)I" } : Jvm.MethodName) jdk_52_method_6_code (1 : Nat) (Option.some Jvm.ClassFile.FieldType.int)).before args0 about1 = true := code_word (m := ⟨10, 5⟩) (meth := k10m5) (c := k10c5) (by decide +kernel) rfl rfl rfl (by decide +kernel)
def codes1 : List Jvm.Cond := [Jvm.Cond.code x code maxLocals ret, Jvm.Cond.code ({ cls := "io/holdfast/cli/HttpHeadIsTargetPinLaw", name := "ch", desc := "(I)C" } : Jvm.MethodName) method_2_code (1 : Nat) (Option.some Jvm.ClassFile.FieldType.char), Jvm.Cond.code ({ cls := "io/holdfast/cli/HttpHeadIsTargetPinLaw", name := "str", desc := "(ICCCC)Ljava/lang/String;" } : Jvm.MethodName) method_4_code (5 : Nat) (Option.some (Jvm.ClassFile.FieldType.object "java/lang/String")), Jvm.Cond.code ({ cls := "java/lang/String", name := "<init>", desc := "([C)V" } : Jvm.MethodName) jdk_42_method_3_code (2 : Nat) (Option.none : Option Jvm.ClassFile.FieldType), Jvm.Cond.code ({ cls := "java/lang/String", name := "<init>", desc := "([CIILjava/lang/Void;)V" } : Jvm.MethodName) jdk_42_method_149_code (6 : Nat) (Option.none : Option Jvm.ClassFile.FieldType), Jvm.Cond.code ({ cls := "java/lang/Object", name := "<init>", desc := "()V" } : Jvm.MethodName) object_method_1_code (1 : Nat) (Option.none : Option Jvm.ClassFile.FieldType), Jvm.Cond.code ({ cls := "io/holdfast/cli/HttpHead", name := "isTarget", desc := "(Ljava/lang/String;)Z" } : Jvm.MethodName) prog_1_method_5_code (3 : Nat) (Option.some Jvm.ClassFile.FieldType.boolean), Jvm.Cond.code ({ cls := "java/lang/String", name := "isEmpty", desc := "()Z" } : Jvm.MethodName) jdk_42_method_55_code (1 : Nat) (Option.some Jvm.ClassFile.FieldType.boolean), Jvm.Cond.code ({ cls := "java/lang/StringUTF16", name := "compress", desc := "([CII)[B" } : Jvm.MethodName) jdk_52_method_16_code (6 : Nat) (Option.some (Jvm.ClassFile.FieldType.array Jvm.ClassFile.FieldType.byte)), Jvm.Cond.code ({ cls := "java/lang/StringUTF16", name := "compress", desc := "([CI[BII)I" } : Jvm.MethodName) jdk_52_method_21_code (7 : Nat) (Option.some Jvm.ClassFile.FieldType.int), Jvm.Cond.code ({ cls := "java/lang/StringUTF16", name := "coderFromArrayLen", desc := "([BI)B" } : Jvm.MethodName) jdk_52_method_15_code (2 : Nat) (Option.some Jvm.ClassFile.FieldType.byte), Jvm.Cond.code ({ cls := "io/holdfast/cli/HttpHeadIsTargetPinLaw", name := "ok", desc := "(C)Z" } : Jvm.MethodName) method_3_code (1 : Nat) (Option.some Jvm.ClassFile.FieldType.boolean), Jvm.Cond.code ({ cls := "java/lang/String", name := "length", desc := "()I" } : Jvm.MethodName) jdk_42_method_54_code (1 : Nat) (Option.some Jvm.ClassFile.FieldType.int), Jvm.Cond.code ({ cls := "java/lang/String", name := "coder", desc := "()B" } : Jvm.MethodName) jdk_42_method_152_code (1 : Nat) (Option.some Jvm.ClassFile.FieldType.byte), Jvm.Cond.code ({ cls := "java/lang/String", name := "charAt", desc := "(I)C" } : Jvm.MethodName) jdk_42_method_56_code (2 : Nat) (Option.some Jvm.ClassFile.FieldType.char), Jvm.Cond.code ({ cls := "java/lang/String", name := "isLatin1", desc := "()Z" } : Jvm.MethodName) jdk_42_method_154_code (1 : Nat) (Option.some Jvm.ClassFile.FieldType.boolean), Jvm.Cond.code ({ cls := "java/lang/StringLatin1", name := "charAt", desc := "([BI)C" } : Jvm.MethodName) jdk_43_method_2_code (2 : Nat) (Option.some Jvm.ClassFile.FieldType.char), Jvm.Cond.code ({ cls := "java/lang/String", name := "checkIndex", desc := "(II)V" } : Jvm.MethodName) jdk_42_method_155_code (2 : Nat) (Option.none : Option Jvm.ClassFile.FieldType), Jvm.Cond.code ({ cls := "jdk/internal/util/Preconditions", name := "checkIndex", desc := "(IILjava/util/function/BiFunction;)I" } : Jvm.MethodName) jdk_41_method_11_code (3 : Nat) (Option.some Jvm.ClassFile.FieldType.int), Jvm.Cond.code ({ cls := "java/lang/StringUTF16", name := "toBytes", desc := "([CII)[B" } : Jvm.MethodName) jdk_52_method_14_code (5 : Nat) (Option.some (Jvm.ClassFile.FieldType.array Jvm.ClassFile.FieldType.byte)), Jvm.Cond.code ({ cls := "java/lang/StringUTF16", name := "newBytesFor", desc := "(I)[B" } : Jvm.MethodName) jdk_52_method_2_code (1 : Nat) (Option.some (Jvm.ClassFile.FieldType.array Jvm.ClassFile.FieldType.byte)), Jvm.Cond.code ({ cls := "java/lang/StringUTF16", name := "newBytesLength", desc := "(I)I" } : Jvm.MethodName) jdk_52_method_3_code (1 : Nat) (Option.some Jvm.ClassFile.FieldType.int), Jvm.Cond.code ({ cls := "java/lang/StringUTF16", name := "putChar", desc := "([BII)V" } : Jvm.MethodName) jdk_52_method_4_code (3 : Nat) (Option.none : Option Jvm.ClassFile.FieldType), Jvm.Cond.code ({ cls := "java/lang/StringUTF16", name := "getChar", desc := "([BI)C" } : Jvm.MethodName) jdk_52_method_5_code (2 : Nat) (Option.some Jvm.ClassFile.FieldType.char), Jvm.Cond.code ({ cls := "java/lang/StringUTF16", name := "charAt", desc := "([BI)C" } : Jvm.MethodName) jdk_52_method_83_code (2 : Nat) (Option.some Jvm.ClassFile.FieldType.char), Jvm.Cond.code ({ cls := "java/lang/StringUTF16", name := "checkIndex", desc := "(I[B)V" } : Jvm.MethodName) jdk_52_method_91_code (2 : Nat) (Option.none : Option Jvm.ClassFile.FieldType), Jvm.Cond.code ({ cls := "java/lang/StringUTF16", name := "length", desc := "([B)I" } : Jvm.MethodName) jdk_52_method_6_code (1 : Nat) (Option.some Jvm.ClassFile.FieldType.int)]
set_option maxRecDepth 65536 in
theorem codes_eq : words1.filter isCode = codes1 := rfl
theorem w_codes : ∀ c ∈ words1.filter isCode, c.before args0 about1 = true := by
  rw [codes_eq]
  intro c hc
  simp only [codes1, List.mem_cons, List.not_mem_nil, or_false] at hc
  rcases hc with rfl | rfl | rfl | rfl | rfl | rfl | rfl | rfl | rfl | rfl | rfl | rfl | rfl | rfl | rfl | rfl | rfl | rfl | rfl | rfl | rfl | rfl | rfl | rfl | rfl | rfl | rfl
  · exact w_c0
  · exact w_c1
  · exact w_c2
  · exact w_c3
  · exact w_c4
  · exact w_c5
  · exact w_c6
  · exact w_c7
  · exact w_c8
  · exact w_c9
  · exact w_c10
  · exact w_c11
  · exact w_c12
  · exact w_c13
  · exact w_c14
  · exact w_c15
  · exact w_c16
  · exact w_c17
  · exact w_c18
  · exact w_c19
  · exact w_c20
  · exact w_c21
  · exact w_c22
  · exact w_c23
  · exact w_c24
  · exact w_c25
  · exact w_c26
set_option maxRecDepth 65536 in
theorem w_t1 : (words1.take 24).all (fun c => isCode c || c.before args0 about1) = true := by decide +kernel
set_option maxRecDepth 65536 in
theorem w_t2 : ((words1.drop 24).take 24).all (fun c => isCode c || c.before args0 about1) = true := by decide +kernel
set_option maxRecDepth 65536 in
theorem w_t3 : (((words1.drop 24).drop 24).take 24).all (fun c => isCode c || c.before args0 about1) = true := by decide +kernel
set_option maxRecDepth 65536 in
theorem w_t4 : ((((words1.drop 24).drop 24).drop 24).take 24).all (fun c => isCode c || c.before args0 about1) = true := by decide +kernel
set_option maxRecDepth 65536 in
theorem w_t5 : ((((words1.drop 24).drop 24).drop 24).drop 24).all (fun c => isCode c || c.before args0 about1) = true := by decide +kernel
theorem w_tables : (allAtoms (Jvm.Cond.code x code maxLocals ret :: tables_1)).before args0 about1 = true := by
  rw [allAtoms_all]
  show words1.all (fun c => c.before args0 about1) = true
  refine all_split ?_ w_codes
  rw [← List.take_append_drop 24 words1, List.all_append, w_t1, ← List.take_append_drop 24 (words1.drop 24), List.all_append, w_t2, ← List.take_append_drop 24 ((words1.drop 24).drop 24), List.all_append, w_t3, ← List.take_append_drop 24 (((words1.drop 24).drop 24).drop 24), List.all_append, w_t4, w_t5]
  rfl
set_option maxRecDepth 65536 in
theorem w_rest : rest_1_c.before args0 about1 = true := by decide +kernel
set_option maxRecDepth 65536 in
theorem w_case : (Jvm.Cond.and given_1 narrow_1).before args0 about1 = true := by decide +kernel
set_option maxRecDepth 65536 in
theorem w_consts : constsHeld consts_1 about1 := Jvm.Lit.constsHeldB_iff.mp (by decide +kernel)
theorem w_applies : (headSpec (Jvm.Cond.code x code maxLocals ret :: tables_1) room_1).applies x e0.platform about1 = true :=
  (Spec.applies_iff w_frames).mpr ⟨w_running, w_runnable, w_alone, w_named, w_hears, w_ripe, w_room, w_tables⟩
theorem atStart : AtStart classFile x code maxLocals ret World_1 tables_1 room_1 Calls_1 rest_1 Pre_1 launch0 p0 e0 about1 theMethod args0 below0 :=
  ⟨lists_1, trivial, launch0.admits_env _ _ _, launch0.least_env, fairChoices_fair.cas, fairChoices_fair.clock, w_frames, w_args, w_heap, w_applies, ⟨w_consts, trivial⟩, w_rest, w_case⟩
end start1
theorem witness_1 : WitnessClaimed_1 := ⟨start1.p0, start1.e0, start1.about1, start1.theMethod, start1.args0, start1.below0, start1.atStart⟩
end Jvm.Pilot.@@N@@
